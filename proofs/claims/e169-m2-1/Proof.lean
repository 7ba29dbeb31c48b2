import JvmDerived
import JvmDerived.Pilot.@@N@@Statement
import JvmDerived.Pilot.@@N@@Code
set_option linter.unusedVariables false
set_option linter.unusedSimpArgs false
@@BLOCK:NumsL.lean.txt@@
namespace Jvm.RoadKit
open Sem ClassFile Op Lib Jvm.Stand Jvm.Free Jvm.LawKit
section New
variable {p : Program} {l : Launch} {e : Env} {R : Room} {s : State} {m : MethodId} {args : Array Value} {below : List Frame} {meth : Method} {c : Code} {T : State} {locs : List Loc} {cells slots : Nat}
theorem retI (X : Stand p l e R s m args below meth c T locs cells slots) (hx : p.tables.exec = Jvm.exec) {pc : Nat} {Ls : Array Slot} {z : Int32} {rest : List Value} (hret : meth.sig.returnType = some .int) (hd : decode c.code pc = .ok (.ireturn, 1)) {fs : List Frame}
    (hl : ∀ (f : JFrame) (acts : List Action), f.method = m → f.locked = none → f.entered = [] → (doReturn e (T.setTop f) acts (some (.int z))).1 = T.setFrames fs) : Steps p.tables e below (T.setTop (mkF m pc Ls (.int z :: rest))) (T.setFrames fs) := by
  have hm' : T.vm.method? m = some meth := X.method'
  have hn : narrow .int (.int z) = .int z := rfl
  show Steps p.tables e below (T.setTop { method := m, pc := pc, locals := Ls, stack := _ :: rest, locked := none }) _
  jvm_step X.here [X.here.top, hx, hd, hm', hret, hn]
  first | (intro acts; rw [hl _ acts rfl rfl rfl]) | rw [hl _ _ rfl rfl rfl]
  exact Steps.refl _
end New
end Jvm.RoadKit
namespace Jvm.Pilot.@@N@@
open Jvm Jvm.ClassFile Sem Op Lib Jvm.Free Jvm.Stand Jvm.LawKit Jvm.RoadKit Bundle Jvm.Pilot.@@N@@.Jvm.D
/-! own: an array of ints by its length and what each place holds -/
def own_upd (f : Nat → Int32) (i : Nat) (v : Int32) : Nat → Int32 := fun k => if k = i then v else f k
theorem own_clamp {k : Nat} (h : k < 2 ^ 31) : (Int32.ofNat k).toNatClampNeg = k := by show (Int32.ofNat k).toInt.toNat = _; rw [Int32.toInt_ofNat_small h]; rfl
theorem own_succ (k : Nat) : Int32.ofNat k + 1 = Int32.ofNat (k + 1) := i32_ofNat_add_one k
theorem own_pred (k : Nat) : Int32.ofNat (k + 1) - 1 = Int32.ofNat k := by rw [← own_succ, Int32.add_sub_cancel]
theorem own_inj {k j : Nat} (hk : k < 2 ^ 31) (hj : j < 2 ^ 31) : Int32.ofNat k = Int32.ofNat j ↔ k = j := by
  rw [← Int32.toInt_inj, Int32.toInt_ofNat_small hk, Int32.toInt_ofNat_small hj]; omega
theorem own_lt {k j : Nat} (hk : k < 2 ^ 31) (hj : j < 2 ^ 31) : Int32.ofNat k < Int32.ofNat j ↔ k < j := by
  rw [Int32.lt_iff_toInt_lt, Int32.toInt_ofNat_small hk, Int32.toInt_ofNat_small hj]; omega
theorem own_notneg {k : Nat} (hk : k < 2 ^ 31) : ¬ Int32.ofNat k < 0 := by
  rw [Int32.lt_iff_toInt_lt, Int32.toInt_ofNat_small hk, Int32.toInt_zero]; omega
def own_IA (Z : State) (h : Heap) (a : Addr) (n : Nat) (f : Nat → Int32) : Prop := n < 2 ^ 31 ∧ ∃ c : Cell, Arr Z h a c .int ∧ c.slots.size = n ∧ ∀ j, j < n → c.slots[j]? = some (.int (f j))
section OwnIA
variable {p : Program} {l : Launch} {e : Env} {R : Room} {s : State} {m : MethodId} {args : Array Value} {below : List Frame} {meth : Method} {c : Code} {T : State} {locs : List Loc} {cells slots : Nat} {Z : State} {h h' : Heap} {a b : Addr} {n : Nat} {f : Nat → Int32} {ws : List Addr} {sl : Nat} {v : Value}
theorem own_IA.lt (F : own_IA Z h a n f) : a < h.size := by obtain ⟨-, c, A, -⟩ := F; exact A.lt
theorem own_IA.ext (F : own_IA Z h a n f) (E : Ext h h') : own_IA Z h' a n f := by obtain ⟨q, c, A, r⟩ := F; exact ⟨q, c, A.ext E, r⟩
theorem own_IA.other (F : own_IA Z h a n f) (W : Wr h h' b sl v) (q : a ≠ b) : own_IA Z h' a n f := by obtain ⟨r, c, A, t⟩ := F; exact ⟨r, c, A.other W q, t⟩
theorem own_IA.keep (F : own_IA Z h a n f) (K : Keep h h' ws) (q : a ∉ ws) : own_IA Z h' a n f := by obtain ⟨r, c, A, t⟩ := F; exact ⟨r, c, ⟨K.2.1 a c A.1 q, A.2⟩, t⟩
theorem own_IA.same (F : own_IA Z h a n f) {i : Nat} {x : Int32} (hi : i < n) (W : Wr h h' a i (.int x)) : own_IA Z h' a n (own_upd f i x) := by
  obtain ⟨r, c, A, S, t⟩ := F
  refine ⟨r, _, A.same W, by rw [sz_set]; exact S, fun j hj => ?_⟩
  by_cases u : j = i
  · subst u
    simp [Cell.setSlot, own_upd, S, hj]
  · have := t j hj
    simp only [Cell.setSlot, own_upd, if_neg u]
    rw [Array.getElem?_setIfInBounds_ne (Ne.symm u)]; exact this
theorem own_IA.new {k : ClassId} {z : Int32} (A : Arr Z h a (newA k .int z) .int) (hn : n < 2 ^ 31) (hz : z = Int32.ofNat n) : own_IA Z h a n (fun _ => 0) := by
  have e1 : z.toNatClampNeg = n := by rw [hz]; exact own_clamp hn
  refine ⟨hn, _, A, by rw [sz_new, e1], fun j hj => ?_⟩
  simp [newA, e1, hj, defaultValue]
theorem own_IA.congr {f' : Nat → Int32} (F : own_IA Z h a n f) (q : ∀ j, j < n → f j = f' j) : own_IA Z h a n f' := by
  obtain ⟨r, c, A, S, t⟩ := F
  exact ⟨r, c, A, S, fun j hj => by rw [← q j hj]; exact t j hj⟩
theorem own_in {i : Nat} {c : Cell} (hn : n < 2 ^ 31) (S : c.slots.size = n) (hi : i < n) : ¬ (Int32.ofNat i < 0 ∨ c.slots.size ≤ (Int32.ofNat i).toNatClampNeg) := by
  rw [own_clamp (by omega), S]
  intro q
  rcases q with q | q
  · exact own_notneg (by omega) q
  · omega
theorem own_IA.ld (F : own_IA Z h a n f) (X : Stand p l e R s m args below meth c T locs cells slots) (hx : p.tables.exec = Jvm.exec) (hZ : Z.Warmed39 s.vm) (eT : T.heap = h) {j : Int32} {i : Nat} (hj : j = Int32.ofNat i) (hi : i < n)
    {g : JFrame} (hg : g.method = m) {rest : List Value} (hs : g.stack = .int j :: .ref a :: rest) (hd : decode c.code g.pc = .ok (.iaload, 1)) (target : State)
    (k : Steps p.tables e below (T.setTop { g with pc := g.pc + 1, stack := .int (f i) :: rest }) target) : Steps p.tables e below (T.setTop g) target := by
  obtain ⟨r, cl, A, S, t⟩ := F
  subst hj
  exact X.iaload hx (by rw [eT]; exact A.1) (State.isArrayOf_alike hZ.alike A.2.1) A.2.2 (own_in r S hi) (by rw [own_clamp (by omega)]; exact t i hi) hg hs hd target k
theorem own_IA.st (F : own_IA Z h a n f) (X : Stand p l e R s m args below meth c T locs cells slots) (hx : p.tables.exec = Jvm.exec) (hZ : Z.Warmed39 s.vm) (eT : T.heap = h) {j x : Int32} {i : Nat} (hj : j = Int32.ofNat i) (hi : i < n)
    {g : JFrame} (hg : g.method = m) {rest : List Value} (hs : g.stack = .int x :: .int j :: .ref a :: rest) (hd : decode c.code g.pc = .ok (.iastore, 1)) :
    ∃ T' h', Stand p l e R s m args below meth c T' (locs ++ [⟨a, i⟩]) cells slots ∧ T'.heap = h' ∧ Wr h h' a i (.int x) ∧ ∀ target, Steps p.tables e below (T'.setTop { g with pc := g.pc + 1, stack := rest }) target → Steps p.tables e below (T.setTop g) target := by
  obtain ⟨r, cl, A, S, t⟩ := F
  subst hj
  have q := stI X hx hZ eT A (own_in r S hi) hg hs hd
  rw [own_clamp (show i < 2 ^ 31 by omega)] at q
  exact q
theorem own_IA.len (F : own_IA Z h a n f) (X : Stand p l e R s m args below meth c T locs cells slots) (hx : p.tables.exec = Jvm.exec) (hZ : Z.Warmed39 s.vm) (eT : T.heap = h)
    {g : JFrame} (hg : g.method = m) {rest : List Value} (hs : g.stack = .ref a :: rest) (hd : decode c.code g.pc = .ok (.arraylength, 1)) (target : State)
    (k : Steps p.tables e below (T.setTop { g with pc := g.pc + 1, stack := .int (Int32.ofNat n) :: rest }) target) : Steps p.tables e below (T.setTop g) target := by
  obtain ⟨r, cl, A, S, t⟩ := F
  refine X.arraylength hx (by rw [eT]; exact A.1) (State.isArrayOf_alike hZ.alike A.2.1) hg hs hd target ?_
  rw [S]; exact k
end OwnIA
/-! own: System.arraycopy of ints, from place 0 to place 0 -/
section OwnCopy
variable {p : Program} {l : Launch} {e : Env} {R : Room} {s : State} {m : MethodId} {args : Array Value} {below : List Frame} {meth : Method} {c : Code} {T : State} {locs : List Loc} {cells slots : Nat} {Z : State} {h h' : Heap} {a b : Addr} {n n' : Nat} {f f' : Nat → Int32}
theorem own_getD (n : Nat) (f : Nat → Int32) (d : Value) {j : Nat} (hj : j < n) : ((List.range n).map fun j => Value.int (f j)).getD j d = .int (f j) := by
  simp [List.getD_eq_getElem?_getD, hj]
theorem own_IA.arv (F : own_IA Z h a n f) : ∃ k, Arv Z h a k .int (Int32.ofNat n) ((List.range n).map fun j => .int (f j)) (.int 0) := by
  obtain ⟨r, c, A, S, t⟩ := F
  refine ⟨c.cls, c, A, rfl, by rw [own_clamp r]; exact S, own_notneg r, fun j hj => ?_, fun j hj => ?_⟩
  · rw [own_getD n f _ (S ▸ hj)]; exact t j (S ▸ hj)
  · rw [own_getD n f _ (S ▸ hj)]; rfl
theorem own_IA.ofArv {k : ClassId} {vs : List Value} {dv : Value} (F : Arv Z h a k .int (Int32.ofNat n) vs dv) (hn : n < 2 ^ 31) (q : ∀ j, j < n → vs.getD j dv = .int (f j)) : own_IA Z h a n f := by
  obtain ⟨c, A, -, S, -, H, -⟩ := F
  rw [own_clamp hn] at S
  exact ⟨hn, c, A, S, fun j hj => by rw [← q j hj]; exact H j (by rw [S]; exact hj)⟩
theorem own_cp (X : Stand p l e R s m args below meth c T locs cells slots) (hx : p.tables.exec = Jvm.exec) (hZ : Z.Warmed39 s.vm) {a0 : Array Value} {own : String} {index : Nat} (hown : s.vm.findClass own = some m.cls)
    (w1 : (Cond.methodLink own index Jvm.Stand.acN).before a0 Z = true) (w2 : (Cond.native Jvm.Stand.acN).before a0 Z = true) (w3 : (Cond.static Jvm.Stand.acN).before a0 Z = true) (w4 : (Cond.initialized "java/lang/System").before a0 Z = true) (eT : T.heap = h)
    (A : own_IA Z h a n f) (B : own_IA Z h b n' f') (hn : n ≤ n') {n0 : Nat} (N : Fr n0 locs) (ge : n0 ≤ b)
    {g : JFrame} (hg : g.method = m) (hsize : g.locals.size = c.maxLocals) {rest : List Value} (hs : g.stack = .int (Int32.ofNat n) :: .int (0 : Int32) :: .ref b :: .int (0 : Int32) :: .ref a :: rest) (hd : decode c.code g.pc = .ok (.invokestatic index, 3))
    (hf : 1 ≤ R.frames) {W : Nat} (hW : 2 * g.monitorRoom + (rest.map fun v => v.category).sum ≤ W) (hlo : W + (nativeFrameWords "java/lang/System" "arraycopy" 5 + 11) ≤ R.locals) :
    ∃ T' h' L, Stand p l e R s m args below meth c T' L cells slots ∧ T'.heap = h' ∧ Fr n0 L ∧ Keep h h' [b] ∧ own_IA Z h' b n' (fun j => if j < n then f j else f' j) ∧
      ∀ target, Steps p.tables e below (T'.setTop { g with pc := g.pc + 3, stack := rest }) target → Steps p.tables e below (T.setTop g) target := by
  obtain ⟨k1, A'⟩ := A.arv
  obtain ⟨k2, B'⟩ := B.arv
  have rA := A.1
  have rB := B.1
  have z0 : (0 : Int32).toNatClampNeg = 0 := rfl
  have cn := own_clamp rA
  have cn' := own_clamp rB
  obtain ⟨T', h', L, X', e', N', K', V', st'⟩ := cpA X hx hZ hown w1 w2 w3 w4 eT A' B' (Or.inl ⟨rfl, rfl⟩) (sp := 0) (dp := 0) (nn := Int32.ofNat n) (by decide) (by decide) (own_notneg rA) (by rw [z0, cn]; omega) (by rw [z0, cn, cn']; omega) rfl (by rw [z0, cn]; simp; omega) N ge hg hsize hs hd hf hW hlo
  refine ⟨T', h', L, X', e', N', K', own_IA.ofArv V' rB fun j hj => ?_, st'⟩
  rw [z0, cn]
  simp only [List.take_zero, List.nil_append, Nat.zero_add, List.getD_eq_getElem?_getD]
  by_cases q : j < n
  · rw [List.getElem?_append_left (by simpa using q)]
    simp [q]
  · rw [List.getElem?_append_right (by simp; omega)]
    simp only [List.length_map, List.length_range, List.getElem?_drop]
    rw [show n + (j - n) = j by omega]
    simp [q, hj]
end OwnCopy
theorem d1_0 : decode prog_139_method_1_code 0 = .ok (.aload_n 0, 1) := by decide +kernel
theorem d1_1 : decode prog_139_method_1_code 1 = .ok (.iload_n 1, 1) := by decide +kernel
theorem d1_2 : decode prog_139_method_1_code 2 = .ok (.anewarray 1, 3) := by decide +kernel
theorem d1_5 : decode prog_139_method_1_code 5 = .ok (.aconst_null, 1) := by decide +kernel
theorem d1_6 : decode prog_139_method_1_code 6 = .ok (.invokespecial 3, 3) := by decide +kernel
theorem d1_9 : decode prog_139_method_1_code 9 = .ok (.return_, 1) := by decide +kernel
theorem d2_0 : decode prog_139_method_2_code 0 = .ok (.aload_n 0, 1) := by decide +kernel
theorem d2_1 : decode prog_139_method_2_code 1 = .ok (.aload_n 1, 1) := by decide +kernel
theorem d2_2 : decode prog_139_method_2_code 2 = .ok (.aload_n 2, 1) := by decide +kernel
theorem d2_3 : decode prog_139_method_2_code 3 = .ok (.iconst 0, 1) := by decide +kernel
theorem d2_4 : decode prog_139_method_2_code 4 = .ok (.invokespecial 9, 3) := by decide +kernel
theorem d2_7 : decode prog_139_method_2_code 7 = .ok (.return_, 1) := by decide +kernel
theorem d3_0 : decode prog_139_method_3_code 0 = .ok (.aload_n 0, 1) := by decide +kernel
theorem d3_1 : decode prog_139_method_3_code 1 = .ok (.invokespecial 12, 3) := by decide +kernel
theorem d3_4 : decode prog_139_method_3_code 4 = .ok (.aload_n 0, 1) := by decide +kernel
theorem d3_5 : decode prog_139_method_3_code 5 = .ok (.aload_n 1, 1) := by decide +kernel
theorem d3_6 : decode prog_139_method_3_code 6 = .ok (.putfield 17, 3) := by decide +kernel
theorem d3_9 : decode prog_139_method_3_code 9 = .ok (.aload_n 0, 1) := by decide +kernel
theorem d3_10 : decode prog_139_method_3_code 10 = .ok (.aload_n 2, 1) := by decide +kernel
theorem d3_11 : decode prog_139_method_3_code 11 = .ok (.putfield 21, 3) := by decide +kernel
theorem d3_14 : decode prog_139_method_3_code 14 = .ok (.aload_n 0, 1) := by decide +kernel
theorem d3_15 : decode prog_139_method_3_code 15 = .ok (.iload_n 3, 1) := by decide +kernel
theorem d3_16 : decode prog_139_method_3_code 16 = .ok (.putfield 25, 3) := by decide +kernel
theorem d3_19 : decode prog_139_method_3_code 19 = .ok (.return_, 1) := by decide +kernel
theorem dW_0 : decode prog_139_method_11_code 0 = .ok (.new 4, 3) := by decide +kernel
theorem dW_3 : decode prog_139_method_11_code 3 = .ok (.dup, 1) := by decide +kernel
theorem dW_4 : decode prog_139_method_11_code 4 = .ok (.aload_n 0, 1) := by decide +kernel
theorem dW_5 : decode prog_139_method_11_code 5 = .ok (.getfield 17, 3) := by decide +kernel
theorem dW_8 : decode prog_139_method_11_code 8 = .ok (.aload_n 0, 1) := by decide +kernel
theorem dW_9 : decode prog_139_method_11_code 9 = .ok (.getfield 21, 3) := by decide +kernel
theorem dW_12 : decode prog_139_method_11_code 12 = .ok (.iload_n 1, 1) := by decide +kernel
theorem dW_13 : decode prog_139_method_11_code 13 = .ok (.iload_n 2, 1) := by decide +kernel
theorem dW_14 : decode prog_139_method_11_code 14 = .ok (.invokestatic 40, 3) := by decide +kernel
theorem dW_17 : decode prog_139_method_11_code 17 = .ok (.invokespecial 3, 3) := by decide +kernel
theorem dW_20 : decode prog_139_method_11_code 20 = .ok (.areturn, 1) := by decide +kernel
theorem dP_0 : decode prog_139_method_16_code 0 = .ok (.aload_n 0, 1) := by decide +kernel
theorem dP_1 : decode prog_139_method_16_code 1 = .ok (.ifnonnull 7, 3) := by decide +kernel
theorem dP_4 : decode prog_139_method_16_code 4 = .ok (.iconst 0, 1) := by decide +kernel
theorem dP_5 : decode prog_139_method_16_code 5 = .ok (.goto 5, 3) := by decide +kernel
theorem dP_8 : decode prog_139_method_16_code 8 = .ok (.aload_n 0, 1) := by decide +kernel
theorem dP_9 : decode prog_139_method_16_code 9 = .ok (.arraylength, 1) := by decide +kernel
theorem dP_10 : decode prog_139_method_16_code 10 = .ok (.istore_n 3, 1) := by decide +kernel
theorem dP_11 : decode prog_139_method_16_code 11 = .ok (.iconst 0, 1) := by decide +kernel
theorem dP_12 : decode prog_139_method_16_code 12 = .ok (.istore 4, 2) := by decide +kernel
theorem dP_14 : decode prog_139_method_16_code 14 = .ok (.iload 4, 2) := by decide +kernel
theorem dP_16 : decode prog_139_method_16_code 16 = .ok (.iload_n 3, 1) := by decide +kernel
theorem dP_17 : decode prog_139_method_16_code 17 = .ok (.if_icmp .ge 20, 3) := by decide +kernel
theorem dP_20 : decode prog_139_method_16_code 20 = .ok (.aload_n 0, 1) := by decide +kernel
theorem dP_21 : decode prog_139_method_16_code 21 = .ok (.iload 4, 2) := by decide +kernel
theorem dP_23 : decode prog_139_method_16_code 23 = .ok (.iaload, 1) := by decide +kernel
theorem dP_24 : decode prog_139_method_16_code 24 = .ok (.iload_n 1, 1) := by decide +kernel
theorem dP_25 : decode prog_139_method_16_code 25 = .ok (.if_icmp .ne 6, 3) := by decide +kernel
theorem dP_28 : decode prog_139_method_16_code 28 = .ok (.iload 4, 2) := by decide +kernel
theorem dP_30 : decode prog_139_method_16_code 30 = .ok (.istore_n 3, 1) := by decide +kernel
theorem dP_31 : decode prog_139_method_16_code 31 = .ok (.iinc 4 2, 3) := by decide +kernel
theorem dP_34 : decode prog_139_method_16_code 34 = .ok (.goto (-20), 3) := by decide +kernel
theorem dP_37 : decode prog_139_method_16_code 37 = .ok (.aload_n 0, 1) := by decide +kernel
theorem dP_38 : decode prog_139_method_16_code 38 = .ok (.ifnonnull 7, 3) := by decide +kernel
theorem dP_41 : decode prog_139_method_16_code 41 = .ok (.iconst 2, 1) := by decide +kernel
theorem dP_42 : decode prog_139_method_16_code 42 = .ok (.goto 11, 3) := by decide +kernel
theorem dP_45 : decode prog_139_method_16_code 45 = .ok (.aload_n 0, 1) := by decide +kernel
theorem dP_46 : decode prog_139_method_16_code 46 = .ok (.arraylength, 1) := by decide +kernel
theorem dP_47 : decode prog_139_method_16_code 47 = .ok (.iload_n 3, 1) := by decide +kernel
theorem dP_48 : decode prog_139_method_16_code 48 = .ok (.iconst 2, 1) := by decide +kernel
theorem dP_49 : decode prog_139_method_16_code 49 = .ok (.iadd, 1) := by decide +kernel
theorem dP_50 : decode prog_139_method_16_code 50 = .ok (.invokestatic 52, 3) := by decide +kernel
theorem dP_53 : decode prog_139_method_16_code 53 = .ok (.newarray .int, 2) := by decide +kernel
theorem dP_55 : decode prog_139_method_16_code 55 = .ok (.astore 4, 2) := by decide +kernel
theorem dP_57 : decode prog_139_method_16_code 57 = .ok (.aload_n 0, 1) := by decide +kernel
theorem dP_58 : decode prog_139_method_16_code 58 = .ok (.ifnull 13, 3) := by decide +kernel
theorem dP_61 : decode prog_139_method_16_code 61 = .ok (.aload_n 0, 1) := by decide +kernel
theorem dP_62 : decode prog_139_method_16_code 62 = .ok (.iconst 0, 1) := by decide +kernel
theorem dP_63 : decode prog_139_method_16_code 63 = .ok (.aload 4, 2) := by decide +kernel
theorem dP_65 : decode prog_139_method_16_code 65 = .ok (.iconst 0, 1) := by decide +kernel
theorem dP_66 : decode prog_139_method_16_code 66 = .ok (.aload_n 0, 1) := by decide +kernel
theorem dP_67 : decode prog_139_method_16_code 67 = .ok (.arraylength, 1) := by decide +kernel
theorem dP_68 : decode prog_139_method_16_code 68 = .ok (.invokestatic 58, 3) := by decide +kernel
theorem dP_71 : decode prog_139_method_16_code 71 = .ok (.aload 4, 2) := by decide +kernel
theorem dP_73 : decode prog_139_method_16_code 73 = .ok (.iload_n 3, 1) := by decide +kernel
theorem dP_74 : decode prog_139_method_16_code 74 = .ok (.iload_n 1, 1) := by decide +kernel
theorem dP_75 : decode prog_139_method_16_code 75 = .ok (.iastore, 1) := by decide +kernel
theorem dP_76 : decode prog_139_method_16_code 76 = .ok (.aload 4, 2) := by decide +kernel
theorem dP_78 : decode prog_139_method_16_code 78 = .ok (.iload_n 3, 1) := by decide +kernel
theorem dP_79 : decode prog_139_method_16_code 79 = .ok (.iconst 1, 1) := by decide +kernel
theorem dP_80 : decode prog_139_method_16_code 80 = .ok (.iadd, 1) := by decide +kernel
theorem dP_81 : decode prog_139_method_16_code 81 = .ok (.iload_n 2, 1) := by decide +kernel
theorem dP_82 : decode prog_139_method_16_code 82 = .ok (.iastore, 1) := by decide +kernel
theorem dP_83 : decode prog_139_method_16_code 83 = .ok (.aload 4, 2) := by decide +kernel
theorem dP_85 : decode prog_139_method_16_code 85 = .ok (.areturn, 1) := by decide +kernel
theorem dX_0 : decode jdk_29_method_65_code 0 = .ok (.iload_n 0, 1) := by decide +kernel
theorem dX_1 : decode jdk_29_method_65_code 1 = .ok (.iload_n 1, 1) := by decide +kernel
theorem dX_2 : decode jdk_29_method_65_code 2 = .ok (.if_icmp .lt 7, 3) := by decide +kernel
theorem dX_5 : decode jdk_29_method_65_code 5 = .ok (.iload_n 0, 1) := by decide +kernel
theorem dX_6 : decode jdk_29_method_65_code 6 = .ok (.goto 4, 3) := by decide +kernel
theorem dX_9 : decode jdk_29_method_65_code 9 = .ok (.iload_n 1, 1) := by decide +kernel
theorem dX_10 : decode jdk_29_method_65_code 10 = .ok (.ireturn, 1) := by decide +kernel
theorem dE_0 : decode method_3_code 0 = .ok (.iload_n 0, 1) := by decide +kernel
theorem dE_1 : decode method_3_code 1 = .ok (.iconst 3, 1) := by decide +kernel
theorem dE_2 : decode method_3_code 2 = .ok (.if_icmp .lt 13, 3) := by decide +kernel
theorem dE_5 : decode method_3_code 5 = .ok (.iload 5, 2) := by decide +kernel
theorem dE_7 : decode method_3_code 7 = .ok (.iload 7, 2) := by decide +kernel
theorem dE_9 : decode method_3_code 9 = .ok (.if_icmp .ne 6, 3) := by decide +kernel
theorem dE_12 : decode method_3_code 12 = .ok (.iload 6, 2) := by decide +kernel
theorem dE_14 : decode method_3_code 14 = .ok (.ireturn, 1) := by decide +kernel
theorem dE_15 : decode method_3_code 15 = .ok (.iload_n 0, 1) := by decide +kernel
theorem dE_16 : decode method_3_code 16 = .ok (.iconst 2, 1) := by decide +kernel
theorem dE_17 : decode method_3_code 17 = .ok (.if_icmp .lt 12, 3) := by decide +kernel
theorem dE_20 : decode method_3_code 20 = .ok (.iload_n 3, 1) := by decide +kernel
theorem dE_21 : decode method_3_code 21 = .ok (.iload 7, 2) := by decide +kernel
theorem dE_23 : decode method_3_code 23 = .ok (.if_icmp .ne 6, 3) := by decide +kernel
theorem dE_26 : decode method_3_code 26 = .ok (.iload 4, 2) := by decide +kernel
theorem dE_28 : decode method_3_code 28 = .ok (.ireturn, 1) := by decide +kernel
theorem dE_29 : decode method_3_code 29 = .ok (.iload_n 0, 1) := by decide +kernel
theorem dE_30 : decode method_3_code 30 = .ok (.iconst 1, 1) := by decide +kernel
theorem dE_31 : decode method_3_code 31 = .ok (.if_icmp .lt 11, 3) := by decide +kernel
theorem dE_34 : decode method_3_code 34 = .ok (.iload_n 1, 1) := by decide +kernel
theorem dE_35 : decode method_3_code 35 = .ok (.iload 7, 2) := by decide +kernel
theorem dE_37 : decode method_3_code 37 = .ok (.if_icmp .ne 5, 3) := by decide +kernel
theorem dE_40 : decode method_3_code 40 = .ok (.iload_n 2, 1) := by decide +kernel
theorem dE_41 : decode method_3_code 41 = .ok (.ireturn, 1) := by decide +kernel
theorem dE_42 : decode method_3_code 42 = .ok (.iconst (-1), 1) := by decide +kernel
theorem dE_43 : decode method_3_code 43 = .ok (.ireturn, 1) := by decide +kernel
theorem dG_0 : decode prog_139_method_5_code 0 = .ok (.iconst (-1), 1) := by decide +kernel
theorem dG_1 : decode prog_139_method_5_code 1 = .ok (.istore_n 2, 1) := by decide +kernel
theorem dG_2 : decode prog_139_method_5_code 2 = .ok (.iconst 0, 1) := by decide +kernel
theorem dG_3 : decode prog_139_method_5_code 3 = .ok (.istore_n 3, 1) := by decide +kernel
theorem dG_4 : decode prog_139_method_5_code 4 = .ok (.aload_n 0, 1) := by decide +kernel
theorem dG_5 : decode prog_139_method_5_code 5 = .ok (.getfield 21, 3) := by decide +kernel
theorem dG_8 : decode prog_139_method_5_code 8 = .ok (.ifnull 41, 3) := by decide +kernel
theorem dG_11 : decode prog_139_method_5_code 11 = .ok (.iload_n 3, 1) := by decide +kernel
theorem dG_12 : decode prog_139_method_5_code 12 = .ok (.aload_n 0, 1) := by decide +kernel
theorem dG_13 : decode prog_139_method_5_code 13 = .ok (.getfield 21, 3) := by decide +kernel
theorem dG_16 : decode prog_139_method_5_code 16 = .ok (.arraylength, 1) := by decide +kernel
theorem dG_17 : decode prog_139_method_5_code 17 = .ok (.if_icmp .ge 32, 3) := by decide +kernel
theorem dG_20 : decode prog_139_method_5_code 20 = .ok (.iload_n 2, 1) := by decide +kernel
theorem dG_21 : decode prog_139_method_5_code 21 = .ok (.ifCond .ge 28, 3) := by decide +kernel
theorem dG_24 : decode prog_139_method_5_code 24 = .ok (.aload_n 0, 1) := by decide +kernel
theorem dG_25 : decode prog_139_method_5_code 25 = .ok (.getfield 21, 3) := by decide +kernel
theorem dG_28 : decode prog_139_method_5_code 28 = .ok (.iload_n 3, 1) := by decide +kernel
theorem dG_29 : decode prog_139_method_5_code 29 = .ok (.iaload, 1) := by decide +kernel
theorem dG_30 : decode prog_139_method_5_code 30 = .ok (.iload_n 1, 1) := by decide +kernel
theorem dG_31 : decode prog_139_method_5_code 31 = .ok (.if_icmp .ne 12, 3) := by decide +kernel
theorem dG_34 : decode prog_139_method_5_code 34 = .ok (.aload_n 0, 1) := by decide +kernel
theorem dG_35 : decode prog_139_method_5_code 35 = .ok (.getfield 21, 3) := by decide +kernel
theorem dG_38 : decode prog_139_method_5_code 38 = .ok (.iload_n 3, 1) := by decide +kernel
theorem dG_39 : decode prog_139_method_5_code 39 = .ok (.iconst 1, 1) := by decide +kernel
theorem dG_40 : decode prog_139_method_5_code 40 = .ok (.iadd, 1) := by decide +kernel
theorem dG_41 : decode prog_139_method_5_code 41 = .ok (.iaload, 1) := by decide +kernel
theorem dG_42 : decode prog_139_method_5_code 42 = .ok (.istore_n 2, 1) := by decide +kernel
theorem dG_43 : decode prog_139_method_5_code 43 = .ok (.iinc 3 2, 3) := by decide +kernel
theorem dG_46 : decode prog_139_method_5_code 46 = .ok (.goto (-42), 3) := by decide +kernel
theorem dG_49 : decode prog_139_method_5_code 49 = .ok (.iload_n 2, 1) := by decide +kernel
theorem dG_50 : decode prog_139_method_5_code 50 = .ok (.ireturn, 1) := by decide +kernel
theorem pnC : plainName "com/example/xquery_rewriter/xqueryrewriter/algebra/Tuple" = true := by first | (simp [plainName, overriddenIn]; done) | decide +kernel
theorem pnL : plainName "com/example/xquery_rewriter/xqueryrewriter/algebra/TuplePositionPinLaw" = true := by first | (simp [plainName, overriddenIn]; done) | decide +kernel
theorem pd1 : parseMethodDescriptor "(I)V" = some ⟨[.int], none⟩ := by decide +kernel
theorem pd2 : parseMethodDescriptor "([Lcom/example/xquery_rewriter/xqueryrewriter/xdm/Sequence;[I)V" = some ⟨[.array (.object "com/example/xquery_rewriter/xqueryrewriter/xdm/Sequence"), .array .int], none⟩ := by decide +kernel
theorem pd3 : parseMethodDescriptor "([Lcom/example/xquery_rewriter/xqueryrewriter/xdm/Sequence;[IZ)V" = some ⟨[.array (.object "com/example/xquery_rewriter/xqueryrewriter/xdm/Sequence"), .array .int, .boolean], none⟩ := by decide +kernel
theorem pdW : parseMethodDescriptor "(II)Lcom/example/xquery_rewriter/xqueryrewriter/algebra/Tuple;" = some ⟨[.int, .int], some (.object "com/example/xquery_rewriter/xqueryrewriter/algebra/Tuple")⟩ := by decide +kernel
theorem pdP : parseMethodDescriptor "([III)[I" = some ⟨[.array .int, .int, .int], some (.array .int)⟩ := by decide +kernel
theorem pdX : parseMethodDescriptor "(II)I" = some ⟨[.int, .int], some .int⟩ := by decide +kernel
theorem pdE : parseMethodDescriptor "(IIIIIIII)I" = some ⟨[.int, .int, .int, .int, .int, .int, .int, .int], some .int⟩ := by decide +kernel
theorem pdG : parseMethodDescriptor "(I)I" = some ⟨[.int], some .int⟩ := by decide +kernel
theorem ef3n (m : MethodId) (x0 : Addr) (x1 : Addr) (x3 : Int32) : entryFrame m #[(.ref x0), (.ref x1), .null, (.int x3)] 4 = mkF m 0 #[.val (.ref x0), .val (.ref x1), .val .null, .val (.int x3)] [] := by first | (simp [entryFrame, mkF, argsToLocals, Value.category]; done) | rfl
theorem ef3r (m : MethodId) (x0 : Addr) (x1 : Addr) (x2 : Addr) (x3 : Int32) : entryFrame m #[(.ref x0), (.ref x1), (.ref x2), (.int x3)] 4 = mkF m 0 #[.val (.ref x0), .val (.ref x1), .val (.ref x2), .val (.int x3)] [] := by first | (simp [entryFrame, mkF, argsToLocals, Value.category]; done) | rfl
theorem ef2n (m : MethodId) (x0 : Addr) (x1 : Addr) : entryFrame m #[(.ref x0), (.ref x1), .null] 3 = mkF m 0 #[.val (.ref x0), .val (.ref x1), .val .null] [] := by first | (simp [entryFrame, mkF, argsToLocals, Value.category]; done) | rfl
theorem ef2r (m : MethodId) (x0 : Addr) (x1 : Addr) (x2 : Addr) : entryFrame m #[(.ref x0), (.ref x1), (.ref x2)] 3 = mkF m 0 #[.val (.ref x0), .val (.ref x1), .val (.ref x2)] [] := by first | (simp [entryFrame, mkF, argsToLocals, Value.category]; done) | rfl
theorem ef1 (m : MethodId) (x0 : Addr) (x1 : Int32) : entryFrame m #[(.ref x0), (.int x1)] 2 = mkF m 0 #[.val (.ref x0), .val (.int x1)] [] := by first | (simp [entryFrame, mkF, argsToLocals, Value.category]; done) | rfl
theorem efW (m : MethodId) (x0 : Addr) (x1 : Int32) (x2 : Int32) : entryFrame m #[(.ref x0), (.int x1), (.int x2)] 3 = mkF m 0 #[.val (.ref x0), .val (.int x1), .val (.int x2)] [] := by first | (simp [entryFrame, mkF, argsToLocals, Value.category]; done) | rfl
theorem efPn (m : MethodId) (x1 : Int32) (x2 : Int32) : entryFrame m #[.null, (.int x1), (.int x2)] 5 = mkF m 0 #[.val .null, .val (.int x1), .val (.int x2), .unset, .unset] [] := by first | (simp [entryFrame, mkF, argsToLocals, Value.category]; done) | rfl
theorem efPr (m : MethodId) (x0 : Addr) (x1 : Int32) (x2 : Int32) : entryFrame m #[(.ref x0), (.int x1), (.int x2)] 5 = mkF m 0 #[.val (.ref x0), .val (.int x1), .val (.int x2), .unset, .unset] [] := by first | (simp [entryFrame, mkF, argsToLocals, Value.category]; done) | rfl
theorem efX (m : MethodId) (x0 : Int32) (x1 : Int32) : entryFrame m #[(.int x0), (.int x1)] 2 = mkF m 0 #[.val (.int x0), .val (.int x1)] [] := by first | (simp [entryFrame, mkF, argsToLocals, Value.category]; done) | rfl
theorem efE (m : MethodId) (x0 : Int32) (x1 : Int32) (x2 : Int32) (x3 : Int32) (x4 : Int32) (x5 : Int32) (x6 : Int32) (x7 : Int32) : entryFrame m #[(.int x0), (.int x1), (.int x2), (.int x3), (.int x4), (.int x5), (.int x6), (.int x7)] 8 = mkF m 0 #[.val (.int x0), .val (.int x1), .val (.int x2), .val (.int x3), .val (.int x4), .val (.int x5), .val (.int x6), .val (.int x7)] [] := by first | (simp [entryFrame, mkF, argsToLocals, Value.category]; done) | rfl
theorem efG (m : MethodId) (x0 : Addr) (x1 : Int32) : entryFrame m #[(.ref x0), (.int x1)] 4 = mkF m 0 #[.val (.ref x0), .val (.int x1), .unset, .unset] [] := by first | (simp [entryFrame, mkF, argsToLocals, Value.category]; done) | rfl
theorem ef0 (m : MethodId) (x0 : Int32) (x1 : Int32) (x2 : Int32) (x3 : Int32) (x4 : Int32) (x5 : Int32) : entryFrame m #[(.int x0), (.int x1), (.int x2), (.int x3), (.int x4), (.int x5)] maxLocals = mkF m 0 #[.val (.int x0), .val (.int x1), .val (.int x2), .val (.int x3), .val (.int x4), .val (.int x5), .unset, .unset, .unset, .unset, .unset, .unset, .unset, .unset, .unset, .unset, .unset] [] := by first | (simp [entryFrame, mkF, argsToLocals, Value.category, maxLocals]; done) | rfl
def own_C (Z : State) (a sq : Addr) (pv : Value) (h0 : Heap) (n0 : Nat) (v : Option Value) (h : Heap) (L : List Loc) : Prop := v = none ∧ Fr n0 L ∧ Keep h0 h [a] ∧ Exa Z h a "com/example/xquery_rewriter/xqueryrewriter/algebra/Tuple" ∧ Fld Z h a "com/example/xquery_rewriter/xqueryrewriter/algebra/Tuple" "slots" "[Lcom/example/xquery_rewriter/xqueryrewriter/xdm/Sequence;" (.ref sq) ∧ Fld Z h a "com/example/xquery_rewriter/xqueryrewriter/algebra/Tuple" "positions" "[I" pv
set_option maxRecDepth 65536 in
set_option maxHeartbeats 40000000 in
theorem rm3n (l : Launch) (Z : State) (a0 : Array Value) (hw : ∀ d ∈ tables_1, d.before a0 Z = true) (ws : List Jvm.Cond) (a sq : Addr) (u1 u2 u3 : Value) (h0 : Heap) (n0 : Nat) (Ea : Exa Z h0 a "com/example/xquery_rewriter/xqueryrewriter/algebra/Tuple") (F1 : Fld Z h0 a "com/example/xquery_rewriter/xqueryrewriter/algebra/Tuple" "slots" "[Lcom/example/xquery_rewriter/xqueryrewriter/xdm/Sequence;" u1) (F2 : Fld Z h0 a "com/example/xquery_rewriter/xqueryrewriter/algebra/Tuple" "positions" "[I" u2) (F3 : Fld Z h0 a "com/example/xquery_rewriter/xqueryrewriter/algebra/Tuple" "candidate" "Z" u3) (g_a : n0 ≤ a) :
    MetFree l (⟨"com/example/xquery_rewriter/xqueryrewriter/algebra/Tuple", "<init>", "([Lcom/example/xquery_rewriter/xqueryrewriter/xdm/Sequence;[IZ)V"⟩ : MethodName) (head1 (Jvm.Cond.code (⟨"com/example/xquery_rewriter/xqueryrewriter/algebra/Tuple", "<init>", "([Lcom/example/xquery_rewriter/xqueryrewriter/xdm/Sequence;[IZ)V"⟩ : MethodName) prog_139_method_3_code 4 none :: ws) ({ frames := 1, cells := 0, slots := 0, locals := 12 } : Room)) (fun a_ U => a_ = #[(.ref a), (.ref sq), .null, (.int (0 : Int32))] ∧ Z.Warmed39 U.vm ∧ U.heap = h0) (fun _ _ _ _ _ => True) (fun _ U o U' => ∃ v L, o = .returned v ∧ own_C Z a sq .null h0 n0 v U'.heap L ∧ FrameEnd U o U' L ({ frames := 1, cells := 0, slots := 0, locals := 12 } : Room).cells ({ frames := 1, cells := 0, slots := 0, locals := 12 } : Room).slots) := by
  refine MetFree.of_bodySF (plainFor_of_name pnC) hisR ?_
  intro p e s m args below meth c s₁ Bd hml0 hP hK
  obtain ⟨rfl, hZ, hh⟩ := hP
  have hx := Bd.exec
  have hby := Bd.bytes
  have hml : c.maxLocals = 4 := hml0
  have hown : s.vm.findClass "com/example/xquery_rewriter/xqueryrewriter/algebra/Tuple" = some m.cls := findClass_of_methodNamed Bd.named
  have hnm := (name_of_methodNamed Bd.named Bd.method).1
  have X0 : Stand p l e ({ frames := 1, cells := 0, slots := 0, locals := 12 } : Room) s m #[(.ref a), (.ref sq), .null, (.int (0 : Int32))] below meth c s₁ [] 0 0 := Stand.of_body Bd
  have e0 : s₁.heap = h0 := by rw [← hh, Bd.state]; rfl
  have N0 := Fr.nil n0
  have pre0 : ∀ t, Steps p.tables e below (s₁.setTop (mkF m 0 #[.val (.ref a), .val (.ref sq), .val .null, .val (.int (0 : Int32))] [])) t → Steps p.tables e below (s₁.setTop (entryFrame m #[(.ref a), (.ref sq), .null, (.int (0 : Int32))] 4)) t := fun t k => castTop (ef3n m a sq 0) k
  obtain ⟨T2, X2, e2, st2⟩ := initO X0 hx hZ hown (hw _ (List.mem_of_getElem? (i := 15) rfl)) (hw _ (List.mem_of_getElem? (i := 16) rfl)) (hw _ (List.mem_of_getElem? (i := 17) rfl)) e0 (g := (mkF m 1 #[.val (.ref a), .val (.ref sq), .val .null, .val (.int (0 : Int32))] [(.ref a)])) rfl (by rw [hml]; rfl) rfl (hb hby d3_1) (by decide) (W := 0) (by show 2 * 0 + _ ≤ _; exact Nat.le_of_eq rfl) (by decide)
  obtain ⟨T3, h3, X3, e3, W3, st3⟩ := putF X2 hx hZ hown (host := "") (Or.inl (hw _ (List.mem_of_getElem? (i := 18) rfl))) Via.refl e2 F1 Ea (Or.inr ⟨(hw _ (List.mem_of_getElem? (i := 19) rfl)), rfl, hnm⟩) (hw _ (List.mem_of_getElem? (i := 2) rfl)) (ty := (.array (.object "com/example/xquery_rewriter/xqueryrewriter/xdm/Sequence"))) (by decide) rfl rfl (g := (mkF m 6 #[.val (.ref a), .val (.ref sq), .val .null, .val (.int (0 : Int32))] [(.ref sq), (.ref a)])) rfl rfl (hb hby d3_6)
  obtain ⟨T4, h4, X4, e4, W4, st4⟩ := putF X3 hx hZ hown (host := "") (Or.inl (hw _ (List.mem_of_getElem? (i := 20) rfl))) Via.refl e3 (F2.other W3 (Or.inr (slot_ne (Or.inr (hw _ (List.mem_of_getElem? (i := 21) rfl))) (Or.inr (hw _ (List.mem_of_getElem? (i := 19) rfl))) (by decide) (t := (.array .int)) (t' := (.array (.object "com/example/xquery_rewriter/xqueryrewriter/xdm/Sequence"))) (by decide) (by decide)))) (Ea.wr W3) (Or.inr ⟨(hw _ (List.mem_of_getElem? (i := 21) rfl)), rfl, hnm⟩) (hw _ (List.mem_of_getElem? (i := 2) rfl)) (ty := (.array .int)) (by decide) rfl rfl (g := (mkF m 11 #[.val (.ref a), .val (.ref sq), .val .null, .val (.int (0 : Int32))] [.null, (.ref a)])) rfl rfl (hb hby d3_11)
  obtain ⟨T5, h5, X5, e5, W5, st5⟩ := putFN X4 hx hZ hown (hw _ (List.mem_of_getElem? (i := 22) rfl)) Via.refl e4 ((F3.other W3 (Or.inr (slot_ne (Or.inr (hw _ (List.mem_of_getElem? (i := 23) rfl))) (Or.inr (hw _ (List.mem_of_getElem? (i := 19) rfl))) (by decide) (t := .boolean) (t' := (.array (.object "com/example/xquery_rewriter/xqueryrewriter/xdm/Sequence"))) (by decide) (by decide)))).other W4 (Or.inr (slot_ne (Or.inr (hw _ (List.mem_of_getElem? (i := 23) rfl))) (Or.inr (hw _ (List.mem_of_getElem? (i := 21) rfl))) (by decide) (t := .boolean) (t' := (.array .int)) (by decide) (by decide)))) ((Ea.wr W3).wr W4) (Or.inr ⟨(hw _ (List.mem_of_getElem? (i := 23) rfl)), rfl, hnm⟩) (hw _ (List.mem_of_getElem? (i := 2) rfl)) (ty := .boolean) (v' := (.int (0 : Int32))) (by decide) rfl (by decide) (g := (mkF m 16 #[.val (.ref a), .val (.ref sq), .val .null, .val (.int (0 : Int32))] [(.int (0 : Int32)), (.ref a)])) rfl rfl (hb hby d3_16)
  obtain ⟨fs, hr, hrun, hended, hW, hsame⟩ := X5.leave (v := none) (fun _ => rfl)
  refine ⟨_, _, pre0 _ ?_, hrun, hended, _, _, rfl, ?_, ⟨_, rfl⟩, hW, hsame.mono (by decide) (by decide)⟩
  · show Steps p.tables e below (s₁.setTop (mkF m 0 #[.val (.ref a), .val (.ref sq), .val .null, .val (.int (0 : Int32))] [])) _
    refine XS.aloadN X0.here hx rfl (hb hby d3_0) rfl rfl ?_
    show Steps p.tables e below (s₁.setTop (mkF m 1 #[.val (.ref a), .val (.ref sq), .val .null, .val (.int (0 : Int32))] [(.ref a)])) _
    refine st2 _ ?_
    show Steps p.tables e below (T2.setTop (mkF m 4 #[.val (.ref a), .val (.ref sq), .val .null, .val (.int (0 : Int32))] [])) _
    refine XS.aloadN X2.here hx rfl (hb hby d3_4) rfl rfl ?_
    show Steps p.tables e below (T2.setTop (mkF m 5 #[.val (.ref a), .val (.ref sq), .val .null, .val (.int (0 : Int32))] [(.ref a)])) _
    refine XS.aloadN X2.here hx rfl (hb hby d3_5) rfl rfl ?_
    show Steps p.tables e below (T2.setTop (mkF m 6 #[.val (.ref a), .val (.ref sq), .val .null, .val (.int (0 : Int32))] [(.ref sq), (.ref a)])) _
    refine st3 _ ?_
    show Steps p.tables e below (T3.setTop (mkF m 9 #[.val (.ref a), .val (.ref sq), .val .null, .val (.int (0 : Int32))] [])) _
    refine XS.aloadN X3.here hx rfl (hb hby d3_9) rfl rfl ?_
    show Steps p.tables e below (T3.setTop (mkF m 10 #[.val (.ref a), .val (.ref sq), .val .null, .val (.int (0 : Int32))] [(.ref a)])) _
    refine XS.aloadN X3.here hx rfl (hb hby d3_10) rfl rfl ?_
    show Steps p.tables e below (T3.setTop (mkF m 11 #[.val (.ref a), .val (.ref sq), .val .null, .val (.int (0 : Int32))] [.null, (.ref a)])) _
    refine st4 _ ?_
    show Steps p.tables e below (T4.setTop (mkF m 14 #[.val (.ref a), .val (.ref sq), .val .null, .val (.int (0 : Int32))] [])) _
    refine XS.aloadN X4.here hx rfl (hb hby d3_14) rfl rfl ?_
    show Steps p.tables e below (T4.setTop (mkF m 15 #[.val (.ref a), .val (.ref sq), .val .null, .val (.int (0 : Int32))] [(.ref a)])) _
    refine XS.iloadN X4.here hx rfl (hb hby d3_15) rfl ?_
    show Steps p.tables e below (T4.setTop (mkF m 16 #[.val (.ref a), .val (.ref sq), .val .null, .val (.int (0 : Int32))] [(.int (0 : Int32)), (.ref a)])) _
    refine st5 _ ?_
    show Steps p.tables e below (T5.setTop (mkF m 19 #[.val (.ref a), .val (.ref sq), .val .null, .val (.int (0 : Int32))] [])) _
    exact X5.returnOut hx Bd.returns (hb hby d3_19) hr
  · show own_C Z a sq .null h0 n0 _ T5.heap _
    rw [e5]
    exact ⟨rfl, Fr.snoc X5 (Fr.snoc X4 (Fr.snoc X3 N0 g_a) g_a) g_a, (((Keep.refl h0 [a]).wr W3 (Or.inl (by simp))).wr W4 (Or.inl (by simp))).wr W5 (Or.inl (by simp)), ((Ea.wr W3).wr W4).wr W5, (((F1.same W3).other W4 (Or.inr (slot_ne (Or.inr (hw _ (List.mem_of_getElem? (i := 19) rfl))) (Or.inr (hw _ (List.mem_of_getElem? (i := 21) rfl))) (by decide) (t := (.array (.object "com/example/xquery_rewriter/xqueryrewriter/xdm/Sequence"))) (t' := (.array .int)) (by decide) (by decide)))).other W5 (Or.inr (slot_ne (Or.inr (hw _ (List.mem_of_getElem? (i := 19) rfl))) (Or.inr (hw _ (List.mem_of_getElem? (i := 23) rfl))) (by decide) (t := (.array (.object "com/example/xquery_rewriter/xqueryrewriter/xdm/Sequence"))) (t' := .boolean) (by decide) (by decide)))), (((F2.other W3 (Or.inr (slot_ne (Or.inr (hw _ (List.mem_of_getElem? (i := 21) rfl))) (Or.inr (hw _ (List.mem_of_getElem? (i := 19) rfl))) (by decide) (t := (.array .int)) (t' := (.array (.object "com/example/xquery_rewriter/xqueryrewriter/xdm/Sequence"))) (by decide) (by decide)))).same W4).other W5 (Or.inr (slot_ne (Or.inr (hw _ (List.mem_of_getElem? (i := 21) rfl))) (Or.inr (hw _ (List.mem_of_getElem? (i := 23) rfl))) (by decide) (t := (.array .int)) (t' := .boolean) (by decide) (by decide))))⟩
set_option maxRecDepth 65536 in
set_option maxHeartbeats 40000000 in
theorem rm2n (l : Launch) (Z : State) (a0 : Array Value) (hw : ∀ d ∈ tables_1, d.before a0 Z = true) (ws : List Jvm.Cond) (a sq : Addr) (u1 u2 u3 : Value) (h0 : Heap) (n0 : Nat) (Ea : Exa Z h0 a "com/example/xquery_rewriter/xqueryrewriter/algebra/Tuple") (F1 : Fld Z h0 a "com/example/xquery_rewriter/xqueryrewriter/algebra/Tuple" "slots" "[Lcom/example/xquery_rewriter/xqueryrewriter/xdm/Sequence;" u1) (F2 : Fld Z h0 a "com/example/xquery_rewriter/xqueryrewriter/algebra/Tuple" "positions" "[I" u2) (F3 : Fld Z h0 a "com/example/xquery_rewriter/xqueryrewriter/algebra/Tuple" "candidate" "Z" u3) (g_a : n0 ≤ a) :
    MetFree l (⟨"com/example/xquery_rewriter/xqueryrewriter/algebra/Tuple", "<init>", "([Lcom/example/xquery_rewriter/xqueryrewriter/xdm/Sequence;[I)V"⟩ : MethodName) (head1 (Jvm.Cond.code (⟨"com/example/xquery_rewriter/xqueryrewriter/algebra/Tuple", "<init>", "([Lcom/example/xquery_rewriter/xqueryrewriter/xdm/Sequence;[I)V"⟩ : MethodName) prog_139_method_2_code 3 none :: ws) ({ frames := 2, cells := 0, slots := 0, locals := 27 } : Room)) (fun a_ U => a_ = #[(.ref a), (.ref sq), .null] ∧ Z.Warmed39 U.vm ∧ U.heap = h0) (fun _ _ _ _ _ => True) (fun _ U o U' => ∃ v L, o = .returned v ∧ own_C Z a sq .null h0 n0 v U'.heap L ∧ FrameEnd U o U' L ({ frames := 2, cells := 0, slots := 0, locals := 27 } : Room).cells ({ frames := 2, cells := 0, slots := 0, locals := 27 } : Room).slots) := by
  refine MetFree.of_bodySF (plainFor_of_name pnC) hisR ?_
  intro p e s m args below meth c s₁ Bd hml0 hP hK
  obtain ⟨rfl, hZ, hh⟩ := hP
  have hx := Bd.exec
  have hby := Bd.bytes
  have hml : c.maxLocals = 3 := hml0
  have hown : s.vm.findClass "com/example/xquery_rewriter/xqueryrewriter/algebra/Tuple" = some m.cls := findClass_of_methodNamed Bd.named
  have hnm := (name_of_methodNamed Bd.named Bd.method).1
  have X0 : Stand p l e ({ frames := 2, cells := 0, slots := 0, locals := 27 } : Room) s m #[(.ref a), (.ref sq), .null] below meth c s₁ [] 0 0 := Stand.of_body Bd
  have e0 : s₁.heap = h0 := by rw [← hh, Bd.state]; rfl
  have N0 := Fr.nil n0
  have pre0 : ∀ t, Steps p.tables e below (s₁.setTop (mkF m 0 #[.val (.ref a), .val (.ref sq), .val .null] [])) t → Steps p.tables e below (s₁.setTop (entryFrame m #[(.ref a), (.ref sq), .null] 3)) t := fun t k => castTop (ef2n m a sq) k
  obtain ⟨_, _, ⟨T2, L2, k2, n2⟩, -, X2, ⟨Lc2, hQ2, l2, y2, z2⟩, st2⟩ := X0.specialBack hx (y := (⟨"com/example/xquery_rewriter/xqueryrewriter/algebra/Tuple", "<init>", "([Lcom/example/xquery_rewriter/xqueryrewriter/xdm/Sequence;[IZ)V"⟩ : MethodName)) rfl hown (mvT hZ (hw _ (List.mem_of_getElem? (i := 12) rfl))) (mvT hZ (hw _ (List.mem_of_getElem? (i := 13) rfl))) (mvT hZ (hw _ (List.mem_of_getElem? (i := 14) rfl))) (by decide) (backOf (W := 0) (rm3n l Z a0 hw [] a sq u1 u2 u3 h0 n0 Ea F1 F2 F3 g_a) hZ (hw _ (List.mem_of_getElem? (i := 14) rfl)) (hw _ (List.mem_of_getElem? (i := 3) rfl)) (by decide) (by decide)) (g := (mkF m 4 #[.val (.ref a), .val (.ref sq), .val .null] [(.int (0 : Int32)), .null, (.ref sq), (.ref a)])) rfl (by rw [hml]; rfl) (Steps.refl _) (a := a) (argsL := [(.ref sq), .null, (.int (0 : Int32))]) (rest := []) (lenOf pd3 rfl) rfl (by show 2 * 0 + _ ≤ _; exact Nat.le_of_eq rfl) (hb hby d2_4) (fun _ _ => ⟨rfl, e0, (by decide : 0 + 0 ≤ _), (by decide : 0 + 0 ≤ _)⟩)
  dsimp only [Pt.U, Pt.locs, Pt.cells, Pt.slots] at X2 l2 y2 z2 st2 hQ2
  subst l2 y2 z2
  obtain ⟨rfl, N2q, Q2⟩ := hQ2
  obtain ⟨fs, hr, hrun, hended, hW, hsame⟩ := X2.leave (v := none) (fun _ => rfl)
  refine ⟨_, _, pre0 _ ?_, hrun, hended, _, _, rfl, ?_, ⟨_, rfl⟩, hW, hsame.mono (by decide) (by decide)⟩
  · show Steps p.tables e below (s₁.setTop (mkF m 0 #[.val (.ref a), .val (.ref sq), .val .null] [])) _
    refine XS.aloadN X0.here hx rfl (hb hby d2_0) rfl rfl ?_
    show Steps p.tables e below (s₁.setTop (mkF m 1 #[.val (.ref a), .val (.ref sq), .val .null] [(.ref a)])) _
    refine XS.aloadN X0.here hx rfl (hb hby d2_1) rfl rfl ?_
    show Steps p.tables e below (s₁.setTop (mkF m 2 #[.val (.ref a), .val (.ref sq), .val .null] [(.ref sq), (.ref a)])) _
    refine XS.aloadN X0.here hx rfl (hb hby d2_2) rfl rfl ?_
    show Steps p.tables e below (s₁.setTop (mkF m 3 #[.val (.ref a), .val (.ref sq), .val .null] [.null, (.ref sq), (.ref a)])) _
    refine XS.iconst X0.here hx rfl (hb hby d2_3) ?_
    show Steps p.tables e below (s₁.setTop (mkF m 4 #[.val (.ref a), .val (.ref sq), .val .null] [(.int (0 : Int32)), .null, (.ref sq), (.ref a)])) _
    refine st2.trans ?_
    show Steps p.tables e below (T2.setTop (mkF m 7 #[.val (.ref a), .val (.ref sq), .val .null] [])) _
    exact X2.returnOut hx Bd.returns (hb hby d2_7) hr
  · show own_C Z a sq .null h0 n0 _ T2.heap _
    exact ⟨rfl, Fr.app N0 N2q, Q2⟩
set_option maxRecDepth 65536 in
set_option maxHeartbeats 40000000 in
theorem rm3r (l : Launch) (Z : State) (a0 : Array Value) (hw : ∀ d ∈ tables_1, d.before a0 Z = true) (ws : List Jvm.Cond) (a sq pa : Addr) (u1 u2 u3 : Value) (h0 : Heap) (n0 : Nat) (Ea : Exa Z h0 a "com/example/xquery_rewriter/xqueryrewriter/algebra/Tuple") (F1 : Fld Z h0 a "com/example/xquery_rewriter/xqueryrewriter/algebra/Tuple" "slots" "[Lcom/example/xquery_rewriter/xqueryrewriter/xdm/Sequence;" u1) (F2 : Fld Z h0 a "com/example/xquery_rewriter/xqueryrewriter/algebra/Tuple" "positions" "[I" u2) (F3 : Fld Z h0 a "com/example/xquery_rewriter/xqueryrewriter/algebra/Tuple" "candidate" "Z" u3) (g_a : n0 ≤ a) :
    MetFree l (⟨"com/example/xquery_rewriter/xqueryrewriter/algebra/Tuple", "<init>", "([Lcom/example/xquery_rewriter/xqueryrewriter/xdm/Sequence;[IZ)V"⟩ : MethodName) (head1 (Jvm.Cond.code (⟨"com/example/xquery_rewriter/xqueryrewriter/algebra/Tuple", "<init>", "([Lcom/example/xquery_rewriter/xqueryrewriter/xdm/Sequence;[IZ)V"⟩ : MethodName) prog_139_method_3_code 4 none :: ws) ({ frames := 1, cells := 0, slots := 0, locals := 12 } : Room)) (fun a_ U => a_ = #[(.ref a), (.ref sq), (.ref pa), (.int (0 : Int32))] ∧ Z.Warmed39 U.vm ∧ U.heap = h0) (fun _ _ _ _ _ => True) (fun _ U o U' => ∃ v L, o = .returned v ∧ own_C Z a sq (.ref pa) h0 n0 v U'.heap L ∧ FrameEnd U o U' L ({ frames := 1, cells := 0, slots := 0, locals := 12 } : Room).cells ({ frames := 1, cells := 0, slots := 0, locals := 12 } : Room).slots) := by
  refine MetFree.of_bodySF (plainFor_of_name pnC) hisR ?_
  intro p e s m args below meth c s₁ Bd hml0 hP hK
  obtain ⟨rfl, hZ, hh⟩ := hP
  have hx := Bd.exec
  have hby := Bd.bytes
  have hml : c.maxLocals = 4 := hml0
  have hown : s.vm.findClass "com/example/xquery_rewriter/xqueryrewriter/algebra/Tuple" = some m.cls := findClass_of_methodNamed Bd.named
  have hnm := (name_of_methodNamed Bd.named Bd.method).1
  have X0 : Stand p l e ({ frames := 1, cells := 0, slots := 0, locals := 12 } : Room) s m #[(.ref a), (.ref sq), (.ref pa), (.int (0 : Int32))] below meth c s₁ [] 0 0 := Stand.of_body Bd
  have e0 : s₁.heap = h0 := by rw [← hh, Bd.state]; rfl
  have N0 := Fr.nil n0
  have pre0 : ∀ t, Steps p.tables e below (s₁.setTop (mkF m 0 #[.val (.ref a), .val (.ref sq), .val (.ref pa), .val (.int (0 : Int32))] [])) t → Steps p.tables e below (s₁.setTop (entryFrame m #[(.ref a), (.ref sq), (.ref pa), (.int (0 : Int32))] 4)) t := fun t k => castTop (ef3r m a sq pa 0) k
  obtain ⟨T2, X2, e2, st2⟩ := initO X0 hx hZ hown (hw _ (List.mem_of_getElem? (i := 15) rfl)) (hw _ (List.mem_of_getElem? (i := 16) rfl)) (hw _ (List.mem_of_getElem? (i := 17) rfl)) e0 (g := (mkF m 1 #[.val (.ref a), .val (.ref sq), .val (.ref pa), .val (.int (0 : Int32))] [(.ref a)])) rfl (by rw [hml]; rfl) rfl (hb hby d3_1) (by decide) (W := 0) (by show 2 * 0 + _ ≤ _; exact Nat.le_of_eq rfl) (by decide)
  obtain ⟨T3, h3, X3, e3, W3, st3⟩ := putF X2 hx hZ hown (host := "") (Or.inl (hw _ (List.mem_of_getElem? (i := 18) rfl))) Via.refl e2 F1 Ea (Or.inr ⟨(hw _ (List.mem_of_getElem? (i := 19) rfl)), rfl, hnm⟩) (hw _ (List.mem_of_getElem? (i := 2) rfl)) (ty := (.array (.object "com/example/xquery_rewriter/xqueryrewriter/xdm/Sequence"))) (by decide) rfl rfl (g := (mkF m 6 #[.val (.ref a), .val (.ref sq), .val (.ref pa), .val (.int (0 : Int32))] [(.ref sq), (.ref a)])) rfl rfl (hb hby d3_6)
  obtain ⟨T4, h4, X4, e4, W4, st4⟩ := putF X3 hx hZ hown (host := "") (Or.inl (hw _ (List.mem_of_getElem? (i := 20) rfl))) Via.refl e3 (F2.other W3 (Or.inr (slot_ne (Or.inr (hw _ (List.mem_of_getElem? (i := 21) rfl))) (Or.inr (hw _ (List.mem_of_getElem? (i := 19) rfl))) (by decide) (t := (.array .int)) (t' := (.array (.object "com/example/xquery_rewriter/xqueryrewriter/xdm/Sequence"))) (by decide) (by decide)))) (Ea.wr W3) (Or.inr ⟨(hw _ (List.mem_of_getElem? (i := 21) rfl)), rfl, hnm⟩) (hw _ (List.mem_of_getElem? (i := 2) rfl)) (ty := (.array .int)) (by decide) rfl rfl (g := (mkF m 11 #[.val (.ref a), .val (.ref sq), .val (.ref pa), .val (.int (0 : Int32))] [(.ref pa), (.ref a)])) rfl rfl (hb hby d3_11)
  obtain ⟨T5, h5, X5, e5, W5, st5⟩ := putFN X4 hx hZ hown (hw _ (List.mem_of_getElem? (i := 22) rfl)) Via.refl e4 ((F3.other W3 (Or.inr (slot_ne (Or.inr (hw _ (List.mem_of_getElem? (i := 23) rfl))) (Or.inr (hw _ (List.mem_of_getElem? (i := 19) rfl))) (by decide) (t := .boolean) (t' := (.array (.object "com/example/xquery_rewriter/xqueryrewriter/xdm/Sequence"))) (by decide) (by decide)))).other W4 (Or.inr (slot_ne (Or.inr (hw _ (List.mem_of_getElem? (i := 23) rfl))) (Or.inr (hw _ (List.mem_of_getElem? (i := 21) rfl))) (by decide) (t := .boolean) (t' := (.array .int)) (by decide) (by decide)))) ((Ea.wr W3).wr W4) (Or.inr ⟨(hw _ (List.mem_of_getElem? (i := 23) rfl)), rfl, hnm⟩) (hw _ (List.mem_of_getElem? (i := 2) rfl)) (ty := .boolean) (v' := (.int (0 : Int32))) (by decide) rfl (by decide) (g := (mkF m 16 #[.val (.ref a), .val (.ref sq), .val (.ref pa), .val (.int (0 : Int32))] [(.int (0 : Int32)), (.ref a)])) rfl rfl (hb hby d3_16)
  obtain ⟨fs, hr, hrun, hended, hW, hsame⟩ := X5.leave (v := none) (fun _ => rfl)
  refine ⟨_, _, pre0 _ ?_, hrun, hended, _, _, rfl, ?_, ⟨_, rfl⟩, hW, hsame.mono (by decide) (by decide)⟩
  · show Steps p.tables e below (s₁.setTop (mkF m 0 #[.val (.ref a), .val (.ref sq), .val (.ref pa), .val (.int (0 : Int32))] [])) _
    refine XS.aloadN X0.here hx rfl (hb hby d3_0) rfl rfl ?_
    show Steps p.tables e below (s₁.setTop (mkF m 1 #[.val (.ref a), .val (.ref sq), .val (.ref pa), .val (.int (0 : Int32))] [(.ref a)])) _
    refine st2 _ ?_
    show Steps p.tables e below (T2.setTop (mkF m 4 #[.val (.ref a), .val (.ref sq), .val (.ref pa), .val (.int (0 : Int32))] [])) _
    refine XS.aloadN X2.here hx rfl (hb hby d3_4) rfl rfl ?_
    show Steps p.tables e below (T2.setTop (mkF m 5 #[.val (.ref a), .val (.ref sq), .val (.ref pa), .val (.int (0 : Int32))] [(.ref a)])) _
    refine XS.aloadN X2.here hx rfl (hb hby d3_5) rfl rfl ?_
    show Steps p.tables e below (T2.setTop (mkF m 6 #[.val (.ref a), .val (.ref sq), .val (.ref pa), .val (.int (0 : Int32))] [(.ref sq), (.ref a)])) _
    refine st3 _ ?_
    show Steps p.tables e below (T3.setTop (mkF m 9 #[.val (.ref a), .val (.ref sq), .val (.ref pa), .val (.int (0 : Int32))] [])) _
    refine XS.aloadN X3.here hx rfl (hb hby d3_9) rfl rfl ?_
    show Steps p.tables e below (T3.setTop (mkF m 10 #[.val (.ref a), .val (.ref sq), .val (.ref pa), .val (.int (0 : Int32))] [(.ref a)])) _
    refine XS.aloadN X3.here hx rfl (hb hby d3_10) rfl rfl ?_
    show Steps p.tables e below (T3.setTop (mkF m 11 #[.val (.ref a), .val (.ref sq), .val (.ref pa), .val (.int (0 : Int32))] [(.ref pa), (.ref a)])) _
    refine st4 _ ?_
    show Steps p.tables e below (T4.setTop (mkF m 14 #[.val (.ref a), .val (.ref sq), .val (.ref pa), .val (.int (0 : Int32))] [])) _
    refine XS.aloadN X4.here hx rfl (hb hby d3_14) rfl rfl ?_
    show Steps p.tables e below (T4.setTop (mkF m 15 #[.val (.ref a), .val (.ref sq), .val (.ref pa), .val (.int (0 : Int32))] [(.ref a)])) _
    refine XS.iloadN X4.here hx rfl (hb hby d3_15) rfl ?_
    show Steps p.tables e below (T4.setTop (mkF m 16 #[.val (.ref a), .val (.ref sq), .val (.ref pa), .val (.int (0 : Int32))] [(.int (0 : Int32)), (.ref a)])) _
    refine st5 _ ?_
    show Steps p.tables e below (T5.setTop (mkF m 19 #[.val (.ref a), .val (.ref sq), .val (.ref pa), .val (.int (0 : Int32))] [])) _
    exact X5.returnOut hx Bd.returns (hb hby d3_19) hr
  · show own_C Z a sq (.ref pa) h0 n0 _ T5.heap _
    rw [e5]
    exact ⟨rfl, Fr.snoc X5 (Fr.snoc X4 (Fr.snoc X3 N0 g_a) g_a) g_a, (((Keep.refl h0 [a]).wr W3 (Or.inl (by simp))).wr W4 (Or.inl (by simp))).wr W5 (Or.inl (by simp)), ((Ea.wr W3).wr W4).wr W5, (((F1.same W3).other W4 (Or.inr (slot_ne (Or.inr (hw _ (List.mem_of_getElem? (i := 19) rfl))) (Or.inr (hw _ (List.mem_of_getElem? (i := 21) rfl))) (by decide) (t := (.array (.object "com/example/xquery_rewriter/xqueryrewriter/xdm/Sequence"))) (t' := (.array .int)) (by decide) (by decide)))).other W5 (Or.inr (slot_ne (Or.inr (hw _ (List.mem_of_getElem? (i := 19) rfl))) (Or.inr (hw _ (List.mem_of_getElem? (i := 23) rfl))) (by decide) (t := (.array (.object "com/example/xquery_rewriter/xqueryrewriter/xdm/Sequence"))) (t' := .boolean) (by decide) (by decide)))), (((F2.other W3 (Or.inr (slot_ne (Or.inr (hw _ (List.mem_of_getElem? (i := 21) rfl))) (Or.inr (hw _ (List.mem_of_getElem? (i := 19) rfl))) (by decide) (t := (.array .int)) (t' := (.array (.object "com/example/xquery_rewriter/xqueryrewriter/xdm/Sequence"))) (by decide) (by decide)))).same W4).other W5 (Or.inr (slot_ne (Or.inr (hw _ (List.mem_of_getElem? (i := 21) rfl))) (Or.inr (hw _ (List.mem_of_getElem? (i := 23) rfl))) (by decide) (t := (.array .int)) (t' := .boolean) (by decide) (by decide))))⟩
set_option maxRecDepth 65536 in
set_option maxHeartbeats 40000000 in
theorem rm2r (l : Launch) (Z : State) (a0 : Array Value) (hw : ∀ d ∈ tables_1, d.before a0 Z = true) (ws : List Jvm.Cond) (a sq pa : Addr) (u1 u2 u3 : Value) (h0 : Heap) (n0 : Nat) (Ea : Exa Z h0 a "com/example/xquery_rewriter/xqueryrewriter/algebra/Tuple") (F1 : Fld Z h0 a "com/example/xquery_rewriter/xqueryrewriter/algebra/Tuple" "slots" "[Lcom/example/xquery_rewriter/xqueryrewriter/xdm/Sequence;" u1) (F2 : Fld Z h0 a "com/example/xquery_rewriter/xqueryrewriter/algebra/Tuple" "positions" "[I" u2) (F3 : Fld Z h0 a "com/example/xquery_rewriter/xqueryrewriter/algebra/Tuple" "candidate" "Z" u3) (g_a : n0 ≤ a) :
    MetFree l (⟨"com/example/xquery_rewriter/xqueryrewriter/algebra/Tuple", "<init>", "([Lcom/example/xquery_rewriter/xqueryrewriter/xdm/Sequence;[I)V"⟩ : MethodName) (head1 (Jvm.Cond.code (⟨"com/example/xquery_rewriter/xqueryrewriter/algebra/Tuple", "<init>", "([Lcom/example/xquery_rewriter/xqueryrewriter/xdm/Sequence;[I)V"⟩ : MethodName) prog_139_method_2_code 3 none :: ws) ({ frames := 2, cells := 0, slots := 0, locals := 27 } : Room)) (fun a_ U => a_ = #[(.ref a), (.ref sq), (.ref pa)] ∧ Z.Warmed39 U.vm ∧ U.heap = h0) (fun _ _ _ _ _ => True) (fun _ U o U' => ∃ v L, o = .returned v ∧ own_C Z a sq (.ref pa) h0 n0 v U'.heap L ∧ FrameEnd U o U' L ({ frames := 2, cells := 0, slots := 0, locals := 27 } : Room).cells ({ frames := 2, cells := 0, slots := 0, locals := 27 } : Room).slots) := by
  refine MetFree.of_bodySF (plainFor_of_name pnC) hisR ?_
  intro p e s m args below meth c s₁ Bd hml0 hP hK
  obtain ⟨rfl, hZ, hh⟩ := hP
  have hx := Bd.exec
  have hby := Bd.bytes
  have hml : c.maxLocals = 3 := hml0
  have hown : s.vm.findClass "com/example/xquery_rewriter/xqueryrewriter/algebra/Tuple" = some m.cls := findClass_of_methodNamed Bd.named
  have hnm := (name_of_methodNamed Bd.named Bd.method).1
  have X0 : Stand p l e ({ frames := 2, cells := 0, slots := 0, locals := 27 } : Room) s m #[(.ref a), (.ref sq), (.ref pa)] below meth c s₁ [] 0 0 := Stand.of_body Bd
  have e0 : s₁.heap = h0 := by rw [← hh, Bd.state]; rfl
  have N0 := Fr.nil n0
  have pre0 : ∀ t, Steps p.tables e below (s₁.setTop (mkF m 0 #[.val (.ref a), .val (.ref sq), .val (.ref pa)] [])) t → Steps p.tables e below (s₁.setTop (entryFrame m #[(.ref a), (.ref sq), (.ref pa)] 3)) t := fun t k => castTop (ef2r m a sq pa) k
  obtain ⟨_, _, ⟨T2, L2, k2, n2⟩, -, X2, ⟨Lc2, hQ2, l2, y2, z2⟩, st2⟩ := X0.specialBack hx (y := (⟨"com/example/xquery_rewriter/xqueryrewriter/algebra/Tuple", "<init>", "([Lcom/example/xquery_rewriter/xqueryrewriter/xdm/Sequence;[IZ)V"⟩ : MethodName)) rfl hown (mvT hZ (hw _ (List.mem_of_getElem? (i := 12) rfl))) (mvT hZ (hw _ (List.mem_of_getElem? (i := 13) rfl))) (mvT hZ (hw _ (List.mem_of_getElem? (i := 14) rfl))) (by decide) (backOf (W := 0) (rm3r l Z a0 hw [] a sq pa u1 u2 u3 h0 n0 Ea F1 F2 F3 g_a) hZ (hw _ (List.mem_of_getElem? (i := 14) rfl)) (hw _ (List.mem_of_getElem? (i := 3) rfl)) (by decide) (by decide)) (g := (mkF m 4 #[.val (.ref a), .val (.ref sq), .val (.ref pa)] [(.int (0 : Int32)), (.ref pa), (.ref sq), (.ref a)])) rfl (by rw [hml]; rfl) (Steps.refl _) (a := a) (argsL := [(.ref sq), (.ref pa), (.int (0 : Int32))]) (rest := []) (lenOf pd3 rfl) rfl (by show 2 * 0 + _ ≤ _; exact Nat.le_of_eq rfl) (hb hby d2_4) (fun _ _ => ⟨rfl, e0, (by decide : 0 + 0 ≤ _), (by decide : 0 + 0 ≤ _)⟩)
  dsimp only [Pt.U, Pt.locs, Pt.cells, Pt.slots] at X2 l2 y2 z2 st2 hQ2
  subst l2 y2 z2
  obtain ⟨rfl, N2q, Q2⟩ := hQ2
  obtain ⟨fs, hr, hrun, hended, hW, hsame⟩ := X2.leave (v := none) (fun _ => rfl)
  refine ⟨_, _, pre0 _ ?_, hrun, hended, _, _, rfl, ?_, ⟨_, rfl⟩, hW, hsame.mono (by decide) (by decide)⟩
  · show Steps p.tables e below (s₁.setTop (mkF m 0 #[.val (.ref a), .val (.ref sq), .val (.ref pa)] [])) _
    refine XS.aloadN X0.here hx rfl (hb hby d2_0) rfl rfl ?_
    show Steps p.tables e below (s₁.setTop (mkF m 1 #[.val (.ref a), .val (.ref sq), .val (.ref pa)] [(.ref a)])) _
    refine XS.aloadN X0.here hx rfl (hb hby d2_1) rfl rfl ?_
    show Steps p.tables e below (s₁.setTop (mkF m 2 #[.val (.ref a), .val (.ref sq), .val (.ref pa)] [(.ref sq), (.ref a)])) _
    refine XS.aloadN X0.here hx rfl (hb hby d2_2) rfl rfl ?_
    show Steps p.tables e below (s₁.setTop (mkF m 3 #[.val (.ref a), .val (.ref sq), .val (.ref pa)] [(.ref pa), (.ref sq), (.ref a)])) _
    refine XS.iconst X0.here hx rfl (hb hby d2_3) ?_
    show Steps p.tables e below (s₁.setTop (mkF m 4 #[.val (.ref a), .val (.ref sq), .val (.ref pa)] [(.int (0 : Int32)), (.ref pa), (.ref sq), (.ref a)])) _
    refine st2.trans ?_
    show Steps p.tables e below (T2.setTop (mkF m 7 #[.val (.ref a), .val (.ref sq), .val (.ref pa)] [])) _
    exact X2.returnOut hx Bd.returns (hb hby d2_7) hr
  · show own_C Z a sq (.ref pa) h0 n0 _ T2.heap _
    exact ⟨rfl, Fr.app N0 N2q, Q2⟩
def own_C1 (Z : State) (a : Addr) (h0 : Heap) (n0 : Nat) (v : Option Value) (h : Heap) (L : List Loc) : Prop := v = none ∧ Fr n0 L ∧ Keep h0 h [a] ∧ Exa Z h a "com/example/xquery_rewriter/xqueryrewriter/algebra/Tuple" ∧ ∃ sq, Fld Z h a "com/example/xquery_rewriter/xqueryrewriter/algebra/Tuple" "slots" "[Lcom/example/xquery_rewriter/xqueryrewriter/xdm/Sequence;" (.ref sq) ∧ Fld Z h a "com/example/xquery_rewriter/xqueryrewriter/algebra/Tuple" "positions" "[I" .null
set_option maxRecDepth 65536 in
set_option maxHeartbeats 40000000 in
theorem rm1 (l : Launch) (Z : State) (a0 : Array Value) (hw : ∀ d ∈ tables_1, d.before a0 Z = true) (ws : List Jvm.Cond) (a : Addr) (u1 u2 u3 : Value) (h0 : Heap) (n0 : Nat) (Ea : Exa Z h0 a "com/example/xquery_rewriter/xqueryrewriter/algebra/Tuple") (F1 : Fld Z h0 a "com/example/xquery_rewriter/xqueryrewriter/algebra/Tuple" "slots" "[Lcom/example/xquery_rewriter/xqueryrewriter/xdm/Sequence;" u1) (F2 : Fld Z h0 a "com/example/xquery_rewriter/xqueryrewriter/algebra/Tuple" "positions" "[I" u2) (F3 : Fld Z h0 a "com/example/xquery_rewriter/xqueryrewriter/algebra/Tuple" "candidate" "Z" u3) (g_a : n0 ≤ a) :
    MetFree l (⟨"com/example/xquery_rewriter/xqueryrewriter/algebra/Tuple", "<init>", "(I)V"⟩ : MethodName) (head1 (Jvm.Cond.code (⟨"com/example/xquery_rewriter/xqueryrewriter/algebra/Tuple", "<init>", "(I)V"⟩ : MethodName) prog_139_method_1_code 2 none :: ws) ({ frames := 3, cells := 1, slots := 1, locals := 41 } : Room)) (fun a_ U => a_ = #[(.ref a), (.int (1 : Int32))] ∧ Z.Warmed39 U.vm ∧ U.heap = h0) (fun _ _ _ _ _ => True) (fun _ U o U' => ∃ v L, o = .returned v ∧ own_C1 Z a h0 n0 v U'.heap L ∧ FrameEnd U o U' L ({ frames := 3, cells := 1, slots := 1, locals := 41 } : Room).cells ({ frames := 3, cells := 1, slots := 1, locals := 41 } : Room).slots) := by
  refine MetFree.of_bodySF (plainFor_of_name pnC) hisR ?_
  intro p e s m args below meth c s₁ Bd hml0 hP hK
  obtain ⟨rfl, hZ, hh⟩ := hP
  have hx := Bd.exec
  have hby := Bd.bytes
  have hml : c.maxLocals = 2 := hml0
  have hown : s.vm.findClass "com/example/xquery_rewriter/xqueryrewriter/algebra/Tuple" = some m.cls := findClass_of_methodNamed Bd.named
  have hnm := (name_of_methodNamed Bd.named Bd.method).1
  have X0 : Stand p l e ({ frames := 3, cells := 1, slots := 1, locals := 41 } : Room) s m #[(.ref a), (.int (1 : Int32))] below meth c s₁ [] 0 0 := Stand.of_body Bd
  have e0 : s₁.heap = h0 := by rw [← hh, Bd.state]; rfl
  have N0 := Fr.nil n0
  have pre0 : ∀ t, Steps p.tables e below (s₁.setTop (mkF m 0 #[.val (.ref a), .val (.int (1 : Int32))] [])) t → Steps p.tables e below (s₁.setTop (entryFrame m #[(.ref a), (.int (1 : Int32))] 2)) t := fun t k => castTop (ef1 m a 1) k
  obtain ⟨T2, h2, k2, X2, e2, E2, A2, O2, st2⟩ := newR X0 hx hZ hown (hw _ (List.mem_of_getElem? (i := 7) rfl)) (hw _ (List.mem_of_getElem? (i := 8) rfl)) e0 (g := (mkF m 2 #[.val (.ref a), .val (.int (1 : Int32))] [(.int (1 : Int32)), (.ref a)])) rfl (hb hby d1_2) rfl (by decide) (cap := 1) (by decide) (by decide) (by decide) (by decide)
  obtain ⟨b2, g2⟩ : ∃ z, z = h0.size := ⟨_, rfl⟩
  rw [← g2] at A2 st2
  obtain ⟨_, _, ⟨T3, L3, k3, n3⟩, -, X3, ⟨Lc3, hQ3, l3, y3, z3⟩, st3⟩ := X2.specialBack hx (y := (⟨"com/example/xquery_rewriter/xqueryrewriter/algebra/Tuple", "<init>", "([Lcom/example/xquery_rewriter/xqueryrewriter/xdm/Sequence;[I)V"⟩ : MethodName)) rfl hown (mvT hZ (hw _ (List.mem_of_getElem? (i := 9) rfl))) (mvT hZ (hw _ (List.mem_of_getElem? (i := 10) rfl))) (mvT hZ (hw _ (List.mem_of_getElem? (i := 11) rfl))) (by decide) (backOf (W := 0) (rm2n l Z a0 hw [] a b2 u1 u2 u3 h2 n0 (Ea.ext E2) (F1.ext E2) (F2.ext E2) (F3.ext E2) g_a) hZ (hw _ (List.mem_of_getElem? (i := 11) rfl)) (hw _ (List.mem_of_getElem? (i := 3) rfl)) (by decide) (by decide)) (g := (mkF m 6 #[.val (.ref a), .val (.int (1 : Int32))] [.null, (.ref b2), (.ref a)])) rfl (by rw [hml]; rfl) (Steps.refl _) (a := a) (argsL := [(.ref b2), .null]) (rest := []) (lenOf pd2 rfl) rfl (by show 2 * 0 + _ ≤ _; exact Nat.le_of_eq rfl) (hb hby d1_6) (fun _ _ => ⟨rfl, e2, (by decide : 1 + 0 ≤ _), (by decide : 1 + 0 ≤ _)⟩)
  dsimp only [Pt.U, Pt.locs, Pt.cells, Pt.slots] at X3 l3 y3 z3 st3 hQ3
  subst l3 y3 z3
  obtain ⟨rfl, N3q, K3, Ex3, Fs3, Fp3⟩ := hQ3
  obtain ⟨fs, hr, hrun, hended, hW, hsame⟩ := X3.leave (v := none) (fun _ => rfl)
  refine ⟨_, _, pre0 _ ?_, hrun, hended, _, _, rfl, ?_, ⟨_, rfl⟩, hW, hsame.mono (by decide) (by decide)⟩
  · show Steps p.tables e below (s₁.setTop (mkF m 0 #[.val (.ref a), .val (.int (1 : Int32))] [])) _
    refine XS.aloadN X0.here hx rfl (hb hby d1_0) rfl rfl ?_
    show Steps p.tables e below (s₁.setTop (mkF m 1 #[.val (.ref a), .val (.int (1 : Int32))] [(.ref a)])) _
    refine XS.iloadN X0.here hx rfl (hb hby d1_1) rfl ?_
    show Steps p.tables e below (s₁.setTop (mkF m 2 #[.val (.ref a), .val (.int (1 : Int32))] [(.int (1 : Int32)), (.ref a)])) _
    refine st2 _ ?_
    show Steps p.tables e below (T2.setTop (mkF m 5 #[.val (.ref a), .val (.int (1 : Int32))] [(.ref b2), (.ref a)])) _
    refine XS.aconstNull X2.here hx rfl (hb hby d1_5) ?_
    show Steps p.tables e below (T2.setTop (mkF m 6 #[.val (.ref a), .val (.int (1 : Int32))] [.null, (.ref b2), (.ref a)])) _
    refine st3.trans ?_
    show Steps p.tables e below (T3.setTop (mkF m 9 #[.val (.ref a), .val (.int (1 : Int32))] [])) _
    exact X3.returnOut hx Bd.returns (hb hby d1_9) hr
  · show own_C1 Z a h0 n0 _ T3.heap _
    exact ⟨rfl, Fr.app N0 N3q, ((Keep.refl h0 [a]).ext E2).trans K3 (fun y hy => Or.inl hy), Ex3, b2, Fs3, Fp3⟩
def own_mx (a b : Int32) : Int32 := if a < b then b else a
def QX (Z : State) (p1 p2 : Int32) (h0 : Heap) (n0 : Nat) (v : Option Value) (h : Heap) (L : List Loc) : Prop := v = some (.int (own_mx p1 p2)) ∧ Fr n0 L ∧ h = h0
set_option maxRecDepth 65536 in
set_option maxHeartbeats 40000000 in
theorem rmX (l : Launch) (Z : State) (a0 : Array Value) (hw : ∀ d ∈ tables_1, d.before a0 Z = true) (ws : List Jvm.Cond) (p1 p2 : Int32) (h0 : Heap) (n0 : Nat) :
    MetFree l (⟨"java/lang/Math", "max", "(II)I"⟩ : MethodName) (head1 (Jvm.Cond.code (⟨"java/lang/Math", "max", "(II)I"⟩ : MethodName) jdk_29_method_65_code 2 (some .int) :: ws) ({ frames := 0, cells := 0, slots := 0, locals := 0 } : Room)) (fun a_ U => a_ = #[(.int p1), (.int p2)] ∧ Z.Warmed39 U.vm ∧ U.heap = h0) (fun _ _ _ _ _ => True) (fun _ U o U' => ∃ v L, o = .returned v ∧ QX Z p1 p2 h0 n0 v U'.heap L ∧ FrameEnd U o U' L ({ frames := 0, cells := 0, slots := 0, locals := 0 } : Room).cells ({ frames := 0, cells := 0, slots := 0, locals := 0 } : Room).slots) := by
  refine MetFree.of_bodySF (Jvm.Free.JP.mathPlain rfl (by decide +kernel)) hisR ?_
  intro p e s m args below meth c s₁ Bd hml0 hP hK
  obtain ⟨rfl, hZ, hh⟩ := hP
  have hx := Bd.exec
  have hby := Bd.bytes
  have hml : c.maxLocals = 2 := hml0
  have hown : s.vm.findClass "java/lang/Math" = some m.cls := findClass_of_methodNamed Bd.named
  have hnm := (name_of_methodNamed Bd.named Bd.method).1
  have X0 : Stand p l e ({ frames := 0, cells := 0, slots := 0, locals := 0 } : Room) s m #[(.int p1), (.int p2)] below meth c s₁ [] 0 0 := Stand.of_body Bd
  have e0 : s₁.heap = h0 := by rw [← hh, Bd.state]; rfl
  have N0 := Fr.nil n0
  have pre0 : ∀ t, Steps p.tables e below (s₁.setTop (mkF m 0 #[.val (.int p1), .val (.int p2)] [])) t → Steps p.tables e below (s₁.setTop (entryFrame m #[(.int p1), (.int p2)] 2)) t := fun t k => castTop (efX m p1 p2) k
  by_cases hc : p1 < p2
  · obtain ⟨fs, hr, hrun, hended, hW, hsame⟩ := X0.leave (v := some (.int p2)) (fun h => by rw [Bd.returns] at h; cases h)
    refine ⟨_, _, pre0 _ ?_, hrun, hended, _, _, rfl, ?_, ⟨_, rfl⟩, hW, hsame.mono (by decide) (by decide)⟩
    · show Steps p.tables e below (s₁.setTop (mkF m 0 #[.val (.int p1), .val (.int p2)] [])) _
      refine XS.iloadN X0.here hx rfl (hb hby dX_0) rfl ?_
      show Steps p.tables e below (s₁.setTop (mkF m 1 #[.val (.int p1), .val (.int p2)] [(.int p1)])) _
      refine XS.iloadN X0.here hx rfl (hb hby dX_1) rfl ?_
      show Steps p.tables e below (s₁.setTop (mkF m 2 #[.val (.int p1), .val (.int p2)] [(.int p2), (.int p1)])) _
      refine XS.icmpYes X0.here hx rfl (pc0 := 2) (pc' := 9) rfl (hb hby dX_2) rfl (tlt hc).1 (by decide) (by decide) ?_
      show Steps p.tables e below (s₁.setTop (mkF m 9 #[.val (.int p1), .val (.int p2)] [])) _
      refine XS.iloadN X0.here hx rfl (hb hby dX_9) rfl ?_
      show Steps p.tables e below (s₁.setTop (mkF m 10 #[.val (.int p1), .val (.int p2)] [(.int p2)])) _
      exact retI X0 hx Bd.returns (hb hby dX_10) hr
    · show QX Z p1 p2 h0 n0 _ s₁.heap _
      rw [e0]
      exact ⟨by rw [own_mx, if_pos hc], N0, rfl⟩
  · obtain ⟨fs, hr, hrun, hended, hW, hsame⟩ := X0.leave (v := some (.int p1)) (fun h => by rw [Bd.returns] at h; cases h)
    refine ⟨_, _, pre0 _ ?_, hrun, hended, _, _, rfl, ?_, ⟨_, rfl⟩, hW, hsame.mono (by decide) (by decide)⟩
    · show Steps p.tables e below (s₁.setTop (mkF m 0 #[.val (.int p1), .val (.int p2)] [])) _
      refine XS.iloadN X0.here hx rfl (hb hby dX_0) rfl ?_
      show Steps p.tables e below (s₁.setTop (mkF m 1 #[.val (.int p1), .val (.int p2)] [(.int p1)])) _
      refine XS.iloadN X0.here hx rfl (hb hby dX_1) rfl ?_
      show Steps p.tables e below (s₁.setTop (mkF m 2 #[.val (.int p1), .val (.int p2)] [(.int p2), (.int p1)])) _
      refine XS.icmpNo X0.here hx rfl (hb hby dX_2) rfl (flt hc).1 ?_
      show Steps p.tables e below (s₁.setTop (mkF m 5 #[.val (.int p1), .val (.int p2)] [])) _
      refine XS.iloadN X0.here hx rfl (hb hby dX_5) rfl ?_
      show Steps p.tables e below (s₁.setTop (mkF m 6 #[.val (.int p1), .val (.int p2)] [(.int p1)])) _
      refine XS.goto X0.here hx rfl (pc0 := 6) (pc' := 10) rfl (hb hby dX_6) (by decide) (by decide) ?_
      show Steps p.tables e below (s₁.setTop (mkF m 10 #[.val (.int p1), .val (.int p2)] [(.int p1)])) _
      exact retI X0 hx Bd.returns (hb hby dX_10) hr
    · show QX Z p1 p2 h0 n0 _ s₁.heap _
      rw [e0]
      exact ⟨by rw [own_mx, if_neg hc], N0, rfl⟩
/-! what the bodies compute -/
def pf (f : Nat → Int32) (sl : Int32) : Nat → Nat → Nat
  | 0, i => i
  | j + 1, i => if f i = sl then i else pf f sl j (i + 2)
theorem pf_ok (f : Nat → Int32) (sl : Int32) : ∀ j i, pf f sl j i = i + 2 * j ∨ pf f sl j i + 2 ≤ i + 2 * j
  | 0, i => Or.inl rfl
  | j + 1, i => by
    unfold pf
    split
    · exact Or.inr (by omega)
    · rcases pf_ok f sl j (i + 2) with h | h
      · exact Or.inl (by omega)
      · exact Or.inr (by omega)
def pwK (sl : Int32) (k : Nat) (f : Nat → Int32) : Nat := if pf f sl k 0 = 2 * k then k + 1 else k
def pwF (sl po : Int32) (k : Nat) (f : Nat → Int32) : Nat → Int32 := own_upd (own_upd (fun j => if j < 2 * k then f j else 0) (pf f sl k 0) sl) (pf f sl k 0 + 1) po
theorem own_add2 (k : Nat) : Int32.ofNat k + 2 = Int32.ofNat (k + 2) := (Int32.ofNat_add k 2).symm
def own_PV (Z : State) (h : Heap) (v : Value) (k : Nat) (f : Nat → Int32) : Prop := (v = .null ∧ k = 0) ∨ ∃ a, v = .ref a ∧ 0 < k ∧ own_IA Z h a (2 * k) f
theorem own_PV.keep {Z : State} {h h' : Heap} {v : Value} {k : Nat} {f : Nat → Int32} (P : own_PV Z h v k f) (K : Keep h h' []) : own_PV Z h' v k f := by
  rcases P with P | ⟨a, h1, h2, h3⟩
  · exact Or.inl P
  · exact Or.inr ⟨a, h1, h2, h3.keep K nin0⟩
section WpLoop
variable {p : Program} {l : Launch} {e : Env} {R : Room} {s : State} {m : MethodId} {args : Array Value} {below : List Frame} {meth : Method} {c : Code} {T : State} {locs : List Loc} {cells slots : Nat} {Z : State} {a0 : Array Value} {n0 : Nat}
set_option maxRecDepth 65536 in
set_option maxHeartbeats 40000000 in
theorem wploop (X : Stand p l e R s m args below meth c T locs cells slots) (hx : p.tables.exec = Jvm.exec) (hby : c.code = prog_139_method_16_code) (hZ : Z.Warmed39 s.vm) {h : Heap} (eT : T.heap = h) {pa : Addr} {sl po : Int32} {k : Nat} {f : Nat → Int32} (F : own_IA Z h pa (2 * k) f) :
    ∀ (j i : Nat), i + 2 * j = 2 * k → ∃ z : Int32, ∀ t, Steps p.tables e below (T.setTop (mkF m 37 #[.val (.ref pa), .val (.int sl), .val (.int po), .val (.int (Int32.ofNat (pf f sl j i))), .val (.int z)] [])) t → Steps p.tables e below (T.setTop (mkF m 14 #[.val (.ref pa), .val (.int sl), .val (.int po), .val (.int (Int32.ofNat (2 * k))), .val (.int (Int32.ofNat i))] [])) t := by
  have hk := F.1
  intro j
  induction j with
  | zero =>
    intro i hi
    have hi' : 2 * k = i := by omega
    have h17 : ¬ (Int32.ofNat i < Int32.ofNat (2 * k)) := by rw [own_lt (by omega) (by omega)]; omega
    refine ⟨Int32.ofNat i, fun t kk => ?_⟩
    show Steps p.tables e below (T.setTop (mkF m 14 #[.val (.ref pa), .val (.int sl), .val (.int po), .val (.int (Int32.ofNat (2 * k))), .val (.int (Int32.ofNat i))] [])) _
    refine XS.iload X.here hx rfl (hb hby dP_14) rfl ?_
    show Steps p.tables e below (T.setTop (mkF m 16 #[.val (.ref pa), .val (.int sl), .val (.int po), .val (.int (Int32.ofNat (2 * k))), .val (.int (Int32.ofNat i))] [(.int (Int32.ofNat i))])) _
    refine XS.iloadN X.here hx rfl (hb hby dP_16) rfl ?_
    show Steps p.tables e below (T.setTop (mkF m 17 #[.val (.ref pa), .val (.int sl), .val (.int po), .val (.int (Int32.ofNat (2 * k))), .val (.int (Int32.ofNat i))] [(.int (Int32.ofNat (2 * k))), (.int (Int32.ofNat i))])) _
    refine XS.icmpYes X.here hx rfl (pc0 := 17) (pc' := 37) rfl (hb hby dP_17) rfl (flt h17).2.1 (by decide) (by decide) ?_
    rw [pf] at kk
    show Steps p.tables e below (T.setTop (mkF m 37 #[.val (.ref pa), .val (.int sl), .val (.int po), .val (.int (Int32.ofNat (2 * k))), .val (.int (Int32.ofNat i))] [])) _
    rw [hi']
    exact kk
  | succ j ih =>
    intro i hi
    have h17 : Int32.ofNat i < Int32.ofNat (2 * k) := by rw [own_lt (by omega) (by omega)]; omega
    by_cases hc : f i = sl
    · have h17b : ¬ (Int32.ofNat i + (2 : Int32) < Int32.ofNat i) := by rw [own_add2, own_lt (by omega) (by omega)]; omega
      refine ⟨Int32.ofNat i + (2 : Int32), fun t kk => ?_⟩
      rw [pf, if_pos hc] at kk
      show Steps p.tables e below (T.setTop (mkF m 14 #[.val (.ref pa), .val (.int sl), .val (.int po), .val (.int (Int32.ofNat (2 * k))), .val (.int (Int32.ofNat i))] [])) _
      refine XS.iload X.here hx rfl (hb hby dP_14) rfl ?_
      show Steps p.tables e below (T.setTop (mkF m 16 #[.val (.ref pa), .val (.int sl), .val (.int po), .val (.int (Int32.ofNat (2 * k))), .val (.int (Int32.ofNat i))] [(.int (Int32.ofNat i))])) _
      refine XS.iloadN X.here hx rfl (hb hby dP_16) rfl ?_
      show Steps p.tables e below (T.setTop (mkF m 17 #[.val (.ref pa), .val (.int sl), .val (.int po), .val (.int (Int32.ofNat (2 * k))), .val (.int (Int32.ofNat i))] [(.int (Int32.ofNat (2 * k))), (.int (Int32.ofNat i))])) _
      refine XS.icmpNo X.here hx rfl (hb hby dP_17) rfl (tlt h17).2.1 ?_
      show Steps p.tables e below (T.setTop (mkF m 20 #[.val (.ref pa), .val (.int sl), .val (.int po), .val (.int (Int32.ofNat (2 * k))), .val (.int (Int32.ofNat i))] [])) _
      refine XS.aloadN X.here hx rfl (hb hby dP_20) rfl rfl ?_
      show Steps p.tables e below (T.setTop (mkF m 21 #[.val (.ref pa), .val (.int sl), .val (.int po), .val (.int (Int32.ofNat (2 * k))), .val (.int (Int32.ofNat i))] [(.ref pa)])) _
      refine XS.iload X.here hx rfl (hb hby dP_21) rfl ?_
      show Steps p.tables e below (T.setTop (mkF m 23 #[.val (.ref pa), .val (.int sl), .val (.int po), .val (.int (Int32.ofNat (2 * k))), .val (.int (Int32.ofNat i))] [(.int (Int32.ofNat i)), (.ref pa)])) _
      refine F.ld X hx hZ eT (i := i) rfl (by omega) (g := (mkF m 23 #[.val (.ref pa), .val (.int sl), .val (.int po), .val (.int (Int32.ofNat (2 * k))), .val (.int (Int32.ofNat i))] [(.int (Int32.ofNat i)), (.ref pa)])) rfl rfl (hb hby dP_23) _ ?_
      show Steps p.tables e below (T.setTop (mkF m 24 #[.val (.ref pa), .val (.int sl), .val (.int po), .val (.int (Int32.ofNat (2 * k))), .val (.int (Int32.ofNat i))] [(.int (f i))])) _
      refine XS.iloadN X.here hx rfl (hb hby dP_24) rfl ?_
      show Steps p.tables e below (T.setTop (mkF m 25 #[.val (.ref pa), .val (.int sl), .val (.int po), .val (.int (Int32.ofNat (2 * k))), .val (.int (Int32.ofNat i))] [(.int sl), (.int (f i))])) _
      refine XS.icmpNo X.here hx rfl (hb hby dP_25) rfl (teq hc).2 ?_
      show Steps p.tables e below (T.setTop (mkF m 28 #[.val (.ref pa), .val (.int sl), .val (.int po), .val (.int (Int32.ofNat (2 * k))), .val (.int (Int32.ofNat i))] [])) _
      refine XS.iload X.here hx rfl (hb hby dP_28) rfl ?_
      show Steps p.tables e below (T.setTop (mkF m 30 #[.val (.ref pa), .val (.int sl), .val (.int po), .val (.int (Int32.ofNat (2 * k))), .val (.int (Int32.ofNat i))] [(.int (Int32.ofNat i))])) _
      refine XS.istoreN X.here hx rfl (hb hby dP_30) rfl (l' := #[.val (.ref pa), .val (.int sl), .val (.int po), .val (.int (Int32.ofNat i)), .val (.int (Int32.ofNat i))]) rfl ?_
      show Steps p.tables e below (T.setTop (mkF m 31 #[.val (.ref pa), .val (.int sl), .val (.int po), .val (.int (Int32.ofNat i)), .val (.int (Int32.ofNat i))] [])) _
      refine XS.iinc X.here hx rfl (hb hby dP_31) rfl (l' := #[.val (.ref pa), .val (.int sl), .val (.int po), .val (.int (Int32.ofNat i)), .val (.int ((Int32.ofNat i) + (2 : Int32)))]) rfl ?_
      show Steps p.tables e below (T.setTop (mkF m 34 #[.val (.ref pa), .val (.int sl), .val (.int po), .val (.int (Int32.ofNat i)), .val (.int ((Int32.ofNat i) + (2 : Int32)))] [])) _
      refine XS.goto X.here hx rfl (pc0 := 34) (pc' := 14) rfl (hb hby dP_34) (by decide) (by decide) ?_
      show Steps p.tables e below (T.setTop (mkF m 14 #[.val (.ref pa), .val (.int sl), .val (.int po), .val (.int (Int32.ofNat i)), .val (.int ((Int32.ofNat i) + (2 : Int32)))] [])) _
      refine XS.iload X.here hx rfl (hb hby dP_14) rfl ?_
      show Steps p.tables e below (T.setTop (mkF m 16 #[.val (.ref pa), .val (.int sl), .val (.int po), .val (.int (Int32.ofNat i)), .val (.int ((Int32.ofNat i) + (2 : Int32)))] [(.int ((Int32.ofNat i) + (2 : Int32)))])) _
      refine XS.iloadN X.here hx rfl (hb hby dP_16) rfl ?_
      show Steps p.tables e below (T.setTop (mkF m 17 #[.val (.ref pa), .val (.int sl), .val (.int po), .val (.int (Int32.ofNat i)), .val (.int ((Int32.ofNat i) + (2 : Int32)))] [(.int (Int32.ofNat i)), (.int ((Int32.ofNat i) + (2 : Int32)))])) _
      refine XS.icmpYes X.here hx rfl (pc0 := 17) (pc' := 37) rfl (hb hby dP_17) rfl (flt h17b).2.1 (by decide) (by decide) ?_
      exact kk
    · obtain ⟨z, st⟩ := ih (i + 2) (by omega)
      refine ⟨z, fun t kk => ?_⟩
      rw [pf, if_neg hc] at kk
      show Steps p.tables e below (T.setTop (mkF m 14 #[.val (.ref pa), .val (.int sl), .val (.int po), .val (.int (Int32.ofNat (2 * k))), .val (.int (Int32.ofNat i))] [])) _
      refine XS.iload X.here hx rfl (hb hby dP_14) rfl ?_
      show Steps p.tables e below (T.setTop (mkF m 16 #[.val (.ref pa), .val (.int sl), .val (.int po), .val (.int (Int32.ofNat (2 * k))), .val (.int (Int32.ofNat i))] [(.int (Int32.ofNat i))])) _
      refine XS.iloadN X.here hx rfl (hb hby dP_16) rfl ?_
      show Steps p.tables e below (T.setTop (mkF m 17 #[.val (.ref pa), .val (.int sl), .val (.int po), .val (.int (Int32.ofNat (2 * k))), .val (.int (Int32.ofNat i))] [(.int (Int32.ofNat (2 * k))), (.int (Int32.ofNat i))])) _
      refine XS.icmpNo X.here hx rfl (hb hby dP_17) rfl (tlt h17).2.1 ?_
      show Steps p.tables e below (T.setTop (mkF m 20 #[.val (.ref pa), .val (.int sl), .val (.int po), .val (.int (Int32.ofNat (2 * k))), .val (.int (Int32.ofNat i))] [])) _
      refine XS.aloadN X.here hx rfl (hb hby dP_20) rfl rfl ?_
      show Steps p.tables e below (T.setTop (mkF m 21 #[.val (.ref pa), .val (.int sl), .val (.int po), .val (.int (Int32.ofNat (2 * k))), .val (.int (Int32.ofNat i))] [(.ref pa)])) _
      refine XS.iload X.here hx rfl (hb hby dP_21) rfl ?_
      show Steps p.tables e below (T.setTop (mkF m 23 #[.val (.ref pa), .val (.int sl), .val (.int po), .val (.int (Int32.ofNat (2 * k))), .val (.int (Int32.ofNat i))] [(.int (Int32.ofNat i)), (.ref pa)])) _
      refine F.ld X hx hZ eT (i := i) rfl (by omega) (g := (mkF m 23 #[.val (.ref pa), .val (.int sl), .val (.int po), .val (.int (Int32.ofNat (2 * k))), .val (.int (Int32.ofNat i))] [(.int (Int32.ofNat i)), (.ref pa)])) rfl rfl (hb hby dP_23) _ ?_
      show Steps p.tables e below (T.setTop (mkF m 24 #[.val (.ref pa), .val (.int sl), .val (.int po), .val (.int (Int32.ofNat (2 * k))), .val (.int (Int32.ofNat i))] [(.int (f i))])) _
      refine XS.iloadN X.here hx rfl (hb hby dP_24) rfl ?_
      show Steps p.tables e below (T.setTop (mkF m 25 #[.val (.ref pa), .val (.int sl), .val (.int po), .val (.int (Int32.ofNat (2 * k))), .val (.int (Int32.ofNat i))] [(.int sl), (.int (f i))])) _
      refine XS.icmpYes X.here hx rfl (pc0 := 25) (pc' := 31) rfl (hb hby dP_25) rfl (feq hc).2 (by decide) (by decide) ?_
      show Steps p.tables e below (T.setTop (mkF m 31 #[.val (.ref pa), .val (.int sl), .val (.int po), .val (.int (Int32.ofNat (2 * k))), .val (.int (Int32.ofNat i))] [])) _
      refine XS.iinc X.here hx rfl (hb hby dP_31) rfl (l' := #[.val (.ref pa), .val (.int sl), .val (.int po), .val (.int (Int32.ofNat (2 * k))), .val (.int ((Int32.ofNat i) + (2 : Int32)))]) rfl ?_
      show Steps p.tables e below (T.setTop (mkF m 34 #[.val (.ref pa), .val (.int sl), .val (.int po), .val (.int (Int32.ofNat (2 * k))), .val (.int ((Int32.ofNat i) + (2 : Int32)))] [])) _
      rw [own_add2]
      show Steps p.tables e below (T.setTop (mkF m 34 #[.val (.ref pa), .val (.int sl), .val (.int po), .val (.int (Int32.ofNat (2 * k))), .val (.int (Int32.ofNat (i + 2)))] [])) _
      refine XS.goto X.here hx rfl (pc0 := 34) (pc' := 14) rfl (hb hby dP_34) (by decide) (by decide) ?_
      exact st t kk
end WpLoop
def QP (Z : State) (sl po : Int32) (k : Nat) (f : Nat → Int32) (h0 : Heap) (n0 : Nat) (v : Option Value) (h : Heap) (L : List Loc) : Prop := ∃ b, v = some (.ref b) ∧ Fr n0 L ∧ Keep h0 h [] ∧ h0.size ≤ b ∧ own_IA Z h b (2 * pwK sl k f) (pwF sl po k f)
set_option maxRecDepth 65536 in
set_option maxHeartbeats 40000000 in
theorem rmPn (l : Launch) (Z : State) (a0 : Array Value) (hw : ∀ d ∈ tables_1, d.before a0 Z = true) (ws : List Jvm.Cond) (sl po : Int32) (f : Nat → Int32) (h0 : Heap) (n0 : Nat) (Z0 : n0 ≤ h0.size) :
    MetFree l (⟨"com/example/xquery_rewriter/xqueryrewriter/algebra/Tuple", "withPair", "([III)[I"⟩ : MethodName) (head1 (Jvm.Cond.code (⟨"com/example/xquery_rewriter/xqueryrewriter/algebra/Tuple", "withPair", "([III)[I"⟩ : MethodName) prog_139_method_16_code 5 (some (.array .int)) :: ws) ({ frames := 1, cells := 1, slots := 6, locals := 60 } : Room)) (fun a_ U => a_ = #[.null, (.int sl), (.int po)] ∧ Z.Warmed39 U.vm ∧ U.heap = h0) (fun _ _ _ _ _ => True) (fun _ U o U' => ∃ v L, o = .returned v ∧ QP Z sl po 0 f h0 n0 v U'.heap L ∧ FrameEnd U o U' L ({ frames := 1, cells := 1, slots := 6, locals := 60 } : Room).cells ({ frames := 1, cells := 1, slots := 6, locals := 60 } : Room).slots) := by
  refine MetFree.of_bodySF (plainFor_of_name pnC) hisR ?_
  intro p e s m args below meth c s₁ Bd hml0 hP hK
  obtain ⟨rfl, hZ, hh⟩ := hP
  have hx := Bd.exec
  have hby := Bd.bytes
  have hml : c.maxLocals = 5 := hml0
  have hown : s.vm.findClass "com/example/xquery_rewriter/xqueryrewriter/algebra/Tuple" = some m.cls := findClass_of_methodNamed Bd.named
  have hnm := (name_of_methodNamed Bd.named Bd.method).1
  have X0 : Stand p l e ({ frames := 1, cells := 1, slots := 6, locals := 60 } : Room) s m #[.null, (.int sl), (.int po)] below meth c s₁ [] 0 0 := Stand.of_body Bd
  have e0 : s₁.heap = h0 := by rw [← hh, Bd.state]; rfl
  have N0 := Fr.nil n0
  have pre0 : ∀ t, Steps p.tables e below (s₁.setTop (mkF m 0 #[.val .null, .val (.int sl), .val (.int po), .unset, .unset] [])) t → Steps p.tables e below (s₁.setTop (entryFrame m #[.null, (.int sl), (.int po)] 5)) t := fun t k => castTop (efPn m sl po) k
  obtain ⟨T2, h2, k2, X2, e2, E2, A2, st2⟩ := newP X0 hx hZ (hw _ (List.mem_of_getElem? (i := 33) rfl)) e0 (g := (mkF m 53 #[.val .null, .val (.int sl), .val (.int po), .val (.int (0 : Int32)), .val (.int (0 : Int32))] [(.int (2 : Int32))])) rfl (hb hby dP_53) rfl (by decide) (cap := 6) (by decide) (by decide) (by decide) (by decide)
  obtain ⟨b, hb0⟩ : ∃ z, z = h0.size := ⟨_, rfl⟩
  rw [← hb0] at A2 st2
  have I0 : own_IA Z h2 b 2 (fun _ => 0) := own_IA.new A2 (by decide) rfl
  have g_b : n0 ≤ b := by omega
  obtain ⟨T3, h3, X3, e3, W3, st3⟩ := I0.st X2 hx hZ e2 (i := 0) rfl (by decide) (g := (mkF m 75 #[.val .null, .val (.int sl), .val (.int po), .val (.int (0 : Int32)), .val (.ref b)] [(.int sl), (.int (0 : Int32)), (.ref b)])) rfl rfl (hb hby dP_75)
  have I1 := I0.same (by decide) W3
  obtain ⟨T4, h4, X4, e4, W4, st4⟩ := I1.st X3 hx hZ e3 (i := 1) rfl (by decide) (g := (mkF m 82 #[.val .null, .val (.int sl), .val (.int po), .val (.int (0 : Int32)), .val (.ref b)] [(.int po), (.int ((0 : Int32) + (1 : Int32))), (.ref b)])) rfl rfl (hb hby dP_82)
  have I2 := I1.same (by decide) W4
  obtain ⟨fs, hr, hrun, hended, hW, hsame⟩ := X4.leave (v := some (.ref b)) (fun h => by rw [Bd.returns] at h; cases h)
  refine ⟨_, _, pre0 _ ?_, hrun, hended, _, _, rfl, ?_, ⟨_, rfl⟩, hW, hsame.mono (by decide) (by decide)⟩
  · show Steps p.tables e below (s₁.setTop (mkF m 0 #[.val .null, .val (.int sl), .val (.int po), .unset, .unset] [])) _
    refine XS.aloadN X0.here hx rfl (hb hby dP_0) rfl rfl ?_
    show Steps p.tables e below (s₁.setTop (mkF m 1 #[.val .null, .val (.int sl), .val (.int po), .unset, .unset] [.null])) _
    refine XS.ifnonnullNo X0.here hx rfl (hb hby dP_1) rfl ?_
    show Steps p.tables e below (s₁.setTop (mkF m 4 #[.val .null, .val (.int sl), .val (.int po), .unset, .unset] [])) _
    refine XS.iconst X0.here hx rfl (hb hby dP_4) ?_
    show Steps p.tables e below (s₁.setTop (mkF m 5 #[.val .null, .val (.int sl), .val (.int po), .unset, .unset] [(.int (0 : Int32))])) _
    refine XS.goto X0.here hx rfl (pc0 := 5) (pc' := 10) rfl (hb hby dP_5) (by decide) (by decide) ?_
    show Steps p.tables e below (s₁.setTop (mkF m 10 #[.val .null, .val (.int sl), .val (.int po), .unset, .unset] [(.int (0 : Int32))])) _
    refine XS.istoreN X0.here hx rfl (hb hby dP_10) rfl (l' := #[.val .null, .val (.int sl), .val (.int po), .val (.int (0 : Int32)), .unset]) rfl ?_
    show Steps p.tables e below (s₁.setTop (mkF m 11 #[.val .null, .val (.int sl), .val (.int po), .val (.int (0 : Int32)), .unset] [])) _
    refine XS.iconst X0.here hx rfl (hb hby dP_11) ?_
    show Steps p.tables e below (s₁.setTop (mkF m 12 #[.val .null, .val (.int sl), .val (.int po), .val (.int (0 : Int32)), .unset] [(.int (0 : Int32))])) _
    refine XS.istore X0.here hx rfl (hb hby dP_12) rfl (l' := #[.val .null, .val (.int sl), .val (.int po), .val (.int (0 : Int32)), .val (.int (0 : Int32))]) rfl ?_
    show Steps p.tables e below (s₁.setTop (mkF m 14 #[.val .null, .val (.int sl), .val (.int po), .val (.int (0 : Int32)), .val (.int (0 : Int32))] [])) _
    refine XS.iload X0.here hx rfl (hb hby dP_14) rfl ?_
    show Steps p.tables e below (s₁.setTop (mkF m 16 #[.val .null, .val (.int sl), .val (.int po), .val (.int (0 : Int32)), .val (.int (0 : Int32))] [(.int (0 : Int32))])) _
    refine XS.iloadN X0.here hx rfl (hb hby dP_16) rfl ?_
    show Steps p.tables e below (s₁.setTop (mkF m 17 #[.val .null, .val (.int sl), .val (.int po), .val (.int (0 : Int32)), .val (.int (0 : Int32))] [(.int (0 : Int32)), (.int (0 : Int32))])) _
    refine XS.icmpYes X0.here hx rfl (pc0 := 17) (pc' := 37) rfl (hb hby dP_17) rfl (flt (show ¬ ((0 : Int32) < (0 : Int32)) by decide)).2.1 (by decide) (by decide) ?_
    show Steps p.tables e below (s₁.setTop (mkF m 37 #[.val .null, .val (.int sl), .val (.int po), .val (.int (0 : Int32)), .val (.int (0 : Int32))] [])) _
    refine XS.aloadN X0.here hx rfl (hb hby dP_37) rfl rfl ?_
    show Steps p.tables e below (s₁.setTop (mkF m 38 #[.val .null, .val (.int sl), .val (.int po), .val (.int (0 : Int32)), .val (.int (0 : Int32))] [.null])) _
    refine XS.ifnonnullNo X0.here hx rfl (hb hby dP_38) rfl ?_
    show Steps p.tables e below (s₁.setTop (mkF m 41 #[.val .null, .val (.int sl), .val (.int po), .val (.int (0 : Int32)), .val (.int (0 : Int32))] [])) _
    refine XS.iconst X0.here hx rfl (hb hby dP_41) ?_
    show Steps p.tables e below (s₁.setTop (mkF m 42 #[.val .null, .val (.int sl), .val (.int po), .val (.int (0 : Int32)), .val (.int (0 : Int32))] [(.int (2 : Int32))])) _
    refine XS.goto X0.here hx rfl (pc0 := 42) (pc' := 53) rfl (hb hby dP_42) (by decide) (by decide) ?_
    show Steps p.tables e below (s₁.setTop (mkF m 53 #[.val .null, .val (.int sl), .val (.int po), .val (.int (0 : Int32)), .val (.int (0 : Int32))] [(.int (2 : Int32))])) _
    refine st2 _ ?_
    show Steps p.tables e below (T2.setTop (mkF m 55 #[.val .null, .val (.int sl), .val (.int po), .val (.int (0 : Int32)), .val (.int (0 : Int32))] [(.ref b)])) _
    refine XS.astore X2.here hx rfl (hb hby dP_55) rfl rfl (l' := #[.val .null, .val (.int sl), .val (.int po), .val (.int (0 : Int32)), .val (.ref b)]) rfl ?_
    show Steps p.tables e below (T2.setTop (mkF m 57 #[.val .null, .val (.int sl), .val (.int po), .val (.int (0 : Int32)), .val (.ref b)] [])) _
    refine XS.aloadN X2.here hx rfl (hb hby dP_57) rfl rfl ?_
    show Steps p.tables e below (T2.setTop (mkF m 58 #[.val .null, .val (.int sl), .val (.int po), .val (.int (0 : Int32)), .val (.ref b)] [.null])) _
    refine XS.ifnullYes X2.here hx rfl (pc0 := 58) (pc' := 71) rfl (hb hby dP_58) rfl (by decide) (by decide) ?_
    show Steps p.tables e below (T2.setTop (mkF m 71 #[.val .null, .val (.int sl), .val (.int po), .val (.int (0 : Int32)), .val (.ref b)] [])) _
    refine XS.aload X2.here hx rfl (hb hby dP_71) rfl rfl ?_
    show Steps p.tables e below (T2.setTop (mkF m 73 #[.val .null, .val (.int sl), .val (.int po), .val (.int (0 : Int32)), .val (.ref b)] [(.ref b)])) _
    refine XS.iloadN X2.here hx rfl (hb hby dP_73) rfl ?_
    show Steps p.tables e below (T2.setTop (mkF m 74 #[.val .null, .val (.int sl), .val (.int po), .val (.int (0 : Int32)), .val (.ref b)] [(.int (0 : Int32)), (.ref b)])) _
    refine XS.iloadN X2.here hx rfl (hb hby dP_74) rfl ?_
    show Steps p.tables e below (T2.setTop (mkF m 75 #[.val .null, .val (.int sl), .val (.int po), .val (.int (0 : Int32)), .val (.ref b)] [(.int sl), (.int (0 : Int32)), (.ref b)])) _
    refine st3 _ ?_
    show Steps p.tables e below (T3.setTop (mkF m 76 #[.val .null, .val (.int sl), .val (.int po), .val (.int (0 : Int32)), .val (.ref b)] [])) _
    refine XS.aload X3.here hx rfl (hb hby dP_76) rfl rfl ?_
    show Steps p.tables e below (T3.setTop (mkF m 78 #[.val .null, .val (.int sl), .val (.int po), .val (.int (0 : Int32)), .val (.ref b)] [(.ref b)])) _
    refine XS.iloadN X3.here hx rfl (hb hby dP_78) rfl ?_
    show Steps p.tables e below (T3.setTop (mkF m 79 #[.val .null, .val (.int sl), .val (.int po), .val (.int (0 : Int32)), .val (.ref b)] [(.int (0 : Int32)), (.ref b)])) _
    refine XS.iconst X3.here hx rfl (hb hby dP_79) ?_
    show Steps p.tables e below (T3.setTop (mkF m 80 #[.val .null, .val (.int sl), .val (.int po), .val (.int (0 : Int32)), .val (.ref b)] [(.int (1 : Int32)), (.int (0 : Int32)), (.ref b)])) _
    refine XS.iadd X3.here hx rfl (hb hby dP_80) rfl ?_
    show Steps p.tables e below (T3.setTop (mkF m 81 #[.val .null, .val (.int sl), .val (.int po), .val (.int (0 : Int32)), .val (.ref b)] [(.int ((0 : Int32) + (1 : Int32))), (.ref b)])) _
    refine XS.iloadN X3.here hx rfl (hb hby dP_81) rfl ?_
    show Steps p.tables e below (T3.setTop (mkF m 82 #[.val .null, .val (.int sl), .val (.int po), .val (.int (0 : Int32)), .val (.ref b)] [(.int po), (.int ((0 : Int32) + (1 : Int32))), (.ref b)])) _
    refine st4 _ ?_
    show Steps p.tables e below (T4.setTop (mkF m 83 #[.val .null, .val (.int sl), .val (.int po), .val (.int (0 : Int32)), .val (.ref b)] [])) _
    refine XS.aload X4.here hx rfl (hb hby dP_83) rfl rfl ?_
    show Steps p.tables e below (T4.setTop (mkF m 85 #[.val .null, .val (.int sl), .val (.int po), .val (.int (0 : Int32)), .val (.ref b)] [(.ref b)])) _
    jvm_step X4.here [X4.here.top, hx, (hb hby dP_85), X4.method', Bd.returns, Value.isRef, FieldType.isReference]
    first | (intro acts; rw [hr _ acts rfl rfl rfl]) | rw [hr _ _ rfl rfl rfl]
    exact Steps.refl _
  · show QP Z sl po 0 f h0 n0 _ T4.heap _
    rw [e4]
    refine ⟨b, rfl, Fr.snoc X4 (Fr.snoc X3 N0 g_b) g_b, (((Keep.refl h0 []).ext E2).wr W3 (Or.inr (by omega))).wr W4 (Or.inr (by omega)), by omega, ?_⟩
    show own_IA Z h4 b 2 (pwF sl po 0 f)
    exact I2.congr fun j hj => by
      show _ = own_upd (own_upd (fun j => if j < 2 * 0 then f j else 0) 0 sl) (0 + 1) po j
      simp [own_upd]
set_option maxRecDepth 65536 in
set_option maxHeartbeats 40000000 in
theorem rmPr (l : Launch) (Z : State) (a0 : Array Value) (hw : ∀ d ∈ tables_1, d.before a0 Z = true) (ws : List Jvm.Cond) (pa : Addr) (sl po : Int32) (k : Nat) (f : Nat → Int32) (h0 : Heap) (n0 : Nat) (Z0 : n0 ≤ h0.size) (F : own_IA Z h0 pa (2 * k) f) (hk : k ≤ 2) :
    MetFree l (⟨"com/example/xquery_rewriter/xqueryrewriter/algebra/Tuple", "withPair", "([III)[I"⟩ : MethodName) (head1 (Jvm.Cond.code (⟨"com/example/xquery_rewriter/xqueryrewriter/algebra/Tuple", "withPair", "([III)[I"⟩ : MethodName) prog_139_method_16_code 5 (some (.array .int)) :: ws) ({ frames := 1, cells := 1, slots := 6, locals := 60 } : Room)) (fun a_ U => a_ = #[(.ref pa), (.int sl), (.int po)] ∧ Z.Warmed39 U.vm ∧ U.heap = h0) (fun _ _ _ _ _ => True) (fun _ U o U' => ∃ v L, o = .returned v ∧ QP Z sl po k f h0 n0 v U'.heap L ∧ FrameEnd U o U' L ({ frames := 1, cells := 1, slots := 6, locals := 60 } : Room).cells ({ frames := 1, cells := 1, slots := 6, locals := 60 } : Room).slots) := by
  refine MetFree.of_bodySF (plainFor_of_name pnC) hisR ?_
  intro p e s m args below meth c s₁ Bd hml0 hP hK
  obtain ⟨rfl, hZ, hh⟩ := hP
  have hx := Bd.exec
  have hby := Bd.bytes
  have hml : c.maxLocals = 5 := hml0
  have hown : s.vm.findClass "com/example/xquery_rewriter/xqueryrewriter/algebra/Tuple" = some m.cls := findClass_of_methodNamed Bd.named
  have hnm := (name_of_methodNamed Bd.named Bd.method).1
  have X0 : Stand p l e ({ frames := 1, cells := 1, slots := 6, locals := 60 } : Room) s m #[(.ref pa), (.int sl), (.int po)] below meth c s₁ [] 0 0 := Stand.of_body Bd
  have e0 : s₁.heap = h0 := by rw [← hh, Bd.state]; rfl
  have N0 := Fr.nil n0
  have pre0 : ∀ t, Steps p.tables e below (s₁.setTop (mkF m 0 #[.val (.ref pa), .val (.int sl), .val (.int po), .unset, .unset] [])) t → Steps p.tables e below (s₁.setTop (entryFrame m #[(.ref pa), (.int sl), (.int po)] 5)) t := fun t k => castTop (efPr m pa sl po) k
  obtain ⟨q, hq⟩ : ∃ q, q = pf f sl k 0 := ⟨_, rfl⟩
  obtain ⟨nn, hnn⟩ : ∃ q, q = 2 * pwK sl k f := ⟨_, rfl⟩
  have hok := pf_ok f sl k 0
  rw [← hq] at hok
  have hn2 : nn = if q = 2 * k then 2 * k + 2 else 2 * k := by
    rw [hnn, pwK, ← hq]
    split <;> omega
  have hqn : q + 2 ≤ nn ∧ 2 * k ≤ nn ∧ nn ≤ 6 := by
    rw [hn2]
    split <;> omega
  have hmx : own_mx (Int32.ofNat (2 * k)) (Int32.ofNat q + (2 : Int32)) = Int32.ofNat nn := by
    rw [own_mx, own_add2]
    by_cases h : 2 * k < q + 2
    · rw [if_pos ((own_lt (by omega) (by omega)).mpr h), hn2]
      split
      · rename_i h'; rw [h']
      · omega
    · rw [if_neg (fun u => h ((own_lt (by omega) (by omega)).mp u)), hn2, if_neg (by omega)]
  obtain ⟨z, stL⟩ := wploop (sl := sl) (po := po) X0 hx hby hZ e0 F k 0 (by omega)
  rw [← hq] at stL
  obtain ⟨_, _, ⟨T2, L2, k2, n2⟩, -, X2, ⟨Lc2, hQ2, l2, y2, z2⟩, st2⟩ := Jvm.LawKit.callS X0 hx (y := (⟨"java/lang/Math", "max", "(II)I"⟩ : MethodName)) hown (mvT hZ (hw _ (List.mem_of_getElem? (i := 34) rfl))) (mvT hZ (hw _ (List.mem_of_getElem? (i := 35) rfl))) (mvT hZ (hw _ (List.mem_of_getElem? (i := 36) rfl))) (mvT hZ (hw _ (List.mem_of_getElem? (i := 37) rfl))) (by decide) (backOf (W := 0) (rmX l Z a0 hw [] (Int32.ofNat (2 * k)) (Int32.ofNat q + (2 : Int32)) h0 n0) hZ (hw _ (List.mem_of_getElem? (i := 37) rfl)) (hw _ (List.mem_of_getElem? (i := 36) rfl)) (by decide) (by decide)) (g := (mkF m 50 #[.val (.ref pa), .val (.int sl), .val (.int po), .val (.int (Int32.ofNat q)), .val (.int z)] [(.int ((Int32.ofNat q) + (2 : Int32))), (.int (Int32.ofNat (2 * k)))])) rfl (by rw [hml]; rfl) (argsL := [(.int (Int32.ofNat (2 * k))), (.int ((Int32.ofNat q) + (2 : Int32)))]) (rest := []) (lenOf pdX rfl) rfl (by show 2 * 0 + _ ≤ _; exact Nat.le_of_eq rfl) (hb hby dP_50) (fun _ _ => ⟨rfl, e0, (by decide : 0 + 0 ≤ _), (by decide : 0 + 0 ≤ _)⟩)
  dsimp only [Pt.U, Pt.locs, Pt.cells, Pt.slots] at X2 l2 y2 z2 st2 hQ2
  subst l2 y2 z2
  obtain ⟨hv2, N2q, e2⟩ := hQ2
  rw [hmx] at hv2
  subst hv2
  have N2 := Fr.app N0 N2q
  obtain ⟨T3, h3, k3, X3, e3, E3, A3, st3⟩ := newP X2 hx hZ (hw _ (List.mem_of_getElem? (i := 33) rfl)) e2 (g := (mkF m 53 #[.val (.ref pa), .val (.int sl), .val (.int po), .val (.int (Int32.ofNat q)), .val (.int z)] [(.int (Int32.ofNat nn))])) rfl (hb hby dP_53) rfl (own_notneg (by omega)) (cap := 6) (by rw [own_clamp (by omega)]; omega) (by decide) (by decide) (by decide)
  obtain ⟨b, hb0⟩ : ∃ z, z = h0.size := ⟨_, rfl⟩
  rw [← hb0] at A3 st3
  have I0 : own_IA Z h3 b nn (fun _ => 0) := own_IA.new A3 (by omega) rfl
  have g_b : n0 ≤ b := by omega
  have F1 := F.ext E3
  obtain ⟨T4, h4, L4, X4, e4, N4, K4, I1, st4⟩ := own_cp X3 hx hZ hown (hw _ (List.mem_of_getElem? (i := 38) rfl)) (hw _ (List.mem_of_getElem? (i := 41) rfl)) (hw _ (List.mem_of_getElem? (i := 39) rfl)) (hw _ (List.mem_of_getElem? (i := 40) rfl)) e3 F1 I0 hqn.2.1 N2 g_b (g := (mkF m 68 #[.val (.ref pa), .val (.int sl), .val (.int po), .val (.int (Int32.ofNat q)), .val (.ref b)] [(.int (Int32.ofNat (2 * k))), (.int (0 : Int32)), (.ref b), (.int (0 : Int32)), (.ref pa)])) rfl (by rw [hml]; rfl) rfl (hb hby dP_68) (by decide) (W := 0) (by show 2 * 0 + _ ≤ _; exact Nat.le_of_eq rfl) (by decide)
  obtain ⟨T5, h5, X5, e5, W5, st5⟩ := I1.st X4 hx hZ e4 (i := q) rfl (by omega) (g := (mkF m 75 #[.val (.ref pa), .val (.int sl), .val (.int po), .val (.int (Int32.ofNat q)), .val (.ref b)] [(.int sl), (.int (Int32.ofNat q)), (.ref b)])) rfl rfl (hb hby dP_75)
  have I2 := I1.same (show q < nn by omega) W5
  obtain ⟨T6, h6, X6, e6, W6, st6⟩ := I2.st X5 hx hZ e5 (i := q + 1) (own_succ q) (by omega) (g := (mkF m 82 #[.val (.ref pa), .val (.int sl), .val (.int po), .val (.int (Int32.ofNat q)), .val (.ref b)] [(.int po), (.int ((Int32.ofNat q) + (1 : Int32))), (.ref b)])) rfl rfl (hb hby dP_82)
  have I3 := I2.same (show q + 1 < nn by omega) W6
  obtain ⟨fs, hr, hrun, hended, hW, hsame⟩ := X6.leave (v := some (.ref b)) (fun h => by rw [Bd.returns] at h; cases h)
  refine ⟨_, _, pre0 _ ?_, hrun, hended, _, _, rfl, ?_, ⟨_, rfl⟩, hW, hsame.mono (by decide) (by decide)⟩
  · show Steps p.tables e below (s₁.setTop (mkF m 0 #[.val (.ref pa), .val (.int sl), .val (.int po), .unset, .unset] [])) _
    refine XS.aloadN X0.here hx rfl (hb hby dP_0) rfl rfl ?_
    show Steps p.tables e below (s₁.setTop (mkF m 1 #[.val (.ref pa), .val (.int sl), .val (.int po), .unset, .unset] [(.ref pa)])) _
    refine XS.ifnonnullYes X0.here hx rfl (pc0 := 1) (pc' := 8) rfl (hb hby dP_1) rfl (by decide) (by decide) ?_
    show Steps p.tables e below (s₁.setTop (mkF m 8 #[.val (.ref pa), .val (.int sl), .val (.int po), .unset, .unset] [])) _
    refine XS.aloadN X0.here hx rfl (hb hby dP_8) rfl rfl ?_
    show Steps p.tables e below (s₁.setTop (mkF m 9 #[.val (.ref pa), .val (.int sl), .val (.int po), .unset, .unset] [(.ref pa)])) _
    refine F.len X0 hx hZ e0 (g := (mkF m 9 #[.val (.ref pa), .val (.int sl), .val (.int po), .unset, .unset] [(.ref pa)])) rfl rfl (hb hby dP_9) _ ?_
    show Steps p.tables e below (s₁.setTop (mkF m 10 #[.val (.ref pa), .val (.int sl), .val (.int po), .unset, .unset] [(.int (Int32.ofNat (2 * k)))])) _
    refine XS.istoreN X0.here hx rfl (hb hby dP_10) rfl (l' := #[.val (.ref pa), .val (.int sl), .val (.int po), .val (.int (Int32.ofNat (2 * k))), .unset]) rfl ?_
    show Steps p.tables e below (s₁.setTop (mkF m 11 #[.val (.ref pa), .val (.int sl), .val (.int po), .val (.int (Int32.ofNat (2 * k))), .unset] [])) _
    refine XS.iconst X0.here hx rfl (hb hby dP_11) ?_
    show Steps p.tables e below (s₁.setTop (mkF m 12 #[.val (.ref pa), .val (.int sl), .val (.int po), .val (.int (Int32.ofNat (2 * k))), .unset] [(.int (0 : Int32))])) _
    refine XS.istore X0.here hx rfl (hb hby dP_12) rfl (l' := #[.val (.ref pa), .val (.int sl), .val (.int po), .val (.int (Int32.ofNat (2 * k))), .val (.int (0 : Int32))]) rfl ?_
    show Steps p.tables e below (s₁.setTop (mkF m 14 #[.val (.ref pa), .val (.int sl), .val (.int po), .val (.int (Int32.ofNat (2 * k))), .val (.int (0 : Int32))] [])) _
    refine stL _ ?_
    show Steps p.tables e below (s₁.setTop (mkF m 37 #[.val (.ref pa), .val (.int sl), .val (.int po), .val (.int (Int32.ofNat q)), .val (.int z)] [])) _
    refine XS.aloadN X0.here hx rfl (hb hby dP_37) rfl rfl ?_
    show Steps p.tables e below (s₁.setTop (mkF m 38 #[.val (.ref pa), .val (.int sl), .val (.int po), .val (.int (Int32.ofNat q)), .val (.int z)] [(.ref pa)])) _
    refine XS.ifnonnullYes X0.here hx rfl (pc0 := 38) (pc' := 45) rfl (hb hby dP_38) rfl (by decide) (by decide) ?_
    show Steps p.tables e below (s₁.setTop (mkF m 45 #[.val (.ref pa), .val (.int sl), .val (.int po), .val (.int (Int32.ofNat q)), .val (.int z)] [])) _
    refine XS.aloadN X0.here hx rfl (hb hby dP_45) rfl rfl ?_
    show Steps p.tables e below (s₁.setTop (mkF m 46 #[.val (.ref pa), .val (.int sl), .val (.int po), .val (.int (Int32.ofNat q)), .val (.int z)] [(.ref pa)])) _
    refine F.len X0 hx hZ e0 (g := (mkF m 46 #[.val (.ref pa), .val (.int sl), .val (.int po), .val (.int (Int32.ofNat q)), .val (.int z)] [(.ref pa)])) rfl rfl (hb hby dP_46) _ ?_
    show Steps p.tables e below (s₁.setTop (mkF m 47 #[.val (.ref pa), .val (.int sl), .val (.int po), .val (.int (Int32.ofNat q)), .val (.int z)] [(.int (Int32.ofNat (2 * k)))])) _
    refine XS.iloadN X0.here hx rfl (hb hby dP_47) rfl ?_
    show Steps p.tables e below (s₁.setTop (mkF m 48 #[.val (.ref pa), .val (.int sl), .val (.int po), .val (.int (Int32.ofNat q)), .val (.int z)] [(.int (Int32.ofNat q)), (.int (Int32.ofNat (2 * k)))])) _
    refine XS.iconst X0.here hx rfl (hb hby dP_48) ?_
    show Steps p.tables e below (s₁.setTop (mkF m 49 #[.val (.ref pa), .val (.int sl), .val (.int po), .val (.int (Int32.ofNat q)), .val (.int z)] [(.int (2 : Int32)), (.int (Int32.ofNat q)), (.int (Int32.ofNat (2 * k)))])) _
    refine XS.iadd X0.here hx rfl (hb hby dP_49) rfl ?_
    show Steps p.tables e below (s₁.setTop (mkF m 50 #[.val (.ref pa), .val (.int sl), .val (.int po), .val (.int (Int32.ofNat q)), .val (.int z)] [(.int ((Int32.ofNat q) + (2 : Int32))), (.int (Int32.ofNat (2 * k)))])) _
    refine st2 _ ?_
    show Steps p.tables e below (T2.setTop (mkF m 53 #[.val (.ref pa), .val (.int sl), .val (.int po), .val (.int (Int32.ofNat q)), .val (.int z)] [(.int (Int32.ofNat nn))])) _
    refine st3 _ ?_
    show Steps p.tables e below (T3.setTop (mkF m 55 #[.val (.ref pa), .val (.int sl), .val (.int po), .val (.int (Int32.ofNat q)), .val (.int z)] [(.ref b)])) _
    refine XS.astore X3.here hx rfl (hb hby dP_55) rfl rfl (l' := #[.val (.ref pa), .val (.int sl), .val (.int po), .val (.int (Int32.ofNat q)), .val (.ref b)]) rfl ?_
    show Steps p.tables e below (T3.setTop (mkF m 57 #[.val (.ref pa), .val (.int sl), .val (.int po), .val (.int (Int32.ofNat q)), .val (.ref b)] [])) _
    refine XS.aloadN X3.here hx rfl (hb hby dP_57) rfl rfl ?_
    show Steps p.tables e below (T3.setTop (mkF m 58 #[.val (.ref pa), .val (.int sl), .val (.int po), .val (.int (Int32.ofNat q)), .val (.ref b)] [(.ref pa)])) _
    refine XS.ifnullNo X3.here hx rfl (hb hby dP_58) rfl ?_
    show Steps p.tables e below (T3.setTop (mkF m 61 #[.val (.ref pa), .val (.int sl), .val (.int po), .val (.int (Int32.ofNat q)), .val (.ref b)] [])) _
    refine XS.aloadN X3.here hx rfl (hb hby dP_61) rfl rfl ?_
    show Steps p.tables e below (T3.setTop (mkF m 62 #[.val (.ref pa), .val (.int sl), .val (.int po), .val (.int (Int32.ofNat q)), .val (.ref b)] [(.ref pa)])) _
    refine XS.iconst X3.here hx rfl (hb hby dP_62) ?_
    show Steps p.tables e below (T3.setTop (mkF m 63 #[.val (.ref pa), .val (.int sl), .val (.int po), .val (.int (Int32.ofNat q)), .val (.ref b)] [(.int (0 : Int32)), (.ref pa)])) _
    refine XS.aload X3.here hx rfl (hb hby dP_63) rfl rfl ?_
    show Steps p.tables e below (T3.setTop (mkF m 65 #[.val (.ref pa), .val (.int sl), .val (.int po), .val (.int (Int32.ofNat q)), .val (.ref b)] [(.ref b), (.int (0 : Int32)), (.ref pa)])) _
    refine XS.iconst X3.here hx rfl (hb hby dP_65) ?_
    show Steps p.tables e below (T3.setTop (mkF m 66 #[.val (.ref pa), .val (.int sl), .val (.int po), .val (.int (Int32.ofNat q)), .val (.ref b)] [(.int (0 : Int32)), (.ref b), (.int (0 : Int32)), (.ref pa)])) _
    refine XS.aloadN X3.here hx rfl (hb hby dP_66) rfl rfl ?_
    show Steps p.tables e below (T3.setTop (mkF m 67 #[.val (.ref pa), .val (.int sl), .val (.int po), .val (.int (Int32.ofNat q)), .val (.ref b)] [(.ref pa), (.int (0 : Int32)), (.ref b), (.int (0 : Int32)), (.ref pa)])) _
    refine F1.len X3 hx hZ e3 (g := (mkF m 67 #[.val (.ref pa), .val (.int sl), .val (.int po), .val (.int (Int32.ofNat q)), .val (.ref b)] [(.ref pa), (.int (0 : Int32)), (.ref b), (.int (0 : Int32)), (.ref pa)])) rfl rfl (hb hby dP_67) _ ?_
    show Steps p.tables e below (T3.setTop (mkF m 68 #[.val (.ref pa), .val (.int sl), .val (.int po), .val (.int (Int32.ofNat q)), .val (.ref b)] [(.int (Int32.ofNat (2 * k))), (.int (0 : Int32)), (.ref b), (.int (0 : Int32)), (.ref pa)])) _
    refine st4 _ ?_
    show Steps p.tables e below (T4.setTop (mkF m 71 #[.val (.ref pa), .val (.int sl), .val (.int po), .val (.int (Int32.ofNat q)), .val (.ref b)] [])) _
    refine XS.aload X4.here hx rfl (hb hby dP_71) rfl rfl ?_
    show Steps p.tables e below (T4.setTop (mkF m 73 #[.val (.ref pa), .val (.int sl), .val (.int po), .val (.int (Int32.ofNat q)), .val (.ref b)] [(.ref b)])) _
    refine XS.iloadN X4.here hx rfl (hb hby dP_73) rfl ?_
    show Steps p.tables e below (T4.setTop (mkF m 74 #[.val (.ref pa), .val (.int sl), .val (.int po), .val (.int (Int32.ofNat q)), .val (.ref b)] [(.int (Int32.ofNat q)), (.ref b)])) _
    refine XS.iloadN X4.here hx rfl (hb hby dP_74) rfl ?_
    show Steps p.tables e below (T4.setTop (mkF m 75 #[.val (.ref pa), .val (.int sl), .val (.int po), .val (.int (Int32.ofNat q)), .val (.ref b)] [(.int sl), (.int (Int32.ofNat q)), (.ref b)])) _
    refine st5 _ ?_
    show Steps p.tables e below (T5.setTop (mkF m 76 #[.val (.ref pa), .val (.int sl), .val (.int po), .val (.int (Int32.ofNat q)), .val (.ref b)] [])) _
    refine XS.aload X5.here hx rfl (hb hby dP_76) rfl rfl ?_
    show Steps p.tables e below (T5.setTop (mkF m 78 #[.val (.ref pa), .val (.int sl), .val (.int po), .val (.int (Int32.ofNat q)), .val (.ref b)] [(.ref b)])) _
    refine XS.iloadN X5.here hx rfl (hb hby dP_78) rfl ?_
    show Steps p.tables e below (T5.setTop (mkF m 79 #[.val (.ref pa), .val (.int sl), .val (.int po), .val (.int (Int32.ofNat q)), .val (.ref b)] [(.int (Int32.ofNat q)), (.ref b)])) _
    refine XS.iconst X5.here hx rfl (hb hby dP_79) ?_
    show Steps p.tables e below (T5.setTop (mkF m 80 #[.val (.ref pa), .val (.int sl), .val (.int po), .val (.int (Int32.ofNat q)), .val (.ref b)] [(.int (1 : Int32)), (.int (Int32.ofNat q)), (.ref b)])) _
    refine XS.iadd X5.here hx rfl (hb hby dP_80) rfl ?_
    show Steps p.tables e below (T5.setTop (mkF m 81 #[.val (.ref pa), .val (.int sl), .val (.int po), .val (.int (Int32.ofNat q)), .val (.ref b)] [(.int ((Int32.ofNat q) + (1 : Int32))), (.ref b)])) _
    refine XS.iloadN X5.here hx rfl (hb hby dP_81) rfl ?_
    show Steps p.tables e below (T5.setTop (mkF m 82 #[.val (.ref pa), .val (.int sl), .val (.int po), .val (.int (Int32.ofNat q)), .val (.ref b)] [(.int po), (.int ((Int32.ofNat q) + (1 : Int32))), (.ref b)])) _
    refine st6 _ ?_
    show Steps p.tables e below (T6.setTop (mkF m 83 #[.val (.ref pa), .val (.int sl), .val (.int po), .val (.int (Int32.ofNat q)), .val (.ref b)] [])) _
    refine XS.aload X6.here hx rfl (hb hby dP_83) rfl rfl ?_
    show Steps p.tables e below (T6.setTop (mkF m 85 #[.val (.ref pa), .val (.int sl), .val (.int po), .val (.int (Int32.ofNat q)), .val (.ref b)] [(.ref b)])) _
    jvm_step X6.here [X6.here.top, hx, (hb hby dP_85), X6.method', Bd.returns, Value.isRef, FieldType.isReference]
    first | (intro acts; rw [hr _ acts rfl rfl rfl]) | rw [hr _ _ rfl rfl rfl]
    exact Steps.refl _
  · show QP Z sl po k f h0 n0 _ T6.heap _
    rw [e6]
    refine ⟨b, rfl, Fr.snoc X6 (Fr.snoc X5 N4 g_b) g_b, ((((Keep.refl h0 []).ext E3).trans K4 (fun y hy => Or.inr (by rw [List.mem_singleton.mp hy]; omega))).wr W5 (Or.inr (by omega))).wr W6 (Or.inr (by omega)), by omega, ?_⟩
    rw [← hnn]
    exact I3.congr fun j hj => by
      show _ = own_upd (own_upd (fun j => if j < 2 * k then f j else 0) (pf f sl k 0) sl) (pf f sl k 0 + 1) po j
      rw [← hq]
def own_TU (Z : State) (h : Heap) (t : Addr) (k : Nat) (f : Nat → Int32) : Prop := Exa Z h t "com/example/xquery_rewriter/xqueryrewriter/algebra/Tuple" ∧ ∃ sq v, Fld Z h t "com/example/xquery_rewriter/xqueryrewriter/algebra/Tuple" "slots" "[Lcom/example/xquery_rewriter/xqueryrewriter/xdm/Sequence;" (.ref sq) ∧ Fld Z h t "com/example/xquery_rewriter/xqueryrewriter/algebra/Tuple" "positions" "[I" v ∧ own_PV Z h v k f
theorem own_TU.keep {Z : State} {h h' : Heap} {t : Addr} {k : Nat} {f : Nat → Int32} (P : own_TU Z h t k f) (K : Keep h h' []) : own_TU Z h' t k f := by
  obtain ⟨h1, sq, v, h2, h3, h4⟩ := P
  exact ⟨h1.keep K, sq, v, h2.keep K nin0, h3.keep K nin0, h4.keep K⟩
def QW (Z : State) (sl po : Int32) (k : Nat) (f : Nat → Int32) (h0 : Heap) (n0 : Nat) (v : Option Value) (h : Heap) (L : List Loc) : Prop := ∃ b, v = some (.ref b) ∧ Fr n0 L ∧ Keep h0 h [] ∧ own_TU Z h b (pwK sl k f) (pwF sl po k f)
set_option maxRecDepth 65536 in
set_option maxHeartbeats 40000000 in
theorem rmW (l : Launch) (Z : State) (a0 : Array Value) (hw : ∀ d ∈ tables_1, d.before a0 Z = true) (ws : List Jvm.Cond) (a : Addr) (sl po : Int32) (k : Nat) (f : Nat → Int32) (h0 : Heap) (n0 : Nat) (Z0 : n0 ≤ h0.size) (P : own_TU Z h0 a k f) (hk : k ≤ 2) :
    MetFree l (⟨"com/example/xquery_rewriter/xqueryrewriter/algebra/Tuple", "withPosition", "(II)Lcom/example/xquery_rewriter/xqueryrewriter/algebra/Tuple;"⟩ : MethodName) (head1 (Jvm.Cond.code (⟨"com/example/xquery_rewriter/xqueryrewriter/algebra/Tuple", "withPosition", "(II)Lcom/example/xquery_rewriter/xqueryrewriter/algebra/Tuple;"⟩ : MethodName) prog_139_method_11_code 3 (some (.object "com/example/xquery_rewriter/xqueryrewriter/algebra/Tuple")) :: ws) ({ frames := 3, cells := 2, slots := 9, locals := 90 } : Room)) (fun a_ U => a_ = #[(.ref a), (.int sl), (.int po)] ∧ Z.Warmed39 U.vm ∧ U.heap = h0) (fun _ _ _ _ _ => True) (fun _ U o U' => ∃ v L, o = .returned v ∧ QW Z sl po k f h0 n0 v U'.heap L ∧ FrameEnd U o U' L ({ frames := 3, cells := 2, slots := 9, locals := 90 } : Room).cells ({ frames := 3, cells := 2, slots := 9, locals := 90 } : Room).slots) := by
  refine MetFree.of_bodySF (plainFor_of_name pnC) hisR ?_
  intro p e s m args below meth c s₁ Bd hml0 hP hK
  obtain ⟨rfl, hZ, hh⟩ := hP
  have hx := Bd.exec
  have hby := Bd.bytes
  have hml : c.maxLocals = 3 := hml0
  have hown : s.vm.findClass "com/example/xquery_rewriter/xqueryrewriter/algebra/Tuple" = some m.cls := findClass_of_methodNamed Bd.named
  have hnm := (name_of_methodNamed Bd.named Bd.method).1
  have X0 : Stand p l e ({ frames := 3, cells := 2, slots := 9, locals := 90 } : Room) s m #[(.ref a), (.int sl), (.int po)] below meth c s₁ [] 0 0 := Stand.of_body Bd
  have e0 : s₁.heap = h0 := by rw [← hh, Bd.state]; rfl
  have N0 := Fr.nil n0
  have pre0 : ∀ t, Steps p.tables e below (s₁.setTop (mkF m 0 #[.val (.ref a), .val (.int sl), .val (.int po)] [])) t → Steps p.tables e below (s₁.setTop (entryFrame m #[(.ref a), (.int sl), (.int po)] 3)) t := fun t k => castTop (efW m a sl po) k
  obtain ⟨Ea, sq, v, Fs, Fp, PV⟩ := P
  have hpk : 0 < pwK sl k f := by rw [pwK]; rcases pf_ok f sl k 0 with h | h <;> split <;> omega
  rcases PV with ⟨rfl, rfl⟩ | ⟨pa, rfl, hk0, F⟩
  · obtain ⟨T2, h2, X2, e2, E2, A2, D2, -, st2⟩ := newO X0 hx hZ hown (hw _ (List.mem_of_getElem? (i := 29) rfl)) (hw _ (List.mem_of_getElem? (i := 2) rfl)) (hw _ (List.mem_of_getElem? (i := 3) rfl)) e0 (g := (mkF m 0 #[.val (.ref a), .val (.int sl), .val (.int po)] [])) rfl (hb hby dW_0) (by decide) (by decide)
    obtain ⟨b2, g2⟩ : ∃ z, z = h0.size := ⟨_, rfl⟩
    rw [← g2] at A2 D2 st2
    obtain ⟨T3, X3, e3, st3⟩ := getF X2 hx hZ hown (host := "") (Or.inl (hw _ (List.mem_of_getElem? (i := 18) rfl))) Via.refl e2 (Fs.ext E2) (g := (mkF m 5 #[.val (.ref a), .val (.int sl), .val (.int po)] [(.ref a), (.ref b2), (.ref b2)])) rfl rfl (hb hby dW_5)
    obtain ⟨T4, X4, e4, st4⟩ := getF X3 hx hZ hown (host := "") (Or.inl (hw _ (List.mem_of_getElem? (i := 20) rfl))) Via.refl e3 (Fp.ext E2) (g := (mkF m 9 #[.val (.ref a), .val (.int sl), .val (.int po)] [(.ref a), (.ref sq), (.ref b2), (.ref b2)])) rfl rfl (hb hby dW_9)
    have Zb : n0 ≤ h2.size := Nat.le_trans Z0 E2.1
    obtain ⟨_, _, ⟨T5, L5, k5, n5⟩, -, X5, ⟨Lc5, hQ5, l5, y5, z5⟩, st5⟩ := Jvm.LawKit.callS X4 hx (y := (⟨"com/example/xquery_rewriter/xqueryrewriter/algebra/Tuple", "withPair", "([III)[I"⟩ : MethodName)) hown (mvT hZ (hw _ (List.mem_of_getElem? (i := 30) rfl))) (mvT hZ (hw _ (List.mem_of_getElem? (i := 31) rfl))) (mvT hZ (hw _ (List.mem_of_getElem? (i := 3) rfl))) (mvT hZ (hw _ (List.mem_of_getElem? (i := 32) rfl))) (by decide) (backOf (W := 3) (rmPn l Z a0 hw [] sl po f h2 n0 Zb) hZ (hw _ (List.mem_of_getElem? (i := 32) rfl)) (hw _ (List.mem_of_getElem? (i := 3) rfl)) (by decide) (by decide)) (g := (mkF m 14 #[.val (.ref a), .val (.int sl), .val (.int po)] [(.int po), (.int sl), .null, (.ref sq), (.ref b2), (.ref b2)])) rfl (by rw [hml]; rfl) (argsL := [.null, (.int sl), (.int po)]) (rest := [(.ref sq), (.ref b2), (.ref b2)]) (lenOf pdP rfl) rfl (by show 2 * 0 + _ ≤ _; exact Nat.le_of_eq rfl) (hb hby dW_14) (fun _ _ => ⟨rfl, e4, (by decide : 1 + 1 ≤ _), (by decide : 3 + 6 ≤ _)⟩)
    dsimp only [Pt.U, Pt.locs, Pt.cells, Pt.slots] at X5 l5 y5 z5 st5 hQ5
    subst l5 y5 z5
    obtain ⟨qb, rfl, N5q, K5, hqb, I5⟩ := hQ5
    have N5 := Fr.app N0 N5q
    have g_b : n0 ≤ b2 := by omega
    have Eb := A2.keep K5
    have G1 := (D2 (Or.inr (hw _ (List.mem_of_getElem? (i := 19) rfl))) (ty := (.array (.object "com/example/xquery_rewriter/xqueryrewriter/xdm/Sequence"))) (by decide)).keep K5 nin0
    have G2 := (D2 (Or.inr (hw _ (List.mem_of_getElem? (i := 21) rfl))) (ty := (.array .int)) (by decide)).keep K5 nin0
    have G3 := (D2 (Or.inr (hw _ (List.mem_of_getElem? (i := 23) rfl))) (ty := .boolean) (by decide)).keep K5 nin0
    obtain ⟨_, _, ⟨T6, L6, k6, n6⟩, -, X6, ⟨Lc6, hQ6, l6, y6, z6⟩, st6⟩ := X5.specialBack hx (y := (⟨"com/example/xquery_rewriter/xqueryrewriter/algebra/Tuple", "<init>", "([Lcom/example/xquery_rewriter/xqueryrewriter/xdm/Sequence;[I)V"⟩ : MethodName)) rfl hown (mvT hZ (hw _ (List.mem_of_getElem? (i := 9) rfl))) (mvT hZ (hw _ (List.mem_of_getElem? (i := 10) rfl))) (mvT hZ (hw _ (List.mem_of_getElem? (i := 11) rfl))) (by decide) (backOf (W := 1) (rm2r l Z a0 hw [] b2 sq qb _ _ _ T5.heap n0 Eb G1 G2 G3 g_b) hZ (hw _ (List.mem_of_getElem? (i := 11) rfl)) (hw _ (List.mem_of_getElem? (i := 3) rfl)) (by decide) (by decide)) (g := (mkF m 17 #[.val (.ref a), .val (.int sl), .val (.int po)] [(.ref qb), (.ref sq), (.ref b2), (.ref b2)])) rfl (by rw [hml]; rfl) (Steps.refl _) (a := b2) (argsL := [(.ref sq), (.ref qb)]) (rest := [(.ref b2)]) (lenOf pd2 rfl) rfl (by show 2 * 0 + _ ≤ _; exact Nat.le_of_eq rfl) (hb hby dW_17) (fun _ _ => ⟨rfl, rfl, (by decide : 2 + 0 ≤ _), (by decide : 9 + 0 ≤ _)⟩)
    dsimp only [Pt.U, Pt.locs, Pt.cells, Pt.slots] at X6 l6 y6 z6 st6 hQ6
    subst l6 y6 z6
    obtain ⟨rfl, N6q, K6, Ex6, Fs6, Fp6⟩ := hQ6
    have N6 := Fr.app N5 N6q
    have ltb : @LT.lt Nat _ b2 h2.size := A2.lt
    have nqb : qb ≠ b2 := Nat.ne_of_gt (by omega)
    have In := I5.keep K6 (ninS nqb nin0)
    have KK : Keep h0 T6.heap [] := (((Keep.refl h0 []).ext E2).trans K5 (fun y hy => Or.inl hy)).trans K6 (fun y hy => Or.inr (by rw [List.mem_singleton.mp hy]; omega))
    obtain ⟨fs, hr, hrun, hended, hW, hsame⟩ := X6.leave (v := some (.ref b2)) (fun h => by rw [Bd.returns] at h; cases h)
    refine ⟨_, _, pre0 _ ?_, hrun, hended, _, _, rfl, ?_, ⟨_, rfl⟩, hW, hsame.mono (by decide) (by decide)⟩
    · show Steps p.tables e below (s₁.setTop (mkF m 0 #[.val (.ref a), .val (.int sl), .val (.int po)] [])) _
      refine st2 _ ?_
      show Steps p.tables e below (T2.setTop (mkF m 3 #[.val (.ref a), .val (.int sl), .val (.int po)] [(.ref b2)])) _
      refine XS.dup X2.here hx rfl (hb hby dW_3) rfl rfl ?_
      show Steps p.tables e below (T2.setTop (mkF m 4 #[.val (.ref a), .val (.int sl), .val (.int po)] [(.ref b2), (.ref b2)])) _
      refine XS.aloadN X2.here hx rfl (hb hby dW_4) rfl rfl ?_
      show Steps p.tables e below (T2.setTop (mkF m 5 #[.val (.ref a), .val (.int sl), .val (.int po)] [(.ref a), (.ref b2), (.ref b2)])) _
      refine st3 _ ?_
      show Steps p.tables e below (T3.setTop (mkF m 8 #[.val (.ref a), .val (.int sl), .val (.int po)] [(.ref sq), (.ref b2), (.ref b2)])) _
      refine XS.aloadN X3.here hx rfl (hb hby dW_8) rfl rfl ?_
      show Steps p.tables e below (T3.setTop (mkF m 9 #[.val (.ref a), .val (.int sl), .val (.int po)] [(.ref a), (.ref sq), (.ref b2), (.ref b2)])) _
      refine st4 _ ?_
      show Steps p.tables e below (T4.setTop (mkF m 12 #[.val (.ref a), .val (.int sl), .val (.int po)] [.null, (.ref sq), (.ref b2), (.ref b2)])) _
      refine XS.iloadN X4.here hx rfl (hb hby dW_12) rfl ?_
      show Steps p.tables e below (T4.setTop (mkF m 13 #[.val (.ref a), .val (.int sl), .val (.int po)] [(.int sl), .null, (.ref sq), (.ref b2), (.ref b2)])) _
      refine XS.iloadN X4.here hx rfl (hb hby dW_13) rfl ?_
      show Steps p.tables e below (T4.setTop (mkF m 14 #[.val (.ref a), .val (.int sl), .val (.int po)] [(.int po), (.int sl), .null, (.ref sq), (.ref b2), (.ref b2)])) _
      refine st5 _ ?_
      show Steps p.tables e below (T5.setTop (mkF m 17 #[.val (.ref a), .val (.int sl), .val (.int po)] [(.ref qb), (.ref sq), (.ref b2), (.ref b2)])) _
      refine st6.trans ?_
      show Steps p.tables e below (T6.setTop (mkF m 20 #[.val (.ref a), .val (.int sl), .val (.int po)] [(.ref b2)])) _
      jvm_step X6.here [X6.here.top, hx, (hb hby dW_20), X6.method', Bd.returns, Value.isRef, FieldType.isReference]
      first | (intro acts; rw [hr _ acts rfl rfl rfl]) | rw [hr _ _ rfl rfl rfl]
      exact Steps.refl _
    · show QW Z sl po 0 f h0 n0 _ T6.heap _
      exact ⟨b2, rfl, N6, KK, Ex6, sq, .ref qb, Fs6, Fp6, Or.inr ⟨qb, rfl, hpk, In⟩⟩
  · obtain ⟨T2, h2, X2, e2, E2, A2, D2, -, st2⟩ := newO X0 hx hZ hown (hw _ (List.mem_of_getElem? (i := 29) rfl)) (hw _ (List.mem_of_getElem? (i := 2) rfl)) (hw _ (List.mem_of_getElem? (i := 3) rfl)) e0 (g := (mkF m 0 #[.val (.ref a), .val (.int sl), .val (.int po)] [])) rfl (hb hby dW_0) (by decide) (by decide)
    obtain ⟨b2, g2⟩ : ∃ z, z = h0.size := ⟨_, rfl⟩
    rw [← g2] at A2 D2 st2
    obtain ⟨T3, X3, e3, st3⟩ := getF X2 hx hZ hown (host := "") (Or.inl (hw _ (List.mem_of_getElem? (i := 18) rfl))) Via.refl e2 (Fs.ext E2) (g := (mkF m 5 #[.val (.ref a), .val (.int sl), .val (.int po)] [(.ref a), (.ref b2), (.ref b2)])) rfl rfl (hb hby dW_5)
    obtain ⟨T4, X4, e4, st4⟩ := getF X3 hx hZ hown (host := "") (Or.inl (hw _ (List.mem_of_getElem? (i := 20) rfl))) Via.refl e3 (Fp.ext E2) (g := (mkF m 9 #[.val (.ref a), .val (.int sl), .val (.int po)] [(.ref a), (.ref sq), (.ref b2), (.ref b2)])) rfl rfl (hb hby dW_9)
    have Zb : n0 ≤ h2.size := Nat.le_trans Z0 E2.1
    obtain ⟨_, _, ⟨T5, L5, k5, n5⟩, -, X5, ⟨Lc5, hQ5, l5, y5, z5⟩, st5⟩ := Jvm.LawKit.callS X4 hx (y := (⟨"com/example/xquery_rewriter/xqueryrewriter/algebra/Tuple", "withPair", "([III)[I"⟩ : MethodName)) hown (mvT hZ (hw _ (List.mem_of_getElem? (i := 30) rfl))) (mvT hZ (hw _ (List.mem_of_getElem? (i := 31) rfl))) (mvT hZ (hw _ (List.mem_of_getElem? (i := 3) rfl))) (mvT hZ (hw _ (List.mem_of_getElem? (i := 32) rfl))) (by decide) (backOf (W := 3) (rmPr l Z a0 hw [] pa sl po k f h2 n0 Zb (F.ext E2) hk) hZ (hw _ (List.mem_of_getElem? (i := 32) rfl)) (hw _ (List.mem_of_getElem? (i := 3) rfl)) (by decide) (by decide)) (g := (mkF m 14 #[.val (.ref a), .val (.int sl), .val (.int po)] [(.int po), (.int sl), (.ref pa), (.ref sq), (.ref b2), (.ref b2)])) rfl (by rw [hml]; rfl) (argsL := [(.ref pa), (.int sl), (.int po)]) (rest := [(.ref sq), (.ref b2), (.ref b2)]) (lenOf pdP rfl) rfl (by show 2 * 0 + _ ≤ _; exact Nat.le_of_eq rfl) (hb hby dW_14) (fun _ _ => ⟨rfl, e4, (by decide : 1 + 1 ≤ _), (by decide : 3 + 6 ≤ _)⟩)
    dsimp only [Pt.U, Pt.locs, Pt.cells, Pt.slots] at X5 l5 y5 z5 st5 hQ5
    subst l5 y5 z5
    obtain ⟨qb, rfl, N5q, K5, hqb, I5⟩ := hQ5
    have N5 := Fr.app N0 N5q
    have g_b : n0 ≤ b2 := by omega
    have Eb := A2.keep K5
    have G1 := (D2 (Or.inr (hw _ (List.mem_of_getElem? (i := 19) rfl))) (ty := (.array (.object "com/example/xquery_rewriter/xqueryrewriter/xdm/Sequence"))) (by decide)).keep K5 nin0
    have G2 := (D2 (Or.inr (hw _ (List.mem_of_getElem? (i := 21) rfl))) (ty := (.array .int)) (by decide)).keep K5 nin0
    have G3 := (D2 (Or.inr (hw _ (List.mem_of_getElem? (i := 23) rfl))) (ty := .boolean) (by decide)).keep K5 nin0
    obtain ⟨_, _, ⟨T6, L6, k6, n6⟩, -, X6, ⟨Lc6, hQ6, l6, y6, z6⟩, st6⟩ := X5.specialBack hx (y := (⟨"com/example/xquery_rewriter/xqueryrewriter/algebra/Tuple", "<init>", "([Lcom/example/xquery_rewriter/xqueryrewriter/xdm/Sequence;[I)V"⟩ : MethodName)) rfl hown (mvT hZ (hw _ (List.mem_of_getElem? (i := 9) rfl))) (mvT hZ (hw _ (List.mem_of_getElem? (i := 10) rfl))) (mvT hZ (hw _ (List.mem_of_getElem? (i := 11) rfl))) (by decide) (backOf (W := 1) (rm2r l Z a0 hw [] b2 sq qb _ _ _ T5.heap n0 Eb G1 G2 G3 g_b) hZ (hw _ (List.mem_of_getElem? (i := 11) rfl)) (hw _ (List.mem_of_getElem? (i := 3) rfl)) (by decide) (by decide)) (g := (mkF m 17 #[.val (.ref a), .val (.int sl), .val (.int po)] [(.ref qb), (.ref sq), (.ref b2), (.ref b2)])) rfl (by rw [hml]; rfl) (Steps.refl _) (a := b2) (argsL := [(.ref sq), (.ref qb)]) (rest := [(.ref b2)]) (lenOf pd2 rfl) rfl (by show 2 * 0 + _ ≤ _; exact Nat.le_of_eq rfl) (hb hby dW_17) (fun _ _ => ⟨rfl, rfl, (by decide : 2 + 0 ≤ _), (by decide : 9 + 0 ≤ _)⟩)
    dsimp only [Pt.U, Pt.locs, Pt.cells, Pt.slots] at X6 l6 y6 z6 st6 hQ6
    subst l6 y6 z6
    obtain ⟨rfl, N6q, K6, Ex6, Fs6, Fp6⟩ := hQ6
    have N6 := Fr.app N5 N6q
    have ltb : @LT.lt Nat _ b2 h2.size := A2.lt
    have nqb : qb ≠ b2 := Nat.ne_of_gt (by omega)
    have In := I5.keep K6 (ninS nqb nin0)
    have KK : Keep h0 T6.heap [] := (((Keep.refl h0 []).ext E2).trans K5 (fun y hy => Or.inl hy)).trans K6 (fun y hy => Or.inr (by rw [List.mem_singleton.mp hy]; omega))
    obtain ⟨fs, hr, hrun, hended, hW, hsame⟩ := X6.leave (v := some (.ref b2)) (fun h => by rw [Bd.returns] at h; cases h)
    refine ⟨_, _, pre0 _ ?_, hrun, hended, _, _, rfl, ?_, ⟨_, rfl⟩, hW, hsame.mono (by decide) (by decide)⟩
    · show Steps p.tables e below (s₁.setTop (mkF m 0 #[.val (.ref a), .val (.int sl), .val (.int po)] [])) _
      refine st2 _ ?_
      show Steps p.tables e below (T2.setTop (mkF m 3 #[.val (.ref a), .val (.int sl), .val (.int po)] [(.ref b2)])) _
      refine XS.dup X2.here hx rfl (hb hby dW_3) rfl rfl ?_
      show Steps p.tables e below (T2.setTop (mkF m 4 #[.val (.ref a), .val (.int sl), .val (.int po)] [(.ref b2), (.ref b2)])) _
      refine XS.aloadN X2.here hx rfl (hb hby dW_4) rfl rfl ?_
      show Steps p.tables e below (T2.setTop (mkF m 5 #[.val (.ref a), .val (.int sl), .val (.int po)] [(.ref a), (.ref b2), (.ref b2)])) _
      refine st3 _ ?_
      show Steps p.tables e below (T3.setTop (mkF m 8 #[.val (.ref a), .val (.int sl), .val (.int po)] [(.ref sq), (.ref b2), (.ref b2)])) _
      refine XS.aloadN X3.here hx rfl (hb hby dW_8) rfl rfl ?_
      show Steps p.tables e below (T3.setTop (mkF m 9 #[.val (.ref a), .val (.int sl), .val (.int po)] [(.ref a), (.ref sq), (.ref b2), (.ref b2)])) _
      refine st4 _ ?_
      show Steps p.tables e below (T4.setTop (mkF m 12 #[.val (.ref a), .val (.int sl), .val (.int po)] [(.ref pa), (.ref sq), (.ref b2), (.ref b2)])) _
      refine XS.iloadN X4.here hx rfl (hb hby dW_12) rfl ?_
      show Steps p.tables e below (T4.setTop (mkF m 13 #[.val (.ref a), .val (.int sl), .val (.int po)] [(.int sl), (.ref pa), (.ref sq), (.ref b2), (.ref b2)])) _
      refine XS.iloadN X4.here hx rfl (hb hby dW_13) rfl ?_
      show Steps p.tables e below (T4.setTop (mkF m 14 #[.val (.ref a), .val (.int sl), .val (.int po)] [(.int po), (.int sl), (.ref pa), (.ref sq), (.ref b2), (.ref b2)])) _
      refine st5 _ ?_
      show Steps p.tables e below (T5.setTop (mkF m 17 #[.val (.ref a), .val (.int sl), .val (.int po)] [(.ref qb), (.ref sq), (.ref b2), (.ref b2)])) _
      refine st6.trans ?_
      show Steps p.tables e below (T6.setTop (mkF m 20 #[.val (.ref a), .val (.int sl), .val (.int po)] [(.ref b2)])) _
      jvm_step X6.here [X6.here.top, hx, (hb hby dW_20), X6.method', Bd.returns, Value.isRef, FieldType.isReference]
      first | (intro acts; rw [hr _ acts rfl rfl rfl]) | rw [hr _ _ rfl rfl rfl]
      exact Steps.refl _
    · show QW Z sl po k f h0 n0 _ T6.heap _
      exact ⟨b2, rfl, N6, KK, Ex6, sq, .ref qb, Fs6, Fp6, Or.inr ⟨qb, rfl, hpk, In⟩⟩
def pg (f : Nat → Int32) (x : Int32) : Nat → Nat → Int32 → Int32
  | 0, _, r => r
  | j + 1, i, r => if r < (0 : Int32) then pg f x j (i + 2) (if f i = x then f (i + 1) else r) else r
section PgLoop
variable {p : Program} {l : Launch} {e : Env} {R : Room} {s : State} {m : MethodId} {args : Array Value} {below : List Frame} {meth : Method} {c : Code} {T : State} {locs : List Loc} {cells slots : Nat} {Z : State} {a0 : Array Value} {n0 : Nat}
set_option maxRecDepth 65536 in
set_option maxHeartbeats 40000000 in
theorem pgloop (hw : ∀ d ∈ tables_1, d.before a0 Z = true) (hx : p.tables.exec = Jvm.exec) (hby : c.code = prog_139_method_5_code) (hZ : Z.Warmed39 s.vm) (hown : s.vm.findClass "com/example/xquery_rewriter/xqueryrewriter/algebra/Tuple" = some m.cls) {h : Heap} {a pa : Addr} {x : Int32} {k : Nat} {f : Nat → Int32} (Fp : Fld Z h a "com/example/xquery_rewriter/xqueryrewriter/algebra/Tuple" "positions" "[I" (.ref pa)) (F : own_IA Z h pa (2 * k) f) :
    ∀ (j i : Nat) (r : Int32) (T : State), i + 2 * j = 2 * k → Stand p l e R s m args below meth c T locs cells slots → T.heap = h → ∃ (T' : State) (z : Int32), Stand p l e R s m args below meth c T' locs cells slots ∧ T'.heap = h ∧ ∀ t, Steps p.tables e below (T'.setTop (mkF m 49 #[.val (.ref a), .val (.int x), .val (.int (pg f x j i r)), .val (.int z)] [])) t → Steps p.tables e below (T.setTop (mkF m 4 #[.val (.ref a), .val (.int x), .val (.int r), .val (.int (Int32.ofNat i))] [])) t := by
  have hk := F.1
  intro j
  induction j with
  | zero =>
    intro i r T hi X eT
    have h17 : ¬ (Int32.ofNat i < Int32.ofNat (2 * k)) := by rw [own_lt (by omega) (by omega)]; omega
    obtain ⟨T2, X2, e2, st2⟩ := getF X hx hZ hown (host := "") (Or.inl (hw _ (List.mem_of_getElem? (i := 20) rfl))) Via.refl eT Fp (g := (mkF m 5 #[.val (.ref a), .val (.int x), .val (.int r), .val (.int (Int32.ofNat i))] [(.ref a)])) rfl rfl (hb hby dG_5)
    obtain ⟨T3, X3, e3, st3⟩ := getF X2 hx hZ hown (host := "") (Or.inl (hw _ (List.mem_of_getElem? (i := 20) rfl))) Via.refl e2 Fp (g := (mkF m 13 #[.val (.ref a), .val (.int x), .val (.int r), .val (.int (Int32.ofNat i))] [(.ref a), (.int (Int32.ofNat i))])) rfl rfl (hb hby dG_13)
    refine ⟨T3, Int32.ofNat i, X3, e3, fun t kk => ?_⟩
    rw [pg] at kk
    show Steps p.tables e below (T.setTop (mkF m 4 #[.val (.ref a), .val (.int x), .val (.int r), .val (.int (Int32.ofNat i))] [])) _
    refine XS.aloadN X.here hx rfl (hb hby dG_4) rfl rfl ?_
    show Steps p.tables e below (T.setTop (mkF m 5 #[.val (.ref a), .val (.int x), .val (.int r), .val (.int (Int32.ofNat i))] [(.ref a)])) _
    refine st2 _ ?_
    show Steps p.tables e below (T2.setTop (mkF m 8 #[.val (.ref a), .val (.int x), .val (.int r), .val (.int (Int32.ofNat i))] [(.ref pa)])) _
    refine XS.ifnullNo X2.here hx rfl (hb hby dG_8) rfl ?_
    show Steps p.tables e below (T2.setTop (mkF m 11 #[.val (.ref a), .val (.int x), .val (.int r), .val (.int (Int32.ofNat i))] [])) _
    refine XS.iloadN X2.here hx rfl (hb hby dG_11) rfl ?_
    show Steps p.tables e below (T2.setTop (mkF m 12 #[.val (.ref a), .val (.int x), .val (.int r), .val (.int (Int32.ofNat i))] [(.int (Int32.ofNat i))])) _
    refine XS.aloadN X2.here hx rfl (hb hby dG_12) rfl rfl ?_
    show Steps p.tables e below (T2.setTop (mkF m 13 #[.val (.ref a), .val (.int x), .val (.int r), .val (.int (Int32.ofNat i))] [(.ref a), (.int (Int32.ofNat i))])) _
    refine st3 _ ?_
    show Steps p.tables e below (T3.setTop (mkF m 16 #[.val (.ref a), .val (.int x), .val (.int r), .val (.int (Int32.ofNat i))] [(.ref pa), (.int (Int32.ofNat i))])) _
    refine F.len X3 hx hZ e3 (g := (mkF m 16 #[.val (.ref a), .val (.int x), .val (.int r), .val (.int (Int32.ofNat i))] [(.ref pa), (.int (Int32.ofNat i))])) rfl rfl (hb hby dG_16) _ ?_
    show Steps p.tables e below (T3.setTop (mkF m 17 #[.val (.ref a), .val (.int x), .val (.int r), .val (.int (Int32.ofNat i))] [(.int (Int32.ofNat (2 * k))), (.int (Int32.ofNat i))])) _
    refine XS.icmpYes X3.here hx rfl (pc0 := 17) (pc' := 49) rfl (hb hby dG_17) rfl (flt h17).2.1 (by decide) (by decide) ?_
    exact kk
  | succ j ih =>
    intro i r T hi X eT
    have h17 : Int32.ofNat i < Int32.ofNat (2 * k) := by rw [own_lt (by omega) (by omega)]; omega
    by_cases hr : r < (0 : Int32)
    · by_cases hc : f i = x
      · obtain ⟨T2, X2, e2, st2⟩ := getF X hx hZ hown (host := "") (Or.inl (hw _ (List.mem_of_getElem? (i := 20) rfl))) Via.refl eT Fp (g := (mkF m 5 #[.val (.ref a), .val (.int x), .val (.int r), .val (.int (Int32.ofNat i))] [(.ref a)])) rfl rfl (hb hby dG_5)
        obtain ⟨T3, X3, e3, st3⟩ := getF X2 hx hZ hown (host := "") (Or.inl (hw _ (List.mem_of_getElem? (i := 20) rfl))) Via.refl e2 Fp (g := (mkF m 13 #[.val (.ref a), .val (.int x), .val (.int r), .val (.int (Int32.ofNat i))] [(.ref a), (.int (Int32.ofNat i))])) rfl rfl (hb hby dG_13)
        obtain ⟨T4, X4, e4, st4⟩ := getF X3 hx hZ hown (host := "") (Or.inl (hw _ (List.mem_of_getElem? (i := 20) rfl))) Via.refl e3 Fp (g := (mkF m 25 #[.val (.ref a), .val (.int x), .val (.int r), .val (.int (Int32.ofNat i))] [(.ref a)])) rfl rfl (hb hby dG_25)
        obtain ⟨T5, X5, e5, st5⟩ := getF X4 hx hZ hown (host := "") (Or.inl (hw _ (List.mem_of_getElem? (i := 20) rfl))) Via.refl e4 Fp (g := (mkF m 35 #[.val (.ref a), .val (.int x), .val (.int r), .val (.int (Int32.ofNat i))] [(.ref a)])) rfl rfl (hb hby dG_35)
        obtain ⟨T', z, X', e', st'⟩ := ih (i + 2) (f (i + 1)) T5 (by omega) X5 e5
        refine ⟨T', z, X', e', fun t kk => ?_⟩
        rw [pg, if_pos hr, if_pos hc] at kk
        show Steps p.tables e below (T.setTop (mkF m 4 #[.val (.ref a), .val (.int x), .val (.int r), .val (.int (Int32.ofNat i))] [])) _
        refine XS.aloadN X.here hx rfl (hb hby dG_4) rfl rfl ?_
        show Steps p.tables e below (T.setTop (mkF m 5 #[.val (.ref a), .val (.int x), .val (.int r), .val (.int (Int32.ofNat i))] [(.ref a)])) _
        refine st2 _ ?_
        show Steps p.tables e below (T2.setTop (mkF m 8 #[.val (.ref a), .val (.int x), .val (.int r), .val (.int (Int32.ofNat i))] [(.ref pa)])) _
        refine XS.ifnullNo X2.here hx rfl (hb hby dG_8) rfl ?_
        show Steps p.tables e below (T2.setTop (mkF m 11 #[.val (.ref a), .val (.int x), .val (.int r), .val (.int (Int32.ofNat i))] [])) _
        refine XS.iloadN X2.here hx rfl (hb hby dG_11) rfl ?_
        show Steps p.tables e below (T2.setTop (mkF m 12 #[.val (.ref a), .val (.int x), .val (.int r), .val (.int (Int32.ofNat i))] [(.int (Int32.ofNat i))])) _
        refine XS.aloadN X2.here hx rfl (hb hby dG_12) rfl rfl ?_
        show Steps p.tables e below (T2.setTop (mkF m 13 #[.val (.ref a), .val (.int x), .val (.int r), .val (.int (Int32.ofNat i))] [(.ref a), (.int (Int32.ofNat i))])) _
        refine st3 _ ?_
        show Steps p.tables e below (T3.setTop (mkF m 16 #[.val (.ref a), .val (.int x), .val (.int r), .val (.int (Int32.ofNat i))] [(.ref pa), (.int (Int32.ofNat i))])) _
        refine F.len X3 hx hZ e3 (g := (mkF m 16 #[.val (.ref a), .val (.int x), .val (.int r), .val (.int (Int32.ofNat i))] [(.ref pa), (.int (Int32.ofNat i))])) rfl rfl (hb hby dG_16) _ ?_
        show Steps p.tables e below (T3.setTop (mkF m 17 #[.val (.ref a), .val (.int x), .val (.int r), .val (.int (Int32.ofNat i))] [(.int (Int32.ofNat (2 * k))), (.int (Int32.ofNat i))])) _
        refine XS.icmpNo X3.here hx rfl (hb hby dG_17) rfl (tlt h17).2.1 ?_
        show Steps p.tables e below (T3.setTop (mkF m 20 #[.val (.ref a), .val (.int x), .val (.int r), .val (.int (Int32.ofNat i))] [])) _
        refine XS.iloadN X3.here hx rfl (hb hby dG_20) rfl ?_
        show Steps p.tables e below (T3.setTop (mkF m 21 #[.val (.ref a), .val (.int x), .val (.int r), .val (.int (Int32.ofNat i))] [(.int r)])) _
        refine XS.ifNo X3.here hx rfl (hb hby dG_21) rfl ((if0 _ _).trans (tlt hr).2.1) ?_
        show Steps p.tables e below (T3.setTop (mkF m 24 #[.val (.ref a), .val (.int x), .val (.int r), .val (.int (Int32.ofNat i))] [])) _
        refine XS.aloadN X3.here hx rfl (hb hby dG_24) rfl rfl ?_
        show Steps p.tables e below (T3.setTop (mkF m 25 #[.val (.ref a), .val (.int x), .val (.int r), .val (.int (Int32.ofNat i))] [(.ref a)])) _
        refine st4 _ ?_
        show Steps p.tables e below (T4.setTop (mkF m 28 #[.val (.ref a), .val (.int x), .val (.int r), .val (.int (Int32.ofNat i))] [(.ref pa)])) _
        refine XS.iloadN X4.here hx rfl (hb hby dG_28) rfl ?_
        show Steps p.tables e below (T4.setTop (mkF m 29 #[.val (.ref a), .val (.int x), .val (.int r), .val (.int (Int32.ofNat i))] [(.int (Int32.ofNat i)), (.ref pa)])) _
        refine F.ld X4 hx hZ e4 (i := i) rfl (by omega) (g := (mkF m 29 #[.val (.ref a), .val (.int x), .val (.int r), .val (.int (Int32.ofNat i))] [(.int (Int32.ofNat i)), (.ref pa)])) rfl rfl (hb hby dG_29) _ ?_
        show Steps p.tables e below (T4.setTop (mkF m 30 #[.val (.ref a), .val (.int x), .val (.int r), .val (.int (Int32.ofNat i))] [(.int (f i))])) _
        refine XS.iloadN X4.here hx rfl (hb hby dG_30) rfl ?_
        show Steps p.tables e below (T4.setTop (mkF m 31 #[.val (.ref a), .val (.int x), .val (.int r), .val (.int (Int32.ofNat i))] [(.int x), (.int (f i))])) _
        refine XS.icmpNo X4.here hx rfl (hb hby dG_31) rfl (teq hc).2 ?_
        show Steps p.tables e below (T4.setTop (mkF m 34 #[.val (.ref a), .val (.int x), .val (.int r), .val (.int (Int32.ofNat i))] [])) _
        refine XS.aloadN X4.here hx rfl (hb hby dG_34) rfl rfl ?_
        show Steps p.tables e below (T4.setTop (mkF m 35 #[.val (.ref a), .val (.int x), .val (.int r), .val (.int (Int32.ofNat i))] [(.ref a)])) _
        refine st5 _ ?_
        show Steps p.tables e below (T5.setTop (mkF m 38 #[.val (.ref a), .val (.int x), .val (.int r), .val (.int (Int32.ofNat i))] [(.ref pa)])) _
        refine XS.iloadN X5.here hx rfl (hb hby dG_38) rfl ?_
        show Steps p.tables e below (T5.setTop (mkF m 39 #[.val (.ref a), .val (.int x), .val (.int r), .val (.int (Int32.ofNat i))] [(.int (Int32.ofNat i)), (.ref pa)])) _
        refine XS.iconst X5.here hx rfl (hb hby dG_39) ?_
        show Steps p.tables e below (T5.setTop (mkF m 40 #[.val (.ref a), .val (.int x), .val (.int r), .val (.int (Int32.ofNat i))] [(.int (1 : Int32)), (.int (Int32.ofNat i)), (.ref pa)])) _
        refine XS.iadd X5.here hx rfl (hb hby dG_40) rfl ?_
        show Steps p.tables e below (T5.setTop (mkF m 41 #[.val (.ref a), .val (.int x), .val (.int r), .val (.int (Int32.ofNat i))] [(.int ((Int32.ofNat i) + (1 : Int32))), (.ref pa)])) _
        refine F.ld X5 hx hZ e5 (i := i + 1) (own_succ i) (by omega) (g := (mkF m 41 #[.val (.ref a), .val (.int x), .val (.int r), .val (.int (Int32.ofNat i))] [(.int ((Int32.ofNat i) + (1 : Int32))), (.ref pa)])) rfl rfl (hb hby dG_41) _ ?_
        show Steps p.tables e below (T5.setTop (mkF m 42 #[.val (.ref a), .val (.int x), .val (.int r), .val (.int (Int32.ofNat i))] [(.int (f (i + 1)))])) _
        refine XS.istoreN X5.here hx rfl (hb hby dG_42) rfl (l' := #[.val (.ref a), .val (.int x), .val (.int (f (i + 1))), .val (.int (Int32.ofNat i))]) rfl ?_
        show Steps p.tables e below (T5.setTop (mkF m 43 #[.val (.ref a), .val (.int x), .val (.int (f (i + 1))), .val (.int (Int32.ofNat i))] [])) _
        refine XS.iinc X5.here hx rfl (hb hby dG_43) rfl (l' := #[.val (.ref a), .val (.int x), .val (.int (f (i + 1))), .val (.int ((Int32.ofNat i) + (2 : Int32)))]) rfl ?_
        show Steps p.tables e below (T5.setTop (mkF m 46 #[.val (.ref a), .val (.int x), .val (.int (f (i + 1))), .val (.int ((Int32.ofNat i) + (2 : Int32)))] [])) _
        rw [own_add2]
        show Steps p.tables e below (T5.setTop (mkF m 46 #[.val (.ref a), .val (.int x), .val (.int (f (i + 1))), .val (.int (Int32.ofNat (i + 2)))] [])) _
        refine XS.goto X5.here hx rfl (pc0 := 46) (pc' := 4) rfl (hb hby dG_46) (by decide) (by decide) ?_
        exact st' t kk
      · obtain ⟨T2, X2, e2, st2⟩ := getF X hx hZ hown (host := "") (Or.inl (hw _ (List.mem_of_getElem? (i := 20) rfl))) Via.refl eT Fp (g := (mkF m 5 #[.val (.ref a), .val (.int x), .val (.int r), .val (.int (Int32.ofNat i))] [(.ref a)])) rfl rfl (hb hby dG_5)
        obtain ⟨T3, X3, e3, st3⟩ := getF X2 hx hZ hown (host := "") (Or.inl (hw _ (List.mem_of_getElem? (i := 20) rfl))) Via.refl e2 Fp (g := (mkF m 13 #[.val (.ref a), .val (.int x), .val (.int r), .val (.int (Int32.ofNat i))] [(.ref a), (.int (Int32.ofNat i))])) rfl rfl (hb hby dG_13)
        obtain ⟨T4, X4, e4, st4⟩ := getF X3 hx hZ hown (host := "") (Or.inl (hw _ (List.mem_of_getElem? (i := 20) rfl))) Via.refl e3 Fp (g := (mkF m 25 #[.val (.ref a), .val (.int x), .val (.int r), .val (.int (Int32.ofNat i))] [(.ref a)])) rfl rfl (hb hby dG_25)
        obtain ⟨T', z, X', e', st'⟩ := ih (i + 2) r T4 (by omega) X4 e4
        refine ⟨T', z, X', e', fun t kk => ?_⟩
        rw [pg, if_pos hr, if_neg hc] at kk
        show Steps p.tables e below (T.setTop (mkF m 4 #[.val (.ref a), .val (.int x), .val (.int r), .val (.int (Int32.ofNat i))] [])) _
        refine XS.aloadN X.here hx rfl (hb hby dG_4) rfl rfl ?_
        show Steps p.tables e below (T.setTop (mkF m 5 #[.val (.ref a), .val (.int x), .val (.int r), .val (.int (Int32.ofNat i))] [(.ref a)])) _
        refine st2 _ ?_
        show Steps p.tables e below (T2.setTop (mkF m 8 #[.val (.ref a), .val (.int x), .val (.int r), .val (.int (Int32.ofNat i))] [(.ref pa)])) _
        refine XS.ifnullNo X2.here hx rfl (hb hby dG_8) rfl ?_
        show Steps p.tables e below (T2.setTop (mkF m 11 #[.val (.ref a), .val (.int x), .val (.int r), .val (.int (Int32.ofNat i))] [])) _
        refine XS.iloadN X2.here hx rfl (hb hby dG_11) rfl ?_
        show Steps p.tables e below (T2.setTop (mkF m 12 #[.val (.ref a), .val (.int x), .val (.int r), .val (.int (Int32.ofNat i))] [(.int (Int32.ofNat i))])) _
        refine XS.aloadN X2.here hx rfl (hb hby dG_12) rfl rfl ?_
        show Steps p.tables e below (T2.setTop (mkF m 13 #[.val (.ref a), .val (.int x), .val (.int r), .val (.int (Int32.ofNat i))] [(.ref a), (.int (Int32.ofNat i))])) _
        refine st3 _ ?_
        show Steps p.tables e below (T3.setTop (mkF m 16 #[.val (.ref a), .val (.int x), .val (.int r), .val (.int (Int32.ofNat i))] [(.ref pa), (.int (Int32.ofNat i))])) _
        refine F.len X3 hx hZ e3 (g := (mkF m 16 #[.val (.ref a), .val (.int x), .val (.int r), .val (.int (Int32.ofNat i))] [(.ref pa), (.int (Int32.ofNat i))])) rfl rfl (hb hby dG_16) _ ?_
        show Steps p.tables e below (T3.setTop (mkF m 17 #[.val (.ref a), .val (.int x), .val (.int r), .val (.int (Int32.ofNat i))] [(.int (Int32.ofNat (2 * k))), (.int (Int32.ofNat i))])) _
        refine XS.icmpNo X3.here hx rfl (hb hby dG_17) rfl (tlt h17).2.1 ?_
        show Steps p.tables e below (T3.setTop (mkF m 20 #[.val (.ref a), .val (.int x), .val (.int r), .val (.int (Int32.ofNat i))] [])) _
        refine XS.iloadN X3.here hx rfl (hb hby dG_20) rfl ?_
        show Steps p.tables e below (T3.setTop (mkF m 21 #[.val (.ref a), .val (.int x), .val (.int r), .val (.int (Int32.ofNat i))] [(.int r)])) _
        refine XS.ifNo X3.here hx rfl (hb hby dG_21) rfl ((if0 _ _).trans (tlt hr).2.1) ?_
        show Steps p.tables e below (T3.setTop (mkF m 24 #[.val (.ref a), .val (.int x), .val (.int r), .val (.int (Int32.ofNat i))] [])) _
        refine XS.aloadN X3.here hx rfl (hb hby dG_24) rfl rfl ?_
        show Steps p.tables e below (T3.setTop (mkF m 25 #[.val (.ref a), .val (.int x), .val (.int r), .val (.int (Int32.ofNat i))] [(.ref a)])) _
        refine st4 _ ?_
        show Steps p.tables e below (T4.setTop (mkF m 28 #[.val (.ref a), .val (.int x), .val (.int r), .val (.int (Int32.ofNat i))] [(.ref pa)])) _
        refine XS.iloadN X4.here hx rfl (hb hby dG_28) rfl ?_
        show Steps p.tables e below (T4.setTop (mkF m 29 #[.val (.ref a), .val (.int x), .val (.int r), .val (.int (Int32.ofNat i))] [(.int (Int32.ofNat i)), (.ref pa)])) _
        refine F.ld X4 hx hZ e4 (i := i) rfl (by omega) (g := (mkF m 29 #[.val (.ref a), .val (.int x), .val (.int r), .val (.int (Int32.ofNat i))] [(.int (Int32.ofNat i)), (.ref pa)])) rfl rfl (hb hby dG_29) _ ?_
        show Steps p.tables e below (T4.setTop (mkF m 30 #[.val (.ref a), .val (.int x), .val (.int r), .val (.int (Int32.ofNat i))] [(.int (f i))])) _
        refine XS.iloadN X4.here hx rfl (hb hby dG_30) rfl ?_
        show Steps p.tables e below (T4.setTop (mkF m 31 #[.val (.ref a), .val (.int x), .val (.int r), .val (.int (Int32.ofNat i))] [(.int x), (.int (f i))])) _
        refine XS.icmpYes X4.here hx rfl (pc0 := 31) (pc' := 43) rfl (hb hby dG_31) rfl (feq hc).2 (by decide) (by decide) ?_
        show Steps p.tables e below (T4.setTop (mkF m 43 #[.val (.ref a), .val (.int x), .val (.int r), .val (.int (Int32.ofNat i))] [])) _
        refine XS.iinc X4.here hx rfl (hb hby dG_43) rfl (l' := #[.val (.ref a), .val (.int x), .val (.int r), .val (.int ((Int32.ofNat i) + (2 : Int32)))]) rfl ?_
        show Steps p.tables e below (T4.setTop (mkF m 46 #[.val (.ref a), .val (.int x), .val (.int r), .val (.int ((Int32.ofNat i) + (2 : Int32)))] [])) _
        rw [own_add2]
        show Steps p.tables e below (T4.setTop (mkF m 46 #[.val (.ref a), .val (.int x), .val (.int r), .val (.int (Int32.ofNat (i + 2)))] [])) _
        refine XS.goto X4.here hx rfl (pc0 := 46) (pc' := 4) rfl (hb hby dG_46) (by decide) (by decide) ?_
        exact st' t kk
    · obtain ⟨T2, X2, e2, st2⟩ := getF X hx hZ hown (host := "") (Or.inl (hw _ (List.mem_of_getElem? (i := 20) rfl))) Via.refl eT Fp (g := (mkF m 5 #[.val (.ref a), .val (.int x), .val (.int r), .val (.int (Int32.ofNat i))] [(.ref a)])) rfl rfl (hb hby dG_5)
      obtain ⟨T3, X3, e3, st3⟩ := getF X2 hx hZ hown (host := "") (Or.inl (hw _ (List.mem_of_getElem? (i := 20) rfl))) Via.refl e2 Fp (g := (mkF m 13 #[.val (.ref a), .val (.int x), .val (.int r), .val (.int (Int32.ofNat i))] [(.ref a), (.int (Int32.ofNat i))])) rfl rfl (hb hby dG_13)
      refine ⟨T3, Int32.ofNat i, X3, e3, fun t kk => ?_⟩
      rw [pg, if_neg hr] at kk
      show Steps p.tables e below (T.setTop (mkF m 4 #[.val (.ref a), .val (.int x), .val (.int r), .val (.int (Int32.ofNat i))] [])) _
      refine XS.aloadN X.here hx rfl (hb hby dG_4) rfl rfl ?_
      show Steps p.tables e below (T.setTop (mkF m 5 #[.val (.ref a), .val (.int x), .val (.int r), .val (.int (Int32.ofNat i))] [(.ref a)])) _
      refine st2 _ ?_
      show Steps p.tables e below (T2.setTop (mkF m 8 #[.val (.ref a), .val (.int x), .val (.int r), .val (.int (Int32.ofNat i))] [(.ref pa)])) _
      refine XS.ifnullNo X2.here hx rfl (hb hby dG_8) rfl ?_
      show Steps p.tables e below (T2.setTop (mkF m 11 #[.val (.ref a), .val (.int x), .val (.int r), .val (.int (Int32.ofNat i))] [])) _
      refine XS.iloadN X2.here hx rfl (hb hby dG_11) rfl ?_
      show Steps p.tables e below (T2.setTop (mkF m 12 #[.val (.ref a), .val (.int x), .val (.int r), .val (.int (Int32.ofNat i))] [(.int (Int32.ofNat i))])) _
      refine XS.aloadN X2.here hx rfl (hb hby dG_12) rfl rfl ?_
      show Steps p.tables e below (T2.setTop (mkF m 13 #[.val (.ref a), .val (.int x), .val (.int r), .val (.int (Int32.ofNat i))] [(.ref a), (.int (Int32.ofNat i))])) _
      refine st3 _ ?_
      show Steps p.tables e below (T3.setTop (mkF m 16 #[.val (.ref a), .val (.int x), .val (.int r), .val (.int (Int32.ofNat i))] [(.ref pa), (.int (Int32.ofNat i))])) _
      refine F.len X3 hx hZ e3 (g := (mkF m 16 #[.val (.ref a), .val (.int x), .val (.int r), .val (.int (Int32.ofNat i))] [(.ref pa), (.int (Int32.ofNat i))])) rfl rfl (hb hby dG_16) _ ?_
      show Steps p.tables e below (T3.setTop (mkF m 17 #[.val (.ref a), .val (.int x), .val (.int r), .val (.int (Int32.ofNat i))] [(.int (Int32.ofNat (2 * k))), (.int (Int32.ofNat i))])) _
      refine XS.icmpNo X3.here hx rfl (hb hby dG_17) rfl (tlt h17).2.1 ?_
      show Steps p.tables e below (T3.setTop (mkF m 20 #[.val (.ref a), .val (.int x), .val (.int r), .val (.int (Int32.ofNat i))] [])) _
      refine XS.iloadN X3.here hx rfl (hb hby dG_20) rfl ?_
      show Steps p.tables e below (T3.setTop (mkF m 21 #[.val (.ref a), .val (.int x), .val (.int r), .val (.int (Int32.ofNat i))] [(.int r)])) _
      refine XS.ifYes X3.here hx rfl (pc0 := 21) (pc' := 49) rfl (hb hby dG_21) rfl ((if0 _ _).trans (flt hr).2.1) (by decide) (by decide) ?_
      exact kk
end PgLoop
def QG (Z : State) (x : Int32) (k : Nat) (f : Nat → Int32) (h0 : Heap) (n0 : Nat) (v : Option Value) (h : Heap) (L : List Loc) : Prop := v = some (.int (pg f x k 0 (-1))) ∧ Fr n0 L ∧ h = h0
set_option maxRecDepth 65536 in
set_option maxHeartbeats 40000000 in
theorem rmG (l : Launch) (Z : State) (a0 : Array Value) (hw : ∀ d ∈ tables_1, d.before a0 Z = true) (ws : List Jvm.Cond) (a : Addr) (x : Int32) (k : Nat) (f : Nat → Int32) (h0 : Heap) (n0 : Nat) (P : own_TU Z h0 a k f) :
    MetFree l (⟨"com/example/xquery_rewriter/xqueryrewriter/algebra/Tuple", "position", "(I)I"⟩ : MethodName) (head1 (Jvm.Cond.code (⟨"com/example/xquery_rewriter/xqueryrewriter/algebra/Tuple", "position", "(I)I"⟩ : MethodName) prog_139_method_5_code 4 (some .int) :: ws) ({ frames := 0, cells := 0, slots := 0, locals := 0 } : Room)) (fun a_ U => a_ = #[(.ref a), (.int x)] ∧ Z.Warmed39 U.vm ∧ U.heap = h0) (fun _ _ _ _ _ => True) (fun _ U o U' => ∃ v L, o = .returned v ∧ QG Z x k f h0 n0 v U'.heap L ∧ FrameEnd U o U' L ({ frames := 0, cells := 0, slots := 0, locals := 0 } : Room).cells ({ frames := 0, cells := 0, slots := 0, locals := 0 } : Room).slots) := by
  refine MetFree.of_bodySF (plainFor_of_name pnC) hisR ?_
  intro p e s m args below meth c s₁ Bd hml0 hP hK
  obtain ⟨rfl, hZ, hh⟩ := hP
  have hx := Bd.exec
  have hby := Bd.bytes
  have hml : c.maxLocals = 4 := hml0
  have hown : s.vm.findClass "com/example/xquery_rewriter/xqueryrewriter/algebra/Tuple" = some m.cls := findClass_of_methodNamed Bd.named
  have hnm := (name_of_methodNamed Bd.named Bd.method).1
  have X0 : Stand p l e ({ frames := 0, cells := 0, slots := 0, locals := 0 } : Room) s m #[(.ref a), (.int x)] below meth c s₁ [] 0 0 := Stand.of_body Bd
  have e0 : s₁.heap = h0 := by rw [← hh, Bd.state]; rfl
  have N0 := Fr.nil n0
  have pre0 : ∀ t, Steps p.tables e below (s₁.setTop (mkF m 0 #[.val (.ref a), .val (.int x), .unset, .unset] [])) t → Steps p.tables e below (s₁.setTop (entryFrame m #[(.ref a), (.int x)] 4)) t := fun t k => castTop (efG m a x) k
  obtain ⟨Ea, sq, v, Fs, Fp, PV⟩ := P
  rcases PV with ⟨rfl, rfl⟩ | ⟨pa, rfl, hk0, F⟩
  · obtain ⟨T2, X2, e2, st2⟩ := getF X0 hx hZ hown (host := "") (Or.inl (hw _ (List.mem_of_getElem? (i := 20) rfl))) Via.refl e0 Fp (g := (mkF m 5 #[.val (.ref a), .val (.int x), .val (.int (-1 : Int32)), .val (.int (0 : Int32))] [(.ref a)])) rfl rfl (hb hby dG_5)
    obtain ⟨fs, hr, hrun, hended, hW, hsame⟩ := X2.leave (v := some (.int (-1 : Int32))) (fun h => by rw [Bd.returns] at h; cases h)
    refine ⟨_, _, pre0 _ ?_, hrun, hended, _, _, rfl, ?_, ⟨_, rfl⟩, hW, hsame.mono (by decide) (by decide)⟩
    · show Steps p.tables e below (s₁.setTop (mkF m 0 #[.val (.ref a), .val (.int x), .unset, .unset] [])) _
      refine XS.iconst X0.here hx rfl (hb hby dG_0) ?_
      show Steps p.tables e below (s₁.setTop (mkF m 1 #[.val (.ref a), .val (.int x), .unset, .unset] [(.int (-1 : Int32))])) _
      refine XS.istoreN X0.here hx rfl (hb hby dG_1) rfl (l' := #[.val (.ref a), .val (.int x), .val (.int (-1 : Int32)), .unset]) rfl ?_
      show Steps p.tables e below (s₁.setTop (mkF m 2 #[.val (.ref a), .val (.int x), .val (.int (-1 : Int32)), .unset] [])) _
      refine XS.iconst X0.here hx rfl (hb hby dG_2) ?_
      show Steps p.tables e below (s₁.setTop (mkF m 3 #[.val (.ref a), .val (.int x), .val (.int (-1 : Int32)), .unset] [(.int (0 : Int32))])) _
      refine XS.istoreN X0.here hx rfl (hb hby dG_3) rfl (l' := #[.val (.ref a), .val (.int x), .val (.int (-1 : Int32)), .val (.int (0 : Int32))]) rfl ?_
      show Steps p.tables e below (s₁.setTop (mkF m 4 #[.val (.ref a), .val (.int x), .val (.int (-1 : Int32)), .val (.int (0 : Int32))] [])) _
      refine XS.aloadN X0.here hx rfl (hb hby dG_4) rfl rfl ?_
      show Steps p.tables e below (s₁.setTop (mkF m 5 #[.val (.ref a), .val (.int x), .val (.int (-1 : Int32)), .val (.int (0 : Int32))] [(.ref a)])) _
      refine st2 _ ?_
      show Steps p.tables e below (T2.setTop (mkF m 8 #[.val (.ref a), .val (.int x), .val (.int (-1 : Int32)), .val (.int (0 : Int32))] [.null])) _
      refine XS.ifnullYes X2.here hx rfl (pc0 := 8) (pc' := 49) rfl (hb hby dG_8) rfl (by decide) (by decide) ?_
      show Steps p.tables e below (T2.setTop (mkF m 49 #[.val (.ref a), .val (.int x), .val (.int (-1 : Int32)), .val (.int (0 : Int32))] [])) _
      refine XS.iloadN X2.here hx rfl (hb hby dG_49) rfl ?_
      show Steps p.tables e below (T2.setTop (mkF m 50 #[.val (.ref a), .val (.int x), .val (.int (-1 : Int32)), .val (.int (0 : Int32))] [(.int (-1 : Int32))])) _
      exact retI X2 hx Bd.returns (hb hby dG_50) hr
    · show QG Z x 0 f h0 n0 _ T2.heap _
      rw [e2]
      exact ⟨rfl, N0, rfl⟩
  · obtain ⟨T2, z, X2, e2, st2⟩ := pgloop hw hx hby hZ hown (x := x) Fp F k 0 (-1) s₁ (by omega) X0 e0
    obtain ⟨fs, hr, hrun, hended, hW, hsame⟩ := X2.leave (v := some (.int (pg f x k 0 (-1)))) (fun h => by rw [Bd.returns] at h; cases h)
    refine ⟨_, _, pre0 _ ?_, hrun, hended, _, _, rfl, ?_, ⟨_, rfl⟩, hW, hsame.mono (by decide) (by decide)⟩
    · show Steps p.tables e below (s₁.setTop (mkF m 0 #[.val (.ref a), .val (.int x), .unset, .unset] [])) _
      refine XS.iconst X0.here hx rfl (hb hby dG_0) ?_
      show Steps p.tables e below (s₁.setTop (mkF m 1 #[.val (.ref a), .val (.int x), .unset, .unset] [(.int (-1 : Int32))])) _
      refine XS.istoreN X0.here hx rfl (hb hby dG_1) rfl (l' := #[.val (.ref a), .val (.int x), .val (.int (-1 : Int32)), .unset]) rfl ?_
      show Steps p.tables e below (s₁.setTop (mkF m 2 #[.val (.ref a), .val (.int x), .val (.int (-1 : Int32)), .unset] [])) _
      refine XS.iconst X0.here hx rfl (hb hby dG_2) ?_
      show Steps p.tables e below (s₁.setTop (mkF m 3 #[.val (.ref a), .val (.int x), .val (.int (-1 : Int32)), .unset] [(.int (0 : Int32))])) _
      refine XS.istoreN X0.here hx rfl (hb hby dG_3) rfl (l' := #[.val (.ref a), .val (.int x), .val (.int (-1 : Int32)), .val (.int (0 : Int32))]) rfl ?_
      show Steps p.tables e below (s₁.setTop (mkF m 4 #[.val (.ref a), .val (.int x), .val (.int (-1 : Int32)), .val (.int (0 : Int32))] [])) _
      refine st2 _ ?_
      show Steps p.tables e below (T2.setTop (mkF m 49 #[.val (.ref a), .val (.int x), .val (.int (pg f x k 0 (-1))), .val (.int z)] [])) _
      refine XS.iloadN X2.here hx rfl (hb hby dG_49) rfl ?_
      show Steps p.tables e below (T2.setTop (mkF m 50 #[.val (.ref a), .val (.int x), .val (.int (pg f x k 0 (-1))), .val (.int z)] [(.int (pg f x k 0 (-1)))])) _
      exact retI X2 hx Bd.returns (hb hby dG_50) hr
    · show QG Z x k f h0 n0 _ T2.heap _
      rw [e2]
      exact ⟨rfl, N0, rfl⟩
section ExpReg
variable {p : Program} {l : Launch} {e : Env} {R : Room} {s : State} {m : MethodId} {args : Array Value} {below : List Frame} {meth : Method} {c : Code} {T : State} {locs : List Loc} {cells slots : Nat} {Z : State} {a0 : Array Value} {n0 : Nat}
set_option maxRecDepth 65536 in
set_option maxHeartbeats 40000000 in
theorem gexp (X : Stand p l e R s m args below meth c T locs cells slots) (hx : p.tables.exec = Jvm.exec) (hby : c.code = method_3_code) (hret : meth.sig.returnType = some .int) {fs : List Frame} {n s1 p1 s2 p2 s3 p3 x : Int32} {z : Int32} (hz : z = (if n < (3 : Int32) then (if n < (2 : Int32) then (if n < (1 : Int32) then (-1 : Int32) else (if s1 = x then p1 else (-1 : Int32))) else (if s2 = x then p2 else (if n < (1 : Int32) then (-1 : Int32) else (if s1 = x then p1 else (-1 : Int32))))) else (if s3 = x then p3 else (if n < (2 : Int32) then (if n < (1 : Int32) then (-1 : Int32) else (if s1 = x then p1 else (-1 : Int32))) else (if s2 = x then p2 else (if n < (1 : Int32) then (-1 : Int32) else (if s1 = x then p1 else (-1 : Int32))))))))
    (k : ∀ (f : JFrame) (acts : List Action), f.method = m → f.locked = none → f.entered = [] → (doReturn e (T.setTop f) acts (some (.int z))).1 = T.setFrames fs) : Steps p.tables e below (T.setTop (mkF m 0 #[.val (.int n), .val (.int s1), .val (.int p1), .val (.int s2), .val (.int p2), .val (.int s3), .val (.int p3), .val (.int x)] [])) (T.setFrames fs) := by
  subst hz
  show Steps p.tables e below (T.setTop (mkF m 0 #[.val (.int n), .val (.int s1), .val (.int p1), .val (.int s2), .val (.int p2), .val (.int s3), .val (.int p3), .val (.int x)] [])) _
  refine XS.iloadN X.here hx rfl (hb hby dE_0) rfl ?_
  show Steps p.tables e below (T.setTop (mkF m 1 #[.val (.int n), .val (.int s1), .val (.int p1), .val (.int s2), .val (.int p2), .val (.int s3), .val (.int p3), .val (.int x)] [(.int n)])) _
  refine XS.iconst X.here hx rfl (hb hby dE_1) ?_
  show Steps p.tables e below (T.setTop (mkF m 2 #[.val (.int n), .val (.int s1), .val (.int p1), .val (.int s2), .val (.int p2), .val (.int s3), .val (.int p3), .val (.int x)] [(.int (3 : Int32)), (.int n)])) _
  by_cases h2 : n < (3 : Int32)
  · rw [if_pos h2] at k
    refine XS.icmpYes X.here hx rfl (pc0 := 2) (pc' := 15) rfl (hb hby dE_2) rfl (tlt h2).1 (by decide) (by decide) ?_
    show Steps p.tables e below (T.setTop (mkF m 15 #[.val (.int n), .val (.int s1), .val (.int p1), .val (.int s2), .val (.int p2), .val (.int s3), .val (.int p3), .val (.int x)] [])) _
    refine XS.iloadN X.here hx rfl (hb hby dE_15) rfl ?_
    show Steps p.tables e below (T.setTop (mkF m 16 #[.val (.int n), .val (.int s1), .val (.int p1), .val (.int s2), .val (.int p2), .val (.int s3), .val (.int p3), .val (.int x)] [(.int n)])) _
    refine XS.iconst X.here hx rfl (hb hby dE_16) ?_
    show Steps p.tables e below (T.setTop (mkF m 17 #[.val (.int n), .val (.int s1), .val (.int p1), .val (.int s2), .val (.int p2), .val (.int s3), .val (.int p3), .val (.int x)] [(.int (2 : Int32)), (.int n)])) _
    by_cases h17 : n < (2 : Int32)
    · rw [if_pos h17] at k
      refine XS.icmpYes X.here hx rfl (pc0 := 17) (pc' := 29) rfl (hb hby dE_17) rfl (tlt h17).1 (by decide) (by decide) ?_
      show Steps p.tables e below (T.setTop (mkF m 29 #[.val (.int n), .val (.int s1), .val (.int p1), .val (.int s2), .val (.int p2), .val (.int s3), .val (.int p3), .val (.int x)] [])) _
      refine XS.iloadN X.here hx rfl (hb hby dE_29) rfl ?_
      show Steps p.tables e below (T.setTop (mkF m 30 #[.val (.int n), .val (.int s1), .val (.int p1), .val (.int s2), .val (.int p2), .val (.int s3), .val (.int p3), .val (.int x)] [(.int n)])) _
      refine XS.iconst X.here hx rfl (hb hby dE_30) ?_
      show Steps p.tables e below (T.setTop (mkF m 31 #[.val (.int n), .val (.int s1), .val (.int p1), .val (.int s2), .val (.int p2), .val (.int s3), .val (.int p3), .val (.int x)] [(.int (1 : Int32)), (.int n)])) _
      by_cases h31 : n < (1 : Int32)
      · rw [if_pos h31] at k
        refine XS.icmpYes X.here hx rfl (pc0 := 31) (pc' := 42) rfl (hb hby dE_31) rfl (tlt h31).1 (by decide) (by decide) ?_
        show Steps p.tables e below (T.setTop (mkF m 42 #[.val (.int n), .val (.int s1), .val (.int p1), .val (.int s2), .val (.int p2), .val (.int s3), .val (.int p3), .val (.int x)] [])) _
        refine XS.iconst X.here hx rfl (hb hby dE_42) ?_
        show Steps p.tables e below (T.setTop (mkF m 43 #[.val (.int n), .val (.int s1), .val (.int p1), .val (.int s2), .val (.int p2), .val (.int s3), .val (.int p3), .val (.int x)] [(.int (-1 : Int32))])) _
        exact retI X hx hret (hb hby dE_43) k
      · rw [if_neg h31] at k
        refine XS.icmpNo X.here hx rfl (hb hby dE_31) rfl (flt h31).1 ?_
        show Steps p.tables e below (T.setTop (mkF m 34 #[.val (.int n), .val (.int s1), .val (.int p1), .val (.int s2), .val (.int p2), .val (.int s3), .val (.int p3), .val (.int x)] [])) _
        refine XS.iloadN X.here hx rfl (hb hby dE_34) rfl ?_
        show Steps p.tables e below (T.setTop (mkF m 35 #[.val (.int n), .val (.int s1), .val (.int p1), .val (.int s2), .val (.int p2), .val (.int s3), .val (.int p3), .val (.int x)] [(.int s1)])) _
        refine XS.iload X.here hx rfl (hb hby dE_35) rfl ?_
        show Steps p.tables e below (T.setTop (mkF m 37 #[.val (.int n), .val (.int s1), .val (.int p1), .val (.int s2), .val (.int p2), .val (.int s3), .val (.int p3), .val (.int x)] [(.int x), (.int s1)])) _
        by_cases h37 : s1 = x
        · rw [if_pos h37] at k
          refine XS.icmpNo X.here hx rfl (hb hby dE_37) rfl (teq h37).2 ?_
          show Steps p.tables e below (T.setTop (mkF m 40 #[.val (.int n), .val (.int s1), .val (.int p1), .val (.int s2), .val (.int p2), .val (.int s3), .val (.int p3), .val (.int x)] [])) _
          refine XS.iloadN X.here hx rfl (hb hby dE_40) rfl ?_
          show Steps p.tables e below (T.setTop (mkF m 41 #[.val (.int n), .val (.int s1), .val (.int p1), .val (.int s2), .val (.int p2), .val (.int s3), .val (.int p3), .val (.int x)] [(.int p1)])) _
          exact retI X hx hret (hb hby dE_41) k
        · rw [if_neg h37] at k
          refine XS.icmpYes X.here hx rfl (pc0 := 37) (pc' := 42) rfl (hb hby dE_37) rfl (feq h37).2 (by decide) (by decide) ?_
          show Steps p.tables e below (T.setTop (mkF m 42 #[.val (.int n), .val (.int s1), .val (.int p1), .val (.int s2), .val (.int p2), .val (.int s3), .val (.int p3), .val (.int x)] [])) _
          refine XS.iconst X.here hx rfl (hb hby dE_42) ?_
          show Steps p.tables e below (T.setTop (mkF m 43 #[.val (.int n), .val (.int s1), .val (.int p1), .val (.int s2), .val (.int p2), .val (.int s3), .val (.int p3), .val (.int x)] [(.int (-1 : Int32))])) _
          exact retI X hx hret (hb hby dE_43) k
    · rw [if_neg h17] at k
      refine XS.icmpNo X.here hx rfl (hb hby dE_17) rfl (flt h17).1 ?_
      show Steps p.tables e below (T.setTop (mkF m 20 #[.val (.int n), .val (.int s1), .val (.int p1), .val (.int s2), .val (.int p2), .val (.int s3), .val (.int p3), .val (.int x)] [])) _
      refine XS.iloadN X.here hx rfl (hb hby dE_20) rfl ?_
      show Steps p.tables e below (T.setTop (mkF m 21 #[.val (.int n), .val (.int s1), .val (.int p1), .val (.int s2), .val (.int p2), .val (.int s3), .val (.int p3), .val (.int x)] [(.int s2)])) _
      refine XS.iload X.here hx rfl (hb hby dE_21) rfl ?_
      show Steps p.tables e below (T.setTop (mkF m 23 #[.val (.int n), .val (.int s1), .val (.int p1), .val (.int s2), .val (.int p2), .val (.int s3), .val (.int p3), .val (.int x)] [(.int x), (.int s2)])) _
      by_cases h23 : s2 = x
      · rw [if_pos h23] at k
        refine XS.icmpNo X.here hx rfl (hb hby dE_23) rfl (teq h23).2 ?_
        show Steps p.tables e below (T.setTop (mkF m 26 #[.val (.int n), .val (.int s1), .val (.int p1), .val (.int s2), .val (.int p2), .val (.int s3), .val (.int p3), .val (.int x)] [])) _
        refine XS.iload X.here hx rfl (hb hby dE_26) rfl ?_
        show Steps p.tables e below (T.setTop (mkF m 28 #[.val (.int n), .val (.int s1), .val (.int p1), .val (.int s2), .val (.int p2), .val (.int s3), .val (.int p3), .val (.int x)] [(.int p2)])) _
        exact retI X hx hret (hb hby dE_28) k
      · rw [if_neg h23] at k
        refine XS.icmpYes X.here hx rfl (pc0 := 23) (pc' := 29) rfl (hb hby dE_23) rfl (feq h23).2 (by decide) (by decide) ?_
        show Steps p.tables e below (T.setTop (mkF m 29 #[.val (.int n), .val (.int s1), .val (.int p1), .val (.int s2), .val (.int p2), .val (.int s3), .val (.int p3), .val (.int x)] [])) _
        refine XS.iloadN X.here hx rfl (hb hby dE_29) rfl ?_
        show Steps p.tables e below (T.setTop (mkF m 30 #[.val (.int n), .val (.int s1), .val (.int p1), .val (.int s2), .val (.int p2), .val (.int s3), .val (.int p3), .val (.int x)] [(.int n)])) _
        refine XS.iconst X.here hx rfl (hb hby dE_30) ?_
        show Steps p.tables e below (T.setTop (mkF m 31 #[.val (.int n), .val (.int s1), .val (.int p1), .val (.int s2), .val (.int p2), .val (.int s3), .val (.int p3), .val (.int x)] [(.int (1 : Int32)), (.int n)])) _
        by_cases h31 : n < (1 : Int32)
        · rw [if_pos h31] at k
          refine XS.icmpYes X.here hx rfl (pc0 := 31) (pc' := 42) rfl (hb hby dE_31) rfl (tlt h31).1 (by decide) (by decide) ?_
          show Steps p.tables e below (T.setTop (mkF m 42 #[.val (.int n), .val (.int s1), .val (.int p1), .val (.int s2), .val (.int p2), .val (.int s3), .val (.int p3), .val (.int x)] [])) _
          refine XS.iconst X.here hx rfl (hb hby dE_42) ?_
          show Steps p.tables e below (T.setTop (mkF m 43 #[.val (.int n), .val (.int s1), .val (.int p1), .val (.int s2), .val (.int p2), .val (.int s3), .val (.int p3), .val (.int x)] [(.int (-1 : Int32))])) _
          exact retI X hx hret (hb hby dE_43) k
        · rw [if_neg h31] at k
          refine XS.icmpNo X.here hx rfl (hb hby dE_31) rfl (flt h31).1 ?_
          show Steps p.tables e below (T.setTop (mkF m 34 #[.val (.int n), .val (.int s1), .val (.int p1), .val (.int s2), .val (.int p2), .val (.int s3), .val (.int p3), .val (.int x)] [])) _
          refine XS.iloadN X.here hx rfl (hb hby dE_34) rfl ?_
          show Steps p.tables e below (T.setTop (mkF m 35 #[.val (.int n), .val (.int s1), .val (.int p1), .val (.int s2), .val (.int p2), .val (.int s3), .val (.int p3), .val (.int x)] [(.int s1)])) _
          refine XS.iload X.here hx rfl (hb hby dE_35) rfl ?_
          show Steps p.tables e below (T.setTop (mkF m 37 #[.val (.int n), .val (.int s1), .val (.int p1), .val (.int s2), .val (.int p2), .val (.int s3), .val (.int p3), .val (.int x)] [(.int x), (.int s1)])) _
          by_cases h37 : s1 = x
          · rw [if_pos h37] at k
            refine XS.icmpNo X.here hx rfl (hb hby dE_37) rfl (teq h37).2 ?_
            show Steps p.tables e below (T.setTop (mkF m 40 #[.val (.int n), .val (.int s1), .val (.int p1), .val (.int s2), .val (.int p2), .val (.int s3), .val (.int p3), .val (.int x)] [])) _
            refine XS.iloadN X.here hx rfl (hb hby dE_40) rfl ?_
            show Steps p.tables e below (T.setTop (mkF m 41 #[.val (.int n), .val (.int s1), .val (.int p1), .val (.int s2), .val (.int p2), .val (.int s3), .val (.int p3), .val (.int x)] [(.int p1)])) _
            exact retI X hx hret (hb hby dE_41) k
          · rw [if_neg h37] at k
            refine XS.icmpYes X.here hx rfl (pc0 := 37) (pc' := 42) rfl (hb hby dE_37) rfl (feq h37).2 (by decide) (by decide) ?_
            show Steps p.tables e below (T.setTop (mkF m 42 #[.val (.int n), .val (.int s1), .val (.int p1), .val (.int s2), .val (.int p2), .val (.int s3), .val (.int p3), .val (.int x)] [])) _
            refine XS.iconst X.here hx rfl (hb hby dE_42) ?_
            show Steps p.tables e below (T.setTop (mkF m 43 #[.val (.int n), .val (.int s1), .val (.int p1), .val (.int s2), .val (.int p2), .val (.int s3), .val (.int p3), .val (.int x)] [(.int (-1 : Int32))])) _
            exact retI X hx hret (hb hby dE_43) k
  · rw [if_neg h2] at k
    refine XS.icmpNo X.here hx rfl (hb hby dE_2) rfl (flt h2).1 ?_
    show Steps p.tables e below (T.setTop (mkF m 5 #[.val (.int n), .val (.int s1), .val (.int p1), .val (.int s2), .val (.int p2), .val (.int s3), .val (.int p3), .val (.int x)] [])) _
    refine XS.iload X.here hx rfl (hb hby dE_5) rfl ?_
    show Steps p.tables e below (T.setTop (mkF m 7 #[.val (.int n), .val (.int s1), .val (.int p1), .val (.int s2), .val (.int p2), .val (.int s3), .val (.int p3), .val (.int x)] [(.int s3)])) _
    refine XS.iload X.here hx rfl (hb hby dE_7) rfl ?_
    show Steps p.tables e below (T.setTop (mkF m 9 #[.val (.int n), .val (.int s1), .val (.int p1), .val (.int s2), .val (.int p2), .val (.int s3), .val (.int p3), .val (.int x)] [(.int x), (.int s3)])) _
    by_cases h9 : s3 = x
    · rw [if_pos h9] at k
      refine XS.icmpNo X.here hx rfl (hb hby dE_9) rfl (teq h9).2 ?_
      show Steps p.tables e below (T.setTop (mkF m 12 #[.val (.int n), .val (.int s1), .val (.int p1), .val (.int s2), .val (.int p2), .val (.int s3), .val (.int p3), .val (.int x)] [])) _
      refine XS.iload X.here hx rfl (hb hby dE_12) rfl ?_
      show Steps p.tables e below (T.setTop (mkF m 14 #[.val (.int n), .val (.int s1), .val (.int p1), .val (.int s2), .val (.int p2), .val (.int s3), .val (.int p3), .val (.int x)] [(.int p3)])) _
      exact retI X hx hret (hb hby dE_14) k
    · rw [if_neg h9] at k
      refine XS.icmpYes X.here hx rfl (pc0 := 9) (pc' := 15) rfl (hb hby dE_9) rfl (feq h9).2 (by decide) (by decide) ?_
      show Steps p.tables e below (T.setTop (mkF m 15 #[.val (.int n), .val (.int s1), .val (.int p1), .val (.int s2), .val (.int p2), .val (.int s3), .val (.int p3), .val (.int x)] [])) _
      refine XS.iloadN X.here hx rfl (hb hby dE_15) rfl ?_
      show Steps p.tables e below (T.setTop (mkF m 16 #[.val (.int n), .val (.int s1), .val (.int p1), .val (.int s2), .val (.int p2), .val (.int s3), .val (.int p3), .val (.int x)] [(.int n)])) _
      refine XS.iconst X.here hx rfl (hb hby dE_16) ?_
      show Steps p.tables e below (T.setTop (mkF m 17 #[.val (.int n), .val (.int s1), .val (.int p1), .val (.int s2), .val (.int p2), .val (.int s3), .val (.int p3), .val (.int x)] [(.int (2 : Int32)), (.int n)])) _
      by_cases h17 : n < (2 : Int32)
      · rw [if_pos h17] at k
        refine XS.icmpYes X.here hx rfl (pc0 := 17) (pc' := 29) rfl (hb hby dE_17) rfl (tlt h17).1 (by decide) (by decide) ?_
        show Steps p.tables e below (T.setTop (mkF m 29 #[.val (.int n), .val (.int s1), .val (.int p1), .val (.int s2), .val (.int p2), .val (.int s3), .val (.int p3), .val (.int x)] [])) _
        refine XS.iloadN X.here hx rfl (hb hby dE_29) rfl ?_
        show Steps p.tables e below (T.setTop (mkF m 30 #[.val (.int n), .val (.int s1), .val (.int p1), .val (.int s2), .val (.int p2), .val (.int s3), .val (.int p3), .val (.int x)] [(.int n)])) _
        refine XS.iconst X.here hx rfl (hb hby dE_30) ?_
        show Steps p.tables e below (T.setTop (mkF m 31 #[.val (.int n), .val (.int s1), .val (.int p1), .val (.int s2), .val (.int p2), .val (.int s3), .val (.int p3), .val (.int x)] [(.int (1 : Int32)), (.int n)])) _
        by_cases h31 : n < (1 : Int32)
        · rw [if_pos h31] at k
          refine XS.icmpYes X.here hx rfl (pc0 := 31) (pc' := 42) rfl (hb hby dE_31) rfl (tlt h31).1 (by decide) (by decide) ?_
          show Steps p.tables e below (T.setTop (mkF m 42 #[.val (.int n), .val (.int s1), .val (.int p1), .val (.int s2), .val (.int p2), .val (.int s3), .val (.int p3), .val (.int x)] [])) _
          refine XS.iconst X.here hx rfl (hb hby dE_42) ?_
          show Steps p.tables e below (T.setTop (mkF m 43 #[.val (.int n), .val (.int s1), .val (.int p1), .val (.int s2), .val (.int p2), .val (.int s3), .val (.int p3), .val (.int x)] [(.int (-1 : Int32))])) _
          exact retI X hx hret (hb hby dE_43) k
        · rw [if_neg h31] at k
          refine XS.icmpNo X.here hx rfl (hb hby dE_31) rfl (flt h31).1 ?_
          show Steps p.tables e below (T.setTop (mkF m 34 #[.val (.int n), .val (.int s1), .val (.int p1), .val (.int s2), .val (.int p2), .val (.int s3), .val (.int p3), .val (.int x)] [])) _
          refine XS.iloadN X.here hx rfl (hb hby dE_34) rfl ?_
          show Steps p.tables e below (T.setTop (mkF m 35 #[.val (.int n), .val (.int s1), .val (.int p1), .val (.int s2), .val (.int p2), .val (.int s3), .val (.int p3), .val (.int x)] [(.int s1)])) _
          refine XS.iload X.here hx rfl (hb hby dE_35) rfl ?_
          show Steps p.tables e below (T.setTop (mkF m 37 #[.val (.int n), .val (.int s1), .val (.int p1), .val (.int s2), .val (.int p2), .val (.int s3), .val (.int p3), .val (.int x)] [(.int x), (.int s1)])) _
          by_cases h37 : s1 = x
          · rw [if_pos h37] at k
            refine XS.icmpNo X.here hx rfl (hb hby dE_37) rfl (teq h37).2 ?_
            show Steps p.tables e below (T.setTop (mkF m 40 #[.val (.int n), .val (.int s1), .val (.int p1), .val (.int s2), .val (.int p2), .val (.int s3), .val (.int p3), .val (.int x)] [])) _
            refine XS.iloadN X.here hx rfl (hb hby dE_40) rfl ?_
            show Steps p.tables e below (T.setTop (mkF m 41 #[.val (.int n), .val (.int s1), .val (.int p1), .val (.int s2), .val (.int p2), .val (.int s3), .val (.int p3), .val (.int x)] [(.int p1)])) _
            exact retI X hx hret (hb hby dE_41) k
          · rw [if_neg h37] at k
            refine XS.icmpYes X.here hx rfl (pc0 := 37) (pc' := 42) rfl (hb hby dE_37) rfl (feq h37).2 (by decide) (by decide) ?_
            show Steps p.tables e below (T.setTop (mkF m 42 #[.val (.int n), .val (.int s1), .val (.int p1), .val (.int s2), .val (.int p2), .val (.int s3), .val (.int p3), .val (.int x)] [])) _
            refine XS.iconst X.here hx rfl (hb hby dE_42) ?_
            show Steps p.tables e below (T.setTop (mkF m 43 #[.val (.int n), .val (.int s1), .val (.int p1), .val (.int s2), .val (.int p2), .val (.int s3), .val (.int p3), .val (.int x)] [(.int (-1 : Int32))])) _
            exact retI X hx hret (hb hby dE_43) k
      · rw [if_neg h17] at k
        refine XS.icmpNo X.here hx rfl (hb hby dE_17) rfl (flt h17).1 ?_
        show Steps p.tables e below (T.setTop (mkF m 20 #[.val (.int n), .val (.int s1), .val (.int p1), .val (.int s2), .val (.int p2), .val (.int s3), .val (.int p3), .val (.int x)] [])) _
        refine XS.iloadN X.here hx rfl (hb hby dE_20) rfl ?_
        show Steps p.tables e below (T.setTop (mkF m 21 #[.val (.int n), .val (.int s1), .val (.int p1), .val (.int s2), .val (.int p2), .val (.int s3), .val (.int p3), .val (.int x)] [(.int s2)])) _
        refine XS.iload X.here hx rfl (hb hby dE_21) rfl ?_
        show Steps p.tables e below (T.setTop (mkF m 23 #[.val (.int n), .val (.int s1), .val (.int p1), .val (.int s2), .val (.int p2), .val (.int s3), .val (.int p3), .val (.int x)] [(.int x), (.int s2)])) _
        by_cases h23 : s2 = x
        · rw [if_pos h23] at k
          refine XS.icmpNo X.here hx rfl (hb hby dE_23) rfl (teq h23).2 ?_
          show Steps p.tables e below (T.setTop (mkF m 26 #[.val (.int n), .val (.int s1), .val (.int p1), .val (.int s2), .val (.int p2), .val (.int s3), .val (.int p3), .val (.int x)] [])) _
          refine XS.iload X.here hx rfl (hb hby dE_26) rfl ?_
          show Steps p.tables e below (T.setTop (mkF m 28 #[.val (.int n), .val (.int s1), .val (.int p1), .val (.int s2), .val (.int p2), .val (.int s3), .val (.int p3), .val (.int x)] [(.int p2)])) _
          exact retI X hx hret (hb hby dE_28) k
        · rw [if_neg h23] at k
          refine XS.icmpYes X.here hx rfl (pc0 := 23) (pc' := 29) rfl (hb hby dE_23) rfl (feq h23).2 (by decide) (by decide) ?_
          show Steps p.tables e below (T.setTop (mkF m 29 #[.val (.int n), .val (.int s1), .val (.int p1), .val (.int s2), .val (.int p2), .val (.int s3), .val (.int p3), .val (.int x)] [])) _
          refine XS.iloadN X.here hx rfl (hb hby dE_29) rfl ?_
          show Steps p.tables e below (T.setTop (mkF m 30 #[.val (.int n), .val (.int s1), .val (.int p1), .val (.int s2), .val (.int p2), .val (.int s3), .val (.int p3), .val (.int x)] [(.int n)])) _
          refine XS.iconst X.here hx rfl (hb hby dE_30) ?_
          show Steps p.tables e below (T.setTop (mkF m 31 #[.val (.int n), .val (.int s1), .val (.int p1), .val (.int s2), .val (.int p2), .val (.int s3), .val (.int p3), .val (.int x)] [(.int (1 : Int32)), (.int n)])) _
          by_cases h31 : n < (1 : Int32)
          · rw [if_pos h31] at k
            refine XS.icmpYes X.here hx rfl (pc0 := 31) (pc' := 42) rfl (hb hby dE_31) rfl (tlt h31).1 (by decide) (by decide) ?_
            show Steps p.tables e below (T.setTop (mkF m 42 #[.val (.int n), .val (.int s1), .val (.int p1), .val (.int s2), .val (.int p2), .val (.int s3), .val (.int p3), .val (.int x)] [])) _
            refine XS.iconst X.here hx rfl (hb hby dE_42) ?_
            show Steps p.tables e below (T.setTop (mkF m 43 #[.val (.int n), .val (.int s1), .val (.int p1), .val (.int s2), .val (.int p2), .val (.int s3), .val (.int p3), .val (.int x)] [(.int (-1 : Int32))])) _
            exact retI X hx hret (hb hby dE_43) k
          · rw [if_neg h31] at k
            refine XS.icmpNo X.here hx rfl (hb hby dE_31) rfl (flt h31).1 ?_
            show Steps p.tables e below (T.setTop (mkF m 34 #[.val (.int n), .val (.int s1), .val (.int p1), .val (.int s2), .val (.int p2), .val (.int s3), .val (.int p3), .val (.int x)] [])) _
            refine XS.iloadN X.here hx rfl (hb hby dE_34) rfl ?_
            show Steps p.tables e below (T.setTop (mkF m 35 #[.val (.int n), .val (.int s1), .val (.int p1), .val (.int s2), .val (.int p2), .val (.int s3), .val (.int p3), .val (.int x)] [(.int s1)])) _
            refine XS.iload X.here hx rfl (hb hby dE_35) rfl ?_
            show Steps p.tables e below (T.setTop (mkF m 37 #[.val (.int n), .val (.int s1), .val (.int p1), .val (.int s2), .val (.int p2), .val (.int s3), .val (.int p3), .val (.int x)] [(.int x), (.int s1)])) _
            by_cases h37 : s1 = x
            · rw [if_pos h37] at k
              refine XS.icmpNo X.here hx rfl (hb hby dE_37) rfl (teq h37).2 ?_
              show Steps p.tables e below (T.setTop (mkF m 40 #[.val (.int n), .val (.int s1), .val (.int p1), .val (.int s2), .val (.int p2), .val (.int s3), .val (.int p3), .val (.int x)] [])) _
              refine XS.iloadN X.here hx rfl (hb hby dE_40) rfl ?_
              show Steps p.tables e below (T.setTop (mkF m 41 #[.val (.int n), .val (.int s1), .val (.int p1), .val (.int s2), .val (.int p2), .val (.int s3), .val (.int p3), .val (.int x)] [(.int p1)])) _
              exact retI X hx hret (hb hby dE_41) k
            · rw [if_neg h37] at k
              refine XS.icmpYes X.here hx rfl (pc0 := 37) (pc' := 42) rfl (hb hby dE_37) rfl (feq h37).2 (by decide) (by decide) ?_
              show Steps p.tables e below (T.setTop (mkF m 42 #[.val (.int n), .val (.int s1), .val (.int p1), .val (.int s2), .val (.int p2), .val (.int s3), .val (.int p3), .val (.int x)] [])) _
              refine XS.iconst X.here hx rfl (hb hby dE_42) ?_
              show Steps p.tables e below (T.setTop (mkF m 43 #[.val (.int n), .val (.int s1), .val (.int p1), .val (.int s2), .val (.int p2), .val (.int s3), .val (.int p3), .val (.int x)] [(.int (-1 : Int32))])) _
              exact retI X hx hret (hb hby dE_43) k
end ExpReg
def exv (n s1 p1 s2 p2 s3 p3 x : Int32) : Int32 := (if n < (3 : Int32) then (if n < (2 : Int32) then (if n < (1 : Int32) then (-1 : Int32) else (if s1 = x then p1 else (-1 : Int32))) else (if s2 = x then p2 else (if n < (1 : Int32) then (-1 : Int32) else (if s1 = x then p1 else (-1 : Int32))))) else (if s3 = x then p3 else (if n < (2 : Int32) then (if n < (1 : Int32) then (-1 : Int32) else (if s1 = x then p1 else (-1 : Int32))) else (if s2 = x then p2 else (if n < (1 : Int32) then (-1 : Int32) else (if s1 = x then p1 else (-1 : Int32)))))))
def QE (Z : State) (n s1 p1 s2 p2 s3 p3 x : Int32) (h0 : Heap) (n0 : Nat) (v : Option Value) (h : Heap) (L : List Loc) : Prop := v = some (.int (exv n s1 p1 s2 p2 s3 p3 x)) ∧ Fr n0 L ∧ h = h0
set_option maxRecDepth 65536 in
set_option maxHeartbeats 40000000 in
theorem rmE (l : Launch) (Z : State) (a0 : Array Value) (hw : ∀ d ∈ tables_1, d.before a0 Z = true) (ws : List Jvm.Cond) (n s1 p1 s2 p2 s3 p3 x : Int32) (h0 : Heap) (n0 : Nat) :
    MetFree l (⟨"com/example/xquery_rewriter/xqueryrewriter/algebra/TuplePositionPinLaw", "expected", "(IIIIIIII)I"⟩ : MethodName) (head1 (Jvm.Cond.code (⟨"com/example/xquery_rewriter/xqueryrewriter/algebra/TuplePositionPinLaw", "expected", "(IIIIIIII)I"⟩ : MethodName) method_3_code 8 (some .int) :: ws) ({ frames := 0, cells := 0, slots := 0, locals := 0 } : Room)) (fun a_ U => a_ = #[(.int n), (.int s1), (.int p1), (.int s2), (.int p2), (.int s3), (.int p3), (.int x)] ∧ Z.Warmed39 U.vm ∧ U.heap = h0) (fun _ _ _ _ _ => True) (fun _ U o U' => ∃ v L, o = .returned v ∧ QE Z n s1 p1 s2 p2 s3 p3 x h0 n0 v U'.heap L ∧ FrameEnd U o U' L ({ frames := 0, cells := 0, slots := 0, locals := 0 } : Room).cells ({ frames := 0, cells := 0, slots := 0, locals := 0 } : Room).slots) := by
  refine MetFree.of_bodySF (plainFor_of_name pnL) hisR ?_
  intro p e s m args below meth c s₁ Bd hml0 hP hK
  obtain ⟨rfl, hZ, hh⟩ := hP
  have hx := Bd.exec
  have hby := Bd.bytes
  have hml : c.maxLocals = 8 := hml0
  have hown : s.vm.findClass "com/example/xquery_rewriter/xqueryrewriter/algebra/TuplePositionPinLaw" = some m.cls := findClass_of_methodNamed Bd.named
  have hnm := (name_of_methodNamed Bd.named Bd.method).1
  have X0 : Stand p l e ({ frames := 0, cells := 0, slots := 0, locals := 0 } : Room) s m #[(.int n), (.int s1), (.int p1), (.int s2), (.int p2), (.int s3), (.int p3), (.int x)] below meth c s₁ [] 0 0 := Stand.of_body Bd
  have e0 : s₁.heap = h0 := by rw [← hh, Bd.state]; rfl
  have N0 := Fr.nil n0
  have pre0 : ∀ t, Steps p.tables e below (s₁.setTop (mkF m 0 #[.val (.int n), .val (.int s1), .val (.int p1), .val (.int s2), .val (.int p2), .val (.int s3), .val (.int p3), .val (.int x)] [])) t → Steps p.tables e below (s₁.setTop (entryFrame m #[(.int n), (.int s1), (.int p1), (.int s2), (.int p2), (.int s3), (.int p3), (.int x)] 8)) t := fun t k => castTop (efE m n s1 p1 s2 p2 s3 p3 x) k
  obtain ⟨fs, hr, hrun, hended, hW, hsame⟩ := X0.leave (v := some (.int (exv n s1 p1 s2 p2 s3 p3 x))) (fun h => by rw [Bd.returns] at h; cases h)
  refine ⟨_, _, pre0 _ ?_, hrun, hended, _, _, rfl, ?_, ⟨_, rfl⟩, hW, hsame.mono (by decide) (by decide)⟩
  · exact gexp X0 hx hby Bd.returns rfl hr
  · show QE Z n s1 p1 s2 p2 s3 p3 x h0 n0 _ s₁.heap _
    rw [e0]
    exact ⟨rfl, N0, rfl⟩
section LawRegs
variable {p : Program} {l : Launch} {e : Env} {R : Room} {s : State} {m : MethodId} {args : Array Value} {below : List Frame} {meth : Method} {c : Code} {T : State} {locs : List Loc} {cells slots : Nat} {Z : State} {a0 : Array Value} {n0 : Nat}
set_option maxRecDepth 65536 in
set_option maxHeartbeats 40000000 in
theorem gon (X : Stand p l e R s m args below meth c T locs cells slots) (hx : p.tables.exec = Jvm.exec) (hby : c.code = code) {t : State} {s0 s1 s2 s3 s4 s5 s6 s7 s8 s9 s10 s11 s12 s13 s14 s15 s16 : Slot} {y : Int32} {z : Int32} (hz : z = (if y = (0 : Int32) then (0 : Int32) else (1 : Int32)))
    (k : Steps p.tables e below (T.setTop (mkF m 28 #[s0, s1, s2, s3, s4, s5, s6, s7, s8, s9, s10, s11, s12, s13, s14, s15, s16] [(.int z)])) t) : Steps p.tables e below (T.setTop (mkF m 20 #[s0, s1, s2, s3, s4, s5, s6, s7, s8, s9, s10, s11, s12, s13, s14, s15, s16] [(.int y)])) t := by
  subst hz
  show Steps p.tables e below (T.setTop (mkF m 20 #[s0, s1, s2, s3, s4, s5, s6, s7, s8, s9, s10, s11, s12, s13, s14, s15, s16] [(.int y)])) _
  by_cases h20 : y = (0 : Int32)
  · rw [if_pos h20] at k
    refine XS.ifYes X.here hx rfl (pc0 := 20) (pc' := 27) rfl (hb hby at_20) rfl ((if0 _ _).trans (teq h20).1) (by decide) (by decide) ?_
    show Steps p.tables e below (T.setTop (mkF m 27 #[s0, s1, s2, s3, s4, s5, s6, s7, s8, s9, s10, s11, s12, s13, s14, s15, s16] [])) _
    refine XS.iconst X.here hx rfl (hb hby at_27) ?_
    exact k
  · rw [if_neg h20] at k
    refine XS.ifNo X.here hx rfl (hb hby at_20) rfl ((if0 _ _).trans (feq h20).1) ?_
    show Steps p.tables e below (T.setTop (mkF m 23 #[s0, s1, s2, s3, s4, s5, s6, s7, s8, s9, s10, s11, s12, s13, s14, s15, s16] [])) _
    refine XS.iconst X.here hx rfl (hb hby at_23) ?_
    show Steps p.tables e below (T.setTop (mkF m 24 #[s0, s1, s2, s3, s4, s5, s6, s7, s8, s9, s10, s11, s12, s13, s14, s15, s16] [(.int (1 : Int32))])) _
    refine XS.goto X.here hx rfl (pc0 := 24) (pc' := 28) rfl (hb hby at_24) (by decide) (by decide) ?_
    exact k
set_option maxRecDepth 65536 in
set_option maxHeartbeats 40000000 in
theorem gs3 (X : Stand p l e R s m args below meth c T locs cells slots) (hx : p.tables.exec = Jvm.exec) (hby : c.code = code) {t : State} {s2 s3 s4 s5 s6 s7 s9 s10 s11 s12 s13 s14 s15 s16 : Slot} {a b o : Int32} {z : Int32} (hz : z = (if o = (0 : Int32) then b else a))
    (k : Steps p.tables e below (T.setTop (mkF m 58 #[.val (.int a), .val (.int b), s2, s3, s4, s5, s6, s7, .val (.int o), s9, s10, s11, s12, s13, s14, s15, s16] [(.int z)])) t) : Steps p.tables e below (T.setTop (mkF m 48 #[.val (.int a), .val (.int b), s2, s3, s4, s5, s6, s7, .val (.int o), s9, s10, s11, s12, s13, s14, s15, s16] [])) t := by
  subst hz
  show Steps p.tables e below (T.setTop (mkF m 48 #[.val (.int a), .val (.int b), s2, s3, s4, s5, s6, s7, .val (.int o), s9, s10, s11, s12, s13, s14, s15, s16] [])) _
  refine XS.iload X.here hx rfl (hb hby at_48) rfl ?_
  show Steps p.tables e below (T.setTop (mkF m 50 #[.val (.int a), .val (.int b), s2, s3, s4, s5, s6, s7, .val (.int o), s9, s10, s11, s12, s13, s14, s15, s16] [(.int o)])) _
  by_cases h50 : o = (0 : Int32)
  · rw [if_pos h50] at k
    refine XS.ifYes X.here hx rfl (pc0 := 50) (pc' := 57) rfl (hb hby at_50) rfl ((if0 _ _).trans (teq h50).1) (by decide) (by decide) ?_
    show Steps p.tables e below (T.setTop (mkF m 57 #[.val (.int a), .val (.int b), s2, s3, s4, s5, s6, s7, .val (.int o), s9, s10, s11, s12, s13, s14, s15, s16] [])) _
    refine XS.iloadN X.here hx rfl (hb hby at_57) rfl ?_
    exact k
  · rw [if_neg h50] at k
    refine XS.ifNo X.here hx rfl (hb hby at_50) rfl ((if0 _ _).trans (feq h50).1) ?_
    show Steps p.tables e below (T.setTop (mkF m 53 #[.val (.int a), .val (.int b), s2, s3, s4, s5, s6, s7, .val (.int o), s9, s10, s11, s12, s13, s14, s15, s16] [])) _
    refine XS.iloadN X.here hx rfl (hb hby at_53) rfl ?_
    show Steps p.tables e below (T.setTop (mkF m 54 #[.val (.int a), .val (.int b), s2, s3, s4, s5, s6, s7, .val (.int o), s9, s10, s11, s12, s13, s14, s15, s16] [(.int a)])) _
    refine XS.goto X.here hx rfl (pc0 := 54) (pc' := 58) rfl (hb hby at_54) (by decide) (by decide) ?_
    exact k
set_option maxRecDepth 65536 in
set_option maxHeartbeats 40000000 in
theorem gx (X : Stand p l e R s m args below meth c T locs cells slots) (hx : p.tables.exec = Jvm.exec) (hby : c.code = code) {t : State} {s2 s3 s5 s6 s8 s9 s10 s11 s12 s13 s14 s15 s16 : Slot} {a b q o : Int32} {z : Int32} (hz : z = (if o = (0 : Int32) then a else (if o = (1 : Int32) then b else q)))
    (k : Steps p.tables e below (T.setTop (mkF m 81 #[.val (.int a), .val (.int b), s2, s3, .val (.int q), s5, s6, .val (.int o), s8, s9, s10, s11, s12, s13, s14, s15, s16] [(.int z)])) t) : Steps p.tables e below (T.setTop (mkF m 60 #[.val (.int a), .val (.int b), s2, s3, .val (.int q), s5, s6, .val (.int o), s8, s9, s10, s11, s12, s13, s14, s15, s16] [])) t := by
  subst hz
  show Steps p.tables e below (T.setTop (mkF m 60 #[.val (.int a), .val (.int b), s2, s3, .val (.int q), s5, s6, .val (.int o), s8, s9, s10, s11, s12, s13, s14, s15, s16] [])) _
  refine XS.iload X.here hx rfl (hb hby at_60) rfl ?_
  show Steps p.tables e below (T.setTop (mkF m 62 #[.val (.int a), .val (.int b), s2, s3, .val (.int q), s5, s6, .val (.int o), s8, s9, s10, s11, s12, s13, s14, s15, s16] [(.int o)])) _
  by_cases h62 : o = (0 : Int32)
  · rw [if_pos h62] at k
    refine XS.ifNo X.here hx rfl (hb hby at_62) rfl ((if0 _ _).trans (teq h62).2) ?_
    show Steps p.tables e below (T.setTop (mkF m 65 #[.val (.int a), .val (.int b), s2, s3, .val (.int q), s5, s6, .val (.int o), s8, s9, s10, s11, s12, s13, s14, s15, s16] [])) _
    refine XS.iloadN X.here hx rfl (hb hby at_65) rfl ?_
    show Steps p.tables e below (T.setTop (mkF m 66 #[.val (.int a), .val (.int b), s2, s3, .val (.int q), s5, s6, .val (.int o), s8, s9, s10, s11, s12, s13, s14, s15, s16] [(.int a)])) _
    refine XS.goto X.here hx rfl (pc0 := 66) (pc' := 81) rfl (hb hby at_66) (by decide) (by decide) ?_
    exact k
  · rw [if_neg h62] at k
    refine XS.ifYes X.here hx rfl (pc0 := 62) (pc' := 69) rfl (hb hby at_62) rfl ((if0 _ _).trans (feq h62).2) (by decide) (by decide) ?_
    show Steps p.tables e below (T.setTop (mkF m 69 #[.val (.int a), .val (.int b), s2, s3, .val (.int q), s5, s6, .val (.int o), s8, s9, s10, s11, s12, s13, s14, s15, s16] [])) _
    refine XS.iload X.here hx rfl (hb hby at_69) rfl ?_
    show Steps p.tables e below (T.setTop (mkF m 71 #[.val (.int a), .val (.int b), s2, s3, .val (.int q), s5, s6, .val (.int o), s8, s9, s10, s11, s12, s13, s14, s15, s16] [(.int o)])) _
    refine XS.iconst X.here hx rfl (hb hby at_71) ?_
    show Steps p.tables e below (T.setTop (mkF m 72 #[.val (.int a), .val (.int b), s2, s3, .val (.int q), s5, s6, .val (.int o), s8, s9, s10, s11, s12, s13, s14, s15, s16] [(.int (1 : Int32)), (.int o)])) _
    by_cases h72 : o = (1 : Int32)
    · rw [if_pos h72] at k
      refine XS.icmpNo X.here hx rfl (hb hby at_72) rfl (teq h72).2 ?_
      show Steps p.tables e below (T.setTop (mkF m 75 #[.val (.int a), .val (.int b), s2, s3, .val (.int q), s5, s6, .val (.int o), s8, s9, s10, s11, s12, s13, s14, s15, s16] [])) _
      refine XS.iloadN X.here hx rfl (hb hby at_75) rfl ?_
      show Steps p.tables e below (T.setTop (mkF m 76 #[.val (.int a), .val (.int b), s2, s3, .val (.int q), s5, s6, .val (.int o), s8, s9, s10, s11, s12, s13, s14, s15, s16] [(.int b)])) _
      refine XS.goto X.here hx rfl (pc0 := 76) (pc' := 81) rfl (hb hby at_76) (by decide) (by decide) ?_
      exact k
    · rw [if_neg h72] at k
      refine XS.icmpYes X.here hx rfl (pc0 := 72) (pc' := 79) rfl (hb hby at_72) rfl (feq h72).2 (by decide) (by decide) ?_
      show Steps p.tables e below (T.setTop (mkF m 79 #[.val (.int a), .val (.int b), s2, s3, .val (.int q), s5, s6, .val (.int o), s8, s9, s10, s11, s12, s13, s14, s15, s16] [])) _
      refine XS.iload X.here hx rfl (hb hby at_79) rfl ?_
      exact k
def own_stI (n k sl po : Int32) (q : Nat × (Nat → Int32)) : Nat × (Nat → Int32) := if n < k then q else (pwK sl q.1 q.2, pwF sl po q.1 q.2)
set_option maxRecDepth 65536 in
set_option maxHeartbeats 40000000 in
theorem wseg0 (hw : ∀ d ∈ tables_1, d.before a0 Z = true) (hx : p.tables.exec = Jvm.exec) (hby : c.code = code) (hml : c.maxLocals = 17) (hZ : Z.Warmed39 s.vm) (hown : s.vm.findClass "com/example/xquery_rewriter/xqueryrewriter/algebra/TuplePositionPinLaw" = some m.cls) {a b v2 v3 q4 md n pk on p1 p2 p3 s3 x : Int32} {t0 t : Addr} {q : Nat × (Nat → Int32)} {h : Heap} (X : Stand p l e room_1 s m args below meth c T locs cells slots) (eT : T.heap = h) (N : Fr n0 locs) (Z0 : n0 ≤ h.size)
    (P : own_TU Z h t q.1 q.2) (hq : q.1 ≤ 0) (hc : cells ≤ 2) (hs : slots ≤ 4) :
    ∃ T' h' locs' cells' slots' t', Stand p l e room_1 s m args below meth c T' locs' cells' slots' ∧ T'.heap = h' ∧ Fr n0 locs' ∧ Keep h h' [] ∧ own_TU Z h' t' (own_stI n (1 : Int32) a p1 q).1 (own_stI n (1 : Int32) a p1 q).2 ∧ (own_stI n (1 : Int32) a p1 q).1 ≤ 1 ∧ cells' ≤ 4 ∧ slots' ≤ 13 ∧
      ∀ u, Steps p.tables e below (T'.setTop (mkF m 113 #[.val (.int a), .val (.int b), .val (.int v2), .val (.int v3), .val (.int q4), .val (.int md), .val (.int n), .val (.int pk), .val (.int on), .val (.int p1), .val (.int p2), .val (.int p3), .val (.int s3), .val (.int x), .val (.ref t0), .val (.ref t'), .unset] [])) u → Steps p.tables e below (T.setTop (mkF m 97 #[.val (.int a), .val (.int b), .val (.int v2), .val (.int v3), .val (.int q4), .val (.int md), .val (.int n), .val (.int pk), .val (.int on), .val (.int p1), .val (.int p2), .val (.int p3), .val (.int s3), .val (.int x), .val (.ref t0), .val (.ref t), .unset] [])) u := by
  by_cases hn : n < (1 : Int32)
  · refine ⟨T, h, locs, cells, slots, t, X, eT, N, Keep.refl _ _, by rw [own_stI, if_pos hn]; exact P, by rw [own_stI, if_pos hn]; omega, by omega, by omega, fun u kk => ?_⟩
    show Steps p.tables e below (T.setTop (mkF m 97 #[.val (.int a), .val (.int b), .val (.int v2), .val (.int v3), .val (.int q4), .val (.int md), .val (.int n), .val (.int pk), .val (.int on), .val (.int p1), .val (.int p2), .val (.int p3), .val (.int s3), .val (.int x), .val (.ref t0), .val (.ref t), .unset] [])) _
    refine XS.iload X.here hx rfl (hb hby at_97) rfl ?_
    show Steps p.tables e below (T.setTop (mkF m 99 #[.val (.int a), .val (.int b), .val (.int v2), .val (.int v3), .val (.int q4), .val (.int md), .val (.int n), .val (.int pk), .val (.int on), .val (.int p1), .val (.int p2), .val (.int p3), .val (.int s3), .val (.int x), .val (.ref t0), .val (.ref t), .unset] [(.int n)])) _
    refine XS.iconst X.here hx rfl (hb hby at_99) ?_
    show Steps p.tables e below (T.setTop (mkF m 100 #[.val (.int a), .val (.int b), .val (.int v2), .val (.int v3), .val (.int q4), .val (.int md), .val (.int n), .val (.int pk), .val (.int on), .val (.int p1), .val (.int p2), .val (.int p3), .val (.int s3), .val (.int x), .val (.ref t0), .val (.ref t), .unset] [(.int (1 : Int32)), (.int n)])) _
    refine XS.icmpYes X.here hx rfl (pc0 := 100) (pc' := 113) rfl (hb hby at_100) rfl (tlt hn).1 (by decide) (by decide) ?_
    exact kk
  · obtain ⟨cq2, kq2, q2a, q2b, q2c⟩ := isOf hZ eT P.1
    obtain ⟨_, _, ⟨T2, L2, k2, n2⟩, -, X2, ⟨Lc2, hQ2, l2, y2, z2⟩, st2⟩ := X.virtualBack hx (y := (⟨"com/example/xquery_rewriter/xqueryrewriter/algebra/Tuple", "withPosition", "(II)Lcom/example/xquery_rewriter/xqueryrewriter/algebra/Tuple;"⟩ : MethodName)) (z := (⟨"com/example/xquery_rewriter/xqueryrewriter/algebra/Tuple", "withPosition", "(II)Lcom/example/xquery_rewriter/xqueryrewriter/algebra/Tuple;"⟩ : MethodName)) hown (mvT hZ (hw _ (List.mem_of_getElem? (i := 24) rfl))) (mvT hZ (hw _ (List.mem_of_getElem? (i := 25) rfl))) (notFace_of_selects (args := #[]) (mvT hZ (hw _ (List.mem_of_getElem? (i := 27) rfl)))) (mvT hZ (hw _ (List.mem_of_getElem? (i := 27) rfl))) (mvT hZ (hw _ (List.mem_of_getElem? (i := 26) rfl))) (by decide) (backOf (W := 0) (rmW l Z a0 hw [] t a p1 q.1 q.2 h n0 Z0 P (by omega)) hZ (hw _ (List.mem_of_getElem? (i := 28) rfl)) (hw _ (List.mem_of_getElem? (i := 3) rfl)) (by decide) (by decide)) q2a q2c (g := (mkF m 108 #[.val (.int a), .val (.int b), .val (.int v2), .val (.int v3), .val (.int q4), .val (.int md), .val (.int n), .val (.int pk), .val (.int on), .val (.int p1), .val (.int p2), .val (.int p3), .val (.int s3), .val (.int x), .val (.ref t0), .val (.ref t), .unset] [(.int p1), (.int a), (.ref t)])) rfl (by rw [hml]; rfl) (Steps.refl _) (argsL := [(.int a), (.int p1)]) (rest := []) (lenOf pdW rfl) rfl (by show 2 * 0 + _ ≤ _; exact Nat.le_of_eq rfl) (hb hby at_108) (fun _ _ => ⟨rfl, eT, (show cells + 2 ≤ 24 by omega), (show slots + 9 ≤ 128 by omega)⟩)
    dsimp only [Pt.U, Pt.locs, Pt.cells, Pt.slots] at X2 l2 y2 z2 st2 hQ2
    subst l2 y2 z2
    obtain ⟨tb, rfl, N2q, K2, P2⟩ := hQ2
    refine ⟨T2, _, _, _, _, tb, X2, rfl, Fr.app N N2q, K2, by rw [own_stI, if_neg hn]; exact P2, by rw [own_stI, if_neg hn]; show pwK _ _ _ ≤ _; unfold pwK; split <;> omega, by show cells + 2 ≤ _; omega, by show slots + 9 ≤ _; omega, fun u kk => ?_⟩
    show Steps p.tables e below (T.setTop (mkF m 97 #[.val (.int a), .val (.int b), .val (.int v2), .val (.int v3), .val (.int q4), .val (.int md), .val (.int n), .val (.int pk), .val (.int on), .val (.int p1), .val (.int p2), .val (.int p3), .val (.int s3), .val (.int x), .val (.ref t0), .val (.ref t), .unset] [])) _
    refine XS.iload X.here hx rfl (hb hby at_97) rfl ?_
    show Steps p.tables e below (T.setTop (mkF m 99 #[.val (.int a), .val (.int b), .val (.int v2), .val (.int v3), .val (.int q4), .val (.int md), .val (.int n), .val (.int pk), .val (.int on), .val (.int p1), .val (.int p2), .val (.int p3), .val (.int s3), .val (.int x), .val (.ref t0), .val (.ref t), .unset] [(.int n)])) _
    refine XS.iconst X.here hx rfl (hb hby at_99) ?_
    show Steps p.tables e below (T.setTop (mkF m 100 #[.val (.int a), .val (.int b), .val (.int v2), .val (.int v3), .val (.int q4), .val (.int md), .val (.int n), .val (.int pk), .val (.int on), .val (.int p1), .val (.int p2), .val (.int p3), .val (.int s3), .val (.int x), .val (.ref t0), .val (.ref t), .unset] [(.int (1 : Int32)), (.int n)])) _
    refine XS.icmpNo X.here hx rfl (hb hby at_100) rfl (flt hn).1 ?_
    show Steps p.tables e below (T.setTop (mkF m 103 #[.val (.int a), .val (.int b), .val (.int v2), .val (.int v3), .val (.int q4), .val (.int md), .val (.int n), .val (.int pk), .val (.int on), .val (.int p1), .val (.int p2), .val (.int p3), .val (.int s3), .val (.int x), .val (.ref t0), .val (.ref t), .unset] [])) _
    refine XS.aload X.here hx rfl (hb hby at_103) rfl rfl ?_
    show Steps p.tables e below (T.setTop (mkF m 105 #[.val (.int a), .val (.int b), .val (.int v2), .val (.int v3), .val (.int q4), .val (.int md), .val (.int n), .val (.int pk), .val (.int on), .val (.int p1), .val (.int p2), .val (.int p3), .val (.int s3), .val (.int x), .val (.ref t0), .val (.ref t), .unset] [(.ref t)])) _
    refine XS.iloadN X.here hx rfl (hb hby at_105) rfl ?_
    show Steps p.tables e below (T.setTop (mkF m 106 #[.val (.int a), .val (.int b), .val (.int v2), .val (.int v3), .val (.int q4), .val (.int md), .val (.int n), .val (.int pk), .val (.int on), .val (.int p1), .val (.int p2), .val (.int p3), .val (.int s3), .val (.int x), .val (.ref t0), .val (.ref t), .unset] [(.int a), (.ref t)])) _
    refine XS.iload X.here hx rfl (hb hby at_106) rfl ?_
    show Steps p.tables e below (T.setTop (mkF m 108 #[.val (.int a), .val (.int b), .val (.int v2), .val (.int v3), .val (.int q4), .val (.int md), .val (.int n), .val (.int pk), .val (.int on), .val (.int p1), .val (.int p2), .val (.int p3), .val (.int s3), .val (.int x), .val (.ref t0), .val (.ref t), .unset] [(.int p1), (.int a), (.ref t)])) _
    refine st2.trans ?_
    show Steps p.tables e below (T2.setTop (mkF m 111 #[.val (.int a), .val (.int b), .val (.int v2), .val (.int v3), .val (.int q4), .val (.int md), .val (.int n), .val (.int pk), .val (.int on), .val (.int p1), .val (.int p2), .val (.int p3), .val (.int s3), .val (.int x), .val (.ref t0), .val (.ref t), .unset] [(.ref tb)])) _
    refine XS.astore X2.here hx rfl (hb hby at_111) rfl rfl (l' := #[.val (.int a), .val (.int b), .val (.int v2), .val (.int v3), .val (.int q4), .val (.int md), .val (.int n), .val (.int pk), .val (.int on), .val (.int p1), .val (.int p2), .val (.int p3), .val (.int s3), .val (.int x), .val (.ref t0), .val (.ref tb), .unset]) rfl ?_
    exact kk
set_option maxRecDepth 65536 in
set_option maxHeartbeats 40000000 in
theorem wseg1 (hw : ∀ d ∈ tables_1, d.before a0 Z = true) (hx : p.tables.exec = Jvm.exec) (hby : c.code = code) (hml : c.maxLocals = 17) (hZ : Z.Warmed39 s.vm) (hown : s.vm.findClass "com/example/xquery_rewriter/xqueryrewriter/algebra/TuplePositionPinLaw" = some m.cls) {a b v2 v3 q4 md n pk on p1 p2 p3 s3 x : Int32} {t0 t : Addr} {q : Nat × (Nat → Int32)} {h : Heap} (X : Stand p l e room_1 s m args below meth c T locs cells slots) (eT : T.heap = h) (N : Fr n0 locs) (Z0 : n0 ≤ h.size)
    (P : own_TU Z h t q.1 q.2) (hq : q.1 ≤ 1) (hc : cells ≤ 4) (hs : slots ≤ 13) :
    ∃ T' h' locs' cells' slots' t', Stand p l e room_1 s m args below meth c T' locs' cells' slots' ∧ T'.heap = h' ∧ Fr n0 locs' ∧ Keep h h' [] ∧ own_TU Z h' t' (own_stI n (2 : Int32) b p2 q).1 (own_stI n (2 : Int32) b p2 q).2 ∧ (own_stI n (2 : Int32) b p2 q).1 ≤ 2 ∧ cells' ≤ 6 ∧ slots' ≤ 22 ∧
      ∀ u, Steps p.tables e below (T'.setTop (mkF m 129 #[.val (.int a), .val (.int b), .val (.int v2), .val (.int v3), .val (.int q4), .val (.int md), .val (.int n), .val (.int pk), .val (.int on), .val (.int p1), .val (.int p2), .val (.int p3), .val (.int s3), .val (.int x), .val (.ref t0), .val (.ref t'), .unset] [])) u → Steps p.tables e below (T.setTop (mkF m 113 #[.val (.int a), .val (.int b), .val (.int v2), .val (.int v3), .val (.int q4), .val (.int md), .val (.int n), .val (.int pk), .val (.int on), .val (.int p1), .val (.int p2), .val (.int p3), .val (.int s3), .val (.int x), .val (.ref t0), .val (.ref t), .unset] [])) u := by
  by_cases hn : n < (2 : Int32)
  · refine ⟨T, h, locs, cells, slots, t, X, eT, N, Keep.refl _ _, by rw [own_stI, if_pos hn]; exact P, by rw [own_stI, if_pos hn]; omega, by omega, by omega, fun u kk => ?_⟩
    show Steps p.tables e below (T.setTop (mkF m 113 #[.val (.int a), .val (.int b), .val (.int v2), .val (.int v3), .val (.int q4), .val (.int md), .val (.int n), .val (.int pk), .val (.int on), .val (.int p1), .val (.int p2), .val (.int p3), .val (.int s3), .val (.int x), .val (.ref t0), .val (.ref t), .unset] [])) _
    refine XS.iload X.here hx rfl (hb hby at_113) rfl ?_
    show Steps p.tables e below (T.setTop (mkF m 115 #[.val (.int a), .val (.int b), .val (.int v2), .val (.int v3), .val (.int q4), .val (.int md), .val (.int n), .val (.int pk), .val (.int on), .val (.int p1), .val (.int p2), .val (.int p3), .val (.int s3), .val (.int x), .val (.ref t0), .val (.ref t), .unset] [(.int n)])) _
    refine XS.iconst X.here hx rfl (hb hby at_115) ?_
    show Steps p.tables e below (T.setTop (mkF m 116 #[.val (.int a), .val (.int b), .val (.int v2), .val (.int v3), .val (.int q4), .val (.int md), .val (.int n), .val (.int pk), .val (.int on), .val (.int p1), .val (.int p2), .val (.int p3), .val (.int s3), .val (.int x), .val (.ref t0), .val (.ref t), .unset] [(.int (2 : Int32)), (.int n)])) _
    refine XS.icmpYes X.here hx rfl (pc0 := 116) (pc' := 129) rfl (hb hby at_116) rfl (tlt hn).1 (by decide) (by decide) ?_
    exact kk
  · obtain ⟨cq2, kq2, q2a, q2b, q2c⟩ := isOf hZ eT P.1
    obtain ⟨_, _, ⟨T2, L2, k2, n2⟩, -, X2, ⟨Lc2, hQ2, l2, y2, z2⟩, st2⟩ := X.virtualBack hx (y := (⟨"com/example/xquery_rewriter/xqueryrewriter/algebra/Tuple", "withPosition", "(II)Lcom/example/xquery_rewriter/xqueryrewriter/algebra/Tuple;"⟩ : MethodName)) (z := (⟨"com/example/xquery_rewriter/xqueryrewriter/algebra/Tuple", "withPosition", "(II)Lcom/example/xquery_rewriter/xqueryrewriter/algebra/Tuple;"⟩ : MethodName)) hown (mvT hZ (hw _ (List.mem_of_getElem? (i := 24) rfl))) (mvT hZ (hw _ (List.mem_of_getElem? (i := 25) rfl))) (notFace_of_selects (args := #[]) (mvT hZ (hw _ (List.mem_of_getElem? (i := 27) rfl)))) (mvT hZ (hw _ (List.mem_of_getElem? (i := 27) rfl))) (mvT hZ (hw _ (List.mem_of_getElem? (i := 26) rfl))) (by decide) (backOf (W := 0) (rmW l Z a0 hw [] t b p2 q.1 q.2 h n0 Z0 P (by omega)) hZ (hw _ (List.mem_of_getElem? (i := 28) rfl)) (hw _ (List.mem_of_getElem? (i := 3) rfl)) (by decide) (by decide)) q2a q2c (g := (mkF m 124 #[.val (.int a), .val (.int b), .val (.int v2), .val (.int v3), .val (.int q4), .val (.int md), .val (.int n), .val (.int pk), .val (.int on), .val (.int p1), .val (.int p2), .val (.int p3), .val (.int s3), .val (.int x), .val (.ref t0), .val (.ref t), .unset] [(.int p2), (.int b), (.ref t)])) rfl (by rw [hml]; rfl) (Steps.refl _) (argsL := [(.int b), (.int p2)]) (rest := []) (lenOf pdW rfl) rfl (by show 2 * 0 + _ ≤ _; exact Nat.le_of_eq rfl) (hb hby at_124) (fun _ _ => ⟨rfl, eT, (show cells + 2 ≤ 24 by omega), (show slots + 9 ≤ 128 by omega)⟩)
    dsimp only [Pt.U, Pt.locs, Pt.cells, Pt.slots] at X2 l2 y2 z2 st2 hQ2
    subst l2 y2 z2
    obtain ⟨tb, rfl, N2q, K2, P2⟩ := hQ2
    refine ⟨T2, _, _, _, _, tb, X2, rfl, Fr.app N N2q, K2, by rw [own_stI, if_neg hn]; exact P2, by rw [own_stI, if_neg hn]; show pwK _ _ _ ≤ _; unfold pwK; split <;> omega, by show cells + 2 ≤ _; omega, by show slots + 9 ≤ _; omega, fun u kk => ?_⟩
    show Steps p.tables e below (T.setTop (mkF m 113 #[.val (.int a), .val (.int b), .val (.int v2), .val (.int v3), .val (.int q4), .val (.int md), .val (.int n), .val (.int pk), .val (.int on), .val (.int p1), .val (.int p2), .val (.int p3), .val (.int s3), .val (.int x), .val (.ref t0), .val (.ref t), .unset] [])) _
    refine XS.iload X.here hx rfl (hb hby at_113) rfl ?_
    show Steps p.tables e below (T.setTop (mkF m 115 #[.val (.int a), .val (.int b), .val (.int v2), .val (.int v3), .val (.int q4), .val (.int md), .val (.int n), .val (.int pk), .val (.int on), .val (.int p1), .val (.int p2), .val (.int p3), .val (.int s3), .val (.int x), .val (.ref t0), .val (.ref t), .unset] [(.int n)])) _
    refine XS.iconst X.here hx rfl (hb hby at_115) ?_
    show Steps p.tables e below (T.setTop (mkF m 116 #[.val (.int a), .val (.int b), .val (.int v2), .val (.int v3), .val (.int q4), .val (.int md), .val (.int n), .val (.int pk), .val (.int on), .val (.int p1), .val (.int p2), .val (.int p3), .val (.int s3), .val (.int x), .val (.ref t0), .val (.ref t), .unset] [(.int (2 : Int32)), (.int n)])) _
    refine XS.icmpNo X.here hx rfl (hb hby at_116) rfl (flt hn).1 ?_
    show Steps p.tables e below (T.setTop (mkF m 119 #[.val (.int a), .val (.int b), .val (.int v2), .val (.int v3), .val (.int q4), .val (.int md), .val (.int n), .val (.int pk), .val (.int on), .val (.int p1), .val (.int p2), .val (.int p3), .val (.int s3), .val (.int x), .val (.ref t0), .val (.ref t), .unset] [])) _
    refine XS.aload X.here hx rfl (hb hby at_119) rfl rfl ?_
    show Steps p.tables e below (T.setTop (mkF m 121 #[.val (.int a), .val (.int b), .val (.int v2), .val (.int v3), .val (.int q4), .val (.int md), .val (.int n), .val (.int pk), .val (.int on), .val (.int p1), .val (.int p2), .val (.int p3), .val (.int s3), .val (.int x), .val (.ref t0), .val (.ref t), .unset] [(.ref t)])) _
    refine XS.iloadN X.here hx rfl (hb hby at_121) rfl ?_
    show Steps p.tables e below (T.setTop (mkF m 122 #[.val (.int a), .val (.int b), .val (.int v2), .val (.int v3), .val (.int q4), .val (.int md), .val (.int n), .val (.int pk), .val (.int on), .val (.int p1), .val (.int p2), .val (.int p3), .val (.int s3), .val (.int x), .val (.ref t0), .val (.ref t), .unset] [(.int b), (.ref t)])) _
    refine XS.iload X.here hx rfl (hb hby at_122) rfl ?_
    show Steps p.tables e below (T.setTop (mkF m 124 #[.val (.int a), .val (.int b), .val (.int v2), .val (.int v3), .val (.int q4), .val (.int md), .val (.int n), .val (.int pk), .val (.int on), .val (.int p1), .val (.int p2), .val (.int p3), .val (.int s3), .val (.int x), .val (.ref t0), .val (.ref t), .unset] [(.int p2), (.int b), (.ref t)])) _
    refine st2.trans ?_
    show Steps p.tables e below (T2.setTop (mkF m 127 #[.val (.int a), .val (.int b), .val (.int v2), .val (.int v3), .val (.int q4), .val (.int md), .val (.int n), .val (.int pk), .val (.int on), .val (.int p1), .val (.int p2), .val (.int p3), .val (.int s3), .val (.int x), .val (.ref t0), .val (.ref t), .unset] [(.ref tb)])) _
    refine XS.astore X2.here hx rfl (hb hby at_127) rfl rfl (l' := #[.val (.int a), .val (.int b), .val (.int v2), .val (.int v3), .val (.int q4), .val (.int md), .val (.int n), .val (.int pk), .val (.int on), .val (.int p1), .val (.int p2), .val (.int p3), .val (.int s3), .val (.int x), .val (.ref t0), .val (.ref tb), .unset]) rfl ?_
    exact kk
set_option maxRecDepth 65536 in
set_option maxHeartbeats 40000000 in
theorem wseg2 (hw : ∀ d ∈ tables_1, d.before a0 Z = true) (hx : p.tables.exec = Jvm.exec) (hby : c.code = code) (hml : c.maxLocals = 17) (hZ : Z.Warmed39 s.vm) (hown : s.vm.findClass "com/example/xquery_rewriter/xqueryrewriter/algebra/TuplePositionPinLaw" = some m.cls) {a b v2 v3 q4 md n pk on p1 p2 p3 s3 x : Int32} {t0 t : Addr} {q : Nat × (Nat → Int32)} {h : Heap} (X : Stand p l e room_1 s m args below meth c T locs cells slots) (eT : T.heap = h) (N : Fr n0 locs) (Z0 : n0 ≤ h.size)
    (P : own_TU Z h t q.1 q.2) (hq : q.1 ≤ 2) (hc : cells ≤ 6) (hs : slots ≤ 22) :
    ∃ T' h' locs' cells' slots' t', Stand p l e room_1 s m args below meth c T' locs' cells' slots' ∧ T'.heap = h' ∧ Fr n0 locs' ∧ Keep h h' [] ∧ own_TU Z h' t' (own_stI n (3 : Int32) s3 p3 q).1 (own_stI n (3 : Int32) s3 p3 q).2 ∧ (own_stI n (3 : Int32) s3 p3 q).1 ≤ 3 ∧ cells' ≤ 8 ∧ slots' ≤ 31 ∧
      ∀ u, Steps p.tables e below (T'.setTop (mkF m 146 #[.val (.int a), .val (.int b), .val (.int v2), .val (.int v3), .val (.int q4), .val (.int md), .val (.int n), .val (.int pk), .val (.int on), .val (.int p1), .val (.int p2), .val (.int p3), .val (.int s3), .val (.int x), .val (.ref t0), .val (.ref t'), .unset] [])) u → Steps p.tables e below (T.setTop (mkF m 129 #[.val (.int a), .val (.int b), .val (.int v2), .val (.int v3), .val (.int q4), .val (.int md), .val (.int n), .val (.int pk), .val (.int on), .val (.int p1), .val (.int p2), .val (.int p3), .val (.int s3), .val (.int x), .val (.ref t0), .val (.ref t), .unset] [])) u := by
  by_cases hn : n < (3 : Int32)
  · refine ⟨T, h, locs, cells, slots, t, X, eT, N, Keep.refl _ _, by rw [own_stI, if_pos hn]; exact P, by rw [own_stI, if_pos hn]; omega, by omega, by omega, fun u kk => ?_⟩
    show Steps p.tables e below (T.setTop (mkF m 129 #[.val (.int a), .val (.int b), .val (.int v2), .val (.int v3), .val (.int q4), .val (.int md), .val (.int n), .val (.int pk), .val (.int on), .val (.int p1), .val (.int p2), .val (.int p3), .val (.int s3), .val (.int x), .val (.ref t0), .val (.ref t), .unset] [])) _
    refine XS.iload X.here hx rfl (hb hby at_129) rfl ?_
    show Steps p.tables e below (T.setTop (mkF m 131 #[.val (.int a), .val (.int b), .val (.int v2), .val (.int v3), .val (.int q4), .val (.int md), .val (.int n), .val (.int pk), .val (.int on), .val (.int p1), .val (.int p2), .val (.int p3), .val (.int s3), .val (.int x), .val (.ref t0), .val (.ref t), .unset] [(.int n)])) _
    refine XS.iconst X.here hx rfl (hb hby at_131) ?_
    show Steps p.tables e below (T.setTop (mkF m 132 #[.val (.int a), .val (.int b), .val (.int v2), .val (.int v3), .val (.int q4), .val (.int md), .val (.int n), .val (.int pk), .val (.int on), .val (.int p1), .val (.int p2), .val (.int p3), .val (.int s3), .val (.int x), .val (.ref t0), .val (.ref t), .unset] [(.int (3 : Int32)), (.int n)])) _
    refine XS.icmpYes X.here hx rfl (pc0 := 132) (pc' := 146) rfl (hb hby at_132) rfl (tlt hn).1 (by decide) (by decide) ?_
    exact kk
  · obtain ⟨cq2, kq2, q2a, q2b, q2c⟩ := isOf hZ eT P.1
    obtain ⟨_, _, ⟨T2, L2, k2, n2⟩, -, X2, ⟨Lc2, hQ2, l2, y2, z2⟩, st2⟩ := X.virtualBack hx (y := (⟨"com/example/xquery_rewriter/xqueryrewriter/algebra/Tuple", "withPosition", "(II)Lcom/example/xquery_rewriter/xqueryrewriter/algebra/Tuple;"⟩ : MethodName)) (z := (⟨"com/example/xquery_rewriter/xqueryrewriter/algebra/Tuple", "withPosition", "(II)Lcom/example/xquery_rewriter/xqueryrewriter/algebra/Tuple;"⟩ : MethodName)) hown (mvT hZ (hw _ (List.mem_of_getElem? (i := 24) rfl))) (mvT hZ (hw _ (List.mem_of_getElem? (i := 25) rfl))) (notFace_of_selects (args := #[]) (mvT hZ (hw _ (List.mem_of_getElem? (i := 27) rfl)))) (mvT hZ (hw _ (List.mem_of_getElem? (i := 27) rfl))) (mvT hZ (hw _ (List.mem_of_getElem? (i := 26) rfl))) (by decide) (backOf (W := 0) (rmW l Z a0 hw [] t s3 p3 q.1 q.2 h n0 Z0 P (by omega)) hZ (hw _ (List.mem_of_getElem? (i := 28) rfl)) (hw _ (List.mem_of_getElem? (i := 3) rfl)) (by decide) (by decide)) q2a q2c (g := (mkF m 141 #[.val (.int a), .val (.int b), .val (.int v2), .val (.int v3), .val (.int q4), .val (.int md), .val (.int n), .val (.int pk), .val (.int on), .val (.int p1), .val (.int p2), .val (.int p3), .val (.int s3), .val (.int x), .val (.ref t0), .val (.ref t), .unset] [(.int p3), (.int s3), (.ref t)])) rfl (by rw [hml]; rfl) (Steps.refl _) (argsL := [(.int s3), (.int p3)]) (rest := []) (lenOf pdW rfl) rfl (by show 2 * 0 + _ ≤ _; exact Nat.le_of_eq rfl) (hb hby at_141) (fun _ _ => ⟨rfl, eT, (show cells + 2 ≤ 24 by omega), (show slots + 9 ≤ 128 by omega)⟩)
    dsimp only [Pt.U, Pt.locs, Pt.cells, Pt.slots] at X2 l2 y2 z2 st2 hQ2
    subst l2 y2 z2
    obtain ⟨tb, rfl, N2q, K2, P2⟩ := hQ2
    refine ⟨T2, _, _, _, _, tb, X2, rfl, Fr.app N N2q, K2, by rw [own_stI, if_neg hn]; exact P2, by rw [own_stI, if_neg hn]; show pwK _ _ _ ≤ _; unfold pwK; split <;> omega, by show cells + 2 ≤ _; omega, by show slots + 9 ≤ _; omega, fun u kk => ?_⟩
    show Steps p.tables e below (T.setTop (mkF m 129 #[.val (.int a), .val (.int b), .val (.int v2), .val (.int v3), .val (.int q4), .val (.int md), .val (.int n), .val (.int pk), .val (.int on), .val (.int p1), .val (.int p2), .val (.int p3), .val (.int s3), .val (.int x), .val (.ref t0), .val (.ref t), .unset] [])) _
    refine XS.iload X.here hx rfl (hb hby at_129) rfl ?_
    show Steps p.tables e below (T.setTop (mkF m 131 #[.val (.int a), .val (.int b), .val (.int v2), .val (.int v3), .val (.int q4), .val (.int md), .val (.int n), .val (.int pk), .val (.int on), .val (.int p1), .val (.int p2), .val (.int p3), .val (.int s3), .val (.int x), .val (.ref t0), .val (.ref t), .unset] [(.int n)])) _
    refine XS.iconst X.here hx rfl (hb hby at_131) ?_
    show Steps p.tables e below (T.setTop (mkF m 132 #[.val (.int a), .val (.int b), .val (.int v2), .val (.int v3), .val (.int q4), .val (.int md), .val (.int n), .val (.int pk), .val (.int on), .val (.int p1), .val (.int p2), .val (.int p3), .val (.int s3), .val (.int x), .val (.ref t0), .val (.ref t), .unset] [(.int (3 : Int32)), (.int n)])) _
    refine XS.icmpNo X.here hx rfl (hb hby at_132) rfl (flt hn).1 ?_
    show Steps p.tables e below (T.setTop (mkF m 135 #[.val (.int a), .val (.int b), .val (.int v2), .val (.int v3), .val (.int q4), .val (.int md), .val (.int n), .val (.int pk), .val (.int on), .val (.int p1), .val (.int p2), .val (.int p3), .val (.int s3), .val (.int x), .val (.ref t0), .val (.ref t), .unset] [])) _
    refine XS.aload X.here hx rfl (hb hby at_135) rfl rfl ?_
    show Steps p.tables e below (T.setTop (mkF m 137 #[.val (.int a), .val (.int b), .val (.int v2), .val (.int v3), .val (.int q4), .val (.int md), .val (.int n), .val (.int pk), .val (.int on), .val (.int p1), .val (.int p2), .val (.int p3), .val (.int s3), .val (.int x), .val (.ref t0), .val (.ref t), .unset] [(.ref t)])) _
    refine XS.iload X.here hx rfl (hb hby at_137) rfl ?_
    show Steps p.tables e below (T.setTop (mkF m 139 #[.val (.int a), .val (.int b), .val (.int v2), .val (.int v3), .val (.int q4), .val (.int md), .val (.int n), .val (.int pk), .val (.int on), .val (.int p1), .val (.int p2), .val (.int p3), .val (.int s3), .val (.int x), .val (.ref t0), .val (.ref t), .unset] [(.int s3), (.ref t)])) _
    refine XS.iload X.here hx rfl (hb hby at_139) rfl ?_
    show Steps p.tables e below (T.setTop (mkF m 141 #[.val (.int a), .val (.int b), .val (.int v2), .val (.int v3), .val (.int q4), .val (.int md), .val (.int n), .val (.int pk), .val (.int on), .val (.int p1), .val (.int p2), .val (.int p3), .val (.int s3), .val (.int x), .val (.ref t0), .val (.ref t), .unset] [(.int p3), (.int s3), (.ref t)])) _
    refine st2.trans ?_
    show Steps p.tables e below (T2.setTop (mkF m 144 #[.val (.int a), .val (.int b), .val (.int v2), .val (.int v3), .val (.int q4), .val (.int md), .val (.int n), .val (.int pk), .val (.int on), .val (.int p1), .val (.int p2), .val (.int p3), .val (.int s3), .val (.int x), .val (.ref t0), .val (.ref t), .unset] [(.ref tb)])) _
    refine XS.astore X2.here hx rfl (hb hby at_144) rfl rfl (l' := #[.val (.int a), .val (.int b), .val (.int v2), .val (.int v3), .val (.int q4), .val (.int md), .val (.int n), .val (.int pk), .val (.int on), .val (.int p1), .val (.int p2), .val (.int p3), .val (.int s3), .val (.int x), .val (.ref t0), .val (.ref tb), .unset]) rfl ?_
    exact kk
end LawRegs
/-! the plain law: no program in sight -/
theorem own_mask3 (p : Int32) : ∃ k : Fin 4, p &&& (3 : Int32) = Int32.ofNat k.val := by
  have e : (p &&& (3 : Int32)).toInt = p.toInt % 2 ^ 2 := Jvm.Kit.i32_mask p 3 (k := 2) (by decide) (by decide)
  refine ⟨⟨(p.toInt % 4).toNat, by omega⟩, ?_⟩
  rw [← Int32.toInt_inj, e, Int32.toInt_ofNat_small (by show (p.toInt % 4).toNat < _; omega)]
  show p.toInt % 2 ^ 2 = ((p.toInt % 4).toNat : Int)
  omega
theorem own_four (p : Int32) : p &&& (3 : Int32) = 0 ∨ p &&& (3 : Int32) = 1 ∨ p &&& (3 : Int32) = 2 ∨ p &&& (3 : Int32) = 3 := by
  obtain ⟨⟨k, hk⟩, h⟩ := own_mask3 p
  rw [h]
  have : k = 0 ∨ k = 1 ∨ k = 2 ∨ k = 3 := by omega
  rcases this with rfl | rfl | rfl | rfl
  · exact Or.inl rfl
  · exact Or.inr (Or.inl rfl)
  · exact Or.inr (Or.inr (Or.inl rfl))
  · exact Or.inr (Or.inr (Or.inr rfl))
theorem own_pos31 (v : Int32) : ¬ (v &&& (2147483647 : Int32)) < 0 := by
  have e : (v &&& (2147483647 : Int32)).toInt = v.toInt % 2 ^ 31 := Jvm.Kit.i32_mask v 2147483647 (k := 31) (by decide) (by decide)
  rw [Int32.lt_iff_toInt_lt, e, Int32.toInt_zero]
  omega
theorem own_posU (x : Int32) : ¬ ((x.toUInt32 >>> ((5 : Int32) &&& 31).toUInt32).toInt32) < 0 := by
  have e2 : ((x.toUInt32 >>> ((5 : Int32) &&& 31).toUInt32).toInt32).toBitVec.toNat = x.toBitVec.toNat / 2 ^ 5 := by
    have hn : (((5 : Int32) &&& 31).toUInt32).toNat = 5 := by decide
    simp only [UInt32.toBitVec_toInt32, UInt32.toBitVec_shiftRight, Int32.toBitVec_toUInt32]
    simp [BitVec.toNat_ushiftRight, Nat.shiftRight_eq_div_pow, hn]
  have hb := x.toBitVec.isLt
  rw [Int32.lt_iff_toInt_lt, Int32.toInt_zero]
  have : ((x.toUInt32 >>> ((5 : Int32) &&& 31).toUInt32).toInt32).toInt = ((x.toUInt32 >>> ((5 : Int32) &&& 31).toUInt32).toInt32).toBitVec.toInt := rfl
  rw [this, BitVec.toInt_eq_toNat_cond, e2, if_pos (by omega)]
  omega
theorem own_plain {a b v2 v3 md n p1 p2 p3 s3 on : Int32} {q0 q1 q2 q3 : Nat × (Nat → Int32)} (h_n : n = (md &&& (3 : Int32))) (h_p1 : p1 = (v2 &&& (2147483647 : Int32))) (h_p2 : p2 = (v3 &&& (2147483647 : Int32))) (h_p3 : p3 = ((md.toUInt32 >>> ((5 : Int32) &&& 31).toUInt32).toInt32))
    (h_s3 : s3 = (if on = (0 : Int32) then b else a)) (hq0 : q0 = (0, fun _ => 0)) (hq1 : q1 = own_stI n (1 : Int32) a p1 q0) (hq2 : q2 = own_stI n (2 : Int32) b p2 q1) (hq3 : q3 = own_stI n (3 : Int32) s3 p3 q2) (x : Int32) :
    pg q3.2 x q3.1 0 (-1) = exv n a p1 b p2 s3 p3 x := by
  have np1 : ¬ p1 < 0 := by rw [h_p1]; exact own_pos31 v2
  have np2 : ¬ p2 < 0 := by rw [h_p2]; exact own_pos31 v3
  have np3 : ¬ p3 < 0 := by rw [h_p3]; exact own_posU md
  have hm : (-1 : Int32) < 0 := by decide
  have hs : a = s3 ∨ b = s3 := by rw [h_s3]; split <;> simp
  have hn := own_four md
  rw [← h_n] at hn
  clear h_n h_p1 h_p2 h_p3 h_s3
  subst hq0 hq1 hq2 hq3
  rcases hn with rfl | rfl | rfl | rfl
  · simp [own_stI, pg, exv]
  · by_cases hax : a = x <;> simp [own_stI, pwK, pwF, pf, pg, exv, own_upd, hax, hm]
  · by_cases hab : a = b <;> by_cases hax : a = x <;> by_cases hbx : b = x <;> simp_all [own_stI, pwK, pwF, pf, pg, exv, own_upd]
  · rcases hs with rfl | rfl <;> by_cases hab : a = b <;> by_cases hax : a = x <;> by_cases hbx : b = x <;> simp_all [own_stI, pwK, pwF, pf, pg, exv, own_upd]
def Q0 (Z : State) (h0 : Heap) (n0 : Nat) (v : Option Value) (h : Heap) (L : List Loc) : Prop := v = some (.int (1 : Int32)) ∧ Fr n0 L
set_option maxRecDepth 65536 in
set_option maxHeartbeats 40000000 in
theorem rm0 (l : Launch) (Z : State) (a0 : Array Value) (hw : ∀ d ∈ tables_1, d.before a0 Z = true) (ws : List Jvm.Cond) (a b v2 v3 q4 md : Int32) (h0 : Heap) (n0 : Nat) (Z0 : n0 ≤ h0.size) :
    MetFree l x (head1 (Jvm.Cond.code x code maxLocals ret :: ws) room_1) (fun a_ U => a_ = #[(.int a), (.int b), (.int v2), (.int v3), (.int q4), (.int md)] ∧ Z.Warmed39 U.vm ∧ U.heap = h0) (fun _ _ _ _ _ => True) (fun _ U o U' => ∃ v L, o = .returned v ∧ Q0 Z h0 n0 v U'.heap L ∧ FrameEnd U o U' L room_1.cells room_1.slots) := by
  refine MetFree.of_bodySF (plainFor_of_name pnL) hisR ?_
  intro p e s m args below meth c s₁ Bd hml0 hP hK
  obtain ⟨rfl, hZ, hh⟩ := hP
  have hx := Bd.exec
  have hby := Bd.bytes
  have hml : c.maxLocals = 17 := hml0
  have hown : s.vm.findClass "com/example/xquery_rewriter/xqueryrewriter/algebra/TuplePositionPinLaw" = some m.cls := findClass_of_methodNamed Bd.named
  have hnm := (name_of_methodNamed Bd.named Bd.method).1
  have X0 : Stand p l e room_1 s m #[(.int a), (.int b), (.int v2), (.int v3), (.int q4), (.int md)] below meth c s₁ [] 0 0 := Stand.of_body Bd
  have e0 : s₁.heap = h0 := by rw [← hh, Bd.state]; rfl
  have N0 := Fr.nil n0
  have pre0 : ∀ t, Steps p.tables e below (s₁.setTop (mkF m 0 #[.val (.int a), .val (.int b), .val (.int v2), .val (.int v3), .val (.int q4), .val (.int md), .unset, .unset, .unset, .unset, .unset, .unset, .unset, .unset, .unset, .unset, .unset] [])) t → Steps p.tables e below (s₁.setTop (entryFrame m #[(.int a), (.int b), (.int v2), (.int v3), (.int q4), (.int md)] maxLocals)) t := fun t k => castTop (ef0 m a b v2 v3 q4 md) k
  obtain ⟨n, h_n⟩ : ∃ z : Int32, z = (md &&& (3 : Int32)) := ⟨_, rfl⟩
  obtain ⟨pk, h_pk⟩ : ∃ z : Int32, z = (((md.toUInt32 >>> ((2 : Int32) &&& 31).toUInt32).toInt32) &&& (3 : Int32)) := ⟨_, rfl⟩
  obtain ⟨on, h_on⟩ : ∃ z : Int32, z = (if (((md.toUInt32 >>> ((4 : Int32) &&& 31).toUInt32).toInt32) &&& (1 : Int32)) = (0 : Int32) then (0 : Int32) else (1 : Int32)) := ⟨_, rfl⟩
  obtain ⟨p1, h_p1⟩ : ∃ z : Int32, z = (v2 &&& (2147483647 : Int32)) := ⟨_, rfl⟩
  obtain ⟨p2, h_p2⟩ : ∃ z : Int32, z = (v3 &&& (2147483647 : Int32)) := ⟨_, rfl⟩
  obtain ⟨p3, h_p3⟩ : ∃ z : Int32, z = ((md.toUInt32 >>> ((5 : Int32) &&& 31).toUInt32).toInt32) := ⟨_, rfl⟩
  obtain ⟨s3, h_s3⟩ : ∃ z : Int32, z = (if on = (0 : Int32) then b else a) := ⟨_, rfl⟩
  obtain ⟨xx, h_xx⟩ : ∃ z : Int32, z = (if pk = (0 : Int32) then a else (if pk = (1 : Int32) then b else q4)) := ⟨_, rfl⟩
  obtain ⟨T20, h20, X20, e20, E20, A20, D20, -, st20⟩ := newO X0 hx hZ hown (hw _ (List.mem_of_getElem? (i := 1) rfl)) (hw _ (List.mem_of_getElem? (i := 2) rfl)) (hw _ (List.mem_of_getElem? (i := 3) rfl)) e0 (g := (mkF m 83 #[.val (.int a), .val (.int b), .val (.int v2), .val (.int v3), .val (.int q4), .val (.int md), .val (.int n), .val (.int pk), .val (.int on), .val (.int p1), .val (.int p2), .val (.int p3), .val (.int s3), .val (.int xx), .unset, .unset, .unset] [])) rfl (hb hby at_83) (by decide) (by decide)
  obtain ⟨b20, g20⟩ : ∃ z, z = h0.size := ⟨_, rfl⟩
  rw [← g20] at A20 D20 st20
  have Zd : n0 ≤ h20.size := Nat.le_trans Z0 E20.1
  have g_d : n0 ≤ b20 := by omega
  have G1 := D20 (Or.inr (hw _ (List.mem_of_getElem? (i := 19) rfl))) (ty := (.array (.object "com/example/xquery_rewriter/xqueryrewriter/xdm/Sequence"))) (by decide)
  have G2 := D20 (Or.inr (hw _ (List.mem_of_getElem? (i := 21) rfl))) (ty := (.array .int)) (by decide)
  have G3 := D20 (Or.inr (hw _ (List.mem_of_getElem? (i := 23) rfl))) (ty := .boolean) (by decide)
  obtain ⟨_, _, ⟨T21, L21, k21, n21⟩, -, X21, ⟨Lc21, hQ21, l21, y21, z21⟩, st21⟩ := X20.specialBack hx (y := (⟨"com/example/xquery_rewriter/xqueryrewriter/algebra/Tuple", "<init>", "(I)V"⟩ : MethodName)) rfl hown (mvT hZ (hw _ (List.mem_of_getElem? (i := 4) rfl))) (mvT hZ (hw _ (List.mem_of_getElem? (i := 5) rfl))) (mvT hZ (hw _ (List.mem_of_getElem? (i := 6) rfl))) (by decide) (backOf (W := 1) (rm1 l Z a0 hw [] b20 _ _ _ h20 n0 A20 G1 G2 G3 g_d) hZ (hw _ (List.mem_of_getElem? (i := 6) rfl)) (hw _ (List.mem_of_getElem? (i := 3) rfl)) (by decide) (by decide)) (g := (mkF m 88 #[.val (.int a), .val (.int b), .val (.int v2), .val (.int v3), .val (.int q4), .val (.int md), .val (.int n), .val (.int pk), .val (.int on), .val (.int p1), .val (.int p2), .val (.int p3), .val (.int s3), .val (.int xx), .unset, .unset, .unset] [(.int (1 : Int32)), (.ref b20), (.ref b20)])) rfl (by rw [hml]; rfl) (Steps.refl _) (a := b20) (argsL := [(.int (1 : Int32))]) (rest := [(.ref b20)]) (lenOf pd1 rfl) rfl (by show 2 * 0 + _ ≤ _; exact Nat.le_of_eq rfl) (hb hby at_88) (fun _ _ => ⟨rfl, e20, (by decide : 1 + 1 ≤ _), (by decide : 3 + 1 ≤ _)⟩)
  dsimp only [Pt.U, Pt.locs, Pt.cells, Pt.slots] at X21 l21 y21 z21 st21 hQ21
  subst l21 y21 z21
  obtain ⟨rfl, N21q, K21, Ex21, sq, Fs21, Fp21⟩ := hQ21
  have N21 := Fr.app N0 N21q
  have Z21 : n0 ≤ T21.heap.size := Nat.le_trans Zd K21.1
  obtain ⟨q0, hq0⟩ : ∃ z : Nat × (Nat → Int32), z = (0, fun _ => 0) := ⟨_, rfl⟩
  have P0 : own_TU Z T21.heap b20 q0.1 q0.2 := by rw [hq0]; exact ⟨Ex21, sq, .null, Fs21, Fp21, Or.inl ⟨rfl, rfl⟩⟩
  obtain ⟨T22, h22, L22, c22, sl22, t22, X22, e22, N22, K22, P22, b22, hc22, hs22, st22⟩ := wseg0 (a := a) (b := b) (v2 := v2) (v3 := v3) (q4 := q4) (md := md) (n := n) (pk := pk) (on := on) (p1 := p1) (p2 := p2) (p3 := p3) (s3 := s3) (x := xx) (t0 := b20) hw hx hby hml hZ hown X21 rfl N21 Z21 P0 (by rw [hq0]; exact Nat.le_refl _) (show 1 + 1 ≤ 2 by decide) (show 3 + 1 ≤ 4 by decide)
  obtain ⟨q1, hq1⟩ : ∃ z, z = own_stI n (1 : Int32) a p1 q0 := ⟨_, rfl⟩
  rw [← hq1] at P22 b22
  have Z22 : n0 ≤ h22.size := Nat.le_trans Z21 K22.1
  have Pz22 := P0.keep K22
  obtain ⟨T23, h23, L23, c23, sl23, t23, X23, e23, N23, K23, P23, b23, hc23, hs23, st23⟩ := wseg1 (a := a) (b := b) (v2 := v2) (v3 := v3) (q4 := q4) (md := md) (n := n) (pk := pk) (on := on) (p1 := p1) (p2 := p2) (p3 := p3) (s3 := s3) (x := xx) (t0 := b20) hw hx hby hml hZ hown X22 e22 N22 Z22 P22 b22 hc22 hs22
  obtain ⟨q2, hq2⟩ : ∃ z, z = own_stI n (2 : Int32) b p2 q1 := ⟨_, rfl⟩
  rw [← hq2] at P23 b23
  have Z23 : n0 ≤ h23.size := Nat.le_trans Z22 K23.1
  have Pz23 := Pz22.keep K23
  obtain ⟨T24, h24, L24, c24, sl24, t24, X24, e24, N24, K24, P24, b24, hc24, hs24, st24⟩ := wseg2 (a := a) (b := b) (v2 := v2) (v3 := v3) (q4 := q4) (md := md) (n := n) (pk := pk) (on := on) (p1 := p1) (p2 := p2) (p3 := p3) (s3 := s3) (x := xx) (t0 := b20) hw hx hby hml hZ hown X23 e23 N23 Z23 P23 b23 hc23 hs23
  obtain ⟨q3, hq3⟩ : ∃ z, z = own_stI n (3 : Int32) s3 p3 q2 := ⟨_, rfl⟩
  rw [← hq3] at P24 b24
  have Z24 : n0 ≤ h24.size := Nat.le_trans Z23 K24.1
  have Pz24 := Pz23.keep K24
  obtain ⟨_, _, ⟨T25, L25, k25, n25⟩, -, X25, ⟨Lc25, hQ25, l25, y25, z25⟩, st25⟩ := Jvm.LawKit.callS X24 hx (y := (⟨"com/example/xquery_rewriter/xqueryrewriter/algebra/TuplePositionPinLaw", "expected", "(IIIIIIII)I"⟩ : MethodName)) hown (mvT hZ (hw _ (List.mem_of_getElem? (i := 42) rfl))) (mvT hZ (hw _ (List.mem_of_getElem? (i := 43) rfl))) (mvT hZ (hw _ (List.mem_of_getElem? (i := 44) rfl))) (mvT hZ (hw _ (List.mem_of_getElem? (i := 45) rfl))) (by decide) (backOf (W := 0) (rmE l Z a0 hw [] n a p1 b p2 s3 p3 xx h24 n0) hZ (hw _ (List.mem_of_getElem? (i := 45) rfl)) (hw _ (List.mem_of_getElem? (i := 44) rfl)) (by decide) (by decide)) (g := (mkF m 160 #[.val (.int a), .val (.int b), .val (.int v2), .val (.int v3), .val (.int q4), .val (.int md), .val (.int n), .val (.int pk), .val (.int on), .val (.int p1), .val (.int p2), .val (.int p3), .val (.int s3), .val (.int xx), .val (.ref b20), .val (.ref t24), .unset] [(.int xx), (.int p3), (.int s3), (.int p2), (.int b), (.int p1), (.int a), (.int n)])) rfl (by rw [hml]; rfl) (argsL := [(.int n), (.int a), (.int p1), (.int b), (.int p2), (.int s3), (.int p3), (.int xx)]) (rest := []) (lenOf pdE rfl) rfl (by show 2 * 0 + _ ≤ _; exact Nat.le_of_eq rfl) (hb hby at_160) (fun _ _ => ⟨rfl, e24, (show c24 + 0 ≤ 24 by omega), (show sl24 + 0 ≤ 128 by omega)⟩)
  dsimp only [Pt.U, Pt.locs, Pt.cells, Pt.slots] at X25 l25 y25 z25 st25 hQ25
  subst l25 y25 z25
  obtain ⟨hv25, N25q, e25⟩ := hQ25
  obtain ⟨ev, hev⟩ : ∃ z, z = exv n a p1 b p2 s3 p3 xx := ⟨_, rfl⟩
  rw [← hev] at hv25
  subst hv25
  have N25 := Fr.app N24 N25q
  obtain ⟨cq26, kq26, q26a, q26b, q26c⟩ := isOf hZ e25 P24.1
  obtain ⟨_, _, ⟨T26, L26, k26, n26⟩, -, X26, ⟨Lc26, hQ26, l26, y26, z26⟩, st26⟩ := X25.virtualBack hx (y := (⟨"com/example/xquery_rewriter/xqueryrewriter/algebra/Tuple", "position", "(I)I"⟩ : MethodName)) (z := (⟨"com/example/xquery_rewriter/xqueryrewriter/algebra/Tuple", "position", "(I)I"⟩ : MethodName)) hown (mvT hZ (hw _ (List.mem_of_getElem? (i := 46) rfl))) (mvT hZ (hw _ (List.mem_of_getElem? (i := 47) rfl))) (notFace_of_selects (args := #[]) (mvT hZ (hw _ (List.mem_of_getElem? (i := 49) rfl)))) (mvT hZ (hw _ (List.mem_of_getElem? (i := 49) rfl))) (mvT hZ (hw _ (List.mem_of_getElem? (i := 48) rfl))) (by decide) (backOf (W := 0) (rmG l Z a0 hw [] t24 xx q3.1 q3.2 h24 n0 P24) hZ (hw _ (List.mem_of_getElem? (i := 50) rfl)) (hw _ (List.mem_of_getElem? (i := 3) rfl)) (by decide) (by decide)) q26a q26c (g := (mkF m 169 #[.val (.int a), .val (.int b), .val (.int v2), .val (.int v3), .val (.int q4), .val (.int md), .val (.int n), .val (.int pk), .val (.int on), .val (.int p1), .val (.int p2), .val (.int p3), .val (.int s3), .val (.int xx), .val (.ref b20), .val (.ref t24), .val (.int ev)] [(.int xx), (.ref t24)])) rfl (by rw [hml]; rfl) (Steps.refl _) (argsL := [(.int xx)]) (rest := []) (lenOf pdG rfl) rfl (by show 2 * 0 + _ ≤ _; exact Nat.le_of_eq rfl) (hb hby at_169) (fun _ _ => ⟨rfl, e25, (show k25 + 0 ≤ 24 by omega), (show n25 + 0 ≤ 128 by omega)⟩)
  dsimp only [Pt.U, Pt.locs, Pt.cells, Pt.slots] at X26 l26 y26 z26 st26 hQ26
  subst l26 y26 z26
  obtain ⟨hv26, N26q, e26⟩ := hQ26
  obtain ⟨gv, hgv⟩ : ∃ z, z = pg q3.2 xx q3.1 0 (-1) := ⟨_, rfl⟩
  rw [← hgv] at hv26
  subst hv26
  have N26 := Fr.app N25 N26q
  obtain ⟨cq27, kq27, q27a, q27b, q27c⟩ := isOf hZ e26 Pz24.1
  obtain ⟨_, _, ⟨T27, L27, k27, n27⟩, -, X27, ⟨Lc27, hQ27, l27, y27, z27⟩, st27⟩ := X26.virtualBack hx (y := (⟨"com/example/xquery_rewriter/xqueryrewriter/algebra/Tuple", "position", "(I)I"⟩ : MethodName)) (z := (⟨"com/example/xquery_rewriter/xqueryrewriter/algebra/Tuple", "position", "(I)I"⟩ : MethodName)) hown (mvT hZ (hw _ (List.mem_of_getElem? (i := 46) rfl))) (mvT hZ (hw _ (List.mem_of_getElem? (i := 47) rfl))) (notFace_of_selects (args := #[]) (mvT hZ (hw _ (List.mem_of_getElem? (i := 49) rfl)))) (mvT hZ (hw _ (List.mem_of_getElem? (i := 49) rfl))) (mvT hZ (hw _ (List.mem_of_getElem? (i := 48) rfl))) (by decide) (backOf (W := 0) (rmG l Z a0 hw [] b20 xx q0.1 q0.2 h24 n0 Pz24) hZ (hw _ (List.mem_of_getElem? (i := 50) rfl)) (hw _ (List.mem_of_getElem? (i := 3) rfl)) (by decide) (by decide)) q27a q27c (g := (mkF m 181 #[.val (.int a), .val (.int b), .val (.int v2), .val (.int v3), .val (.int q4), .val (.int md), .val (.int n), .val (.int pk), .val (.int on), .val (.int p1), .val (.int p2), .val (.int p3), .val (.int s3), .val (.int xx), .val (.ref b20), .val (.ref t24), .val (.int ev)] [(.int xx), (.ref b20)])) rfl (by rw [hml]; rfl) (Steps.refl _) (argsL := [(.int xx)]) (rest := []) (lenOf pdG rfl) rfl (by show 2 * 0 + _ ≤ _; exact Nat.le_of_eq rfl) (hb hby at_181) (fun _ _ => ⟨rfl, e26, (show k26 + 0 ≤ 24 by omega), (show n26 + 0 ≤ 128 by omega)⟩)
  dsimp only [Pt.U, Pt.locs, Pt.cells, Pt.slots] at X27 l27 y27 z27 st27 hQ27
  subst l27 y27 z27
  obtain ⟨hv27, N27q, e27⟩ := hQ27
  obtain ⟨gz, hgz⟩ : ∃ z, z = pg q0.2 xx q0.1 0 (-1) := ⟨_, rfl⟩
  rw [← hgz] at hv27
  subst hv27
  have N27 := Fr.app N26 N27q
  have hfin : gv = ev := by rw [hgv, hev]; exact own_plain h_n h_p1 h_p2 h_p3 h_s3 hq0 hq1 hq2 hq3 xx
  have hfz : gz = (-1 : Int32) := by rw [hgz, hq0]; rfl
  obtain ⟨fs, hr, hrun, hended, hW, hsame⟩ := X27.leave (v := some (.int (1 : Int32))) (fun h => by rw [Bd.returns] at h; cases h)
  refine ⟨_, _, pre0 _ ?_, hrun, hended, _, _, rfl, ?_, ⟨_, rfl⟩, hW, hsame.mono (show k27 ≤ 24 by omega) (show n27 ≤ 128 by omega)⟩
  · show Steps p.tables e below (s₁.setTop (mkF m 0 #[.val (.int a), .val (.int b), .val (.int v2), .val (.int v3), .val (.int q4), .val (.int md), .unset, .unset, .unset, .unset, .unset, .unset, .unset, .unset, .unset, .unset, .unset] [])) _
    refine XS.iload X0.here hx rfl (hb hby at_0) rfl ?_
    show Steps p.tables e below (s₁.setTop (mkF m 2 #[.val (.int a), .val (.int b), .val (.int v2), .val (.int v3), .val (.int q4), .val (.int md), .unset, .unset, .unset, .unset, .unset, .unset, .unset, .unset, .unset, .unset, .unset] [(.int md)])) _
    refine XS.iconst X0.here hx rfl (hb hby at_2) ?_
    show Steps p.tables e below (s₁.setTop (mkF m 3 #[.val (.int a), .val (.int b), .val (.int v2), .val (.int v3), .val (.int q4), .val (.int md), .unset, .unset, .unset, .unset, .unset, .unset, .unset, .unset, .unset, .unset, .unset] [(.int (3 : Int32)), (.int md)])) _
    refine XS.iand X0.here hx rfl (hb hby at_3) rfl ?_
    show Steps p.tables e below (s₁.setTop (mkF m 4 #[.val (.int a), .val (.int b), .val (.int v2), .val (.int v3), .val (.int q4), .val (.int md), .unset, .unset, .unset, .unset, .unset, .unset, .unset, .unset, .unset, .unset, .unset] [(.int (md &&& (3 : Int32)))])) _
    rw [← h_n]
    show Steps p.tables e below (s₁.setTop (mkF m 4 #[.val (.int a), .val (.int b), .val (.int v2), .val (.int v3), .val (.int q4), .val (.int md), .unset, .unset, .unset, .unset, .unset, .unset, .unset, .unset, .unset, .unset, .unset] [(.int n)])) _
    refine XS.istore X0.here hx rfl (hb hby at_4) rfl (l' := #[.val (.int a), .val (.int b), .val (.int v2), .val (.int v3), .val (.int q4), .val (.int md), .val (.int n), .unset, .unset, .unset, .unset, .unset, .unset, .unset, .unset, .unset, .unset]) rfl ?_
    show Steps p.tables e below (s₁.setTop (mkF m 6 #[.val (.int a), .val (.int b), .val (.int v2), .val (.int v3), .val (.int q4), .val (.int md), .val (.int n), .unset, .unset, .unset, .unset, .unset, .unset, .unset, .unset, .unset, .unset] [])) _
    refine XS.iload X0.here hx rfl (hb hby at_6) rfl ?_
    show Steps p.tables e below (s₁.setTop (mkF m 8 #[.val (.int a), .val (.int b), .val (.int v2), .val (.int v3), .val (.int q4), .val (.int md), .val (.int n), .unset, .unset, .unset, .unset, .unset, .unset, .unset, .unset, .unset, .unset] [(.int md)])) _
    refine XS.iconst X0.here hx rfl (hb hby at_8) ?_
    show Steps p.tables e below (s₁.setTop (mkF m 9 #[.val (.int a), .val (.int b), .val (.int v2), .val (.int v3), .val (.int q4), .val (.int md), .val (.int n), .unset, .unset, .unset, .unset, .unset, .unset, .unset, .unset, .unset, .unset] [(.int (2 : Int32)), (.int md)])) _
    refine XS.iushr X0.here hx rfl (hb hby at_9) rfl ?_
    show Steps p.tables e below (s₁.setTop (mkF m 10 #[.val (.int a), .val (.int b), .val (.int v2), .val (.int v3), .val (.int q4), .val (.int md), .val (.int n), .unset, .unset, .unset, .unset, .unset, .unset, .unset, .unset, .unset, .unset] [(.int ((md.toUInt32 >>> ((2 : Int32) &&& 31).toUInt32).toInt32))])) _
    refine XS.iconst X0.here hx rfl (hb hby at_10) ?_
    show Steps p.tables e below (s₁.setTop (mkF m 11 #[.val (.int a), .val (.int b), .val (.int v2), .val (.int v3), .val (.int q4), .val (.int md), .val (.int n), .unset, .unset, .unset, .unset, .unset, .unset, .unset, .unset, .unset, .unset] [(.int (3 : Int32)), (.int ((md.toUInt32 >>> ((2 : Int32) &&& 31).toUInt32).toInt32))])) _
    refine XS.iand X0.here hx rfl (hb hby at_11) rfl ?_
    show Steps p.tables e below (s₁.setTop (mkF m 12 #[.val (.int a), .val (.int b), .val (.int v2), .val (.int v3), .val (.int q4), .val (.int md), .val (.int n), .unset, .unset, .unset, .unset, .unset, .unset, .unset, .unset, .unset, .unset] [(.int (((md.toUInt32 >>> ((2 : Int32) &&& 31).toUInt32).toInt32) &&& (3 : Int32)))])) _
    rw [← h_pk]
    show Steps p.tables e below (s₁.setTop (mkF m 12 #[.val (.int a), .val (.int b), .val (.int v2), .val (.int v3), .val (.int q4), .val (.int md), .val (.int n), .unset, .unset, .unset, .unset, .unset, .unset, .unset, .unset, .unset, .unset] [(.int pk)])) _
    refine XS.istore X0.here hx rfl (hb hby at_12) rfl (l' := #[.val (.int a), .val (.int b), .val (.int v2), .val (.int v3), .val (.int q4), .val (.int md), .val (.int n), .val (.int pk), .unset, .unset, .unset, .unset, .unset, .unset, .unset, .unset, .unset]) rfl ?_
    show Steps p.tables e below (s₁.setTop (mkF m 14 #[.val (.int a), .val (.int b), .val (.int v2), .val (.int v3), .val (.int q4), .val (.int md), .val (.int n), .val (.int pk), .unset, .unset, .unset, .unset, .unset, .unset, .unset, .unset, .unset] [])) _
    refine XS.iload X0.here hx rfl (hb hby at_14) rfl ?_
    show Steps p.tables e below (s₁.setTop (mkF m 16 #[.val (.int a), .val (.int b), .val (.int v2), .val (.int v3), .val (.int q4), .val (.int md), .val (.int n), .val (.int pk), .unset, .unset, .unset, .unset, .unset, .unset, .unset, .unset, .unset] [(.int md)])) _
    refine XS.iconst X0.here hx rfl (hb hby at_16) ?_
    show Steps p.tables e below (s₁.setTop (mkF m 17 #[.val (.int a), .val (.int b), .val (.int v2), .val (.int v3), .val (.int q4), .val (.int md), .val (.int n), .val (.int pk), .unset, .unset, .unset, .unset, .unset, .unset, .unset, .unset, .unset] [(.int (4 : Int32)), (.int md)])) _
    refine XS.iushr X0.here hx rfl (hb hby at_17) rfl ?_
    show Steps p.tables e below (s₁.setTop (mkF m 18 #[.val (.int a), .val (.int b), .val (.int v2), .val (.int v3), .val (.int q4), .val (.int md), .val (.int n), .val (.int pk), .unset, .unset, .unset, .unset, .unset, .unset, .unset, .unset, .unset] [(.int ((md.toUInt32 >>> ((4 : Int32) &&& 31).toUInt32).toInt32))])) _
    refine XS.iconst X0.here hx rfl (hb hby at_18) ?_
    show Steps p.tables e below (s₁.setTop (mkF m 19 #[.val (.int a), .val (.int b), .val (.int v2), .val (.int v3), .val (.int q4), .val (.int md), .val (.int n), .val (.int pk), .unset, .unset, .unset, .unset, .unset, .unset, .unset, .unset, .unset] [(.int (1 : Int32)), (.int ((md.toUInt32 >>> ((4 : Int32) &&& 31).toUInt32).toInt32))])) _
    refine XS.iand X0.here hx rfl (hb hby at_19) rfl ?_
    show Steps p.tables e below (s₁.setTop (mkF m 20 #[.val (.int a), .val (.int b), .val (.int v2), .val (.int v3), .val (.int q4), .val (.int md), .val (.int n), .val (.int pk), .unset, .unset, .unset, .unset, .unset, .unset, .unset, .unset, .unset] [(.int (((md.toUInt32 >>> ((4 : Int32) &&& 31).toUInt32).toInt32) &&& (1 : Int32)))])) _
    refine gon X0 hx hby h_on ?_
    show Steps p.tables e below (s₁.setTop (mkF m 28 #[.val (.int a), .val (.int b), .val (.int v2), .val (.int v3), .val (.int q4), .val (.int md), .val (.int n), .val (.int pk), .unset, .unset, .unset, .unset, .unset, .unset, .unset, .unset, .unset] [(.int on)])) _
    refine XS.istore X0.here hx rfl (hb hby at_28) rfl (l' := #[.val (.int a), .val (.int b), .val (.int v2), .val (.int v3), .val (.int q4), .val (.int md), .val (.int n), .val (.int pk), .val (.int on), .unset, .unset, .unset, .unset, .unset, .unset, .unset, .unset]) rfl ?_
    show Steps p.tables e below (s₁.setTop (mkF m 30 #[.val (.int a), .val (.int b), .val (.int v2), .val (.int v3), .val (.int q4), .val (.int md), .val (.int n), .val (.int pk), .val (.int on), .unset, .unset, .unset, .unset, .unset, .unset, .unset, .unset] [])) _
    refine XS.iloadN X0.here hx rfl (hb hby at_30) rfl ?_
    show Steps p.tables e below (s₁.setTop (mkF m 31 #[.val (.int a), .val (.int b), .val (.int v2), .val (.int v3), .val (.int q4), .val (.int md), .val (.int n), .val (.int pk), .val (.int on), .unset, .unset, .unset, .unset, .unset, .unset, .unset, .unset] [(.int v2)])) _
    refine X0.ldcInt hx hown (mvT hZ (hw _ (List.mem_of_getElem? (i := 0) rfl))) (g := (mkF m 31 #[.val (.int a), .val (.int b), .val (.int v2), .val (.int v3), .val (.int q4), .val (.int md), .val (.int n), .val (.int pk), .val (.int on), .unset, .unset, .unset, .unset, .unset, .unset, .unset, .unset] [(.int v2)])) rfl (hb hby at_31) _ ?_
    show Steps p.tables e below (s₁.setTop (mkF m 33 #[.val (.int a), .val (.int b), .val (.int v2), .val (.int v3), .val (.int q4), .val (.int md), .val (.int n), .val (.int pk), .val (.int on), .unset, .unset, .unset, .unset, .unset, .unset, .unset, .unset] [(.int (2147483647 : Int32)), (.int v2)])) _
    refine XS.iand X0.here hx rfl (hb hby at_33) rfl ?_
    show Steps p.tables e below (s₁.setTop (mkF m 34 #[.val (.int a), .val (.int b), .val (.int v2), .val (.int v3), .val (.int q4), .val (.int md), .val (.int n), .val (.int pk), .val (.int on), .unset, .unset, .unset, .unset, .unset, .unset, .unset, .unset] [(.int (v2 &&& (2147483647 : Int32)))])) _
    rw [← h_p1]
    show Steps p.tables e below (s₁.setTop (mkF m 34 #[.val (.int a), .val (.int b), .val (.int v2), .val (.int v3), .val (.int q4), .val (.int md), .val (.int n), .val (.int pk), .val (.int on), .unset, .unset, .unset, .unset, .unset, .unset, .unset, .unset] [(.int p1)])) _
    refine XS.istore X0.here hx rfl (hb hby at_34) rfl (l' := #[.val (.int a), .val (.int b), .val (.int v2), .val (.int v3), .val (.int q4), .val (.int md), .val (.int n), .val (.int pk), .val (.int on), .val (.int p1), .unset, .unset, .unset, .unset, .unset, .unset, .unset]) rfl ?_
    show Steps p.tables e below (s₁.setTop (mkF m 36 #[.val (.int a), .val (.int b), .val (.int v2), .val (.int v3), .val (.int q4), .val (.int md), .val (.int n), .val (.int pk), .val (.int on), .val (.int p1), .unset, .unset, .unset, .unset, .unset, .unset, .unset] [])) _
    refine XS.iloadN X0.here hx rfl (hb hby at_36) rfl ?_
    show Steps p.tables e below (s₁.setTop (mkF m 37 #[.val (.int a), .val (.int b), .val (.int v2), .val (.int v3), .val (.int q4), .val (.int md), .val (.int n), .val (.int pk), .val (.int on), .val (.int p1), .unset, .unset, .unset, .unset, .unset, .unset, .unset] [(.int v3)])) _
    refine X0.ldcInt hx hown (mvT hZ (hw _ (List.mem_of_getElem? (i := 0) rfl))) (g := (mkF m 37 #[.val (.int a), .val (.int b), .val (.int v2), .val (.int v3), .val (.int q4), .val (.int md), .val (.int n), .val (.int pk), .val (.int on), .val (.int p1), .unset, .unset, .unset, .unset, .unset, .unset, .unset] [(.int v3)])) rfl (hb hby at_37) _ ?_
    show Steps p.tables e below (s₁.setTop (mkF m 39 #[.val (.int a), .val (.int b), .val (.int v2), .val (.int v3), .val (.int q4), .val (.int md), .val (.int n), .val (.int pk), .val (.int on), .val (.int p1), .unset, .unset, .unset, .unset, .unset, .unset, .unset] [(.int (2147483647 : Int32)), (.int v3)])) _
    refine XS.iand X0.here hx rfl (hb hby at_39) rfl ?_
    show Steps p.tables e below (s₁.setTop (mkF m 40 #[.val (.int a), .val (.int b), .val (.int v2), .val (.int v3), .val (.int q4), .val (.int md), .val (.int n), .val (.int pk), .val (.int on), .val (.int p1), .unset, .unset, .unset, .unset, .unset, .unset, .unset] [(.int (v3 &&& (2147483647 : Int32)))])) _
    rw [← h_p2]
    show Steps p.tables e below (s₁.setTop (mkF m 40 #[.val (.int a), .val (.int b), .val (.int v2), .val (.int v3), .val (.int q4), .val (.int md), .val (.int n), .val (.int pk), .val (.int on), .val (.int p1), .unset, .unset, .unset, .unset, .unset, .unset, .unset] [(.int p2)])) _
    refine XS.istore X0.here hx rfl (hb hby at_40) rfl (l' := #[.val (.int a), .val (.int b), .val (.int v2), .val (.int v3), .val (.int q4), .val (.int md), .val (.int n), .val (.int pk), .val (.int on), .val (.int p1), .val (.int p2), .unset, .unset, .unset, .unset, .unset, .unset]) rfl ?_
    show Steps p.tables e below (s₁.setTop (mkF m 42 #[.val (.int a), .val (.int b), .val (.int v2), .val (.int v3), .val (.int q4), .val (.int md), .val (.int n), .val (.int pk), .val (.int on), .val (.int p1), .val (.int p2), .unset, .unset, .unset, .unset, .unset, .unset] [])) _
    refine XS.iload X0.here hx rfl (hb hby at_42) rfl ?_
    show Steps p.tables e below (s₁.setTop (mkF m 44 #[.val (.int a), .val (.int b), .val (.int v2), .val (.int v3), .val (.int q4), .val (.int md), .val (.int n), .val (.int pk), .val (.int on), .val (.int p1), .val (.int p2), .unset, .unset, .unset, .unset, .unset, .unset] [(.int md)])) _
    refine XS.iconst X0.here hx rfl (hb hby at_44) ?_
    show Steps p.tables e below (s₁.setTop (mkF m 45 #[.val (.int a), .val (.int b), .val (.int v2), .val (.int v3), .val (.int q4), .val (.int md), .val (.int n), .val (.int pk), .val (.int on), .val (.int p1), .val (.int p2), .unset, .unset, .unset, .unset, .unset, .unset] [(.int (5 : Int32)), (.int md)])) _
    refine XS.iushr X0.here hx rfl (hb hby at_45) rfl ?_
    show Steps p.tables e below (s₁.setTop (mkF m 46 #[.val (.int a), .val (.int b), .val (.int v2), .val (.int v3), .val (.int q4), .val (.int md), .val (.int n), .val (.int pk), .val (.int on), .val (.int p1), .val (.int p2), .unset, .unset, .unset, .unset, .unset, .unset] [(.int ((md.toUInt32 >>> ((5 : Int32) &&& 31).toUInt32).toInt32))])) _
    rw [← h_p3]
    show Steps p.tables e below (s₁.setTop (mkF m 46 #[.val (.int a), .val (.int b), .val (.int v2), .val (.int v3), .val (.int q4), .val (.int md), .val (.int n), .val (.int pk), .val (.int on), .val (.int p1), .val (.int p2), .unset, .unset, .unset, .unset, .unset, .unset] [(.int p3)])) _
    refine XS.istore X0.here hx rfl (hb hby at_46) rfl (l' := #[.val (.int a), .val (.int b), .val (.int v2), .val (.int v3), .val (.int q4), .val (.int md), .val (.int n), .val (.int pk), .val (.int on), .val (.int p1), .val (.int p2), .val (.int p3), .unset, .unset, .unset, .unset, .unset]) rfl ?_
    show Steps p.tables e below (s₁.setTop (mkF m 48 #[.val (.int a), .val (.int b), .val (.int v2), .val (.int v3), .val (.int q4), .val (.int md), .val (.int n), .val (.int pk), .val (.int on), .val (.int p1), .val (.int p2), .val (.int p3), .unset, .unset, .unset, .unset, .unset] [])) _
    refine gs3 X0 hx hby h_s3 ?_
    show Steps p.tables e below (s₁.setTop (mkF m 58 #[.val (.int a), .val (.int b), .val (.int v2), .val (.int v3), .val (.int q4), .val (.int md), .val (.int n), .val (.int pk), .val (.int on), .val (.int p1), .val (.int p2), .val (.int p3), .unset, .unset, .unset, .unset, .unset] [(.int s3)])) _
    refine XS.istore X0.here hx rfl (hb hby at_58) rfl (l' := #[.val (.int a), .val (.int b), .val (.int v2), .val (.int v3), .val (.int q4), .val (.int md), .val (.int n), .val (.int pk), .val (.int on), .val (.int p1), .val (.int p2), .val (.int p3), .val (.int s3), .unset, .unset, .unset, .unset]) rfl ?_
    show Steps p.tables e below (s₁.setTop (mkF m 60 #[.val (.int a), .val (.int b), .val (.int v2), .val (.int v3), .val (.int q4), .val (.int md), .val (.int n), .val (.int pk), .val (.int on), .val (.int p1), .val (.int p2), .val (.int p3), .val (.int s3), .unset, .unset, .unset, .unset] [])) _
    refine gx X0 hx hby h_xx ?_
    show Steps p.tables e below (s₁.setTop (mkF m 81 #[.val (.int a), .val (.int b), .val (.int v2), .val (.int v3), .val (.int q4), .val (.int md), .val (.int n), .val (.int pk), .val (.int on), .val (.int p1), .val (.int p2), .val (.int p3), .val (.int s3), .unset, .unset, .unset, .unset] [(.int xx)])) _
    refine XS.istore X0.here hx rfl (hb hby at_81) rfl (l' := #[.val (.int a), .val (.int b), .val (.int v2), .val (.int v3), .val (.int q4), .val (.int md), .val (.int n), .val (.int pk), .val (.int on), .val (.int p1), .val (.int p2), .val (.int p3), .val (.int s3), .val (.int xx), .unset, .unset, .unset]) rfl ?_
    show Steps p.tables e below (s₁.setTop (mkF m 83 #[.val (.int a), .val (.int b), .val (.int v2), .val (.int v3), .val (.int q4), .val (.int md), .val (.int n), .val (.int pk), .val (.int on), .val (.int p1), .val (.int p2), .val (.int p3), .val (.int s3), .val (.int xx), .unset, .unset, .unset] [])) _
    refine st20 _ ?_
    show Steps p.tables e below (T20.setTop (mkF m 86 #[.val (.int a), .val (.int b), .val (.int v2), .val (.int v3), .val (.int q4), .val (.int md), .val (.int n), .val (.int pk), .val (.int on), .val (.int p1), .val (.int p2), .val (.int p3), .val (.int s3), .val (.int xx), .unset, .unset, .unset] [(.ref b20)])) _
    refine XS.dup X20.here hx rfl (hb hby at_86) rfl rfl ?_
    show Steps p.tables e below (T20.setTop (mkF m 87 #[.val (.int a), .val (.int b), .val (.int v2), .val (.int v3), .val (.int q4), .val (.int md), .val (.int n), .val (.int pk), .val (.int on), .val (.int p1), .val (.int p2), .val (.int p3), .val (.int s3), .val (.int xx), .unset, .unset, .unset] [(.ref b20), (.ref b20)])) _
    refine XS.iconst X20.here hx rfl (hb hby at_87) ?_
    show Steps p.tables e below (T20.setTop (mkF m 88 #[.val (.int a), .val (.int b), .val (.int v2), .val (.int v3), .val (.int q4), .val (.int md), .val (.int n), .val (.int pk), .val (.int on), .val (.int p1), .val (.int p2), .val (.int p3), .val (.int s3), .val (.int xx), .unset, .unset, .unset] [(.int (1 : Int32)), (.ref b20), (.ref b20)])) _
    refine st21.trans ?_
    show Steps p.tables e below (T21.setTop (mkF m 91 #[.val (.int a), .val (.int b), .val (.int v2), .val (.int v3), .val (.int q4), .val (.int md), .val (.int n), .val (.int pk), .val (.int on), .val (.int p1), .val (.int p2), .val (.int p3), .val (.int s3), .val (.int xx), .unset, .unset, .unset] [(.ref b20)])) _
    refine XS.astore X21.here hx rfl (hb hby at_91) rfl rfl (l' := #[.val (.int a), .val (.int b), .val (.int v2), .val (.int v3), .val (.int q4), .val (.int md), .val (.int n), .val (.int pk), .val (.int on), .val (.int p1), .val (.int p2), .val (.int p3), .val (.int s3), .val (.int xx), .val (.ref b20), .unset, .unset]) rfl ?_
    show Steps p.tables e below (T21.setTop (mkF m 93 #[.val (.int a), .val (.int b), .val (.int v2), .val (.int v3), .val (.int q4), .val (.int md), .val (.int n), .val (.int pk), .val (.int on), .val (.int p1), .val (.int p2), .val (.int p3), .val (.int s3), .val (.int xx), .val (.ref b20), .unset, .unset] [])) _
    refine XS.aload X21.here hx rfl (hb hby at_93) rfl rfl ?_
    show Steps p.tables e below (T21.setTop (mkF m 95 #[.val (.int a), .val (.int b), .val (.int v2), .val (.int v3), .val (.int q4), .val (.int md), .val (.int n), .val (.int pk), .val (.int on), .val (.int p1), .val (.int p2), .val (.int p3), .val (.int s3), .val (.int xx), .val (.ref b20), .unset, .unset] [(.ref b20)])) _
    refine XS.astore X21.here hx rfl (hb hby at_95) rfl rfl (l' := #[.val (.int a), .val (.int b), .val (.int v2), .val (.int v3), .val (.int q4), .val (.int md), .val (.int n), .val (.int pk), .val (.int on), .val (.int p1), .val (.int p2), .val (.int p3), .val (.int s3), .val (.int xx), .val (.ref b20), .val (.ref b20), .unset]) rfl ?_
    show Steps p.tables e below (T21.setTop (mkF m 97 #[.val (.int a), .val (.int b), .val (.int v2), .val (.int v3), .val (.int q4), .val (.int md), .val (.int n), .val (.int pk), .val (.int on), .val (.int p1), .val (.int p2), .val (.int p3), .val (.int s3), .val (.int xx), .val (.ref b20), .val (.ref b20), .unset] [])) _
    refine st22 _ ?_
    show Steps p.tables e below (T22.setTop (mkF m 113 #[.val (.int a), .val (.int b), .val (.int v2), .val (.int v3), .val (.int q4), .val (.int md), .val (.int n), .val (.int pk), .val (.int on), .val (.int p1), .val (.int p2), .val (.int p3), .val (.int s3), .val (.int xx), .val (.ref b20), .val (.ref t22), .unset] [])) _
    refine st23 _ ?_
    show Steps p.tables e below (T23.setTop (mkF m 129 #[.val (.int a), .val (.int b), .val (.int v2), .val (.int v3), .val (.int q4), .val (.int md), .val (.int n), .val (.int pk), .val (.int on), .val (.int p1), .val (.int p2), .val (.int p3), .val (.int s3), .val (.int xx), .val (.ref b20), .val (.ref t23), .unset] [])) _
    refine st24 _ ?_
    show Steps p.tables e below (T24.setTop (mkF m 146 #[.val (.int a), .val (.int b), .val (.int v2), .val (.int v3), .val (.int q4), .val (.int md), .val (.int n), .val (.int pk), .val (.int on), .val (.int p1), .val (.int p2), .val (.int p3), .val (.int s3), .val (.int xx), .val (.ref b20), .val (.ref t24), .unset] [])) _
    refine XS.iload X24.here hx rfl (hb hby at_146) rfl ?_
    show Steps p.tables e below (T24.setTop (mkF m 148 #[.val (.int a), .val (.int b), .val (.int v2), .val (.int v3), .val (.int q4), .val (.int md), .val (.int n), .val (.int pk), .val (.int on), .val (.int p1), .val (.int p2), .val (.int p3), .val (.int s3), .val (.int xx), .val (.ref b20), .val (.ref t24), .unset] [(.int n)])) _
    refine XS.iloadN X24.here hx rfl (hb hby at_148) rfl ?_
    show Steps p.tables e below (T24.setTop (mkF m 149 #[.val (.int a), .val (.int b), .val (.int v2), .val (.int v3), .val (.int q4), .val (.int md), .val (.int n), .val (.int pk), .val (.int on), .val (.int p1), .val (.int p2), .val (.int p3), .val (.int s3), .val (.int xx), .val (.ref b20), .val (.ref t24), .unset] [(.int a), (.int n)])) _
    refine XS.iload X24.here hx rfl (hb hby at_149) rfl ?_
    show Steps p.tables e below (T24.setTop (mkF m 151 #[.val (.int a), .val (.int b), .val (.int v2), .val (.int v3), .val (.int q4), .val (.int md), .val (.int n), .val (.int pk), .val (.int on), .val (.int p1), .val (.int p2), .val (.int p3), .val (.int s3), .val (.int xx), .val (.ref b20), .val (.ref t24), .unset] [(.int p1), (.int a), (.int n)])) _
    refine XS.iloadN X24.here hx rfl (hb hby at_151) rfl ?_
    show Steps p.tables e below (T24.setTop (mkF m 152 #[.val (.int a), .val (.int b), .val (.int v2), .val (.int v3), .val (.int q4), .val (.int md), .val (.int n), .val (.int pk), .val (.int on), .val (.int p1), .val (.int p2), .val (.int p3), .val (.int s3), .val (.int xx), .val (.ref b20), .val (.ref t24), .unset] [(.int b), (.int p1), (.int a), (.int n)])) _
    refine XS.iload X24.here hx rfl (hb hby at_152) rfl ?_
    show Steps p.tables e below (T24.setTop (mkF m 154 #[.val (.int a), .val (.int b), .val (.int v2), .val (.int v3), .val (.int q4), .val (.int md), .val (.int n), .val (.int pk), .val (.int on), .val (.int p1), .val (.int p2), .val (.int p3), .val (.int s3), .val (.int xx), .val (.ref b20), .val (.ref t24), .unset] [(.int p2), (.int b), (.int p1), (.int a), (.int n)])) _
    refine XS.iload X24.here hx rfl (hb hby at_154) rfl ?_
    show Steps p.tables e below (T24.setTop (mkF m 156 #[.val (.int a), .val (.int b), .val (.int v2), .val (.int v3), .val (.int q4), .val (.int md), .val (.int n), .val (.int pk), .val (.int on), .val (.int p1), .val (.int p2), .val (.int p3), .val (.int s3), .val (.int xx), .val (.ref b20), .val (.ref t24), .unset] [(.int s3), (.int p2), (.int b), (.int p1), (.int a), (.int n)])) _
    refine XS.iload X24.here hx rfl (hb hby at_156) rfl ?_
    show Steps p.tables e below (T24.setTop (mkF m 158 #[.val (.int a), .val (.int b), .val (.int v2), .val (.int v3), .val (.int q4), .val (.int md), .val (.int n), .val (.int pk), .val (.int on), .val (.int p1), .val (.int p2), .val (.int p3), .val (.int s3), .val (.int xx), .val (.ref b20), .val (.ref t24), .unset] [(.int p3), (.int s3), (.int p2), (.int b), (.int p1), (.int a), (.int n)])) _
    refine XS.iload X24.here hx rfl (hb hby at_158) rfl ?_
    show Steps p.tables e below (T24.setTop (mkF m 160 #[.val (.int a), .val (.int b), .val (.int v2), .val (.int v3), .val (.int q4), .val (.int md), .val (.int n), .val (.int pk), .val (.int on), .val (.int p1), .val (.int p2), .val (.int p3), .val (.int s3), .val (.int xx), .val (.ref b20), .val (.ref t24), .unset] [(.int xx), (.int p3), (.int s3), (.int p2), (.int b), (.int p1), (.int a), (.int n)])) _
    refine st25 _ ?_
    show Steps p.tables e below (T25.setTop (mkF m 163 #[.val (.int a), .val (.int b), .val (.int v2), .val (.int v3), .val (.int q4), .val (.int md), .val (.int n), .val (.int pk), .val (.int on), .val (.int p1), .val (.int p2), .val (.int p3), .val (.int s3), .val (.int xx), .val (.ref b20), .val (.ref t24), .unset] [(.int ev)])) _
    refine XS.istore X25.here hx rfl (hb hby at_163) rfl (l' := #[.val (.int a), .val (.int b), .val (.int v2), .val (.int v3), .val (.int q4), .val (.int md), .val (.int n), .val (.int pk), .val (.int on), .val (.int p1), .val (.int p2), .val (.int p3), .val (.int s3), .val (.int xx), .val (.ref b20), .val (.ref t24), .val (.int ev)]) rfl ?_
    show Steps p.tables e below (T25.setTop (mkF m 165 #[.val (.int a), .val (.int b), .val (.int v2), .val (.int v3), .val (.int q4), .val (.int md), .val (.int n), .val (.int pk), .val (.int on), .val (.int p1), .val (.int p2), .val (.int p3), .val (.int s3), .val (.int xx), .val (.ref b20), .val (.ref t24), .val (.int ev)] [])) _
    refine XS.aload X25.here hx rfl (hb hby at_165) rfl rfl ?_
    show Steps p.tables e below (T25.setTop (mkF m 167 #[.val (.int a), .val (.int b), .val (.int v2), .val (.int v3), .val (.int q4), .val (.int md), .val (.int n), .val (.int pk), .val (.int on), .val (.int p1), .val (.int p2), .val (.int p3), .val (.int s3), .val (.int xx), .val (.ref b20), .val (.ref t24), .val (.int ev)] [(.ref t24)])) _
    refine XS.iload X25.here hx rfl (hb hby at_167) rfl ?_
    show Steps p.tables e below (T25.setTop (mkF m 169 #[.val (.int a), .val (.int b), .val (.int v2), .val (.int v3), .val (.int q4), .val (.int md), .val (.int n), .val (.int pk), .val (.int on), .val (.int p1), .val (.int p2), .val (.int p3), .val (.int s3), .val (.int xx), .val (.ref b20), .val (.ref t24), .val (.int ev)] [(.int xx), (.ref t24)])) _
    refine st26.trans ?_
    show Steps p.tables e below (T26.setTop (mkF m 172 #[.val (.int a), .val (.int b), .val (.int v2), .val (.int v3), .val (.int q4), .val (.int md), .val (.int n), .val (.int pk), .val (.int on), .val (.int p1), .val (.int p2), .val (.int p3), .val (.int s3), .val (.int xx), .val (.ref b20), .val (.ref t24), .val (.int ev)] [(.int gv)])) _
    refine XS.iload X26.here hx rfl (hb hby at_172) rfl ?_
    show Steps p.tables e below (T26.setTop (mkF m 174 #[.val (.int a), .val (.int b), .val (.int v2), .val (.int v3), .val (.int q4), .val (.int md), .val (.int n), .val (.int pk), .val (.int on), .val (.int p1), .val (.int p2), .val (.int p3), .val (.int s3), .val (.int xx), .val (.ref b20), .val (.ref t24), .val (.int ev)] [(.int ev), (.int gv)])) _
    refine XS.icmpNo X26.here hx rfl (hb hby at_174) rfl (teq hfin).2 ?_
    show Steps p.tables e below (T26.setTop (mkF m 177 #[.val (.int a), .val (.int b), .val (.int v2), .val (.int v3), .val (.int q4), .val (.int md), .val (.int n), .val (.int pk), .val (.int on), .val (.int p1), .val (.int p2), .val (.int p3), .val (.int s3), .val (.int xx), .val (.ref b20), .val (.ref t24), .val (.int ev)] [])) _
    refine XS.aload X26.here hx rfl (hb hby at_177) rfl rfl ?_
    show Steps p.tables e below (T26.setTop (mkF m 179 #[.val (.int a), .val (.int b), .val (.int v2), .val (.int v3), .val (.int q4), .val (.int md), .val (.int n), .val (.int pk), .val (.int on), .val (.int p1), .val (.int p2), .val (.int p3), .val (.int s3), .val (.int xx), .val (.ref b20), .val (.ref t24), .val (.int ev)] [(.ref b20)])) _
    refine XS.iload X26.here hx rfl (hb hby at_179) rfl ?_
    show Steps p.tables e below (T26.setTop (mkF m 181 #[.val (.int a), .val (.int b), .val (.int v2), .val (.int v3), .val (.int q4), .val (.int md), .val (.int n), .val (.int pk), .val (.int on), .val (.int p1), .val (.int p2), .val (.int p3), .val (.int s3), .val (.int xx), .val (.ref b20), .val (.ref t24), .val (.int ev)] [(.int xx), (.ref b20)])) _
    refine st27.trans ?_
    show Steps p.tables e below (T27.setTop (mkF m 184 #[.val (.int a), .val (.int b), .val (.int v2), .val (.int v3), .val (.int q4), .val (.int md), .val (.int n), .val (.int pk), .val (.int on), .val (.int p1), .val (.int p2), .val (.int p3), .val (.int s3), .val (.int xx), .val (.ref b20), .val (.ref t24), .val (.int ev)] [(.int gz)])) _
    refine XS.iconst X27.here hx rfl (hb hby at_184) ?_
    show Steps p.tables e below (T27.setTop (mkF m 185 #[.val (.int a), .val (.int b), .val (.int v2), .val (.int v3), .val (.int q4), .val (.int md), .val (.int n), .val (.int pk), .val (.int on), .val (.int p1), .val (.int p2), .val (.int p3), .val (.int s3), .val (.int xx), .val (.ref b20), .val (.ref t24), .val (.int ev)] [(.int (-1 : Int32)), (.int gz)])) _
    refine XS.icmpNo X27.here hx rfl (hb hby at_185) rfl (teq hfz).2 ?_
    show Steps p.tables e below (T27.setTop (mkF m 188 #[.val (.int a), .val (.int b), .val (.int v2), .val (.int v3), .val (.int q4), .val (.int md), .val (.int n), .val (.int pk), .val (.int on), .val (.int p1), .val (.int p2), .val (.int p3), .val (.int s3), .val (.int xx), .val (.ref b20), .val (.ref t24), .val (.int ev)] [])) _
    refine XS.iconst X27.here hx rfl (hb hby at_188) ?_
    show Steps p.tables e below (T27.setTop (mkF m 189 #[.val (.int a), .val (.int b), .val (.int v2), .val (.int v3), .val (.int q4), .val (.int md), .val (.int n), .val (.int pk), .val (.int on), .val (.int p1), .val (.int p2), .val (.int p3), .val (.int s3), .val (.int xx), .val (.ref b20), .val (.ref t24), .val (.int ev)] [(.int (1 : Int32))])) _
    refine XS.goto X27.here hx rfl (pc0 := 189) (pc' := 193) rfl (hb hby at_189) (by decide) (by decide) ?_
    show Steps p.tables e below (T27.setTop (mkF m 193 #[.val (.int a), .val (.int b), .val (.int v2), .val (.int v3), .val (.int q4), .val (.int md), .val (.int n), .val (.int pk), .val (.int on), .val (.int p1), .val (.int p2), .val (.int p3), .val (.int s3), .val (.int xx), .val (.ref b20), .val (.ref t24), .val (.int ev)] [(.int (1 : Int32))])) _
    exact retN X27 hx (t := .boolean) Bd.returns (by simp) (hb hby at_193) hr
  · show Q0 Z h0 n0 _ T27.heap _
    exact ⟨rfl, N27⟩
set_option maxRecDepth 65536 in
set_option maxHeartbeats 40000000 in
theorem comes_1 {Post : Tables → Env → Array Value → State → Outcome → State → Prop} (hpost : ∀ tb e args s v u, (limb_1_1.after args s (.returned v) u = true ∧ limb_1_2.after args s (.returned v) u = true ∧ True) → FrameEnd s (.returned v) u (Jvm.fieldLocs frame_1_writes args s ++ Jvm.arrayLocs frame_1_arrays args s ++ Jvm.staticLocs frame_1_statics s) 24 128 → Post tb e args s (.returned v) u) :
    ArmFor flags0 classFile x code maxLocals ret World_1 tables_1 room_1 Calls_1 rest_1 Pre_1 Post := by
  intro l hfl _ _ p e ha hc hk s m args below hf hA hF happ hP
  obtain ⟨hcalls, hrest, hpre⟩ := hP
  obtain ⟨-, -, -, hnamed, -, -, -, hat⟩ := (Spec.applies_iff hf).mp happ
  obtain ⟨hg, hn⟩ := and_e (Cond.before_iff.mp (show (Jvm.Cond.and given_1 narrow_1).before args s = true from hpre))
  obtain ⟨g16, g17⟩ := and_e hg
  obtain ⟨k0, r0⟩ := and_e g17
  obtain ⟨k1, r1⟩ := and_e r0
  obtain ⟨k2, r2⟩ := and_e r1
  obtain ⟨k3, r3⟩ := and_e r2
  obtain ⟨k4, k5⟩ := and_e r3
  obtain ⟨w0, w1, w2, w3, w4, w5, rfl⟩ : ∃ w0 w1 w2 w3 w4 w5 : Value, args = #[w0, w1, w2, w3, w4, w5] := by
    have hs : args.size = 6 := by simpa [Cond.value, given_1] using g16
    obtain ⟨L⟩ := args
    match L, hs with
    | [w0, w1, w2, w3, w4, w5], _ => exact ⟨w0, w1, w2, w3, w4, w5, rfl⟩
  have hw := fun d (hd : d ∈ tables_1) => atoms_spec (ws := Jvm.Cond.code x code maxLocals ret :: tables_1) hat d (List.mem_cons_of_mem _ hd)
  have hfit : Fit s := fun {y c} hc i hi => by
    obtain ⟨ha, rfl⟩ := Array.getElem?_eq_some_iff.mp hc
    have q := List.all_eq_true.mp ((Array.all_eq_true_iff_forall_mem.mp hF) _ (Array.getElem_mem ha)) i (List.mem_range.mpr hi)
    simpa [Array.getElem?_eq_getElem hi] using q
  obtain ⟨i0, ei0⟩ := is_v k0
  obtain rfl : w0 = (.int i0) := Option.some.inj ei0
  obtain ⟨i1, ei1⟩ := is_v k1
  obtain rfl : w1 = (.int i1) := Option.some.inj ei1
  obtain ⟨i2, ei2⟩ := is_v k2
  obtain rfl : w2 = (.int i2) := Option.some.inj ei2
  obtain ⟨i3, ei3⟩ := is_v k3
  obtain rfl : w3 = (.int i3) := Option.some.inj ei3
  obtain ⟨i4, ei4⟩ := is_v k4
  obtain rfl : w4 = (.int i4) := Option.some.inj ei4
  obtain ⟨i5, ei5⟩ := is_v k5
  obtain rfl : w5 = (.int i5) := Option.some.inj ei5
  obtain ⟨n, o, h1, h2, h3, _, L, rfl, ⟨rfl, N⟩, hq⟩ := rm0 l s _ hw tables_1 i0 i1 i2 i3 i4 i5 s.heap s.heap.size (Nat.le_refl _) p e ha hc hk s m _ below hf ((Spec.applies_iff_loose hf).mp happ).1 ⟨rfl, State.Warmed39.refl s, rfl⟩ trivial
  refine ⟨n, _, h1, h2, h3, hpost _ _ _ _ _ _ ⟨Cond.after_iff.mpr rfl, Cond.after_iff.mpr (eq_i res_at (Term.int_eval (1)) rfl), trivial⟩ ⟨hq.1, hq.2.1, (hq.2.2.sift fun y hy => Or.inr (N y hy)).mono (by decide) (by decide)⟩⟩
theorem main_1_1 : Claimed_1_1 := comes_1 fun _ _ _ _ _ _ h hF => ⟨h.1, hF⟩
theorem main_1_2 : Claimed_1_2 := comes_1 fun _ _ _ _ _ _ h hF => ⟨h.2.1, hF⟩
end Jvm.Pilot.@@N@@
namespace Jvm.Pilot.@@N@@
open Jvm Jvm.ClassFile Sem Op Lib Jvm.Free Jvm.Stand Jvm.Pilot.@@N@@.Jvm.D
/-! MADE BY PROGRAM (witnessworld.py) out of the Statement's table words and the real class files: 14 classes; the members and pool entries that the words name. The judged class is class 1, her method 1. -/
namespace start1
open Jvm.ClassFile
def u (s : String) : CpInfo := .utf8 (stringToUtf16 s)
/-- a pool by its gaps: so many unusable entries, then the entry; so many at the end -/
def gap : Nat → List CpInfo → List CpInfo
  | 0, r => r
  | n + 1, r => .unusable :: gap n r
def poolList (es : List (Nat × CpInfo)) (last : Nat) : List CpInfo := es.foldr (fun e r => gap e.1 (e.2 :: r)) (gap last [])
def pool (es : List (Nat × CpInfo)) (last : Nat) : Array CpInfo := ⟨poolList es last⟩
def fileOf (pool : Array CpInfo) (this : Nat) (attrs : Array Attribute := #[]) (ms : Array MethodInfo := #[]) (fl : Nat := 33) (sup : Nat := 0) (ifs : Array Nat := #[]) (fds : Array FieldInfo := #[]) : ClassFile where
  minorVersion := 0
  majorVersion := 65
  constantPool := pool
  accessFlags := fl
  thisClass := this
  superClass := sup
  interfaces := ifs
  fields := fds
  methods := ms
  attributes := attrs
def plain (name : String) (sup : Option ClassId) : Class where
  name := name
  kind := .ordinary
  loader := none
  accessFlags := 33
  super := sup
  interfaces := #[]
  cf := none
  fields := #[]
  methods := #[]
  instanceTypes := #[]
  staticTypes := #[]
  resolved := #[]
  callSites := []
  init := .initialized
  statics := none
  mirror := none

def pool0 : Array CpInfo := pool [(5, u "<init>"), (0, u "()V"), (1, .class_ 10), (1, u "java/lang/Object")] 113

def k0c0 : Code := { maxStack := 0, maxLocals := 1, code := object_method_1_code, exceptionTable := #[], attributes := #[] }
def k0m0 : Method := { name := "<init>", desc := "()V", sig := { parameters := [], returnType := none }, accessFlags := 1, code := some k0c0 }
/-- java/lang/Object -/
def k0 : Class := { plain "java/lang/Object" none with
  accessFlags := 33
  interfaces := #[]
  cf := some (fileOf pool0 8 #[] #[{ accessFlags := 1, nameIndex := 5, descriptorIndex := 6, attributes := #[] }] 33 0 #[] #[])
  fields := #[]
  methods := #[k0m0]
  instanceTypes := #[]
  staticTypes := #[]
  resolved := Array.replicate 124 none
  statics := none }

def pool1 : Array CpInfo := pool [(2, .class_ 4), (1, u "java/lang/Object"), (0, u "<init>"), (0, u "()V"), (0, .integer 2147483647), (0, .class_ 9), (0, u "com/example/xquery_rewriter/xqueryrewriter/algebra/Tuple"), (0, .methodref 8 11), (0, .nameAndType 5 12), (0, u "(I)V"), (0, .methodref 8 14), (0, .nameAndType 15 16), (0, u "withPosition"), (0, u "(II)Lcom/example/xquery_rewriter/xqueryrewriter/algebra/Tuple;"), (0, .methodref 18 19), (0, .class_ 20), (0, .nameAndType 21 22), (0, u "com/example/xquery_rewriter/xqueryrewriter/algebra/TuplePositionPinLaw"), (0, u "expected"), (0, u "(IIIIIIII)I"), (0, .methodref 8 24), (0, .nameAndType 25 26), (0, u "position"), (0, u "(I)I"), (2, u "law"), (0, u "(IIIIII)Z")] 3

def k1m0 : Method := { name := "<init>", desc := "()V", sig := { parameters := [], returnType := none }, accessFlags := 1, code := none }
def k1c1 : Code := { maxStack := 8, maxLocals := 17, code := code, exceptionTable := #[], attributes := #[] }
def k1m1 : Method := { name := "law", desc := "(IIIIII)Z", sig := { parameters := [.int, .int, .int, .int, .int, .int], returnType := some .boolean }, accessFlags := 9, code := some k1c1 }
def k1c2 : Code := { maxStack := 2, maxLocals := 8, code := method_3_code, exceptionTable := #[], attributes := #[] }
def k1m2 : Method := { name := "expected", desc := "(IIIIIIII)I", sig := { parameters := [.int, .int, .int, .int, .int, .int, .int, .int], returnType := some .int }, accessFlags := 10, code := some k1c2 }
/-- com/example/xquery_rewriter/xqueryrewriter/algebra/TuplePositionPinLaw -/
def k1 : Class := { plain "com/example/xquery_rewriter/xqueryrewriter/algebra/TuplePositionPinLaw" (some 0) with
  accessFlags := 49
  interfaces := #[]
  cf := some (fileOf pool1 18 #[] #[{ accessFlags := 1, nameIndex := 5, descriptorIndex := 6, attributes := #[] }, { accessFlags := 9, nameIndex := 29, descriptorIndex := 30, attributes := #[] }, { accessFlags := 10, nameIndex := 21, descriptorIndex := 22, attributes := #[] }] 49 2 #[] #[])
  fields := #[]
  methods := #[k1m0, k1m1, k1m2]
  instanceTypes := #[]
  staticTypes := #[]
  resolved := Array.replicate 34 none
  statics := none }

def pool2 : Array CpInfo := pool [(1, .class_ 2), (0, u "com/example/xquery_rewriter/xqueryrewriter/xdm/Sequence"), (0, .methodref 4 5), (0, .class_ 6), (0, .nameAndType 7 8), (0, u "com/example/xquery_rewriter/xqueryrewriter/algebra/Tuple"), (0, u "<init>"), (0, u "([Lcom/example/xquery_rewriter/xqueryrewriter/xdm/Sequence;[I)V"), (0, .methodref 4 10), (0, .nameAndType 7 11), (0, u "([Lcom/example/xquery_rewriter/xqueryrewriter/xdm/Sequence;[IZ)V"), (0, .methodref 13 14), (0, .class_ 15), (0, .nameAndType 7 16), (0, u "java/lang/Object"), (0, u "()V"), (0, .fieldref 4 18), (0, .nameAndType 19 20), (0, u "slots"), (0, u "[Lcom/example/xquery_rewriter/xqueryrewriter/xdm/Sequence;"), (0, .fieldref 4 22), (0, .nameAndType 23 24), (0, u "positions"), (0, u "[I"), (0, .fieldref 4 26), (0, .nameAndType 27 28), (0, u "candidate"), (0, u "Z"), (11, .methodref 4 41), (0, .nameAndType 42 43), (0, u "withPair"), (0, u "([III)[I"), (6, u "position"), (0, u "(I)I"), (0, .methodref 53 54), (0, .class_ 55), (0, .nameAndType 56 57), (0, u "java/lang/Math"), (0, u "max"), (0, u "(II)I"), (0, .methodref 59 60), (0, .class_ 61), (0, .nameAndType 62 63), (0, u "java/lang/System"), (0, u "arraycopy"), (0, u "(Ljava/lang/Object;ILjava/lang/Object;II)V"), (0, u "(I)V"), (15, u "withPosition"), (0, u "(II)Lcom/example/xquery_rewriter/xqueryrewriter/algebra/Tuple;")] 6

def k2c0 : Code := { maxStack := 3, maxLocals := 2, code := prog_139_method_1_code, exceptionTable := #[], attributes := #[] }
def k2m0 : Method := { name := "<init>", desc := "(I)V", sig := { parameters := [.int], returnType := none }, accessFlags := 0, code := some k2c0 }
def k2c1 : Code := { maxStack := 4, maxLocals := 3, code := prog_139_method_2_code, exceptionTable := #[], attributes := #[] }
def k2m1 : Method := { name := "<init>", desc := "([Lcom/example/xquery_rewriter/xqueryrewriter/xdm/Sequence;[I)V", sig := { parameters := [(.array (.object "com/example/xquery_rewriter/xqueryrewriter/xdm/Sequence")), (.array .int)], returnType := none }, accessFlags := 2, code := some k2c1 }
def k2c2 : Code := { maxStack := 2, maxLocals := 4, code := prog_139_method_3_code, exceptionTable := #[], attributes := #[] }
def k2m2 : Method := { name := "<init>", desc := "([Lcom/example/xquery_rewriter/xqueryrewriter/xdm/Sequence;[IZ)V", sig := { parameters := [(.array (.object "com/example/xquery_rewriter/xqueryrewriter/xdm/Sequence")), (.array .int), .boolean], returnType := none }, accessFlags := 2, code := some k2c2 }
def k2c3 : Code := { maxStack := 3, maxLocals := 4, code := prog_139_method_5_code, exceptionTable := #[], attributes := #[] }
def k2m3 : Method := { name := "position", desc := "(I)I", sig := { parameters := [.int], returnType := some .int }, accessFlags := 0, code := some k2c3 }
def k2c4 : Code := { maxStack := 6, maxLocals := 3, code := prog_139_method_11_code, exceptionTable := #[], attributes := #[] }
def k2m4 : Method := { name := "withPosition", desc := "(II)Lcom/example/xquery_rewriter/xqueryrewriter/algebra/Tuple;", sig := { parameters := [.int, .int], returnType := some (.object "com/example/xquery_rewriter/xqueryrewriter/algebra/Tuple") }, accessFlags := 0, code := some k2c4 }
def k2c5 : Code := { maxStack := 5, maxLocals := 5, code := prog_139_method_16_code, exceptionTable := #[], attributes := #[] }
def k2m5 : Method := { name := "withPair", desc := "([III)[I", sig := { parameters := [(.array .int), .int, .int], returnType := some (.array .int) }, accessFlags := 10, code := some k2c5 }
/-- com/example/xquery_rewriter/xqueryrewriter/algebra/Tuple -/
def k2 : Class := { plain "com/example/xquery_rewriter/xqueryrewriter/algebra/Tuple" (some 0) with
  accessFlags := 48
  interfaces := #[]
  cf := some (fileOf pool2 4 #[] #[{ accessFlags := 0, nameIndex := 7, descriptorIndex := 64, attributes := #[] }, { accessFlags := 2, nameIndex := 7, descriptorIndex := 8, attributes := #[] }, { accessFlags := 2, nameIndex := 7, descriptorIndex := 11, attributes := #[] }, { accessFlags := 0, nameIndex := 50, descriptorIndex := 51, attributes := #[] }, { accessFlags := 0, nameIndex := 80, descriptorIndex := 81, attributes := #[] }, { accessFlags := 10, nameIndex := 42, descriptorIndex := 43, attributes := #[] }] 48 13 #[] #[{ accessFlags := 18, nameIndex := 19, descriptorIndex := 20, attributes := #[] }, { accessFlags := 18, nameIndex := 23, descriptorIndex := 24, attributes := #[] }, { accessFlags := 18, nameIndex := 27, descriptorIndex := 28, attributes := #[] }])
  fields := #[{ name := "slots", type := (.array (.object "com/example/xquery_rewriter/xqueryrewriter/xdm/Sequence")), accessFlags := 18, slot := 0, constantValue := 0 }, { name := "positions", type := (.array .int), accessFlags := 18, slot := 1, constantValue := 0 }, { name := "candidate", type := .boolean, accessFlags := 18, slot := 2, constantValue := 0 }]
  methods := #[k2m0, k2m1, k2m2, k2m3, k2m4, k2m5]
  instanceTypes := #[(.array (.object "com/example/xquery_rewriter/xqueryrewriter/xdm/Sequence")), (.array .int), .boolean]
  staticTypes := #[]
  resolved := Array.replicate 88 none
  statics := none }

def pool3 : Array CpInfo := pool [(8, .class_ 10), (1, u "java/lang/Iterable"), (24, .class_ 36), (0, u "java/lang/Object")] 25

/-- java/lang/Iterable -/
def k3 : Class := { plain "java/lang/Iterable" (some 0) with
  accessFlags := 1537
  interfaces := #[]
  cf := some (fileOf pool3 8 #[] #[] 1537 35 #[] #[])
  fields := #[]
  methods := #[]
  instanceTypes := #[]
  staticTypes := #[]
  resolved := Array.replicate 62 none
  statics := none }

def pool4 : Array CpInfo := pool [(2, .class_ 4), (1, u "java/lang/Object"), (0, u "<init>"), (0, u "()V"), (1, .class_ 10), (1, u "com/example/xquery_rewriter/xqueryrewriter/xdm/Sequence"), (0, u "items"), (0, u "[Lcom/example/xquery_rewriter/xqueryrewriter/xdm/Item;"), (8, u "EMPTY"), (0, u "Lcom/example/xquery_rewriter/xqueryrewriter/xdm/Sequence;"), (51, .class_ 75), (0, u "com/example/xquery_rewriter/xqueryrewriter/xdm/Sequence$1"), (34, .class_ 111), (0, u "java/lang/Iterable")] 38

def k4m0 : Method := { name := "<init>", desc := "()V", sig := { parameters := [], returnType := none }, accessFlags := 0, code := none }
/-- com/example/xquery_rewriter/xqueryrewriter/xdm/Sequence -/
def k4 : Class := { plain "com/example/xquery_rewriter/xqueryrewriter/xdm/Sequence" (some 0) with
  accessFlags := 33
  interfaces := #[3]
  cf := some (fileOf pool4 8 #[.nestMembers #[74]] #[{ accessFlags := 0, nameIndex := 5, descriptorIndex := 6, attributes := #[] }] 33 2 #[110] #[{ accessFlags := 25, nameIndex := 21, descriptorIndex := 22, attributes := #[] }, { accessFlags := 18, nameIndex := 11, descriptorIndex := 12, attributes := #[] }])
  fields := #[{ name := "EMPTY", type := (.object "com/example/xquery_rewriter/xqueryrewriter/xdm/Sequence"), accessFlags := 25, slot := 0, constantValue := 0 }, { name := "items", type := (.array (.object "com/example/xquery_rewriter/xqueryrewriter/xdm/Item")), accessFlags := 18, slot := 0, constantValue := 0 }]
  methods := #[k4m0]
  instanceTypes := #[(.array (.object "com/example/xquery_rewriter/xqueryrewriter/xdm/Item"))]
  staticTypes := #[(.object "com/example/xquery_rewriter/xqueryrewriter/xdm/Sequence")]
  resolved := Array.replicate 150 none
  statics := none }

def pool5 : Array CpInfo := pool [(1, .class_ 2), (0, u "java/lang/Math"), (1, .class_ 6), (1, u "java/lang/Object"), (0, u "<init>"), (0, u "()V"), (89, .class_ 100), (1, u "java/lang/Math$RandomNumberGeneratorHolder"), (71, u "negativeZeroFloatBits"), (0, u "J"), (2, u "negativeZeroDoubleBits"), (21, u "max"), (46, u "$assertionsDisabled"), (0, u "Z"), (88, u "(II)I"), (2, u "twoToTheDoubleScaleDown"), (0, u "D"), (4, u "twoToTheDoubleScaleUp"), (9, u "E"), (3, u "PI"), (2, u "TAU"), (2, u "DEGREES_TO_RADIANS"), (0, u "RADIANS_TO_DEGREES")] 94

def k5m0 : Method := { name := "<init>", desc := "()V", sig := { parameters := [], returnType := none }, accessFlags := 2, code := none }
def k5c1 : Code := { maxStack := 2, maxLocals := 2, code := jdk_29_method_65_code, exceptionTable := #[], attributes := #[] }
def k5m1 : Method := { name := "max", desc := "(II)I", sig := { parameters := [.int, .int], returnType := some .int }, accessFlags := 9, code := some k5c1 }
/-- java/lang/Math -/
def k5 : Class := { plain "java/lang/Math" (some 0) with
  accessFlags := 49
  interfaces := #[]
  cf := some (fileOf pool5 1 #[.nestMembers #[98]] #[{ accessFlags := 2, nameIndex := 7, descriptorIndex := 8, attributes := #[] }, { accessFlags := 9, nameIndex := 198, descriptorIndex := 335, attributes := #[] }] 49 4 #[] #[{ accessFlags := 25, nameIndex := 354, descriptorIndex := 339, attributes := #[] }, { accessFlags := 25, nameIndex := 358, descriptorIndex := 339, attributes := #[] }, { accessFlags := 25, nameIndex := 361, descriptorIndex := 339, attributes := #[] }, { accessFlags := 26, nameIndex := 364, descriptorIndex := 339, attributes := #[] }, { accessFlags := 26, nameIndex := 365, descriptorIndex := 339, attributes := #[] }, { accessFlags := 26, nameIndex := 172, descriptorIndex := 173, attributes := #[] }, { accessFlags := 26, nameIndex := 176, descriptorIndex := 173, attributes := #[] }, { accessFlags := 8, nameIndex := 344, descriptorIndex := 339, attributes := #[] }, { accessFlags := 8, nameIndex := 338, descriptorIndex := 339, attributes := #[] }, { accessFlags := 4120, nameIndex := 245, descriptorIndex := 246, attributes := #[] }])
  fields := #[{ name := "E", type := .double, accessFlags := 25, slot := 0, constantValue := 0 }, { name := "PI", type := .double, accessFlags := 25, slot := 1, constantValue := 0 }, { name := "TAU", type := .double, accessFlags := 25, slot := 2, constantValue := 0 }, { name := "DEGREES_TO_RADIANS", type := .double, accessFlags := 26, slot := 3, constantValue := 0 }, { name := "RADIANS_TO_DEGREES", type := .double, accessFlags := 26, slot := 4, constantValue := 0 }, { name := "negativeZeroFloatBits", type := .long, accessFlags := 26, slot := 5, constantValue := 0 }, { name := "negativeZeroDoubleBits", type := .long, accessFlags := 26, slot := 6, constantValue := 0 }, { name := "twoToTheDoubleScaleUp", type := .double, accessFlags := 8, slot := 7, constantValue := 0 }, { name := "twoToTheDoubleScaleDown", type := .double, accessFlags := 8, slot := 8, constantValue := 0 }, { name := "$assertionsDisabled", type := .boolean, accessFlags := 4120, slot := 9, constantValue := 0 }]
  methods := #[k5m0, k5m1]
  instanceTypes := #[]
  staticTypes := #[.double, .double, .double, .double, .double, .long, .long, .double, .double, .boolean]
  resolved := Array.replicate 460 none
  statics := none }

def pool6 : Array CpInfo := pool [(2, .class_ 4), (1, u "java/lang/Object"), (0, u "<init>"), (0, u "()V"), (1, .class_ 10), (1, u "java/lang/System"), (0, u "allowSecurityManager"), (0, u "I"), (16, u "cons"), (0, u "Ljava/io/Console;"), (77, .class_ 110), (1, u "java/lang/System$CallersHolder"), (43, u "initialErrStream"), (0, u "Ljava/io/PrintStream;"), (19, u "security"), (0, u "Ljava/lang/SecurityManager;"), (31, .class_ 209), (0, u "java/lang/System$1"), (7, u "props"), (0, u "Ljava/util/Properties;"), (2, u "lineSeparator"), (0, u "Ljava/lang/String;"), (96, .class_ 321), (1, u "java/lang/System$LoggerFinder"), (5, .class_ 328), (0, u "java/lang/System$Logger"), (67, u "err"), (2, u "out"), (91, u "notSupportedJnuEncoding"), (15, u "in"), (17, u "initialIn"), (0, u "Ljava/io/InputStream;"), (35, u "bootLayer"), (0, u "Ljava/lang/ModuleLayer;"), (99, .class_ 664), (0, u "java/lang/System$2"), (9, u "NEVER"), (2, u "MAYBE"), (49, u "arraycopy"), (0, u "(Ljava/lang/Object;ILjava/lang/Object;II)V"), (72, .class_ 802), (0, u "java/lang/System$Logger$Level")] 31

def k6m0 : Method := { name := "<init>", desc := "()V", sig := { parameters := [], returnType := none }, accessFlags := 2, code := none }
def k6m1 : Method := { name := "arraycopy", desc := "(Ljava/lang/Object;ILjava/lang/Object;II)V", sig := { parameters := [(.object "java/lang/Object"), .int, (.object "java/lang/Object"), .int, .int], returnType := none }, accessFlags := 265, code := none }
/-- java/lang/System -/
def k6 : Class := { plain "java/lang/System" (some 0) with
  accessFlags := 49
  interfaces := #[]
  cf := some (fileOf pool6 8 #[.nestMembers #[319, 327, 801, 108, 663, 208]] #[{ accessFlags := 2, nameIndex := 5, descriptorIndex := 6, attributes := #[] }, { accessFlags := 265, nameIndex := 727, descriptorIndex := 728, attributes := #[] }] 49 2 #[] #[{ accessFlags := 25, nameIndex := 507, descriptorIndex := 526, attributes := #[] }, { accessFlags := 25, nameIndex := 399, descriptorIndex := 155, attributes := #[] }, { accessFlags := 25, nameIndex := 396, descriptorIndex := 155, attributes := #[] }, { accessFlags := 10, nameIndex := 525, descriptorIndex := 526, attributes := #[] }, { accessFlags := 26, nameIndex := 674, descriptorIndex := 12, attributes := #[] }, { accessFlags := 26, nameIndex := 677, descriptorIndex := 12, attributes := #[] }, { accessFlags := 10, nameIndex := 11, descriptorIndex := 12, attributes := #[] }, { accessFlags := 74, nameIndex := 175, descriptorIndex := 176, attributes := #[] }, { accessFlags := 10, nameIndex := 491, descriptorIndex := 222, attributes := #[] }, { accessFlags := 74, nameIndex := 29, descriptorIndex := 30, attributes := #[] }, { accessFlags := 74, nameIndex := 154, descriptorIndex := 155, attributes := #[] }, { accessFlags := 10, nameIndex := 217, descriptorIndex := 218, attributes := #[] }, { accessFlags := 10, nameIndex := 221, descriptorIndex := 222, attributes := #[] }, { accessFlags := 8, nameIndex := 562, descriptorIndex := 563, attributes := #[] }])
  fields := #[{ name := "in", type := (.object "java/io/InputStream"), accessFlags := 25, slot := 0, constantValue := 0 }, { name := "out", type := (.object "java/io/PrintStream"), accessFlags := 25, slot := 1, constantValue := 0 }, { name := "err", type := (.object "java/io/PrintStream"), accessFlags := 25, slot := 2, constantValue := 0 }, { name := "initialIn", type := (.object "java/io/InputStream"), accessFlags := 10, slot := 3, constantValue := 0 }, { name := "NEVER", type := .int, accessFlags := 26, slot := 4, constantValue := 0 }, { name := "MAYBE", type := .int, accessFlags := 26, slot := 5, constantValue := 0 }, { name := "allowSecurityManager", type := .int, accessFlags := 10, slot := 6, constantValue := 0 }, { name := "security", type := (.object "java/lang/SecurityManager"), accessFlags := 74, slot := 7, constantValue := 0 }, { name := "notSupportedJnuEncoding", type := (.object "java/lang/String"), accessFlags := 10, slot := 8, constantValue := 0 }, { name := "cons", type := (.object "java/io/Console"), accessFlags := 74, slot := 9, constantValue := 0 }, { name := "initialErrStream", type := (.object "java/io/PrintStream"), accessFlags := 74, slot := 10, constantValue := 0 }, { name := "props", type := (.object "java/util/Properties"), accessFlags := 10, slot := 11, constantValue := 0 }, { name := "lineSeparator", type := (.object "java/lang/String"), accessFlags := 10, slot := 12, constantValue := 0 }, { name := "bootLayer", type := (.object "java/lang/ModuleLayer"), accessFlags := 8, slot := 13, constantValue := 0 }]
  methods := #[k6m0, k6m1]
  instanceTypes := #[]
  staticTypes := #[(.object "java/io/InputStream"), (.object "java/io/PrintStream"), (.object "java/io/PrintStream"), (.object "java/io/InputStream"), .int, .int, .int, (.object "java/lang/SecurityManager"), (.object "java/lang/String"), (.object "java/io/Console"), (.object "java/io/PrintStream"), (.object "java/util/Properties"), (.object "java/lang/String"), (.object "java/lang/ModuleLayer")]
  resolved := Array.replicate 834 none
  statics := none }

def pool7 : Array CpInfo := pool [(1, u "java/lang/Cloneable"), (0, .class_ 1), (0, u "java/lang/Object"), (0, .class_ 3)] 3

/-- java/lang/Cloneable -/
def k7 : Class := { plain "java/lang/Cloneable" (some 0) with
  accessFlags := 1537
  interfaces := #[]
  cf := some (fileOf pool7 2 #[] #[] 1537 4 #[] #[])
  fields := #[]
  methods := #[]
  instanceTypes := #[]
  staticTypes := #[]
  resolved := Array.replicate 8 none
  statics := none }

def pool8 : Array CpInfo := pool [(1, u "java/io/Serializable"), (0, .class_ 1), (0, u "java/lang/Object"), (0, .class_ 3)] 3

/-- java/io/Serializable -/
def k8 : Class := { plain "java/io/Serializable" (some 0) with
  accessFlags := 1537
  interfaces := #[]
  cf := some (fileOf pool8 2 #[] #[] 1537 4 #[] #[])
  fields := #[]
  methods := #[]
  instanceTypes := #[]
  staticTypes := #[]
  resolved := Array.replicate 8 none
  statics := none }

/-- the primitive byte -/
def k9 : Class := { plain "byte" none with kind := .primitive 'B', accessFlags := 0x411 }
/-- [B -/
def k10 : Class := { plain "[B" (some 0) with kind := .array 9 .byte, interfaces := #[7, 8], accessFlags := 1041 }

/-- the primitive int -/
def k11 : Class := { plain "int" none with kind := .primitive 'I', accessFlags := 0x411 }
/-- [I -/
def k12 : Class := { plain "[I" (some 0) with kind := .array 11 .int, interfaces := #[7, 8], accessFlags := 1041 }

/-- [Lcom/example/xquery_rewriter/xqueryrewriter/xdm/Sequence; -/
def k13 : Class := { plain "[Lcom/example/xquery_rewriter/xqueryrewriter/xdm/Sequence;" (some 0) with kind := .array 4 (.object "com/example/xquery_rewriter/xqueryrewriter/xdm/Sequence"), interfaces := #[7, 8], accessFlags := 1041 }

def heap : Heap := #[]
def classes : Array Class := #[k0, k1, k2, k3, k4, k5, k6, k7, k8, k9, k10, k11, k12, k13]
def interned : List (Array UInt16 × Addr) := []
def slotsUsed : Nat := 0
def theMethod : MethodId := ⟨1, 1⟩
def args0 : Array Value := #[.int 5, .int 7, .int 9, .int 11, .int 5, .int 3]
def aboutOver (below : List Frame) : State where
  vm := { classes := classes, interned := interned.toArray }
  heap := heap
  slotsUsed := slotsUsed
  threads := #[{ frames := .invoking theMethod args0 :: below }]
def below0 : List Frame := [.native { method := ⟨0, 0⟩, args := #[] }]
def about1 : State := aboutOver below0
def p0 : Program := .bare "" "" ""
def e0 : Env := launch0.env 0 0 0
theorem w_frames : about1.frames = Frame.invoking theMethod args0 :: below0 := rfl
set_option maxRecDepth 65536 in
theorem w_args : argsFit about1.vm theMethod args0 = true := by decide +kernel
set_option maxRecDepth 65536 in
theorem w_heap : heapFits about1 = true := by decide +kernel
set_option maxRecDepth 65536 in
theorem w_runnable : about1.curStatus? = some .runnable := by decide +kernel
set_option maxRecDepth 65536 in
theorem w_alone : about1.alone = true := by decide +kernel
set_option maxRecDepth 65536 in
theorem w_named : about1.methodNamed? x = some theMethod := by decide +kernel
set_option maxRecDepth 65536 in
theorem w_hears : about1.hears theMethod below0 = true := by decide +kernel
set_option maxRecDepth 65536 in
theorem w_ripe : about1.ripe theMethod args0 below0 = true := by decide +kernel
theorem w_running : about1.status = .running := rfl
set_option maxRecDepth 65536 in
theorem w_room : about1.hasRoom e0.platform room_1 = true :=
  launch0.hasRoom_least _ room_1 (by decide +kernel) (by decide +kernel) (by decide +kernel) (by decide +kernel) (by decide +kernel) (by decide +kernel)
theorem allAtoms_all (ts : List Jvm.Cond) (a : Array Jvm.Value) (st : Jvm.State) : (allAtoms ts).before a st = ts.all (fun c => c.before a st) := by
  induction ts with
  | nil => rfl
  | cons c t ih =>
    show (Jvm.Cond.and c (allAtoms t)).before a st = _
    rw [Jvm.Cond.before_and, ih, List.all_cons]
def words1 : List Jvm.Cond := Jvm.Cond.code x code maxLocals ret :: tables_1
/-- a 'code' word, met by the world's own term for the bytes: nothing is compared byte by byte -/
theorem code_word {y : MethodName} {bytes : ByteArray} {mx : Nat} {rt : Option FieldType} {a : Array Value} {s : State} {m : MethodId} {meth : Method} {c : Code} (h1 : s.methodNamed? y = some m) (h2 : s.vm.method? m = some meth) (h3 : meth.code = some c) (h4 : c.code = bytes)
    (h5 : (c.maxLocals == mx && c.exceptionTable.isEmpty && decide (c.maxStack ≤ mostOperands) && decide (meth.sig.returnType = rt) && !meth.locks && decide (parseMethodDescriptor y.desc = some meth.sig)) = true) : (Jvm.Cond.code y bytes mx rt).before a s = true := by
  simp only [Bool.and_eq_true, beq_iff_eq, Bool.not_eq_true', decide_eq_true_eq] at h5
  obtain ⟨⟨⟨⟨⟨g1, g2⟩, g3⟩, g4⟩, g5⟩, g6⟩ := h5
  simp [Cond.before, Cond.holds, Cond.value, h1, h2, h3, h4, g1, g2, g3, g4, g5, g6]
def isCode : Jvm.Cond → Bool
  | .code _ _ _ _ => true
  | _ => false
theorem all_split {L : List Jvm.Cond} {P : Jvm.Cond → Bool} (h1 : L.all (fun c => isCode c || P c) = true) (h2 : ∀ c ∈ L.filter isCode, P c = true) : L.all P = true := by
  refine List.all_eq_true.mpr fun c hc => ?_
  have h := List.all_eq_true.mp h1 c hc
  rcases Bool.eq_false_or_eq_true (isCode c) with hi | hi
  · exact h2 c (List.mem_filter.mpr ⟨hc, hi⟩)
  · simpa [hi] using h
set_option maxRecDepth 65536 in
theorem w_c0 : (Jvm.Cond.code x code maxLocals ret).before args0 about1 = true := code_word (m := ⟨1, 1⟩) (meth := k1m1) (c := k1c1) (by decide +kernel) rfl rfl rfl (by decide +kernel)
set_option maxRecDepth 65536 in
theorem w_c1 : (Jvm.Cond.code ({ cls := "com/example/xquery_rewriter/xqueryrewriter/algebra/Tuple", name := "<init>", desc := "(I)V" } : Jvm.MethodName) prog_139_method_1_code (2 : Nat) (Option.none : Option Jvm.ClassFile.FieldType)).before args0 about1 = true := code_word (m := ⟨2, 0⟩) (meth := k2m0) (c := k2c0) (by decide +kernel) rfl rfl rfl (by decide +kernel)
set_option maxRecDepth 65536 in
theorem w_c2 : (Jvm.Cond.code ({ cls := "com/example/xquery_rewriter/xqueryrewriter/algebra/Tuple", name := "<init>", desc := "([Lcom/example/xquery_rewriter/xqueryrewriter/xdm/Sequence;[I)V" } : Jvm.MethodName) prog_139_method_2_code (3 : Nat) (Option.none : Option Jvm.ClassFile.FieldType)).before args0 about1 = true := code_word (m := ⟨2, 1⟩) (meth := k2m1) (c := k2c1) (by decide +kernel) rfl rfl rfl (by decide +kernel)
set_option maxRecDepth 65536 in
theorem w_c3 : (Jvm.Cond.code ({ cls := "com/example/xquery_rewriter/xqueryrewriter/algebra/Tuple", name := "<init>", desc := "([Lcom/example/xquery_rewriter/xqueryrewriter/xdm/Sequence;[IZ)V" } : Jvm.MethodName) prog_139_method_3_code (4 : Nat) (Option.none : Option Jvm.ClassFile.FieldType)).before args0 about1 = true := code_word (m := ⟨2, 2⟩) (meth := k2m2) (c := k2c2) (by decide +kernel) rfl rfl rfl (by decide +kernel)
set_option maxRecDepth 65536 in
theorem w_c4 : (Jvm.Cond.code ({ cls := "java/lang/Object", name := "<init>", desc := "()V" } : Jvm.MethodName) object_method_1_code (1 : Nat) (Option.none : Option Jvm.ClassFile.FieldType)).before args0 about1 = true := code_word (m := ⟨0, 0⟩) (meth := k0m0) (c := k0c0) (by decide +kernel) rfl rfl rfl (by decide +kernel)
set_option maxRecDepth 65536 in
theorem w_c5 : (Jvm.Cond.code ({ cls := "com/example/xquery_rewriter/xqueryrewriter/algebra/Tuple", name := "withPosition", desc := "(II)Lcom/example/xquery_rewriter/xqueryrewriter/algebra/Tuple;" } : Jvm.MethodName) prog_139_method_11_code (3 : Nat) (Option.some (Jvm.ClassFile.FieldType.object "com/example/xquery_rewriter/xqueryrewriter/algebra/Tuple"))).before args0 about1 = true := code_word (m := ⟨2, 4⟩) (meth := k2m4) (c := k2c4) (by decide +kernel) rfl rfl rfl (by decide +kernel)
set_option maxRecDepth 65536 in
theorem w_c6 : (Jvm.Cond.code ({ cls := "com/example/xquery_rewriter/xqueryrewriter/algebra/Tuple", name := "withPair", desc := "([III)[I" } : Jvm.MethodName) prog_139_method_16_code (5 : Nat) (Option.some (Jvm.ClassFile.FieldType.array Jvm.ClassFile.FieldType.int))).before args0 about1 = true := code_word (m := ⟨2, 5⟩) (meth := k2m5) (c := k2c5) (by decide +kernel) rfl rfl rfl (by decide +kernel)
set_option maxRecDepth 65536 in
theorem w_c7 : (Jvm.Cond.code ({ cls := "java/lang/Math", name := "max", desc := "(II)I" } : Jvm.MethodName) jdk_29_method_65_code (2 : Nat) (Option.some Jvm.ClassFile.FieldType.int)).before args0 about1 = true := code_word (m := ⟨5, 1⟩) (meth := k5m1) (c := k5c1) (by decide +kernel) rfl rfl rfl (by decide +kernel)
set_option maxRecDepth 65536 in
theorem w_c8 : (Jvm.Cond.code ({ cls := "com/example/xquery_rewriter/xqueryrewriter/algebra/TuplePositionPinLaw", name := "expected", desc := "(IIIIIIII)I" } : Jvm.MethodName) method_3_code (8 : Nat) (Option.some Jvm.ClassFile.FieldType.int)).before args0 about1 = true := code_word (m := ⟨1, 2⟩) (meth := k1m2) (c := k1c2) (by decide +kernel) rfl rfl rfl (by decide +kernel)
set_option maxRecDepth 65536 in
theorem w_c9 : (Jvm.Cond.code ({ cls := "com/example/xquery_rewriter/xqueryrewriter/algebra/Tuple", name := "position", desc := "(I)I" } : Jvm.MethodName) prog_139_method_5_code (4 : Nat) (Option.some Jvm.ClassFile.FieldType.int)).before args0 about1 = true := code_word (m := ⟨2, 3⟩) (meth := k2m3) (c := k2c3) (by decide +kernel) rfl rfl rfl (by decide +kernel)
def codes1 : List Jvm.Cond := [Jvm.Cond.code x code maxLocals ret, Jvm.Cond.code ({ cls := "com/example/xquery_rewriter/xqueryrewriter/algebra/Tuple", name := "<init>", desc := "(I)V" } : Jvm.MethodName) prog_139_method_1_code (2 : Nat) (Option.none : Option Jvm.ClassFile.FieldType), Jvm.Cond.code ({ cls := "com/example/xquery_rewriter/xqueryrewriter/algebra/Tuple", name := "<init>", desc := "([Lcom/example/xquery_rewriter/xqueryrewriter/xdm/Sequence;[I)V" } : Jvm.MethodName) prog_139_method_2_code (3 : Nat) (Option.none : Option Jvm.ClassFile.FieldType), Jvm.Cond.code ({ cls := "com/example/xquery_rewriter/xqueryrewriter/algebra/Tuple", name := "<init>", desc := "([Lcom/example/xquery_rewriter/xqueryrewriter/xdm/Sequence;[IZ)V" } : Jvm.MethodName) prog_139_method_3_code (4 : Nat) (Option.none : Option Jvm.ClassFile.FieldType), Jvm.Cond.code ({ cls := "java/lang/Object", name := "<init>", desc := "()V" } : Jvm.MethodName) object_method_1_code (1 : Nat) (Option.none : Option Jvm.ClassFile.FieldType), Jvm.Cond.code ({ cls := "com/example/xquery_rewriter/xqueryrewriter/algebra/Tuple", name := "withPosition", desc := "(II)Lcom/example/xquery_rewriter/xqueryrewriter/algebra/Tuple;" } : Jvm.MethodName) prog_139_method_11_code (3 : Nat) (Option.some (Jvm.ClassFile.FieldType.object "com/example/xquery_rewriter/xqueryrewriter/algebra/Tuple")), Jvm.Cond.code ({ cls := "com/example/xquery_rewriter/xqueryrewriter/algebra/Tuple", name := "withPair", desc := "([III)[I" } : Jvm.MethodName) prog_139_method_16_code (5 : Nat) (Option.some (Jvm.ClassFile.FieldType.array Jvm.ClassFile.FieldType.int)), Jvm.Cond.code ({ cls := "java/lang/Math", name := "max", desc := "(II)I" } : Jvm.MethodName) jdk_29_method_65_code (2 : Nat) (Option.some Jvm.ClassFile.FieldType.int), Jvm.Cond.code ({ cls := "com/example/xquery_rewriter/xqueryrewriter/algebra/TuplePositionPinLaw", name := "expected", desc := "(IIIIIIII)I" } : Jvm.MethodName) method_3_code (8 : Nat) (Option.some Jvm.ClassFile.FieldType.int), Jvm.Cond.code ({ cls := "com/example/xquery_rewriter/xqueryrewriter/algebra/Tuple", name := "position", desc := "(I)I" } : Jvm.MethodName) prog_139_method_5_code (4 : Nat) (Option.some Jvm.ClassFile.FieldType.int)]
set_option maxRecDepth 65536 in
theorem codes_eq : words1.filter isCode = codes1 := rfl
theorem w_codes : ∀ c ∈ words1.filter isCode, c.before args0 about1 = true := by
  rw [codes_eq]
  intro c hc
  simp only [codes1, List.mem_cons, List.not_mem_nil, or_false] at hc
  rcases hc with rfl | rfl | rfl | rfl | rfl | rfl | rfl | rfl | rfl | rfl
  · exact w_c0
  · exact w_c1
  · exact w_c2
  · exact w_c3
  · exact w_c4
  · exact w_c5
  · exact w_c6
  · exact w_c7
  · exact w_c8
  · exact w_c9
set_option maxRecDepth 65536 in
theorem w_t1 : (words1.take 24).all (fun c => isCode c || c.before args0 about1) = true := by decide +kernel
set_option maxRecDepth 65536 in
theorem w_t2 : ((words1.drop 24).take 24).all (fun c => isCode c || c.before args0 about1) = true := by decide +kernel
set_option maxRecDepth 65536 in
theorem w_t3 : ((words1.drop 24).drop 24).all (fun c => isCode c || c.before args0 about1) = true := by decide +kernel
theorem w_tables : (allAtoms (Jvm.Cond.code x code maxLocals ret :: tables_1)).before args0 about1 = true := by
  rw [allAtoms_all]
  show words1.all (fun c => c.before args0 about1) = true
  refine all_split ?_ w_codes
  rw [← List.take_append_drop 24 words1, List.all_append, w_t1, ← List.take_append_drop 24 (words1.drop 24), List.all_append, w_t2, w_t3]
  rfl
set_option maxRecDepth 65536 in
theorem w_case : (Jvm.Cond.and given_1 narrow_1).before args0 about1 = true := by decide +kernel
theorem w_applies : (headSpec (Jvm.Cond.code x code maxLocals ret :: tables_1) room_1).applies x e0.platform about1 = true :=
  (Spec.applies_iff w_frames).mpr ⟨w_running, w_runnable, w_alone, w_named, w_hears, w_ripe, w_room, w_tables⟩
theorem atStart : AtStart classFile x code maxLocals ret World_1 tables_1 room_1 Calls_1 rest_1 Pre_1 launch0 p0 e0 about1 theMethod args0 below0 :=
  ⟨lists_1, trivial, launch0.admits_env _ _ _, launch0.least_env, fairChoices_fair.cas, fairChoices_fair.clock, w_frames, w_args, w_heap, w_applies, trivial, trivial, w_case⟩
end start1
theorem witness_1 : WitnessClaimed_1 := ⟨start1.p0, start1.e0, start1.about1, start1.theMethod, start1.args0, start1.below0, start1.atStart⟩
end Jvm.Pilot.@@N@@
