import JvmDerived
import JvmDerived.Pilot.@@N@@Statement
import JvmDerived.Pilot.@@N@@Code
set_option linter.unusedVariables false
set_option linter.unusedSimpArgs false
@@BLOCK:NumsL.lean.txt@@
namespace Jvm.RoadKit
open Sem ClassFile Op Lib Jvm.Stand Jvm.Free Jvm.LawKit
section New
variable {p : Program} {l : Launch} {e : Env} {R : Room} {s : State} {m : MethodId} {args : Array Value} {below : List Frame} {meth : Method} {c : Code} {T : State} {locs : List Loc} {cells slots : Nat}
theorem retI (X : Stand p l e R s m args below meth c T locs cells slots) (hx : p.tables.exec = Jvm.exec) {pc : Nat} {Ls : Array Slot} {z : Int32} {rest : List Value} (hret : meth.sig.returnType = some .int) (hd : decode c.code pc = .ok (.ireturn, 1)) {fs : List Frame}
    (hl : ∀ (f : JFrame) (acts : List Action), f.method = m → f.locked = none → f.entered = [] → (doReturn e (T.setTop f) acts (some (.int z))).1 = T.setFrames fs) : Steps p.tables e below (T.setTop (mkF m pc Ls (.int z :: rest))) (T.setFrames fs) := by
  have hm' : T.vm.method? m = some meth := X.method'
  have hn : narrow .int (.int z) = .int z := rfl
  show Steps p.tables e below (T.setTop { method := m, pc := pc, locals := Ls, stack := _ :: rest, locked := none }) _
  jvm_step X.here [X.here.top, hx, hd, hm', hret, hn]
  first | (intro acts; rw [hl _ acts rfl rfl rfl]) | rw [hl _ _ rfl rfl rfl]
  exact Steps.refl _
end New
end Jvm.RoadKit
namespace Jvm.Pilot.@@N@@
open Jvm Jvm.ClassFile Sem Op Lib Jvm.Free Jvm.Stand Jvm.LawKit Jvm.RoadKit Bundle Jvm.Pilot.@@N@@.Jvm.D
/-! own: an array of ints by its length and what each place holds -/
def own_upd (f : Nat → Int32) (i : Nat) (v : Int32) : Nat → Int32 := fun k => if k = i then v else f k
theorem own_clamp {k : Nat} (h : k < 2 ^ 31) : (Int32.ofNat k).toNatClampNeg = k := by show (Int32.ofNat k).toInt.toNat = _; rw [Int32.toInt_ofNat_small h]; rfl
theorem own_succ (k : Nat) : Int32.ofNat k + 1 = Int32.ofNat (k + 1) := i32_ofNat_add_one k
theorem own_pred (k : Nat) : Int32.ofNat (k + 1) - 1 = Int32.ofNat k := by rw [← own_succ, Int32.add_sub_cancel]
theorem own_inj {k j : Nat} (hk : k < 2 ^ 31) (hj : j < 2 ^ 31) : Int32.ofNat k = Int32.ofNat j ↔ k = j := by
  rw [← Int32.toInt_inj, Int32.toInt_ofNat_small hk, Int32.toInt_ofNat_small hj]; omega
theorem own_lt {k j : Nat} (hk : k < 2 ^ 31) (hj : j < 2 ^ 31) : Int32.ofNat k < Int32.ofNat j ↔ k < j := by
  rw [Int32.lt_iff_toInt_lt, Int32.toInt_ofNat_small hk, Int32.toInt_ofNat_small hj]; omega
theorem own_notneg {k : Nat} (hk : k < 2 ^ 31) : ¬ Int32.ofNat k < 0 := by
  rw [Int32.lt_iff_toInt_lt, Int32.toInt_ofNat_small hk, Int32.toInt_zero]; omega
def own_IA (Z : State) (h : Heap) (a : Addr) (n : Nat) (f : Nat → Int32) : Prop := n < 2 ^ 31 ∧ ∃ c : Cell, Arr Z h a c .int ∧ c.slots.size = n ∧ ∀ j, j < n → c.slots[j]? = some (.int (f j))
section OwnIA
variable {p : Program} {l : Launch} {e : Env} {R : Room} {s : State} {m : MethodId} {args : Array Value} {below : List Frame} {meth : Method} {c : Code} {T : State} {locs : List Loc} {cells slots : Nat} {Z : State} {h h' : Heap} {a b : Addr} {n : Nat} {f : Nat → Int32} {ws : List Addr} {sl : Nat} {v : Value}
theorem own_IA.lt (F : own_IA Z h a n f) : a < h.size := by obtain ⟨-, c, A, -⟩ := F; exact A.lt
theorem own_IA.ext (F : own_IA Z h a n f) (E : Ext h h') : own_IA Z h' a n f := by obtain ⟨q, c, A, r⟩ := F; exact ⟨q, c, A.ext E, r⟩
theorem own_IA.other (F : own_IA Z h a n f) (W : Wr h h' b sl v) (q : a ≠ b) : own_IA Z h' a n f := by obtain ⟨r, c, A, t⟩ := F; exact ⟨r, c, A.other W q, t⟩
theorem own_IA.keep (F : own_IA Z h a n f) (K : Keep h h' ws) (q : a ∉ ws) : own_IA Z h' a n f := by obtain ⟨r, c, A, t⟩ := F; exact ⟨r, c, ⟨K.2.1 a c A.1 q, A.2⟩, t⟩
theorem own_IA.same (F : own_IA Z h a n f) {i : Nat} {x : Int32} (hi : i < n) (W : Wr h h' a i (.int x)) : own_IA Z h' a n (own_upd f i x) := by
  obtain ⟨r, c, A, S, t⟩ := F
  refine ⟨r, _, A.same W, by rw [sz_set]; exact S, fun j hj => ?_⟩
  by_cases u : j = i
  · subst u
    simp [Cell.setSlot, own_upd, S, hj]
  · have := t j hj
    simp only [Cell.setSlot, own_upd, if_neg u]
    rw [Array.getElem?_setIfInBounds_ne (Ne.symm u)]; exact this
theorem own_IA.new {k : ClassId} {z : Int32} (A : Arr Z h a (newA k .int z) .int) (hn : n < 2 ^ 31) (hz : z = Int32.ofNat n) : own_IA Z h a n (fun _ => 0) := by
  have e1 : z.toNatClampNeg = n := by rw [hz]; exact own_clamp hn
  refine ⟨hn, _, A, by rw [sz_new, e1], fun j hj => ?_⟩
  simp [newA, e1, hj, defaultValue]
theorem own_IA.congr {f' : Nat → Int32} (F : own_IA Z h a n f) (q : ∀ j, j < n → f j = f' j) : own_IA Z h a n f' := by
  obtain ⟨r, c, A, S, t⟩ := F
  exact ⟨r, c, A, S, fun j hj => by rw [← q j hj]; exact t j hj⟩
theorem own_in {i : Nat} {c : Cell} (hn : n < 2 ^ 31) (S : c.slots.size = n) (hi : i < n) : ¬ (Int32.ofNat i < 0 ∨ c.slots.size ≤ (Int32.ofNat i).toNatClampNeg) := by
  rw [own_clamp (by omega), S]
  intro q
  rcases q with q | q
  · exact own_notneg (by omega) q
  · omega
theorem own_IA.ld (F : own_IA Z h a n f) (X : Stand p l e R s m args below meth c T locs cells slots) (hx : p.tables.exec = Jvm.exec) (hZ : Z.Warmed39 s.vm) (eT : T.heap = h) {j : Int32} {i : Nat} (hj : j = Int32.ofNat i) (hi : i < n)
    {g : JFrame} (hg : g.method = m) {rest : List Value} (hs : g.stack = .int j :: .ref a :: rest) (hd : decode c.code g.pc = .ok (.iaload, 1)) (target : State)
    (k : Steps p.tables e below (T.setTop { g with pc := g.pc + 1, stack := .int (f i) :: rest }) target) : Steps p.tables e below (T.setTop g) target := by
  obtain ⟨r, cl, A, S, t⟩ := F
  subst hj
  exact X.iaload hx (by rw [eT]; exact A.1) (State.isArrayOf_alike hZ.alike A.2.1) A.2.2 (own_in r S hi) (by rw [own_clamp (by omega)]; exact t i hi) hg hs hd target k
theorem own_IA.st (F : own_IA Z h a n f) (X : Stand p l e R s m args below meth c T locs cells slots) (hx : p.tables.exec = Jvm.exec) (hZ : Z.Warmed39 s.vm) (eT : T.heap = h) {j x : Int32} {i : Nat} (hj : j = Int32.ofNat i) (hi : i < n)
    {g : JFrame} (hg : g.method = m) {rest : List Value} (hs : g.stack = .int x :: .int j :: .ref a :: rest) (hd : decode c.code g.pc = .ok (.iastore, 1)) :
    ∃ T' h', Stand p l e R s m args below meth c T' (locs ++ [⟨a, i⟩]) cells slots ∧ T'.heap = h' ∧ Wr h h' a i (.int x) ∧ ∀ target, Steps p.tables e below (T'.setTop { g with pc := g.pc + 1, stack := rest }) target → Steps p.tables e below (T.setTop g) target := by
  obtain ⟨r, cl, A, S, t⟩ := F
  subst hj
  have q := stI X hx hZ eT A (own_in r S hi) hg hs hd
  rw [own_clamp (show i < 2 ^ 31 by omega)] at q
  exact q
theorem own_IA.len (F : own_IA Z h a n f) (X : Stand p l e R s m args below meth c T locs cells slots) (hx : p.tables.exec = Jvm.exec) (hZ : Z.Warmed39 s.vm) (eT : T.heap = h)
    {g : JFrame} (hg : g.method = m) {rest : List Value} (hs : g.stack = .ref a :: rest) (hd : decode c.code g.pc = .ok (.arraylength, 1)) (target : State)
    (k : Steps p.tables e below (T.setTop { g with pc := g.pc + 1, stack := .int (Int32.ofNat n) :: rest }) target) : Steps p.tables e below (T.setTop g) target := by
  obtain ⟨r, cl, A, S, t⟩ := F
  refine X.arraylength hx (by rw [eT]; exact A.1) (State.isArrayOf_alike hZ.alike A.2.1) hg hs hd target ?_
  rw [S]; exact k
end OwnIA
theorem dI_0 : decode prog_5_method_1_code 0 = .ok (.aload_n 0, 1) := by decide +kernel
theorem dI_1 : decode prog_5_method_1_code 1 = .ok (.invokespecial 1, 3) := by decide +kernel
theorem dI_4 : decode prog_5_method_1_code 4 = .ok (.aload_n 0, 1) := by decide +kernel
theorem dI_5 : decode prog_5_method_1_code 5 = .ok (.bipush 64, 2) := by decide +kernel
theorem dI_7 : decode prog_5_method_1_code 7 = .ok (.newarray .int, 2) := by decide +kernel
theorem dI_9 : decode prog_5_method_1_code 9 = .ok (.putfield 7, 3) := by decide +kernel
theorem dI_12 : decode prog_5_method_1_code 12 = .ok (.aload_n 0, 1) := by decide +kernel
theorem dI_13 : decode prog_5_method_1_code 13 = .ok (.bipush 64, 2) := by decide +kernel
theorem dI_15 : decode prog_5_method_1_code 15 = .ok (.newarray .int, 2) := by decide +kernel
theorem dI_17 : decode prog_5_method_1_code 17 = .ok (.putfield 13, 3) := by decide +kernel
theorem dI_20 : decode prog_5_method_1_code 20 = .ok (.return_, 1) := by decide +kernel
theorem dD_0 : decode prog_5_method_2_code 0 = .ok (.aload_n 0, 1) := by decide +kernel
theorem dD_1 : decode prog_5_method_2_code 1 = .ok (.getfield 16, 3) := by decide +kernel
theorem dD_4 : decode prog_5_method_2_code 4 = .ok (.aload_n 0, 1) := by decide +kernel
theorem dD_5 : decode prog_5_method_2_code 5 = .ok (.getfield 20, 3) := by decide +kernel
theorem dD_8 : decode prog_5_method_2_code 8 = .ok (.if_icmp .ne 79, 3) := by decide +kernel
theorem dD_11 : decode prog_5_method_2_code 11 = .ok (.aload_n 0, 1) := by decide +kernel
theorem dD_12 : decode prog_5_method_2_code 12 = .ok (.getfield 20, 3) := by decide +kernel
theorem dD_15 : decode prog_5_method_2_code 15 = .ok (.aload_n 0, 1) := by decide +kernel
theorem dD_16 : decode prog_5_method_2_code 16 = .ok (.getfield 7, 3) := by decide +kernel
theorem dD_19 : decode prog_5_method_2_code 19 = .ok (.arraylength, 1) := by decide +kernel
theorem dD_20 : decode prog_5_method_2_code 20 = .ok (.if_icmp .ne 37, 3) := by decide +kernel
theorem dD_23 : decode prog_5_method_2_code 23 = .ok (.aload_n 0, 1) := by decide +kernel
theorem dD_24 : decode prog_5_method_2_code 24 = .ok (.aload_n 0, 1) := by decide +kernel
theorem dD_25 : decode prog_5_method_2_code 25 = .ok (.getfield 7, 3) := by decide +kernel
theorem dD_28 : decode prog_5_method_2_code 28 = .ok (.aload_n 0, 1) := by decide +kernel
theorem dD_29 : decode prog_5_method_2_code 29 = .ok (.getfield 20, 3) := by decide +kernel
theorem dD_32 : decode prog_5_method_2_code 32 = .ok (.iconst 2, 1) := by decide +kernel
theorem dD_33 : decode prog_5_method_2_code 33 = .ok (.imul, 1) := by decide +kernel
theorem dD_34 : decode prog_5_method_2_code 34 = .ok (.invokestatic 23, 3) := by decide +kernel
theorem dD_37 : decode prog_5_method_2_code 37 = .ok (.putfield 7, 3) := by decide +kernel
theorem dD_40 : decode prog_5_method_2_code 40 = .ok (.aload_n 0, 1) := by decide +kernel
theorem dD_41 : decode prog_5_method_2_code 41 = .ok (.aload_n 0, 1) := by decide +kernel
theorem dD_42 : decode prog_5_method_2_code 42 = .ok (.getfield 13, 3) := by decide +kernel
theorem dD_45 : decode prog_5_method_2_code 45 = .ok (.aload_n 0, 1) := by decide +kernel
theorem dD_46 : decode prog_5_method_2_code 46 = .ok (.getfield 20, 3) := by decide +kernel
theorem dD_49 : decode prog_5_method_2_code 49 = .ok (.iconst 2, 1) := by decide +kernel
theorem dD_50 : decode prog_5_method_2_code 50 = .ok (.imul, 1) := by decide +kernel
theorem dD_51 : decode prog_5_method_2_code 51 = .ok (.invokestatic 23, 3) := by decide +kernel
theorem dD_54 : decode prog_5_method_2_code 54 = .ok (.putfield 13, 3) := by decide +kernel
theorem dD_57 : decode prog_5_method_2_code 57 = .ok (.aload_n 0, 1) := by decide +kernel
theorem dD_58 : decode prog_5_method_2_code 58 = .ok (.getfield 7, 3) := by decide +kernel
theorem dD_61 : decode prog_5_method_2_code 61 = .ok (.aload_n 0, 1) := by decide +kernel
theorem dD_62 : decode prog_5_method_2_code 62 = .ok (.getfield 20, 3) := by decide +kernel
theorem dD_65 : decode prog_5_method_2_code 65 = .ok (.iconst 0, 1) := by decide +kernel
theorem dD_66 : decode prog_5_method_2_code 66 = .ok (.iastore, 1) := by decide +kernel
theorem dD_67 : decode prog_5_method_2_code 67 = .ok (.aload_n 0, 1) := by decide +kernel
theorem dD_68 : decode prog_5_method_2_code 68 = .ok (.getfield 13, 3) := by decide +kernel
theorem dD_71 : decode prog_5_method_2_code 71 = .ok (.aload_n 0, 1) := by decide +kernel
theorem dD_72 : decode prog_5_method_2_code 72 = .ok (.getfield 20, 3) := by decide +kernel
theorem dD_75 : decode prog_5_method_2_code 75 = .ok (.iload_n 1, 1) := by decide +kernel
theorem dD_76 : decode prog_5_method_2_code 76 = .ok (.iastore, 1) := by decide +kernel
theorem dD_77 : decode prog_5_method_2_code 77 = .ok (.aload_n 0, 1) := by decide +kernel
theorem dD_78 : decode prog_5_method_2_code 78 = .ok (.dup, 1) := by decide +kernel
theorem dD_79 : decode prog_5_method_2_code 79 = .ok (.getfield 20, 3) := by decide +kernel
theorem dD_82 : decode prog_5_method_2_code 82 = .ok (.iconst 1, 1) := by decide +kernel
theorem dD_83 : decode prog_5_method_2_code 83 = .ok (.iadd, 1) := by decide +kernel
theorem dD_84 : decode prog_5_method_2_code 84 = .ok (.putfield 20, 3) := by decide +kernel
theorem dD_87 : decode prog_5_method_2_code 87 = .ok (.aload_n 0, 1) := by decide +kernel
theorem dD_88 : decode prog_5_method_2_code 88 = .ok (.dup, 1) := by decide +kernel
theorem dD_89 : decode prog_5_method_2_code 89 = .ok (.getfield 16, 3) := by decide +kernel
theorem dD_92 : decode prog_5_method_2_code 92 = .ok (.iconst 1, 1) := by decide +kernel
theorem dD_93 : decode prog_5_method_2_code 93 = .ok (.iadd, 1) := by decide +kernel
theorem dD_94 : decode prog_5_method_2_code 94 = .ok (.putfield 16, 3) := by decide +kernel
theorem dD_97 : decode prog_5_method_2_code 97 = .ok (.aload_n 0, 1) := by decide +kernel
theorem dD_98 : decode prog_5_method_2_code 98 = .ok (.getfield 7, 3) := by decide +kernel
theorem dD_101 : decode prog_5_method_2_code 101 = .ok (.aload_n 0, 1) := by decide +kernel
theorem dD_102 : decode prog_5_method_2_code 102 = .ok (.getfield 16, 3) := by decide +kernel
theorem dD_105 : decode prog_5_method_2_code 105 = .ok (.iconst 1, 1) := by decide +kernel
theorem dD_106 : decode prog_5_method_2_code 106 = .ok (.isub, 1) := by decide +kernel
theorem dD_107 : decode prog_5_method_2_code 107 = .ok (.iaload, 1) := by decide +kernel
theorem dD_108 : decode prog_5_method_2_code 108 = .ok (.ireturn, 1) := by decide +kernel
theorem dA_0 : decode prog_5_method_4_code 0 = .ok (.aload_n 0, 1) := by decide +kernel
theorem dA_1 : decode prog_5_method_4_code 1 = .ok (.getfield 20, 3) := by decide +kernel
theorem dA_4 : decode prog_5_method_4_code 4 = .ok (.ifCond .le 43, 3) := by decide +kernel
theorem dA_7 : decode prog_5_method_4_code 7 = .ok (.aload_n 0, 1) := by decide +kernel
theorem dA_8 : decode prog_5_method_4_code 8 = .ok (.getfield 7, 3) := by decide +kernel
theorem dA_11 : decode prog_5_method_4_code 11 = .ok (.aload_n 0, 1) := by decide +kernel
theorem dA_12 : decode prog_5_method_4_code 12 = .ok (.getfield 20, 3) := by decide +kernel
theorem dA_15 : decode prog_5_method_4_code 15 = .ok (.iconst 1, 1) := by decide +kernel
theorem dA_16 : decode prog_5_method_4_code 16 = .ok (.isub, 1) := by decide +kernel
theorem dA_17 : decode prog_5_method_4_code 17 = .ok (.iaload, 1) := by decide +kernel
theorem dA_18 : decode prog_5_method_4_code 18 = .ok (.aload_n 0, 1) := by decide +kernel
theorem dA_19 : decode prog_5_method_4_code 19 = .ok (.getfield 13, 3) := by decide +kernel
theorem dA_22 : decode prog_5_method_4_code 22 = .ok (.aload_n 0, 1) := by decide +kernel
theorem dA_23 : decode prog_5_method_4_code 23 = .ok (.getfield 20, 3) := by decide +kernel
theorem dA_26 : decode prog_5_method_4_code 26 = .ok (.iconst 1, 1) := by decide +kernel
theorem dA_27 : decode prog_5_method_4_code 27 = .ok (.isub, 1) := by decide +kernel
theorem dA_28 : decode prog_5_method_4_code 28 = .ok (.iaload, 1) := by decide +kernel
theorem dA_29 : decode prog_5_method_4_code 29 = .ok (.iconst 1, 1) := by decide +kernel
theorem dA_30 : decode prog_5_method_4_code 30 = .ok (.isub, 1) := by decide +kernel
theorem dA_31 : decode prog_5_method_4_code 31 = .ok (.if_icmp .ne 16, 3) := by decide +kernel
theorem dA_34 : decode prog_5_method_4_code 34 = .ok (.aload_n 0, 1) := by decide +kernel
theorem dA_35 : decode prog_5_method_4_code 35 = .ok (.dup, 1) := by decide +kernel
theorem dA_36 : decode prog_5_method_4_code 36 = .ok (.getfield 20, 3) := by decide +kernel
theorem dA_39 : decode prog_5_method_4_code 39 = .ok (.iconst 1, 1) := by decide +kernel
theorem dA_40 : decode prog_5_method_4_code 40 = .ok (.isub, 1) := by decide +kernel
theorem dA_41 : decode prog_5_method_4_code 41 = .ok (.putfield 20, 3) := by decide +kernel
theorem dA_44 : decode prog_5_method_4_code 44 = .ok (.goto (-44), 3) := by decide +kernel
theorem dA_47 : decode prog_5_method_4_code 47 = .ok (.aload_n 0, 1) := by decide +kernel
theorem dA_48 : decode prog_5_method_4_code 48 = .ok (.getfield 20, 3) := by decide +kernel
theorem dA_51 : decode prog_5_method_4_code 51 = .ok (.ifCond .le 18, 3) := by decide +kernel
theorem dA_54 : decode prog_5_method_4_code 54 = .ok (.aload_n 0, 1) := by decide +kernel
theorem dA_55 : decode prog_5_method_4_code 55 = .ok (.getfield 7, 3) := by decide +kernel
theorem dA_58 : decode prog_5_method_4_code 58 = .ok (.aload_n 0, 1) := by decide +kernel
theorem dA_59 : decode prog_5_method_4_code 59 = .ok (.getfield 20, 3) := by decide +kernel
theorem dA_62 : decode prog_5_method_4_code 62 = .ok (.iconst 1, 1) := by decide +kernel
theorem dA_63 : decode prog_5_method_4_code 63 = .ok (.isub, 1) := by decide +kernel
theorem dA_64 : decode prog_5_method_4_code 64 = .ok (.dup2, 1) := by decide +kernel
theorem dA_65 : decode prog_5_method_4_code 65 = .ok (.iaload, 1) := by decide +kernel
theorem dA_66 : decode prog_5_method_4_code 66 = .ok (.iconst 1, 1) := by decide +kernel
theorem dA_67 : decode prog_5_method_4_code 67 = .ok (.iadd, 1) := by decide +kernel
theorem dA_68 : decode prog_5_method_4_code 68 = .ok (.iastore, 1) := by decide +kernel
theorem dA_69 : decode prog_5_method_4_code 69 = .ok (.aload_n 0, 1) := by decide +kernel
theorem dA_70 : decode prog_5_method_4_code 70 = .ok (.iconst 0, 1) := by decide +kernel
theorem dA_71 : decode prog_5_method_4_code 71 = .ok (.putfield 16, 3) := by decide +kernel
theorem dA_74 : decode prog_5_method_4_code 74 = .ok (.aload_n 0, 1) := by decide +kernel
theorem dA_75 : decode prog_5_method_4_code 75 = .ok (.getfield 20, 3) := by decide +kernel
theorem dA_78 : decode prog_5_method_4_code 78 = .ok (.ifCond .le 7, 3) := by decide +kernel
theorem dA_81 : decode prog_5_method_4_code 81 = .ok (.iconst 1, 1) := by decide +kernel
theorem dA_82 : decode prog_5_method_4_code 82 = .ok (.goto 4, 3) := by decide +kernel
theorem dA_85 : decode prog_5_method_4_code 85 = .ok (.iconst 0, 1) := by decide +kernel
theorem dA_86 : decode prog_5_method_4_code 86 = .ok (.ireturn, 1) := by decide +kernel
theorem dR_0 : decode method_3_code 0 = .ok (.iload_n 2, 1) := by decide +kernel
theorem dR_1 : decode method_3_code 1 = .ok (.iconst 1, 1) := by decide +kernel
theorem dR_2 : decode method_3_code 2 = .ok (.if_icmp .lt 11, 3) := by decide +kernel
theorem dR_5 : decode method_3_code 5 = .ok (.aload_n 1, 1) := by decide +kernel
theorem dR_6 : decode method_3_code 6 = .ok (.iconst 0, 1) := by decide +kernel
theorem dR_7 : decode method_3_code 7 = .ok (.aload_n 0, 1) := by decide +kernel
theorem dR_8 : decode method_3_code 8 = .ok (.iload_n 3, 1) := by decide +kernel
theorem dR_9 : decode method_3_code 9 = .ok (.invokevirtual 24, 3) := by decide +kernel
theorem dR_12 : decode method_3_code 12 = .ok (.iastore, 1) := by decide +kernel
theorem dR_13 : decode method_3_code 13 = .ok (.iload_n 2, 1) := by decide +kernel
theorem dR_14 : decode method_3_code 14 = .ok (.iconst 2, 1) := by decide +kernel
theorem dR_15 : decode method_3_code 15 = .ok (.if_icmp .lt 12, 3) := by decide +kernel
theorem dR_18 : decode method_3_code 18 = .ok (.aload_n 1, 1) := by decide +kernel
theorem dR_19 : decode method_3_code 19 = .ok (.iconst 1, 1) := by decide +kernel
theorem dR_20 : decode method_3_code 20 = .ok (.aload_n 0, 1) := by decide +kernel
theorem dR_21 : decode method_3_code 21 = .ok (.iload 4, 2) := by decide +kernel
theorem dR_23 : decode method_3_code 23 = .ok (.invokevirtual 24, 3) := by decide +kernel
theorem dR_26 : decode method_3_code 26 = .ok (.iastore, 1) := by decide +kernel
theorem dR_27 : decode method_3_code 27 = .ok (.iload_n 2, 1) := by decide +kernel
theorem dR_28 : decode method_3_code 28 = .ok (.iconst 3, 1) := by decide +kernel
theorem dR_29 : decode method_3_code 29 = .ok (.if_icmp .lt 12, 3) := by decide +kernel
theorem dR_32 : decode method_3_code 32 = .ok (.aload_n 1, 1) := by decide +kernel
theorem dR_33 : decode method_3_code 33 = .ok (.iconst 2, 1) := by decide +kernel
theorem dR_34 : decode method_3_code 34 = .ok (.aload_n 0, 1) := by decide +kernel
theorem dR_35 : decode method_3_code 35 = .ok (.iload 5, 2) := by decide +kernel
theorem dR_37 : decode method_3_code 37 = .ok (.invokevirtual 24, 3) := by decide +kernel
theorem dR_40 : decode method_3_code 40 = .ok (.iastore, 1) := by decide +kernel
theorem dR_41 : decode method_3_code 41 = .ok (.return_, 1) := by decide +kernel
theorem dM_0 : decode method_4_code 0 = .ok (.iload_n 1, 1) := by decide +kernel
theorem dM_1 : decode method_4_code 1 = .ok (.iload 6, 2) := by decide +kernel
theorem dM_3 : decode method_4_code 3 = .ok (.irem, 1) := by decide +kernel
theorem dM_4 : decode method_4_code 4 = .ok (.istore 7, 2) := by decide +kernel
theorem dM_6 : decode method_4_code 6 = .ok (.iload 7, 2) := by decide +kernel
theorem dM_8 : decode method_4_code 8 = .ok (.iload 5, 2) := by decide +kernel
theorem dM_10 : decode method_4_code 10 = .ok (.irem, 1) := by decide +kernel
theorem dM_11 : decode method_4_code 11 = .ok (.istore 8, 2) := by decide +kernel
theorem dM_13 : decode method_4_code 13 = .ok (.iload 7, 2) := by decide +kernel
theorem dM_15 : decode method_4_code 15 = .ok (.iload 5, 2) := by decide +kernel
theorem dM_17 : decode method_4_code 17 = .ok (.idiv, 1) := by decide +kernel
theorem dM_18 : decode method_4_code 18 = .ok (.iload 4, 2) := by decide +kernel
theorem dM_20 : decode method_4_code 20 = .ok (.irem, 1) := by decide +kernel
theorem dM_21 : decode method_4_code 21 = .ok (.istore 9, 2) := by decide +kernel
theorem dM_23 : decode method_4_code 23 = .ok (.iload 7, 2) := by decide +kernel
theorem dM_25 : decode method_4_code 25 = .ok (.iload 5, 2) := by decide +kernel
theorem dM_27 : decode method_4_code 27 = .ok (.idiv, 1) := by decide +kernel
theorem dM_28 : decode method_4_code 28 = .ok (.iload 4, 2) := by decide +kernel
theorem dM_30 : decode method_4_code 30 = .ok (.idiv, 1) := by decide +kernel
theorem dM_31 : decode method_4_code 31 = .ok (.iload_n 3, 1) := by decide +kernel
theorem dM_32 : decode method_4_code 32 = .ok (.irem, 1) := by decide +kernel
theorem dM_33 : decode method_4_code 33 = .ok (.istore 10, 2) := by decide +kernel
theorem dM_35 : decode method_4_code 35 = .ok (.iload_n 2, 1) := by decide +kernel
theorem dM_36 : decode method_4_code 36 = .ok (.iconst 1, 1) := by decide +kernel
theorem dM_37 : decode method_4_code 37 = .ok (.if_icmp .lt 11, 3) := by decide +kernel
theorem dM_40 : decode method_4_code 40 = .ok (.aload_n 0, 1) := by decide +kernel
theorem dM_41 : decode method_4_code 41 = .ok (.iconst 0, 1) := by decide +kernel
theorem dM_42 : decode method_4_code 42 = .ok (.iaload, 1) := by decide +kernel
theorem dM_43 : decode method_4_code 43 = .ok (.iload 10, 2) := by decide +kernel
theorem dM_45 : decode method_4_code 45 = .ok (.if_icmp .ne 33, 3) := by decide +kernel
theorem dM_48 : decode method_4_code 48 = .ok (.iload_n 2, 1) := by decide +kernel
theorem dM_49 : decode method_4_code 49 = .ok (.iconst 2, 1) := by decide +kernel
theorem dM_50 : decode method_4_code 50 = .ok (.if_icmp .lt 11, 3) := by decide +kernel
theorem dM_53 : decode method_4_code 53 = .ok (.aload_n 0, 1) := by decide +kernel
theorem dM_54 : decode method_4_code 54 = .ok (.iconst 1, 1) := by decide +kernel
theorem dM_55 : decode method_4_code 55 = .ok (.iaload, 1) := by decide +kernel
theorem dM_56 : decode method_4_code 56 = .ok (.iload 9, 2) := by decide +kernel
theorem dM_58 : decode method_4_code 58 = .ok (.if_icmp .ne 20, 3) := by decide +kernel
theorem dM_61 : decode method_4_code 61 = .ok (.iload_n 2, 1) := by decide +kernel
theorem dM_62 : decode method_4_code 62 = .ok (.iconst 3, 1) := by decide +kernel
theorem dM_63 : decode method_4_code 63 = .ok (.if_icmp .lt 11, 3) := by decide +kernel
theorem dM_66 : decode method_4_code 66 = .ok (.aload_n 0, 1) := by decide +kernel
theorem dM_67 : decode method_4_code 67 = .ok (.iconst 2, 1) := by decide +kernel
theorem dM_68 : decode method_4_code 68 = .ok (.iaload, 1) := by decide +kernel
theorem dM_69 : decode method_4_code 69 = .ok (.iload 8, 2) := by decide +kernel
theorem dM_71 : decode method_4_code 71 = .ok (.if_icmp .ne 7, 3) := by decide +kernel
theorem dM_74 : decode method_4_code 74 = .ok (.iconst 1, 1) := by decide +kernel
theorem dM_75 : decode method_4_code 75 = .ok (.goto 4, 3) := by decide +kernel
theorem dM_78 : decode method_4_code 78 = .ok (.iconst 0, 1) := by decide +kernel
theorem dM_79 : decode method_4_code 79 = .ok (.ireturn, 1) := by decide +kernel
theorem pnC : plainName "com/example/nereus/nereus/checker/DecisionPath" = true := by first | (simp [plainName, overriddenIn]; done) | decide +kernel
theorem pnL : plainName "com/example/nereus/nereus/checker/DecisionPathAdvancePinLaw" = true := by first | (simp [plainName, overriddenIn]; done) | decide +kernel
theorem pdI : parseMethodDescriptor "()V" = some ⟨[], none⟩ := by decide +kernel
theorem pdD : parseMethodDescriptor "(I)I" = some ⟨[.int], some .int⟩ := by decide +kernel
theorem pdA : parseMethodDescriptor "()Z" = some ⟨[], some .boolean⟩ := by decide +kernel
theorem pdR : parseMethodDescriptor "(Lcom/example/nereus/nereus/checker/DecisionPath;[IIIII)V" = some ⟨[.object "com/example/nereus/nereus/checker/DecisionPath", .array .int, .int, .int, .int, .int], none⟩ := by decide +kernel
theorem pdM : parseMethodDescriptor "([IIIIIII)Z" = some ⟨[.array .int, .int, .int, .int, .int, .int, .int], some .boolean⟩ := by decide +kernel
theorem efI (m : MethodId) (x0 : Addr) : entryFrame m #[(.ref x0)] 1 = mkF m 0 #[.val (.ref x0)] [] := by first | (simp [entryFrame, mkF, argsToLocals, Value.category]; done) | rfl
theorem efD (m : MethodId) (x0 : Addr) (x1 : Int32) : entryFrame m #[(.ref x0), (.int x1)] 2 = mkF m 0 #[.val (.ref x0), .val (.int x1)] [] := by first | (simp [entryFrame, mkF, argsToLocals, Value.category]; done) | rfl
theorem efR (m : MethodId) (x0 : Addr) (x1 : Addr) (x2 : Int32) (x3 : Int32) (x4 : Int32) (x5 : Int32) : entryFrame m #[(.ref x0), (.ref x1), (.int x2), (.int x3), (.int x4), (.int x5)] 6 = mkF m 0 #[.val (.ref x0), .val (.ref x1), .val (.int x2), .val (.int x3), .val (.int x4), .val (.int x5)] [] := by first | (simp [entryFrame, mkF, argsToLocals, Value.category]; done) | rfl
theorem efM (m : MethodId) (x0 : Addr) (x1 : Int32) (x2 : Int32) (x3 : Int32) (x4 : Int32) (x5 : Int32) (x6 : Int32) : entryFrame m #[(.ref x0), (.int x1), (.int x2), (.int x3), (.int x4), (.int x5), (.int x6)] 11 = mkF m 0 #[.val (.ref x0), .val (.int x1), .val (.int x2), .val (.int x3), .val (.int x4), .val (.int x5), .val (.int x6), .unset, .unset, .unset, .unset] [] := by first | (simp [entryFrame, mkF, argsToLocals, Value.category]; done) | rfl
theorem ef0 (m : MethodId) (x0 : Int32) (x1 : Int32) (x2 : Int32) (x3 : Int32) : entryFrame m #[(.int x0), (.int x1), (.int x2), (.int x3)] maxLocals = mkF m 0 #[.val (.int x0), .val (.int x1), .val (.int x2), .val (.int x3), .unset, .unset, .unset, .unset, .unset, .unset, .unset, .unset, .unset, .unset, .unset, .unset, .unset, .unset] [] := by first | (simp [entryFrame, mkF, argsToLocals, Value.category, maxLocals]; done) | rfl
/-! the path's object -/
def own_DP (Z : State) (h : Heap) (d ta al : Addr) (ln md : Nat) (f g : Nat → Int32) : Prop :=
  Exa Z h d "com/example/nereus/nereus/checker/DecisionPath" ∧ Fld Z h d "com/example/nereus/nereus/checker/DecisionPath" "taken" "[I" (.ref ta) ∧ Fld Z h d "com/example/nereus/nereus/checker/DecisionPath" "alternatives" "[I" (.ref al) ∧ Fld Z h d "com/example/nereus/nereus/checker/DecisionPath" "length" "I" (.int (Int32.ofNat ln)) ∧ Fld Z h d "com/example/nereus/nereus/checker/DecisionPath" "made" "I" (.int (Int32.ofNat md)) ∧ own_IA Z h ta 64 f ∧ own_IA Z h al 64 g ∧ ta ≠ al ∧ d ≠ ta ∧ d ≠ al
section OwnDP
variable {Z : State} {h h' : Heap} {d ta al o : Addr} {ln md : Nat} {f g : Nat → Int32} {a0 : Array Value} {sl : Nat} {v : Value} {ws : List Addr}
theorem own_DP.ex (P : own_DP Z h d ta al ln md f g) : Exa Z h d "com/example/nereus/nereus/checker/DecisionPath" := P.1
theorem own_DP.fT (P : own_DP Z h d ta al ln md f g) : Fld Z h d "com/example/nereus/nereus/checker/DecisionPath" "taken" "[I" (.ref ta) := P.2.1
theorem own_DP.fA (P : own_DP Z h d ta al ln md f g) : Fld Z h d "com/example/nereus/nereus/checker/DecisionPath" "alternatives" "[I" (.ref al) := P.2.2.1
theorem own_DP.fL (P : own_DP Z h d ta al ln md f g) : Fld Z h d "com/example/nereus/nereus/checker/DecisionPath" "length" "I" (.int (Int32.ofNat ln)) := P.2.2.2.1
theorem own_DP.fM (P : own_DP Z h d ta al ln md f g) : Fld Z h d "com/example/nereus/nereus/checker/DecisionPath" "made" "I" (.int (Int32.ofNat md)) := P.2.2.2.2.1
theorem own_DP.iT (P : own_DP Z h d ta al ln md f g) : own_IA Z h ta 64 f := P.2.2.2.2.2.1
theorem own_DP.iA (P : own_DP Z h d ta al ln md f g) : own_IA Z h al 64 g := P.2.2.2.2.2.2.1
theorem own_DP.nTA (P : own_DP Z h d ta al ln md f g) : ta ≠ al := P.2.2.2.2.2.2.2.1
theorem own_DP.nDT (P : own_DP Z h d ta al ln md f g) : d ≠ ta := P.2.2.2.2.2.2.2.2.1
theorem own_DP.nDA (P : own_DP Z h d ta al ln md f g) : d ≠ al := P.2.2.2.2.2.2.2.2.2
theorem own_DP.putL (P : own_DP Z h d ta al ln md f g) (hw : ∀ d ∈ tables_1, d.before a0 Z = true) {k : Nat} (W : Wr h h' d (Jvm.RoadKit.slotOf Z "com/example/nereus/nereus/checker/DecisionPath" "length" "I") (.int (Int32.ofNat k))) : own_DP Z h' d ta al k md f g :=
  ⟨P.ex.wr W, P.fT.other W (Or.inr (slot_ne (Or.inl (hw _ (List.mem_of_getElem? (i := 11) rfl))) (Or.inl (hw _ (List.mem_of_getElem? (i := 24) rfl))) (by decide) (t := (.array .int)) (t' := .int) (by decide) (by decide))), P.fA.other W (Or.inr (slot_ne (Or.inl (hw _ (List.mem_of_getElem? (i := 13) rfl))) (Or.inl (hw _ (List.mem_of_getElem? (i := 24) rfl))) (by decide) (t := (.array .int)) (t' := .int) (by decide) (by decide))), P.fL.same W, P.fM.other W (Or.inr (slot_ne (Or.inl (hw _ (List.mem_of_getElem? (i := 26) rfl))) (Or.inl (hw _ (List.mem_of_getElem? (i := 24) rfl))) (by decide) (t := .int) (t' := .int) (by decide) (by decide))), P.iT.other W (Ne.symm P.nDT), P.iA.other W (Ne.symm P.nDA), P.nTA, P.nDT, P.nDA⟩
theorem own_DP.putM (P : own_DP Z h d ta al ln md f g) (hw : ∀ d ∈ tables_1, d.before a0 Z = true) {k : Nat} (W : Wr h h' d (Jvm.RoadKit.slotOf Z "com/example/nereus/nereus/checker/DecisionPath" "made" "I") (.int (Int32.ofNat k))) : own_DP Z h' d ta al ln k f g :=
  ⟨P.ex.wr W, P.fT.other W (Or.inr (slot_ne (Or.inl (hw _ (List.mem_of_getElem? (i := 11) rfl))) (Or.inl (hw _ (List.mem_of_getElem? (i := 26) rfl))) (by decide) (t := (.array .int)) (t' := .int) (by decide) (by decide))), P.fA.other W (Or.inr (slot_ne (Or.inl (hw _ (List.mem_of_getElem? (i := 13) rfl))) (Or.inl (hw _ (List.mem_of_getElem? (i := 26) rfl))) (by decide) (t := (.array .int)) (t' := .int) (by decide) (by decide))), P.fL.other W (Or.inr (slot_ne (Or.inl (hw _ (List.mem_of_getElem? (i := 24) rfl))) (Or.inl (hw _ (List.mem_of_getElem? (i := 26) rfl))) (by decide) (t := .int) (t' := .int) (by decide) (by decide))), P.fM.same W, P.iT.other W (Ne.symm P.nDT), P.iA.other W (Ne.symm P.nDA), P.nTA, P.nDT, P.nDA⟩
theorem own_DP.setT (P : own_DP Z h d ta al ln md f g) {i : Nat} {x : Int32} (hi : i < 64) (W : Wr h h' ta i (.int x)) : own_DP Z h' d ta al ln md (own_upd f i x) g :=
  ⟨P.ex.wr W, P.fT.other W (Or.inl P.nDT), P.fA.other W (Or.inl P.nDT), P.fL.other W (Or.inl P.nDT), P.fM.other W (Or.inl P.nDT), P.iT.same hi W, P.iA.other W (Ne.symm P.nTA), P.nTA, P.nDT, P.nDA⟩
theorem own_DP.setA (P : own_DP Z h d ta al ln md f g) {i : Nat} {x : Int32} (hi : i < 64) (W : Wr h h' al i (.int x)) : own_DP Z h' d ta al ln md f (own_upd g i x) :=
  ⟨P.ex.wr W, P.fT.other W (Or.inl P.nDA), P.fA.other W (Or.inl P.nDA), P.fL.other W (Or.inl P.nDA), P.fM.other W (Or.inl P.nDA), P.iT.other W P.nTA, P.iA.same hi W, P.nTA, P.nDT, P.nDA⟩
theorem own_DP.wrO (P : own_DP Z h d ta al ln md f g) (W : Wr h h' o sl v) (n1 : d ≠ o) (n2 : ta ≠ o) (n3 : al ≠ o) : own_DP Z h' d ta al ln md f g :=
  ⟨P.ex.wr W, P.fT.other W (Or.inl n1), P.fA.other W (Or.inl n1), P.fL.other W (Or.inl n1), P.fM.other W (Or.inl n1), P.iT.other W n2, P.iA.other W n3, P.nTA, P.nDT, P.nDA⟩
end OwnDP
/-! what the bodies compute -/
def dcL (ln md : Nat) : Nat := if md = ln then ln + 1 else ln
def dcF (ln md : Nat) (f : Nat → Int32) : Nat → Int32 := if md = ln then own_upd f ln 0 else f
def dcG (ln md : Nat) (g : Nat → Int32) (x : Int32) : Nat → Int32 := if md = ln then own_upd g ln x else g
def avL (f g : Nat → Int32) : Nat → Nat
  | 0 => 0
  | n + 1 => if f n = g n - 1 then avL f g n else n + 1
def avF (f g : Nat → Int32) (n : Nat) : Nat → Int32 := if avL f g n = 0 then f else own_upd f (avL f g n - 1) (f (avL f g n - 1) + 1)
theorem avL_le (f g : Nat → Int32) : ∀ n, avL f g n ≤ n
  | 0 => Nat.le_refl _
  | n + 1 => by
    unfold avL
    split
    · exact Nat.le_succ_of_le (avL_le f g n)
    · exact Nat.le_refl _
def dc5 (i : Nat) (x : Int32) (q : Nat × Nat × (Nat → Int32) × (Nat → Int32) × (Nat → Int32)) : Nat × Nat × (Nat → Int32) × (Nat → Int32) × (Nat → Int32) :=
  (dcL q.1 q.2.1, q.2.1 + 1, dcF q.1 q.2.1 q.2.2.1, dcG q.1 q.2.1 q.2.2.2.1 x, own_upd q.2.2.2.2 i (dcF q.1 q.2.1 q.2.2.1 q.2.1))
def rn5 (n : Int32) (i : Nat) (x k : Int32) (q : Nat × Nat × (Nat → Int32) × (Nat → Int32) × (Nat → Int32)) : Nat × Nat × (Nat → Int32) × (Nat → Int32) × (Nat → Int32) := if n < k then q else dc5 i x q
def ok5 (b : Nat) (q : Nat × Nat × (Nat → Int32) × (Nat → Int32) × (Nat → Int32)) : Prop := q.2.1 ≤ q.1 ∧ q.1 ≤ b
theorem rn5_ok {n : Int32} {i : Nat} {x k : Int32} {b : Nat} {q : Nat × Nat × (Nat → Int32) × (Nat → Int32) × (Nat → Int32)} (h : ok5 b q) : ok5 (b + 1) (rn5 n i x k q) := by
  obtain ⟨h1, h2⟩ := h
  unfold rn5
  split
  · exact ⟨h1, by omega⟩
  · show q.2.1 + 1 ≤ dcL q.1 q.2.1 ∧ dcL q.1 q.2.1 ≤ b + 1
    unfold dcL
    split <;> constructor <;> omega
def own_D5 (Z : State) (h : Heap) (d ta al ou : Addr) (q : Nat × Nat × (Nat → Int32) × (Nat → Int32) × (Nat → Int32)) : Prop := own_DP Z h d ta al q.1 q.2.1 q.2.2.1 q.2.2.2.1 ∧ own_IA Z h ou 3 q.2.2.2.2
theorem own_mem4 {x d ta al ou : Addr} (h : x ∈ [d, ta, al]) : x ∈ [d, ta, al, ou] := by
  simp only [List.mem_cons, List.not_mem_nil, or_false] at h ⊢
  rcases h with h | h | h
  · exact Or.inl h
  · exact Or.inr (Or.inl h)
  · exact Or.inr (Or.inr (Or.inl h))
def QD (Z : State) (d ta al : Addr) (x : Int32) (ln md : Nat) (f g : Nat → Int32) (h0 : Heap) (n0 : Nat) (v : Option Value) (h : Heap) (L : List Loc) : Prop := v = some (.int (dcF ln md f md)) ∧ Fr n0 L ∧ Keep h0 h [d, ta, al] ∧ own_DP Z h d ta al (dcL ln md) (md + 1) (dcF ln md f) (dcG ln md g x)
set_option maxRecDepth 65536 in
set_option maxHeartbeats 40000000 in
theorem rmD (l : Launch) (Z : State) (a0 : Array Value) (hw : ∀ d ∈ tables_1, d.before a0 Z = true) (ws : List Jvm.Cond) (d ta al : Addr) (x : Int32) (ln md : Nat) (f g : Nat → Int32) (h0 : Heap) (n0 : Nat) (P : own_DP Z h0 d ta al ln md f g) (hm : md ≤ ln) (hl : ln < 64) (g_d : n0 ≤ d) (g_ta : n0 ≤ ta) (g_al : n0 ≤ al) :
    MetFree l (⟨"com/example/nereus/nereus/checker/DecisionPath", "decide", "(I)I"⟩ : MethodName) (head1 (Jvm.Cond.code (⟨"com/example/nereus/nereus/checker/DecisionPath", "decide", "(I)I"⟩ : MethodName) prog_5_method_2_code 2 (some .int) :: ws) ({ frames := 0, cells := 0, slots := 0, locals := 0 } : Room)) (fun a_ U => a_ = #[(.ref d), (.int x)] ∧ Z.Warmed39 U.vm ∧ U.heap = h0) (fun _ _ _ _ _ => True) (fun _ U o U' => ∃ v L, o = .returned v ∧ QD Z d ta al x ln md f g h0 n0 v U'.heap L ∧ FrameEnd U o U' L ({ frames := 0, cells := 0, slots := 0, locals := 0 } : Room).cells ({ frames := 0, cells := 0, slots := 0, locals := 0 } : Room).slots) := by
  refine MetFree.of_bodySF (plainFor_of_name pnC) hisR ?_
  intro p e s m args below meth c s₁ Bd hml0 hP hK
  obtain ⟨rfl, hZ, hh⟩ := hP
  have hx := Bd.exec
  have hby := Bd.bytes
  have hml : c.maxLocals = 2 := hml0
  have hown : s.vm.findClass "com/example/nereus/nereus/checker/DecisionPath" = some m.cls := findClass_of_methodNamed Bd.named
  have hnm := (name_of_methodNamed Bd.named Bd.method).1
  have X0 : Stand p l e ({ frames := 0, cells := 0, slots := 0, locals := 0 } : Room) s m #[(.ref d), (.int x)] below meth c s₁ [] 0 0 := Stand.of_body Bd
  have e0 : s₁.heap = h0 := by rw [← hh, Bd.state]; rfl
  have N0 := Fr.nil n0
  have pre0 : ∀ t_, Steps p.tables e below (s₁.setTop (mkF m 0 #[.val (.ref d), .val (.int x)] [])) t_ → Steps p.tables e below (s₁.setTop (entryFrame m #[(.ref d), (.int x)] 2)) t_ := fun t_ k_ => castTop (efD m d x) k_
  have K0 := Keep.refl h0 [d, ta, al]
  by_cases hq : md = ln
  · obtain ⟨T2, X2, e2, st2⟩ := getF X0 hx hZ hown (host := "") (Or.inl (hw _ (List.mem_of_getElem? (i := 25) rfl))) Via.refl e0 P.fM (g := (mkF m 1 #[.val (.ref d), .val (.int x)] [(.ref d)])) rfl rfl (hb hby dD_1)
    obtain ⟨T3, X3, e3, st3⟩ := getF X2 hx hZ hown (host := "") (Or.inl (hw _ (List.mem_of_getElem? (i := 23) rfl))) Via.refl e2 P.fL (g := (mkF m 5 #[.val (.ref d), .val (.int x)] [(.ref d), (.int (Int32.ofNat md))])) rfl rfl (hb hby dD_5)
    have cc8 : Int32.ofNat md = Int32.ofNat ln := by rw [hq]
    have cc20 : ¬ (Int32.ofNat ln = Int32.ofNat 64) := by rw [own_inj (by omega) (by omega)]; omega
    obtain ⟨T4, X4, e4, st4⟩ := getF X3 hx hZ hown (host := "") (Or.inl (hw _ (List.mem_of_getElem? (i := 23) rfl))) Via.refl e3 P.fL (g := (mkF m 12 #[.val (.ref d), .val (.int x)] [(.ref d)])) rfl rfl (hb hby dD_12)
    obtain ⟨T5, X5, e5, st5⟩ := getF X4 hx hZ hown (host := "") (Or.inl (hw _ (List.mem_of_getElem? (i := 10) rfl))) Via.refl e4 P.fT (g := (mkF m 16 #[.val (.ref d), .val (.int x)] [(.ref d), (.int (Int32.ofNat ln))])) rfl rfl (hb hby dD_16)
    obtain ⟨T6, X6, e6, st6⟩ := getF X5 hx hZ hown (host := "") (Or.inl (hw _ (List.mem_of_getElem? (i := 10) rfl))) Via.refl e5 P.fT (g := (mkF m 58 #[.val (.ref d), .val (.int x)] [(.ref d)])) rfl rfl (hb hby dD_58)
    obtain ⟨T7, X7, e7, st7⟩ := getF X6 hx hZ hown (host := "") (Or.inl (hw _ (List.mem_of_getElem? (i := 23) rfl))) Via.refl e6 P.fL (g := (mkF m 62 #[.val (.ref d), .val (.int x)] [(.ref d), (.ref ta)])) rfl rfl (hb hby dD_62)
    obtain ⟨T8, h8, X8, e8, W8, st8⟩ := P.iT.st X7 hx hZ e7 (i := ln) rfl hl (g := (mkF m 66 #[.val (.ref d), .val (.int x)] [(.int (0 : Int32)), (.int (Int32.ofNat ln)), (.ref ta)])) rfl rfl (hb hby dD_66)
    have P8 := P.setT hl W8
    have N8 := Fr.snoc X8 N0 g_ta
    have K8 := K0.wr W8 (Or.inl (by simp))
    obtain ⟨T9, X9, e9, st9⟩ := getF X8 hx hZ hown (host := "") (Or.inl (hw _ (List.mem_of_getElem? (i := 12) rfl))) Via.refl e8 P8.fA (g := (mkF m 68 #[.val (.ref d), .val (.int x)] [(.ref d)])) rfl rfl (hb hby dD_68)
    obtain ⟨T10, X10, e10, st10⟩ := getF X9 hx hZ hown (host := "") (Or.inl (hw _ (List.mem_of_getElem? (i := 23) rfl))) Via.refl e9 P8.fL (g := (mkF m 72 #[.val (.ref d), .val (.int x)] [(.ref d), (.ref al)])) rfl rfl (hb hby dD_72)
    obtain ⟨T11, h11, X11, e11, W11, st11⟩ := P8.iA.st X10 hx hZ e10 (i := ln) rfl hl (g := (mkF m 76 #[.val (.ref d), .val (.int x)] [(.int x), (.int (Int32.ofNat ln)), (.ref al)])) rfl rfl (hb hby dD_76)
    have P11 := P8.setA hl W11
    have N11 := Fr.snoc X11 N8 g_al
    have K11 := K8.wr W11 (Or.inl (by simp))
    obtain ⟨T12, X12, e12, st12⟩ := getF X11 hx hZ hown (host := "") (Or.inl (hw _ (List.mem_of_getElem? (i := 23) rfl))) Via.refl e11 P11.fL (g := (mkF m 79 #[.val (.ref d), .val (.int x)] [(.ref d), (.ref d)])) rfl rfl (hb hby dD_79)
    obtain ⟨T13, h13, X13, e13, W13, st13⟩ := putF X12 hx hZ hown (host := "") (Or.inl (hw _ (List.mem_of_getElem? (i := 23) rfl))) Via.refl e12 P11.fL P11.ex (Or.inl (hw _ (List.mem_of_getElem? (i := 24) rfl))) (hw _ (List.mem_of_getElem? (i := 2) rfl)) (ty := .int) (by decide) rfl rfl (g := (mkF m 84 #[.val (.ref d), .val (.int x)] [(.int ((Int32.ofNat ln) + (1 : Int32))), (.ref d)])) rfl rfl (hb hby dD_84)
    rw [own_succ] at W13
    have P13 := P11.putL hw (k := (ln + 1)) W13
    have N13 := Fr.snoc X13 N11 g_d
    have K13 := K11.wr W13 (Or.inl (by simp))
    obtain ⟨T14, X14, e14, st14⟩ := getF X13 hx hZ hown (host := "") (Or.inl (hw _ (List.mem_of_getElem? (i := 25) rfl))) Via.refl e13 P13.fM (g := (mkF m 89 #[.val (.ref d), .val (.int x)] [(.ref d), (.ref d)])) rfl rfl (hb hby dD_89)
    obtain ⟨T15, h15, X15, e15, W15, st15⟩ := putF X14 hx hZ hown (host := "") (Or.inl (hw _ (List.mem_of_getElem? (i := 25) rfl))) Via.refl e14 P13.fM P13.ex (Or.inl (hw _ (List.mem_of_getElem? (i := 26) rfl))) (hw _ (List.mem_of_getElem? (i := 2) rfl)) (ty := .int) (by decide) rfl rfl (g := (mkF m 94 #[.val (.ref d), .val (.int x)] [(.int ((Int32.ofNat md) + (1 : Int32))), (.ref d)])) rfl rfl (hb hby dD_94)
    rw [own_succ] at W15
    have P15 := P13.putM hw (k := (md + 1)) W15
    have N15 := Fr.snoc X15 N13 g_d
    have K15 := K13.wr W15 (Or.inl (by simp))
    obtain ⟨T16, X16, e16, st16⟩ := getF X15 hx hZ hown (host := "") (Or.inl (hw _ (List.mem_of_getElem? (i := 10) rfl))) Via.refl e15 P15.fT (g := (mkF m 98 #[.val (.ref d), .val (.int x)] [(.ref d)])) rfl rfl (hb hby dD_98)
    obtain ⟨T17, X17, e17, st17⟩ := getF X16 hx hZ hown (host := "") (Or.inl (hw _ (List.mem_of_getElem? (i := 25) rfl))) Via.refl e16 P15.fM (g := (mkF m 102 #[.val (.ref d), .val (.int x)] [(.ref d), (.ref ta)])) rfl rfl (hb hby dD_102)
    obtain ⟨fs, hr, hrun, hended, hW, hsame⟩ := X17.leave (v := some (.int ((own_upd f ln (0 : Int32)) md))) (fun h => by rw [Bd.returns] at h; cases h)
    refine ⟨_, _, pre0 _ ?_, hrun, hended, _, _, rfl, ?_, ⟨_, rfl⟩, hW, hsame.mono (by decide) (by decide)⟩
    · show Steps p.tables e below (s₁.setTop (mkF m 0 #[.val (.ref d), .val (.int x)] [])) _
      refine XS.aloadN X0.here hx rfl (hb hby dD_0) rfl rfl ?_
      show Steps p.tables e below (s₁.setTop (mkF m 1 #[.val (.ref d), .val (.int x)] [(.ref d)])) _
      refine st2 _ ?_
      show Steps p.tables e below (T2.setTop (mkF m 4 #[.val (.ref d), .val (.int x)] [(.int (Int32.ofNat md))])) _
      refine XS.aloadN X2.here hx rfl (hb hby dD_4) rfl rfl ?_
      show Steps p.tables e below (T2.setTop (mkF m 5 #[.val (.ref d), .val (.int x)] [(.ref d), (.int (Int32.ofNat md))])) _
      refine st3 _ ?_
      show Steps p.tables e below (T3.setTop (mkF m 8 #[.val (.ref d), .val (.int x)] [(.int (Int32.ofNat ln)), (.int (Int32.ofNat md))])) _
      refine XS.icmpNo X3.here hx rfl (hb hby dD_8) rfl (teq cc8).2 ?_
      show Steps p.tables e below (T3.setTop (mkF m 11 #[.val (.ref d), .val (.int x)] [])) _
      refine XS.aloadN X3.here hx rfl (hb hby dD_11) rfl rfl ?_
      show Steps p.tables e below (T3.setTop (mkF m 12 #[.val (.ref d), .val (.int x)] [(.ref d)])) _
      refine st4 _ ?_
      show Steps p.tables e below (T4.setTop (mkF m 15 #[.val (.ref d), .val (.int x)] [(.int (Int32.ofNat ln))])) _
      refine XS.aloadN X4.here hx rfl (hb hby dD_15) rfl rfl ?_
      show Steps p.tables e below (T4.setTop (mkF m 16 #[.val (.ref d), .val (.int x)] [(.ref d), (.int (Int32.ofNat ln))])) _
      refine st5 _ ?_
      show Steps p.tables e below (T5.setTop (mkF m 19 #[.val (.ref d), .val (.int x)] [(.ref ta), (.int (Int32.ofNat ln))])) _
      refine P.iT.len X5 hx hZ e5 (g := (mkF m 19 #[.val (.ref d), .val (.int x)] [(.ref ta), (.int (Int32.ofNat ln))])) rfl rfl (hb hby dD_19) _ ?_
      show Steps p.tables e below (T5.setTop (mkF m 20 #[.val (.ref d), .val (.int x)] [(.int (Int32.ofNat 64)), (.int (Int32.ofNat ln))])) _
      refine XS.icmpYes X5.here hx rfl (pc0 := 20) (pc' := 57) rfl (hb hby dD_20) rfl (feq cc20).2 (by decide) (by decide) ?_
      show Steps p.tables e below (T5.setTop (mkF m 57 #[.val (.ref d), .val (.int x)] [])) _
      refine XS.aloadN X5.here hx rfl (hb hby dD_57) rfl rfl ?_
      show Steps p.tables e below (T5.setTop (mkF m 58 #[.val (.ref d), .val (.int x)] [(.ref d)])) _
      refine st6 _ ?_
      show Steps p.tables e below (T6.setTop (mkF m 61 #[.val (.ref d), .val (.int x)] [(.ref ta)])) _
      refine XS.aloadN X6.here hx rfl (hb hby dD_61) rfl rfl ?_
      show Steps p.tables e below (T6.setTop (mkF m 62 #[.val (.ref d), .val (.int x)] [(.ref d), (.ref ta)])) _
      refine st7 _ ?_
      show Steps p.tables e below (T7.setTop (mkF m 65 #[.val (.ref d), .val (.int x)] [(.int (Int32.ofNat ln)), (.ref ta)])) _
      refine XS.iconst X7.here hx rfl (hb hby dD_65) ?_
      show Steps p.tables e below (T7.setTop (mkF m 66 #[.val (.ref d), .val (.int x)] [(.int (0 : Int32)), (.int (Int32.ofNat ln)), (.ref ta)])) _
      refine st8 _ ?_
      show Steps p.tables e below (T8.setTop (mkF m 67 #[.val (.ref d), .val (.int x)] [])) _
      refine XS.aloadN X8.here hx rfl (hb hby dD_67) rfl rfl ?_
      show Steps p.tables e below (T8.setTop (mkF m 68 #[.val (.ref d), .val (.int x)] [(.ref d)])) _
      refine st9 _ ?_
      show Steps p.tables e below (T9.setTop (mkF m 71 #[.val (.ref d), .val (.int x)] [(.ref al)])) _
      refine XS.aloadN X9.here hx rfl (hb hby dD_71) rfl rfl ?_
      show Steps p.tables e below (T9.setTop (mkF m 72 #[.val (.ref d), .val (.int x)] [(.ref d), (.ref al)])) _
      refine st10 _ ?_
      show Steps p.tables e below (T10.setTop (mkF m 75 #[.val (.ref d), .val (.int x)] [(.int (Int32.ofNat ln)), (.ref al)])) _
      refine XS.iloadN X10.here hx rfl (hb hby dD_75) rfl ?_
      show Steps p.tables e below (T10.setTop (mkF m 76 #[.val (.ref d), .val (.int x)] [(.int x), (.int (Int32.ofNat ln)), (.ref al)])) _
      refine st11 _ ?_
      show Steps p.tables e below (T11.setTop (mkF m 77 #[.val (.ref d), .val (.int x)] [])) _
      refine XS.aloadN X11.here hx rfl (hb hby dD_77) rfl rfl ?_
      show Steps p.tables e below (T11.setTop (mkF m 78 #[.val (.ref d), .val (.int x)] [(.ref d)])) _
      refine XS.dup X11.here hx rfl (hb hby dD_78) rfl rfl ?_
      show Steps p.tables e below (T11.setTop (mkF m 79 #[.val (.ref d), .val (.int x)] [(.ref d), (.ref d)])) _
      refine st12 _ ?_
      show Steps p.tables e below (T12.setTop (mkF m 82 #[.val (.ref d), .val (.int x)] [(.int (Int32.ofNat ln)), (.ref d)])) _
      refine XS.iconst X12.here hx rfl (hb hby dD_82) ?_
      show Steps p.tables e below (T12.setTop (mkF m 83 #[.val (.ref d), .val (.int x)] [(.int (1 : Int32)), (.int (Int32.ofNat ln)), (.ref d)])) _
      refine XS.iadd X12.here hx rfl (hb hby dD_83) rfl ?_
      show Steps p.tables e below (T12.setTop (mkF m 84 #[.val (.ref d), .val (.int x)] [(.int ((Int32.ofNat ln) + (1 : Int32))), (.ref d)])) _
      refine st13 _ ?_
      show Steps p.tables e below (T13.setTop (mkF m 87 #[.val (.ref d), .val (.int x)] [])) _
      refine XS.aloadN X13.here hx rfl (hb hby dD_87) rfl rfl ?_
      show Steps p.tables e below (T13.setTop (mkF m 88 #[.val (.ref d), .val (.int x)] [(.ref d)])) _
      refine XS.dup X13.here hx rfl (hb hby dD_88) rfl rfl ?_
      show Steps p.tables e below (T13.setTop (mkF m 89 #[.val (.ref d), .val (.int x)] [(.ref d), (.ref d)])) _
      refine st14 _ ?_
      show Steps p.tables e below (T14.setTop (mkF m 92 #[.val (.ref d), .val (.int x)] [(.int (Int32.ofNat md)), (.ref d)])) _
      refine XS.iconst X14.here hx rfl (hb hby dD_92) ?_
      show Steps p.tables e below (T14.setTop (mkF m 93 #[.val (.ref d), .val (.int x)] [(.int (1 : Int32)), (.int (Int32.ofNat md)), (.ref d)])) _
      refine XS.iadd X14.here hx rfl (hb hby dD_93) rfl ?_
      show Steps p.tables e below (T14.setTop (mkF m 94 #[.val (.ref d), .val (.int x)] [(.int ((Int32.ofNat md) + (1 : Int32))), (.ref d)])) _
      refine st15 _ ?_
      show Steps p.tables e below (T15.setTop (mkF m 97 #[.val (.ref d), .val (.int x)] [])) _
      refine XS.aloadN X15.here hx rfl (hb hby dD_97) rfl rfl ?_
      show Steps p.tables e below (T15.setTop (mkF m 98 #[.val (.ref d), .val (.int x)] [(.ref d)])) _
      refine st16 _ ?_
      show Steps p.tables e below (T16.setTop (mkF m 101 #[.val (.ref d), .val (.int x)] [(.ref ta)])) _
      refine XS.aloadN X16.here hx rfl (hb hby dD_101) rfl rfl ?_
      show Steps p.tables e below (T16.setTop (mkF m 102 #[.val (.ref d), .val (.int x)] [(.ref d), (.ref ta)])) _
      refine st17 _ ?_
      show Steps p.tables e below (T17.setTop (mkF m 105 #[.val (.ref d), .val (.int x)] [(.int (Int32.ofNat (md + 1))), (.ref ta)])) _
      refine XS.iconst X17.here hx rfl (hb hby dD_105) ?_
      show Steps p.tables e below (T17.setTop (mkF m 106 #[.val (.ref d), .val (.int x)] [(.int (1 : Int32)), (.int (Int32.ofNat (md + 1))), (.ref ta)])) _
      refine XS.isub X17.here hx rfl (hb hby dD_106) rfl ?_
      show Steps p.tables e below (T17.setTop (mkF m 107 #[.val (.ref d), .val (.int x)] [(.int ((Int32.ofNat (md + 1)) - (1 : Int32))), (.ref ta)])) _
      refine P15.iT.ld X17 hx hZ e17 (i := md) (own_pred md) (show md < 64 by omega) (g := (mkF m 107 #[.val (.ref d), .val (.int x)] [(.int ((Int32.ofNat (md + 1)) - (1 : Int32))), (.ref ta)])) rfl rfl (hb hby dD_107) _ ?_
      show Steps p.tables e below (T17.setTop (mkF m 108 #[.val (.ref d), .val (.int x)] [(.int ((own_upd f ln (0 : Int32)) md))])) _
      exact retI X17 hx Bd.returns (hb hby dD_108) hr
    · show QD Z d ta al x ln md f g h0 n0 _ T17.heap _
      rw [e17]
      exact ⟨by rw [dcF, if_pos hq], N15, K15, by simp only [dcL, dcF, dcG, if_pos hq]; exact P15⟩
  · obtain ⟨T2, X2, e2, st2⟩ := getF X0 hx hZ hown (host := "") (Or.inl (hw _ (List.mem_of_getElem? (i := 25) rfl))) Via.refl e0 P.fM (g := (mkF m 1 #[.val (.ref d), .val (.int x)] [(.ref d)])) rfl rfl (hb hby dD_1)
    obtain ⟨T3, X3, e3, st3⟩ := getF X2 hx hZ hown (host := "") (Or.inl (hw _ (List.mem_of_getElem? (i := 23) rfl))) Via.refl e2 P.fL (g := (mkF m 5 #[.val (.ref d), .val (.int x)] [(.ref d), (.int (Int32.ofNat md))])) rfl rfl (hb hby dD_5)
    have cc8 : ¬ (Int32.ofNat md = Int32.ofNat ln) := by rw [own_inj (by omega) (by omega)]; exact hq
    obtain ⟨T4, X4, e4, st4⟩ := getF X3 hx hZ hown (host := "") (Or.inl (hw _ (List.mem_of_getElem? (i := 25) rfl))) Via.refl e3 P.fM (g := (mkF m 89 #[.val (.ref d), .val (.int x)] [(.ref d), (.ref d)])) rfl rfl (hb hby dD_89)
    obtain ⟨T5, h5, X5, e5, W5, st5⟩ := putF X4 hx hZ hown (host := "") (Or.inl (hw _ (List.mem_of_getElem? (i := 25) rfl))) Via.refl e4 P.fM P.ex (Or.inl (hw _ (List.mem_of_getElem? (i := 26) rfl))) (hw _ (List.mem_of_getElem? (i := 2) rfl)) (ty := .int) (by decide) rfl rfl (g := (mkF m 94 #[.val (.ref d), .val (.int x)] [(.int ((Int32.ofNat md) + (1 : Int32))), (.ref d)])) rfl rfl (hb hby dD_94)
    rw [own_succ] at W5
    have P5 := P.putM hw (k := (md + 1)) W5
    have N5 := Fr.snoc X5 N0 g_d
    have K5 := K0.wr W5 (Or.inl (by simp))
    obtain ⟨T6, X6, e6, st6⟩ := getF X5 hx hZ hown (host := "") (Or.inl (hw _ (List.mem_of_getElem? (i := 10) rfl))) Via.refl e5 P5.fT (g := (mkF m 98 #[.val (.ref d), .val (.int x)] [(.ref d)])) rfl rfl (hb hby dD_98)
    obtain ⟨T7, X7, e7, st7⟩ := getF X6 hx hZ hown (host := "") (Or.inl (hw _ (List.mem_of_getElem? (i := 25) rfl))) Via.refl e6 P5.fM (g := (mkF m 102 #[.val (.ref d), .val (.int x)] [(.ref d), (.ref ta)])) rfl rfl (hb hby dD_102)
    obtain ⟨fs, hr, hrun, hended, hW, hsame⟩ := X7.leave (v := some (.int (f md))) (fun h => by rw [Bd.returns] at h; cases h)
    refine ⟨_, _, pre0 _ ?_, hrun, hended, _, _, rfl, ?_, ⟨_, rfl⟩, hW, hsame.mono (by decide) (by decide)⟩
    · show Steps p.tables e below (s₁.setTop (mkF m 0 #[.val (.ref d), .val (.int x)] [])) _
      refine XS.aloadN X0.here hx rfl (hb hby dD_0) rfl rfl ?_
      show Steps p.tables e below (s₁.setTop (mkF m 1 #[.val (.ref d), .val (.int x)] [(.ref d)])) _
      refine st2 _ ?_
      show Steps p.tables e below (T2.setTop (mkF m 4 #[.val (.ref d), .val (.int x)] [(.int (Int32.ofNat md))])) _
      refine XS.aloadN X2.here hx rfl (hb hby dD_4) rfl rfl ?_
      show Steps p.tables e below (T2.setTop (mkF m 5 #[.val (.ref d), .val (.int x)] [(.ref d), (.int (Int32.ofNat md))])) _
      refine st3 _ ?_
      show Steps p.tables e below (T3.setTop (mkF m 8 #[.val (.ref d), .val (.int x)] [(.int (Int32.ofNat ln)), (.int (Int32.ofNat md))])) _
      refine XS.icmpYes X3.here hx rfl (pc0 := 8) (pc' := 87) rfl (hb hby dD_8) rfl (feq cc8).2 (by decide) (by decide) ?_
      show Steps p.tables e below (T3.setTop (mkF m 87 #[.val (.ref d), .val (.int x)] [])) _
      refine XS.aloadN X3.here hx rfl (hb hby dD_87) rfl rfl ?_
      show Steps p.tables e below (T3.setTop (mkF m 88 #[.val (.ref d), .val (.int x)] [(.ref d)])) _
      refine XS.dup X3.here hx rfl (hb hby dD_88) rfl rfl ?_
      show Steps p.tables e below (T3.setTop (mkF m 89 #[.val (.ref d), .val (.int x)] [(.ref d), (.ref d)])) _
      refine st4 _ ?_
      show Steps p.tables e below (T4.setTop (mkF m 92 #[.val (.ref d), .val (.int x)] [(.int (Int32.ofNat md)), (.ref d)])) _
      refine XS.iconst X4.here hx rfl (hb hby dD_92) ?_
      show Steps p.tables e below (T4.setTop (mkF m 93 #[.val (.ref d), .val (.int x)] [(.int (1 : Int32)), (.int (Int32.ofNat md)), (.ref d)])) _
      refine XS.iadd X4.here hx rfl (hb hby dD_93) rfl ?_
      show Steps p.tables e below (T4.setTop (mkF m 94 #[.val (.ref d), .val (.int x)] [(.int ((Int32.ofNat md) + (1 : Int32))), (.ref d)])) _
      refine st5 _ ?_
      show Steps p.tables e below (T5.setTop (mkF m 97 #[.val (.ref d), .val (.int x)] [])) _
      refine XS.aloadN X5.here hx rfl (hb hby dD_97) rfl rfl ?_
      show Steps p.tables e below (T5.setTop (mkF m 98 #[.val (.ref d), .val (.int x)] [(.ref d)])) _
      refine st6 _ ?_
      show Steps p.tables e below (T6.setTop (mkF m 101 #[.val (.ref d), .val (.int x)] [(.ref ta)])) _
      refine XS.aloadN X6.here hx rfl (hb hby dD_101) rfl rfl ?_
      show Steps p.tables e below (T6.setTop (mkF m 102 #[.val (.ref d), .val (.int x)] [(.ref d), (.ref ta)])) _
      refine st7 _ ?_
      show Steps p.tables e below (T7.setTop (mkF m 105 #[.val (.ref d), .val (.int x)] [(.int (Int32.ofNat (md + 1))), (.ref ta)])) _
      refine XS.iconst X7.here hx rfl (hb hby dD_105) ?_
      show Steps p.tables e below (T7.setTop (mkF m 106 #[.val (.ref d), .val (.int x)] [(.int (1 : Int32)), (.int (Int32.ofNat (md + 1))), (.ref ta)])) _
      refine XS.isub X7.here hx rfl (hb hby dD_106) rfl ?_
      show Steps p.tables e below (T7.setTop (mkF m 107 #[.val (.ref d), .val (.int x)] [(.int ((Int32.ofNat (md + 1)) - (1 : Int32))), (.ref ta)])) _
      refine P5.iT.ld X7 hx hZ e7 (i := md) (own_pred md) (show md < 64 by omega) (g := (mkF m 107 #[.val (.ref d), .val (.int x)] [(.int ((Int32.ofNat (md + 1)) - (1 : Int32))), (.ref ta)])) rfl rfl (hb hby dD_107) _ ?_
      show Steps p.tables e below (T7.setTop (mkF m 108 #[.val (.ref d), .val (.int x)] [(.int (f md))])) _
      exact retI X7 hx Bd.returns (hb hby dD_108) hr
    · show QD Z d ta al x ln md f g h0 n0 _ T7.heap _
      rw [e7]
      exact ⟨by rw [dcF, if_neg hq], N5, K5, by simp only [dcL, dcF, dcG, if_neg hq]; exact P5⟩
section AvLoop
variable {p : Program} {l : Launch} {e : Env} {R : Room} {s : State} {m : MethodId} {args : Array Value} {below : List Frame} {meth : Method} {c : Code} {T : State} {locs : List Loc} {cells slots : Nat} {Z : State} {a0 : Array Value} {n0 : Nat}
set_option maxRecDepth 65536 in
set_option maxHeartbeats 40000000 in
theorem avloop (hw : ∀ d ∈ tables_1, d.before a0 Z = true) (hx : p.tables.exec = Jvm.exec) (hby : c.code = prog_5_method_4_code) (hZ : Z.Warmed39 s.vm) (hown : s.vm.findClass "com/example/nereus/nereus/checker/DecisionPath" = some m.cls) {d ta al : Addr} {md : Nat} {f g : Nat → Int32} (g_d : n0 ≤ d) :
    ∀ (k : Nat) (T : State) (locs : List Loc) (h : Heap), k ≤ 64 → Stand p l e R s m args below meth c T locs cells slots → T.heap = h → Fr n0 locs → own_DP Z h d ta al k md f g →
      ∃ T' h' locs', Stand p l e R s m args below meth c T' locs' cells slots ∧ T'.heap = h' ∧ Fr n0 locs' ∧ Keep h h' [d, ta, al] ∧ own_DP Z h' d ta al (avL f g k) md f g ∧ ∀ t, Steps p.tables e below (T'.setTop (mkF m 47 #[.val (.ref d)] [])) t → Steps p.tables e below (T.setTop (mkF m 0 #[.val (.ref d)] [])) t := by
  intro k
  induction k with
  | zero =>
    intro T locs h hk X eT N P
    obtain ⟨T2, X2, e2, st2⟩ := getF X hx hZ hown (host := "") (Or.inl (hw _ (List.mem_of_getElem? (i := 23) rfl))) Via.refl eT P.fL (g := (mkF m 1 #[.val (.ref d)] [(.ref d)])) rfl rfl (hb hby dA_1)
    refine ⟨T2, h, locs, X2, e2, N, Keep.refl _ _, P, fun t kk => ?_⟩
    show Steps p.tables e below (T.setTop (mkF m 0 #[.val (.ref d)] [])) _
    refine XS.aloadN X.here hx rfl (hb hby dA_0) rfl rfl ?_
    show Steps p.tables e below (T.setTop (mkF m 1 #[.val (.ref d)] [(.ref d)])) _
    refine st2 _ ?_
    show Steps p.tables e below (T2.setTop (mkF m 4 #[.val (.ref d)] [(.int (Int32.ofNat 0))])) _
    refine XS.ifYes X2.here hx rfl (pc0 := 4) (pc' := 47) rfl (hb hby dA_4) rfl ((if0 _ _).trans (flt (show ¬ (0 : Int32) < Int32.ofNat 0 by decide)).2.2.2) (by decide) (by decide) ?_
    exact kk
  | succ k ih =>
    intro T locs h hk X eT N P
    have cc4 : (0 : Int32) < Int32.ofNat (k + 1) := by rw [show (0 : Int32) = Int32.ofNat 0 from rfl, own_lt (by omega) (by omega)]; omega
    have K0 := Keep.refl h [d, ta, al]
    by_cases hc : f k = g k - 1
    · obtain ⟨T2, X2, e2, st2⟩ := getF X hx hZ hown (host := "") (Or.inl (hw _ (List.mem_of_getElem? (i := 23) rfl))) Via.refl eT P.fL (g := (mkF m 1 #[.val (.ref d)] [(.ref d)])) rfl rfl (hb hby dA_1)
      obtain ⟨T3, X3, e3, st3⟩ := getF X2 hx hZ hown (host := "") (Or.inl (hw _ (List.mem_of_getElem? (i := 10) rfl))) Via.refl e2 P.fT (g := (mkF m 8 #[.val (.ref d)] [(.ref d)])) rfl rfl (hb hby dA_8)
      obtain ⟨T4, X4, e4, st4⟩ := getF X3 hx hZ hown (host := "") (Or.inl (hw _ (List.mem_of_getElem? (i := 23) rfl))) Via.refl e3 P.fL (g := (mkF m 12 #[.val (.ref d)] [(.ref d), (.ref ta)])) rfl rfl (hb hby dA_12)
      obtain ⟨T5, X5, e5, st5⟩ := getF X4 hx hZ hown (host := "") (Or.inl (hw _ (List.mem_of_getElem? (i := 12) rfl))) Via.refl e4 P.fA (g := (mkF m 19 #[.val (.ref d)] [(.ref d), (.int (f k))])) rfl rfl (hb hby dA_19)
      obtain ⟨T6, X6, e6, st6⟩ := getF X5 hx hZ hown (host := "") (Or.inl (hw _ (List.mem_of_getElem? (i := 23) rfl))) Via.refl e5 P.fL (g := (mkF m 23 #[.val (.ref d)] [(.ref d), (.ref al), (.int (f k))])) rfl rfl (hb hby dA_23)
      obtain ⟨T7, X7, e7, st7⟩ := getF X6 hx hZ hown (host := "") (Or.inl (hw _ (List.mem_of_getElem? (i := 23) rfl))) Via.refl e6 P.fL (g := (mkF m 36 #[.val (.ref d)] [(.ref d), (.ref d)])) rfl rfl (hb hby dA_36)
      obtain ⟨T8, h8, X8, e8, W8, st8⟩ := putF X7 hx hZ hown (host := "") (Or.inl (hw _ (List.mem_of_getElem? (i := 23) rfl))) Via.refl e7 P.fL P.ex (Or.inl (hw _ (List.mem_of_getElem? (i := 24) rfl))) (hw _ (List.mem_of_getElem? (i := 2) rfl)) (ty := .int) (by decide) rfl rfl (g := (mkF m 41 #[.val (.ref d)] [(.int ((Int32.ofNat (k + 1)) - (1 : Int32))), (.ref d)])) rfl rfl (hb hby dA_41)
      rw [own_pred] at W8
      have P8 := P.putL hw (k := k) W8
      have N8 := Fr.snoc X8 N g_d
      have K8 := K0.wr W8 (Or.inl (by simp))
      obtain ⟨T', h', locs', X', e', N', K', P', st'⟩ := ih T8 _ h8 (by omega) X8 e8 N8 P8
      refine ⟨T', h', locs', X', e', N', K8.trans K' (fun y hy => Or.inl hy), by rw [avL, if_pos hc]; exact P', fun t kk => ?_⟩
      show Steps p.tables e below (T.setTop (mkF m 0 #[.val (.ref d)] [])) _
      refine XS.aloadN X.here hx rfl (hb hby dA_0) rfl rfl ?_
      show Steps p.tables e below (T.setTop (mkF m 1 #[.val (.ref d)] [(.ref d)])) _
      refine st2 _ ?_
      show Steps p.tables e below (T2.setTop (mkF m 4 #[.val (.ref d)] [(.int (Int32.ofNat (k + 1)))])) _
      refine XS.ifNo X2.here hx rfl (hb hby dA_4) rfl ((if0 _ _).trans (tlt cc4).2.2.2) ?_
      show Steps p.tables e below (T2.setTop (mkF m 7 #[.val (.ref d)] [])) _
      refine XS.aloadN X2.here hx rfl (hb hby dA_7) rfl rfl ?_
      show Steps p.tables e below (T2.setTop (mkF m 8 #[.val (.ref d)] [(.ref d)])) _
      refine st3 _ ?_
      show Steps p.tables e below (T3.setTop (mkF m 11 #[.val (.ref d)] [(.ref ta)])) _
      refine XS.aloadN X3.here hx rfl (hb hby dA_11) rfl rfl ?_
      show Steps p.tables e below (T3.setTop (mkF m 12 #[.val (.ref d)] [(.ref d), (.ref ta)])) _
      refine st4 _ ?_
      show Steps p.tables e below (T4.setTop (mkF m 15 #[.val (.ref d)] [(.int (Int32.ofNat (k + 1))), (.ref ta)])) _
      refine XS.iconst X4.here hx rfl (hb hby dA_15) ?_
      show Steps p.tables e below (T4.setTop (mkF m 16 #[.val (.ref d)] [(.int (1 : Int32)), (.int (Int32.ofNat (k + 1))), (.ref ta)])) _
      refine XS.isub X4.here hx rfl (hb hby dA_16) rfl ?_
      show Steps p.tables e below (T4.setTop (mkF m 17 #[.val (.ref d)] [(.int ((Int32.ofNat (k + 1)) - (1 : Int32))), (.ref ta)])) _
      refine P.iT.ld X4 hx hZ e4 (i := k) (own_pred k) (show k < 64 by omega) (g := (mkF m 17 #[.val (.ref d)] [(.int ((Int32.ofNat (k + 1)) - (1 : Int32))), (.ref ta)])) rfl rfl (hb hby dA_17) _ ?_
      show Steps p.tables e below (T4.setTop (mkF m 18 #[.val (.ref d)] [(.int (f k))])) _
      refine XS.aloadN X4.here hx rfl (hb hby dA_18) rfl rfl ?_
      show Steps p.tables e below (T4.setTop (mkF m 19 #[.val (.ref d)] [(.ref d), (.int (f k))])) _
      refine st5 _ ?_
      show Steps p.tables e below (T5.setTop (mkF m 22 #[.val (.ref d)] [(.ref al), (.int (f k))])) _
      refine XS.aloadN X5.here hx rfl (hb hby dA_22) rfl rfl ?_
      show Steps p.tables e below (T5.setTop (mkF m 23 #[.val (.ref d)] [(.ref d), (.ref al), (.int (f k))])) _
      refine st6 _ ?_
      show Steps p.tables e below (T6.setTop (mkF m 26 #[.val (.ref d)] [(.int (Int32.ofNat (k + 1))), (.ref al), (.int (f k))])) _
      refine XS.iconst X6.here hx rfl (hb hby dA_26) ?_
      show Steps p.tables e below (T6.setTop (mkF m 27 #[.val (.ref d)] [(.int (1 : Int32)), (.int (Int32.ofNat (k + 1))), (.ref al), (.int (f k))])) _
      refine XS.isub X6.here hx rfl (hb hby dA_27) rfl ?_
      show Steps p.tables e below (T6.setTop (mkF m 28 #[.val (.ref d)] [(.int ((Int32.ofNat (k + 1)) - (1 : Int32))), (.ref al), (.int (f k))])) _
      refine P.iA.ld X6 hx hZ e6 (i := k) (own_pred k) (show k < 64 by omega) (g := (mkF m 28 #[.val (.ref d)] [(.int ((Int32.ofNat (k + 1)) - (1 : Int32))), (.ref al), (.int (f k))])) rfl rfl (hb hby dA_28) _ ?_
      show Steps p.tables e below (T6.setTop (mkF m 29 #[.val (.ref d)] [(.int (g k)), (.int (f k))])) _
      refine XS.iconst X6.here hx rfl (hb hby dA_29) ?_
      show Steps p.tables e below (T6.setTop (mkF m 30 #[.val (.ref d)] [(.int (1 : Int32)), (.int (g k)), (.int (f k))])) _
      refine XS.isub X6.here hx rfl (hb hby dA_30) rfl ?_
      show Steps p.tables e below (T6.setTop (mkF m 31 #[.val (.ref d)] [(.int ((g k) - (1 : Int32))), (.int (f k))])) _
      refine XS.icmpNo X6.here hx rfl (hb hby dA_31) rfl (teq hc).2 ?_
      show Steps p.tables e below (T6.setTop (mkF m 34 #[.val (.ref d)] [])) _
      refine XS.aloadN X6.here hx rfl (hb hby dA_34) rfl rfl ?_
      show Steps p.tables e below (T6.setTop (mkF m 35 #[.val (.ref d)] [(.ref d)])) _
      refine XS.dup X6.here hx rfl (hb hby dA_35) rfl rfl ?_
      show Steps p.tables e below (T6.setTop (mkF m 36 #[.val (.ref d)] [(.ref d), (.ref d)])) _
      refine st7 _ ?_
      show Steps p.tables e below (T7.setTop (mkF m 39 #[.val (.ref d)] [(.int (Int32.ofNat (k + 1))), (.ref d)])) _
      refine XS.iconst X7.here hx rfl (hb hby dA_39) ?_
      show Steps p.tables e below (T7.setTop (mkF m 40 #[.val (.ref d)] [(.int (1 : Int32)), (.int (Int32.ofNat (k + 1))), (.ref d)])) _
      refine XS.isub X7.here hx rfl (hb hby dA_40) rfl ?_
      show Steps p.tables e below (T7.setTop (mkF m 41 #[.val (.ref d)] [(.int ((Int32.ofNat (k + 1)) - (1 : Int32))), (.ref d)])) _
      refine st8 _ ?_
      show Steps p.tables e below (T8.setTop (mkF m 44 #[.val (.ref d)] [])) _
      refine XS.goto X8.here hx rfl (pc0 := 44) (pc' := 0) rfl (hb hby dA_44) (by decide) (by decide) ?_
      show Steps p.tables e below (T8.setTop (mkF m 0 #[.val (.ref d)] [])) _
      exact st' t kk
    · obtain ⟨T2, X2, e2, st2⟩ := getF X hx hZ hown (host := "") (Or.inl (hw _ (List.mem_of_getElem? (i := 23) rfl))) Via.refl eT P.fL (g := (mkF m 1 #[.val (.ref d)] [(.ref d)])) rfl rfl (hb hby dA_1)
      obtain ⟨T3, X3, e3, st3⟩ := getF X2 hx hZ hown (host := "") (Or.inl (hw _ (List.mem_of_getElem? (i := 10) rfl))) Via.refl e2 P.fT (g := (mkF m 8 #[.val (.ref d)] [(.ref d)])) rfl rfl (hb hby dA_8)
      obtain ⟨T4, X4, e4, st4⟩ := getF X3 hx hZ hown (host := "") (Or.inl (hw _ (List.mem_of_getElem? (i := 23) rfl))) Via.refl e3 P.fL (g := (mkF m 12 #[.val (.ref d)] [(.ref d), (.ref ta)])) rfl rfl (hb hby dA_12)
      obtain ⟨T5, X5, e5, st5⟩ := getF X4 hx hZ hown (host := "") (Or.inl (hw _ (List.mem_of_getElem? (i := 12) rfl))) Via.refl e4 P.fA (g := (mkF m 19 #[.val (.ref d)] [(.ref d), (.int (f k))])) rfl rfl (hb hby dA_19)
      obtain ⟨T6, X6, e6, st6⟩ := getF X5 hx hZ hown (host := "") (Or.inl (hw _ (List.mem_of_getElem? (i := 23) rfl))) Via.refl e5 P.fL (g := (mkF m 23 #[.val (.ref d)] [(.ref d), (.ref al), (.int (f k))])) rfl rfl (hb hby dA_23)
      refine ⟨T6, h, locs, X6, e6, N, K0, by rw [avL, if_neg hc]; exact P, fun t kk => ?_⟩
      show Steps p.tables e below (T.setTop (mkF m 0 #[.val (.ref d)] [])) _
      refine XS.aloadN X.here hx rfl (hb hby dA_0) rfl rfl ?_
      show Steps p.tables e below (T.setTop (mkF m 1 #[.val (.ref d)] [(.ref d)])) _
      refine st2 _ ?_
      show Steps p.tables e below (T2.setTop (mkF m 4 #[.val (.ref d)] [(.int (Int32.ofNat (k + 1)))])) _
      refine XS.ifNo X2.here hx rfl (hb hby dA_4) rfl ((if0 _ _).trans (tlt cc4).2.2.2) ?_
      show Steps p.tables e below (T2.setTop (mkF m 7 #[.val (.ref d)] [])) _
      refine XS.aloadN X2.here hx rfl (hb hby dA_7) rfl rfl ?_
      show Steps p.tables e below (T2.setTop (mkF m 8 #[.val (.ref d)] [(.ref d)])) _
      refine st3 _ ?_
      show Steps p.tables e below (T3.setTop (mkF m 11 #[.val (.ref d)] [(.ref ta)])) _
      refine XS.aloadN X3.here hx rfl (hb hby dA_11) rfl rfl ?_
      show Steps p.tables e below (T3.setTop (mkF m 12 #[.val (.ref d)] [(.ref d), (.ref ta)])) _
      refine st4 _ ?_
      show Steps p.tables e below (T4.setTop (mkF m 15 #[.val (.ref d)] [(.int (Int32.ofNat (k + 1))), (.ref ta)])) _
      refine XS.iconst X4.here hx rfl (hb hby dA_15) ?_
      show Steps p.tables e below (T4.setTop (mkF m 16 #[.val (.ref d)] [(.int (1 : Int32)), (.int (Int32.ofNat (k + 1))), (.ref ta)])) _
      refine XS.isub X4.here hx rfl (hb hby dA_16) rfl ?_
      show Steps p.tables e below (T4.setTop (mkF m 17 #[.val (.ref d)] [(.int ((Int32.ofNat (k + 1)) - (1 : Int32))), (.ref ta)])) _
      refine P.iT.ld X4 hx hZ e4 (i := k) (own_pred k) (show k < 64 by omega) (g := (mkF m 17 #[.val (.ref d)] [(.int ((Int32.ofNat (k + 1)) - (1 : Int32))), (.ref ta)])) rfl rfl (hb hby dA_17) _ ?_
      show Steps p.tables e below (T4.setTop (mkF m 18 #[.val (.ref d)] [(.int (f k))])) _
      refine XS.aloadN X4.here hx rfl (hb hby dA_18) rfl rfl ?_
      show Steps p.tables e below (T4.setTop (mkF m 19 #[.val (.ref d)] [(.ref d), (.int (f k))])) _
      refine st5 _ ?_
      show Steps p.tables e below (T5.setTop (mkF m 22 #[.val (.ref d)] [(.ref al), (.int (f k))])) _
      refine XS.aloadN X5.here hx rfl (hb hby dA_22) rfl rfl ?_
      show Steps p.tables e below (T5.setTop (mkF m 23 #[.val (.ref d)] [(.ref d), (.ref al), (.int (f k))])) _
      refine st6 _ ?_
      show Steps p.tables e below (T6.setTop (mkF m 26 #[.val (.ref d)] [(.int (Int32.ofNat (k + 1))), (.ref al), (.int (f k))])) _
      refine XS.iconst X6.here hx rfl (hb hby dA_26) ?_
      show Steps p.tables e below (T6.setTop (mkF m 27 #[.val (.ref d)] [(.int (1 : Int32)), (.int (Int32.ofNat (k + 1))), (.ref al), (.int (f k))])) _
      refine XS.isub X6.here hx rfl (hb hby dA_27) rfl ?_
      show Steps p.tables e below (T6.setTop (mkF m 28 #[.val (.ref d)] [(.int ((Int32.ofNat (k + 1)) - (1 : Int32))), (.ref al), (.int (f k))])) _
      refine P.iA.ld X6 hx hZ e6 (i := k) (own_pred k) (show k < 64 by omega) (g := (mkF m 28 #[.val (.ref d)] [(.int ((Int32.ofNat (k + 1)) - (1 : Int32))), (.ref al), (.int (f k))])) rfl rfl (hb hby dA_28) _ ?_
      show Steps p.tables e below (T6.setTop (mkF m 29 #[.val (.ref d)] [(.int (g k)), (.int (f k))])) _
      refine XS.iconst X6.here hx rfl (hb hby dA_29) ?_
      show Steps p.tables e below (T6.setTop (mkF m 30 #[.val (.ref d)] [(.int (1 : Int32)), (.int (g k)), (.int (f k))])) _
      refine XS.isub X6.here hx rfl (hb hby dA_30) rfl ?_
      show Steps p.tables e below (T6.setTop (mkF m 31 #[.val (.ref d)] [(.int ((g k) - (1 : Int32))), (.int (f k))])) _
      refine XS.icmpYes X6.here hx rfl (pc0 := 31) (pc' := 47) rfl (hb hby dA_31) rfl (feq hc).2 (by decide) (by decide) ?_
      exact kk
end AvLoop
def QA (Z : State) (d ta al : Addr) (ln : Nat) (f g : Nat → Int32) (h0 : Heap) (n0 : Nat) (v : Option Value) (h : Heap) (L : List Loc) : Prop := v = some (.int (if avL f g ln = 0 then 0 else 1)) ∧ Fr n0 L ∧ Keep h0 h [d, ta, al] ∧ own_DP Z h d ta al (avL f g ln) 0 (avF f g ln) g
set_option maxRecDepth 65536 in
set_option maxHeartbeats 40000000 in
theorem rmA (l : Launch) (Z : State) (a0 : Array Value) (hw : ∀ d ∈ tables_1, d.before a0 Z = true) (ws : List Jvm.Cond) (d ta al : Addr) (ln md : Nat) (f g : Nat → Int32) (h0 : Heap) (n0 : Nat) (P : own_DP Z h0 d ta al ln md f g) (hl : ln ≤ 64) (g_d : n0 ≤ d) (g_ta : n0 ≤ ta) :
    MetFree l (⟨"com/example/nereus/nereus/checker/DecisionPath", "advance", "()Z"⟩ : MethodName) (head1 (Jvm.Cond.code (⟨"com/example/nereus/nereus/checker/DecisionPath", "advance", "()Z"⟩ : MethodName) prog_5_method_4_code 1 (some .boolean) :: ws) ({ frames := 0, cells := 0, slots := 0, locals := 0 } : Room)) (fun a_ U => a_ = #[(.ref d)] ∧ Z.Warmed39 U.vm ∧ U.heap = h0) (fun _ _ _ _ _ => True) (fun _ U o U' => ∃ v L, o = .returned v ∧ QA Z d ta al ln f g h0 n0 v U'.heap L ∧ FrameEnd U o U' L ({ frames := 0, cells := 0, slots := 0, locals := 0 } : Room).cells ({ frames := 0, cells := 0, slots := 0, locals := 0 } : Room).slots) := by
  refine MetFree.of_bodySF (plainFor_of_name pnC) hisR ?_
  intro p e s m args below meth c s₁ Bd hml0 hP hK
  obtain ⟨rfl, hZ, hh⟩ := hP
  have hx := Bd.exec
  have hby := Bd.bytes
  have hml : c.maxLocals = 1 := hml0
  have hown : s.vm.findClass "com/example/nereus/nereus/checker/DecisionPath" = some m.cls := findClass_of_methodNamed Bd.named
  have hnm := (name_of_methodNamed Bd.named Bd.method).1
  have X0 : Stand p l e ({ frames := 0, cells := 0, slots := 0, locals := 0 } : Room) s m #[(.ref d)] below meth c s₁ [] 0 0 := Stand.of_body Bd
  have e0 : s₁.heap = h0 := by rw [← hh, Bd.state]; rfl
  have N0 := Fr.nil n0
  have pre0 : ∀ t_, Steps p.tables e below (s₁.setTop (mkF m 0 #[.val (.ref d)] [])) t_ → Steps p.tables e below (s₁.setTop (entryFrame m #[(.ref d)] 1)) t_ := fun t_ k_ => castTop (efI m d) k_
  have hle := avL_le f g ln
  obtain ⟨T1, h1, L1, X1, e1, N1, K1, P1, st1⟩ := avloop hw hx hby hZ hown g_d ln s₁ [] h0 hl X0 e0 N0 P
  obtain ⟨j, hj⟩ : ∃ j, j = avL f g ln := ⟨_, rfl⟩
  rw [← hj] at P1
  rcases j with _ | j
  · obtain ⟨T2, X2, e2, st2⟩ := getF X1 hx hZ hown (host := "") (Or.inl (hw _ (List.mem_of_getElem? (i := 23) rfl))) Via.refl e1 P1.fL (g := (mkF m 48 #[.val (.ref d)] [(.ref d)])) rfl rfl (hb hby dA_48)
    obtain ⟨T3, h3, X3, e3, W3, st3⟩ := putF X2 hx hZ hown (host := "") (Or.inl (hw _ (List.mem_of_getElem? (i := 25) rfl))) Via.refl e2 P1.fM P1.ex (Or.inl (hw _ (List.mem_of_getElem? (i := 26) rfl))) (hw _ (List.mem_of_getElem? (i := 2) rfl)) (ty := .int) (by decide) rfl rfl (g := (mkF m 71 #[.val (.ref d)] [(.int (0 : Int32)), (.ref d)])) rfl rfl (hb hby dA_71)
    have P3 := P1.putM hw (k := 0) W3
    have N3 := Fr.snoc X3 N1 g_d
    have K3 := K1.wr W3 (Or.inl (by simp))
    obtain ⟨T4, X4, e4, st4⟩ := getF X3 hx hZ hown (host := "") (Or.inl (hw _ (List.mem_of_getElem? (i := 23) rfl))) Via.refl e3 P3.fL (g := (mkF m 75 #[.val (.ref d)] [(.ref d)])) rfl rfl (hb hby dA_75)
    obtain ⟨fs, hr, hrun, hended, hW, hsame⟩ := X4.leave (v := some (.int (0 : Int32))) (fun h => by rw [Bd.returns] at h; cases h)
    refine ⟨_, _, pre0 _ ?_, hrun, hended, _, _, rfl, ?_, ⟨_, rfl⟩, hW, hsame.mono (by decide) (by decide)⟩
    · show Steps p.tables e below (s₁.setTop (mkF m 0 #[.val (.ref d)] [])) _
      refine st1 _ ?_
      show Steps p.tables e below (T1.setTop (mkF m 47 #[.val (.ref d)] [])) _
      refine XS.aloadN X1.here hx rfl (hb hby dA_47) rfl rfl ?_
      show Steps p.tables e below (T1.setTop (mkF m 48 #[.val (.ref d)] [(.ref d)])) _
      refine st2 _ ?_
      show Steps p.tables e below (T2.setTop (mkF m 51 #[.val (.ref d)] [(.int (Int32.ofNat 0))])) _
      refine XS.ifYes X2.here hx rfl (pc0 := 51) (pc' := 69) rfl (hb hby dA_51) rfl ((if0 _ _).trans (flt (show ¬ (0 : Int32) < Int32.ofNat 0 by decide)).2.2.2) (by decide) (by decide) ?_
      show Steps p.tables e below (T2.setTop (mkF m 69 #[.val (.ref d)] [])) _
      refine XS.aloadN X2.here hx rfl (hb hby dA_69) rfl rfl ?_
      show Steps p.tables e below (T2.setTop (mkF m 70 #[.val (.ref d)] [(.ref d)])) _
      refine XS.iconst X2.here hx rfl (hb hby dA_70) ?_
      show Steps p.tables e below (T2.setTop (mkF m 71 #[.val (.ref d)] [(.int (0 : Int32)), (.ref d)])) _
      refine st3 _ ?_
      show Steps p.tables e below (T3.setTop (mkF m 74 #[.val (.ref d)] [])) _
      refine XS.aloadN X3.here hx rfl (hb hby dA_74) rfl rfl ?_
      show Steps p.tables e below (T3.setTop (mkF m 75 #[.val (.ref d)] [(.ref d)])) _
      refine st4 _ ?_
      show Steps p.tables e below (T4.setTop (mkF m 78 #[.val (.ref d)] [(.int (Int32.ofNat 0))])) _
      refine XS.ifYes X4.here hx rfl (pc0 := 78) (pc' := 85) rfl (hb hby dA_78) rfl ((if0 _ _).trans (flt (show ¬ (0 : Int32) < Int32.ofNat 0 by decide)).2.2.2) (by decide) (by decide) ?_
      show Steps p.tables e below (T4.setTop (mkF m 85 #[.val (.ref d)] [])) _
      refine XS.iconst X4.here hx rfl (hb hby dA_85) ?_
      show Steps p.tables e below (T4.setTop (mkF m 86 #[.val (.ref d)] [(.int (0 : Int32))])) _
      exact retN X4 hx (t := .boolean) Bd.returns (by simp) (hb hby dA_86) hr
    · show QA Z d ta al ln f g h0 n0 _ T4.heap _
      rw [e4]
      exact ⟨by rw [← hj]; rfl, N3, K3, by rw [avF, ← hj, if_pos rfl]; exact P3⟩
  · have cc4 : (0 : Int32) < Int32.ofNat (j + 1) := by rw [show (0 : Int32) = Int32.ofNat 0 from rfl, own_lt (by omega) (by omega)]; omega
    obtain ⟨T2, X2, e2, st2⟩ := getF X1 hx hZ hown (host := "") (Or.inl (hw _ (List.mem_of_getElem? (i := 23) rfl))) Via.refl e1 P1.fL (g := (mkF m 48 #[.val (.ref d)] [(.ref d)])) rfl rfl (hb hby dA_48)
    obtain ⟨T3, X3, e3, st3⟩ := getF X2 hx hZ hown (host := "") (Or.inl (hw _ (List.mem_of_getElem? (i := 10) rfl))) Via.refl e2 P1.fT (g := (mkF m 55 #[.val (.ref d)] [(.ref d)])) rfl rfl (hb hby dA_55)
    obtain ⟨T4, X4, e4, st4⟩ := getF X3 hx hZ hown (host := "") (Or.inl (hw _ (List.mem_of_getElem? (i := 23) rfl))) Via.refl e3 P1.fL (g := (mkF m 59 #[.val (.ref d)] [(.ref d), (.ref ta)])) rfl rfl (hb hby dA_59)
    obtain ⟨T5, h5, X5, e5, W5, st5⟩ := P1.iT.st X4 hx hZ e4 (i := j) rfl (show j < 64 by omega) (g := (mkF m 68 #[.val (.ref d)] [(.int ((f j) + (1 : Int32))), (.int (Int32.ofNat j)), (.ref ta)])) rfl rfl (hb hby dA_68)
    have P5 := P1.setT (show j < 64 by omega) W5
    have N5 := Fr.snoc X5 N1 g_ta
    have K5 := K1.wr W5 (Or.inl (by simp))
    obtain ⟨T6, h6, X6, e6, W6, st6⟩ := putF X5 hx hZ hown (host := "") (Or.inl (hw _ (List.mem_of_getElem? (i := 25) rfl))) Via.refl e5 P5.fM P5.ex (Or.inl (hw _ (List.mem_of_getElem? (i := 26) rfl))) (hw _ (List.mem_of_getElem? (i := 2) rfl)) (ty := .int) (by decide) rfl rfl (g := (mkF m 71 #[.val (.ref d)] [(.int (0 : Int32)), (.ref d)])) rfl rfl (hb hby dA_71)
    have P6 := P5.putM hw (k := 0) W6
    have N6 := Fr.snoc X6 N5 g_d
    have K6 := K5.wr W6 (Or.inl (by simp))
    obtain ⟨T7, X7, e7, st7⟩ := getF X6 hx hZ hown (host := "") (Or.inl (hw _ (List.mem_of_getElem? (i := 23) rfl))) Via.refl e6 P6.fL (g := (mkF m 75 #[.val (.ref d)] [(.ref d)])) rfl rfl (hb hby dA_75)
    obtain ⟨fs, hr, hrun, hended, hW, hsame⟩ := X7.leave (v := some (.int (1 : Int32))) (fun h => by rw [Bd.returns] at h; cases h)
    refine ⟨_, _, pre0 _ ?_, hrun, hended, _, _, rfl, ?_, ⟨_, rfl⟩, hW, hsame.mono (by decide) (by decide)⟩
    · show Steps p.tables e below (s₁.setTop (mkF m 0 #[.val (.ref d)] [])) _
      refine st1 _ ?_
      show Steps p.tables e below (T1.setTop (mkF m 47 #[.val (.ref d)] [])) _
      refine XS.aloadN X1.here hx rfl (hb hby dA_47) rfl rfl ?_
      show Steps p.tables e below (T1.setTop (mkF m 48 #[.val (.ref d)] [(.ref d)])) _
      refine st2 _ ?_
      show Steps p.tables e below (T2.setTop (mkF m 51 #[.val (.ref d)] [(.int (Int32.ofNat (j + 1)))])) _
      refine XS.ifNo X2.here hx rfl (hb hby dA_51) rfl ((if0 _ _).trans (tlt cc4).2.2.2) ?_
      show Steps p.tables e below (T2.setTop (mkF m 54 #[.val (.ref d)] [])) _
      refine XS.aloadN X2.here hx rfl (hb hby dA_54) rfl rfl ?_
      show Steps p.tables e below (T2.setTop (mkF m 55 #[.val (.ref d)] [(.ref d)])) _
      refine st3 _ ?_
      show Steps p.tables e below (T3.setTop (mkF m 58 #[.val (.ref d)] [(.ref ta)])) _
      refine XS.aloadN X3.here hx rfl (hb hby dA_58) rfl rfl ?_
      show Steps p.tables e below (T3.setTop (mkF m 59 #[.val (.ref d)] [(.ref d), (.ref ta)])) _
      refine st4 _ ?_
      show Steps p.tables e below (T4.setTop (mkF m 62 #[.val (.ref d)] [(.int (Int32.ofNat (j + 1))), (.ref ta)])) _
      refine XS.iconst X4.here hx rfl (hb hby dA_62) ?_
      show Steps p.tables e below (T4.setTop (mkF m 63 #[.val (.ref d)] [(.int (1 : Int32)), (.int (Int32.ofNat (j + 1))), (.ref ta)])) _
      refine XS.isub X4.here hx rfl (hb hby dA_63) rfl ?_
      show Steps p.tables e below (T4.setTop (mkF m 64 #[.val (.ref d)] [(.int ((Int32.ofNat (j + 1)) - (1 : Int32))), (.ref ta)])) _
      rw [own_pred]
      show Steps p.tables e below (T4.setTop (mkF m 64 #[.val (.ref d)] [(.int (Int32.ofNat j)), (.ref ta)])) _
      jvm_step X4.here [X4.here.top, hx, (hb hby dA_64), Value.category]
      show Steps p.tables e below (T4.setTop (mkF m 65 #[.val (.ref d)] [(.int (Int32.ofNat j)), (.ref ta), (.int (Int32.ofNat j)), (.ref ta)])) _
      refine P1.iT.ld X4 hx hZ e4 (i := j) rfl (show j < 64 by omega) (g := (mkF m 65 #[.val (.ref d)] [(.int (Int32.ofNat j)), (.ref ta), (.int (Int32.ofNat j)), (.ref ta)])) rfl rfl (hb hby dA_65) _ ?_
      show Steps p.tables e below (T4.setTop (mkF m 66 #[.val (.ref d)] [(.int (f j)), (.int (Int32.ofNat j)), (.ref ta)])) _
      refine XS.iconst X4.here hx rfl (hb hby dA_66) ?_
      show Steps p.tables e below (T4.setTop (mkF m 67 #[.val (.ref d)] [(.int (1 : Int32)), (.int (f j)), (.int (Int32.ofNat j)), (.ref ta)])) _
      refine XS.iadd X4.here hx rfl (hb hby dA_67) rfl ?_
      show Steps p.tables e below (T4.setTop (mkF m 68 #[.val (.ref d)] [(.int ((f j) + (1 : Int32))), (.int (Int32.ofNat j)), (.ref ta)])) _
      refine st5 _ ?_
      show Steps p.tables e below (T5.setTop (mkF m 69 #[.val (.ref d)] [])) _
      refine XS.aloadN X5.here hx rfl (hb hby dA_69) rfl rfl ?_
      show Steps p.tables e below (T5.setTop (mkF m 70 #[.val (.ref d)] [(.ref d)])) _
      refine XS.iconst X5.here hx rfl (hb hby dA_70) ?_
      show Steps p.tables e below (T5.setTop (mkF m 71 #[.val (.ref d)] [(.int (0 : Int32)), (.ref d)])) _
      refine st6 _ ?_
      show Steps p.tables e below (T6.setTop (mkF m 74 #[.val (.ref d)] [])) _
      refine XS.aloadN X6.here hx rfl (hb hby dA_74) rfl rfl ?_
      show Steps p.tables e below (T6.setTop (mkF m 75 #[.val (.ref d)] [(.ref d)])) _
      refine st7 _ ?_
      show Steps p.tables e below (T7.setTop (mkF m 78 #[.val (.ref d)] [(.int (Int32.ofNat (j + 1)))])) _
      refine XS.ifNo X7.here hx rfl (hb hby dA_78) rfl ((if0 _ _).trans (tlt cc4).2.2.2) ?_
      show Steps p.tables e below (T7.setTop (mkF m 81 #[.val (.ref d)] [])) _
      refine XS.iconst X7.here hx rfl (hb hby dA_81) ?_
      show Steps p.tables e below (T7.setTop (mkF m 82 #[.val (.ref d)] [(.int (1 : Int32))])) _
      refine XS.goto X7.here hx rfl (pc0 := 82) (pc' := 86) rfl (hb hby dA_82) (by decide) (by decide) ?_
      show Steps p.tables e below (T7.setTop (mkF m 86 #[.val (.ref d)] [(.int (1 : Int32))])) _
      exact retN X7 hx (t := .boolean) Bd.returns (by simp) (hb hby dA_86) hr
    · show QA Z d ta al ln f g h0 n0 _ T7.heap _
      rw [e7]
      exact ⟨by rw [← hj, if_neg (Nat.succ_ne_zero j)], N6, K6, by rw [avF, ← hj, if_neg (Nat.succ_ne_zero j), Nat.add_sub_cancel]; exact P6⟩
section RunSegs
variable {p : Program} {l : Launch} {e : Env} {R : Room} {s : State} {m : MethodId} {args : Array Value} {below : List Frame} {meth : Method} {c : Code} {T : State} {locs : List Loc} {cells slots : Nat} {Z : State} {a0 : Array Value} {n0 : Nat}
set_option maxRecDepth 65536 in
set_option maxHeartbeats 40000000 in
theorem rseg0 (hw : ∀ d ∈ tables_1, d.before a0 Z = true) (hx : p.tables.exec = Jvm.exec) (hby : c.code = method_3_code) (hml : c.maxLocals = 6) (hZ : Z.Warmed39 s.vm) (hown : s.vm.findClass "com/example/nereus/nereus/checker/DecisionPathAdvancePinLaw" = some m.cls) {d ta al ou : Addr} {n c1 c2 c3 : Int32} {q : Nat × Nat × (Nat → Int32) × (Nat → Int32) × (Nat → Int32)} {h : Heap} (X : Stand p l e ({ frames := 1, cells := 0, slots := 0, locals := 15 } : Room) s m args below meth c T locs 0 0) (eT : T.heap = h) (N : Fr n0 locs)
    (hS : own_D5 Z h d ta al ou q) (hok : ok5 60 q) (g_d : n0 ≤ d) (g_ta : n0 ≤ ta) (g_al : n0 ≤ al) (g_ou : n0 ≤ ou) (n1 : d ≠ ou) (n2 : ta ≠ ou) (n3 : al ≠ ou) :
    ∃ T' h' locs', Stand p l e ({ frames := 1, cells := 0, slots := 0, locals := 15 } : Room) s m args below meth c T' locs' 0 0 ∧ T'.heap = h' ∧ Fr n0 locs' ∧ Keep h h' [d, ta, al, ou] ∧ own_D5 Z h' d ta al ou (rn5 n 0 c1 (1 : Int32) q) ∧
      ∀ t, Steps p.tables e below (T'.setTop (mkF m 13 #[.val (.ref d), .val (.ref ou), .val (.int n), .val (.int c1), .val (.int c2), .val (.int c3)] [])) t → Steps p.tables e below (T.setTop (mkF m 0 #[.val (.ref d), .val (.ref ou), .val (.int n), .val (.int c1), .val (.int c2), .val (.int c3)] [])) t := by
  by_cases hn : n < (1 : Int32)
  · refine ⟨T, h, locs, X, eT, N, Keep.refl _ _, by rw [rn5, if_pos hn]; exact hS, fun t kk => ?_⟩
    show Steps p.tables e below (T.setTop (mkF m 0 #[.val (.ref d), .val (.ref ou), .val (.int n), .val (.int c1), .val (.int c2), .val (.int c3)] [])) _
    refine XS.iloadN X.here hx rfl (hb hby dR_0) rfl ?_
    show Steps p.tables e below (T.setTop (mkF m 1 #[.val (.ref d), .val (.ref ou), .val (.int n), .val (.int c1), .val (.int c2), .val (.int c3)] [(.int n)])) _
    refine XS.iconst X.here hx rfl (hb hby dR_1) ?_
    show Steps p.tables e below (T.setTop (mkF m 2 #[.val (.ref d), .val (.ref ou), .val (.int n), .val (.int c1), .val (.int c2), .val (.int c3)] [(.int (1 : Int32)), (.int n)])) _
    refine XS.icmpYes X.here hx rfl (pc0 := 2) (pc' := 13) rfl (hb hby dR_2) rfl (tlt hn).1 (by decide) (by decide) ?_
    exact kk
  · obtain ⟨cq2, kq2, q2a, q2b, q2c⟩ := isOf hZ eT hS.1.ex
    obtain ⟨_, _, ⟨T2, L2, k2, n2⟩, -, X2, ⟨Lc2, hQ2, l2, y2, z2⟩, st2⟩ := X.virtualBack hx (y := (⟨"com/example/nereus/nereus/checker/DecisionPath", "decide", "(I)I"⟩ : MethodName)) (z := (⟨"com/example/nereus/nereus/checker/DecisionPath", "decide", "(I)I"⟩ : MethodName)) hown (mvT hZ (hw _ (List.mem_of_getElem? (i := 30) rfl))) (mvT hZ (hw _ (List.mem_of_getElem? (i := 31) rfl))) (notFace_of_selects (args := #[]) (mvT hZ (hw _ (List.mem_of_getElem? (i := 33) rfl)))) (mvT hZ (hw _ (List.mem_of_getElem? (i := 33) rfl))) (mvT hZ (hw _ (List.mem_of_getElem? (i := 32) rfl))) (by decide) (backOf (W := 2) (rmD l Z a0 hw [] d ta al c1 q.1 q.2.1 q.2.2.1 q.2.2.2.1 h n0 hS.1 hok.1 (Nat.lt_of_le_of_lt hok.2 (by decide)) g_d g_ta g_al) hZ (hw _ (List.mem_of_getElem? (i := 34) rfl)) (hw _ (List.mem_of_getElem? (i := 3) rfl)) (by decide) (by decide)) q2a q2c (g := (mkF m 9 #[.val (.ref d), .val (.ref ou), .val (.int n), .val (.int c1), .val (.int c2), .val (.int c3)] [(.int c1), (.ref d), (.int (0 : Int32)), (.ref ou)])) rfl (by rw [hml]; rfl) (Steps.refl _) (argsL := [(.int c1)]) (rest := [(.int (0 : Int32)), (.ref ou)]) (lenOf pdD rfl) rfl (by show 2 * 0 + _ ≤ _; exact Nat.le_of_eq rfl) (hb hby dR_9) (fun _ _ => ⟨rfl, eT, (by decide : 0 + 0 ≤ _), (by decide : 0 + 0 ≤ _)⟩)
    dsimp only [Pt.U, Pt.locs, Pt.cells, Pt.slots] at X2 l2 y2 z2 st2 hQ2
    subst l2 y2 z2
    obtain ⟨rfl, N2q, K2, P2⟩ := hQ2
    have N2 := Fr.app N N2q
    have I2 := hS.2.keep K2 (ninS (Ne.symm n1) (ninS (Ne.symm n2) (ninS (Ne.symm n3) nin0)))
    have K2b := (Keep.refl h [d, ta, al, ou]).trans K2 (fun y hy => Or.inl (own_mem4 hy))
    obtain ⟨T3, h3, X3, e3, W3, st3⟩ := I2.st X2 hx hZ rfl (i := 0) rfl (by decide) (g := (mkF m 12 #[.val (.ref d), .val (.ref ou), .val (.int n), .val (.int c1), .val (.int c2), .val (.int c3)] [(.int (dcF q.1 q.2.1 q.2.2.1 q.2.1)), (.int (0 : Int32)), (.ref ou)])) rfl rfl (hb hby dR_12)
    refine ⟨T3, h3, _, X3, e3, Fr.snoc X3 N2 g_ou, K2b.wr W3 (Or.inl (by simp)), by rw [rn5, if_neg hn]; exact ⟨P2.wrO W3 n1 n2 n3, I2.same (by decide) W3⟩, fun t kk => ?_⟩
    show Steps p.tables e below (T.setTop (mkF m 0 #[.val (.ref d), .val (.ref ou), .val (.int n), .val (.int c1), .val (.int c2), .val (.int c3)] [])) _
    refine XS.iloadN X.here hx rfl (hb hby dR_0) rfl ?_
    show Steps p.tables e below (T.setTop (mkF m 1 #[.val (.ref d), .val (.ref ou), .val (.int n), .val (.int c1), .val (.int c2), .val (.int c3)] [(.int n)])) _
    refine XS.iconst X.here hx rfl (hb hby dR_1) ?_
    show Steps p.tables e below (T.setTop (mkF m 2 #[.val (.ref d), .val (.ref ou), .val (.int n), .val (.int c1), .val (.int c2), .val (.int c3)] [(.int (1 : Int32)), (.int n)])) _
    refine XS.icmpNo X.here hx rfl (hb hby dR_2) rfl (flt hn).1 ?_
    show Steps p.tables e below (T.setTop (mkF m 5 #[.val (.ref d), .val (.ref ou), .val (.int n), .val (.int c1), .val (.int c2), .val (.int c3)] [])) _
    refine XS.aloadN X.here hx rfl (hb hby dR_5) rfl rfl ?_
    show Steps p.tables e below (T.setTop (mkF m 6 #[.val (.ref d), .val (.ref ou), .val (.int n), .val (.int c1), .val (.int c2), .val (.int c3)] [(.ref ou)])) _
    refine XS.iconst X.here hx rfl (hb hby dR_6) ?_
    show Steps p.tables e below (T.setTop (mkF m 7 #[.val (.ref d), .val (.ref ou), .val (.int n), .val (.int c1), .val (.int c2), .val (.int c3)] [(.int (0 : Int32)), (.ref ou)])) _
    refine XS.aloadN X.here hx rfl (hb hby dR_7) rfl rfl ?_
    show Steps p.tables e below (T.setTop (mkF m 8 #[.val (.ref d), .val (.ref ou), .val (.int n), .val (.int c1), .val (.int c2), .val (.int c3)] [(.ref d), (.int (0 : Int32)), (.ref ou)])) _
    refine XS.iloadN X.here hx rfl (hb hby dR_8) rfl ?_
    show Steps p.tables e below (T.setTop (mkF m 9 #[.val (.ref d), .val (.ref ou), .val (.int n), .val (.int c1), .val (.int c2), .val (.int c3)] [(.int c1), (.ref d), (.int (0 : Int32)), (.ref ou)])) _
    refine st2.trans ?_
    show Steps p.tables e below (T2.setTop (mkF m 12 #[.val (.ref d), .val (.ref ou), .val (.int n), .val (.int c1), .val (.int c2), .val (.int c3)] [(.int (dcF q.1 q.2.1 q.2.2.1 q.2.1)), (.int (0 : Int32)), (.ref ou)])) _
    refine st3 _ ?_
    exact kk
set_option maxRecDepth 65536 in
set_option maxHeartbeats 40000000 in
theorem rseg1 (hw : ∀ d ∈ tables_1, d.before a0 Z = true) (hx : p.tables.exec = Jvm.exec) (hby : c.code = method_3_code) (hml : c.maxLocals = 6) (hZ : Z.Warmed39 s.vm) (hown : s.vm.findClass "com/example/nereus/nereus/checker/DecisionPathAdvancePinLaw" = some m.cls) {d ta al ou : Addr} {n c1 c2 c3 : Int32} {q : Nat × Nat × (Nat → Int32) × (Nat → Int32) × (Nat → Int32)} {h : Heap} (X : Stand p l e ({ frames := 1, cells := 0, slots := 0, locals := 15 } : Room) s m args below meth c T locs 0 0) (eT : T.heap = h) (N : Fr n0 locs)
    (hS : own_D5 Z h d ta al ou q) (hok : ok5 60 q) (g_d : n0 ≤ d) (g_ta : n0 ≤ ta) (g_al : n0 ≤ al) (g_ou : n0 ≤ ou) (n1 : d ≠ ou) (n2 : ta ≠ ou) (n3 : al ≠ ou) :
    ∃ T' h' locs', Stand p l e ({ frames := 1, cells := 0, slots := 0, locals := 15 } : Room) s m args below meth c T' locs' 0 0 ∧ T'.heap = h' ∧ Fr n0 locs' ∧ Keep h h' [d, ta, al, ou] ∧ own_D5 Z h' d ta al ou (rn5 n 1 c2 (2 : Int32) q) ∧
      ∀ t, Steps p.tables e below (T'.setTop (mkF m 27 #[.val (.ref d), .val (.ref ou), .val (.int n), .val (.int c1), .val (.int c2), .val (.int c3)] [])) t → Steps p.tables e below (T.setTop (mkF m 13 #[.val (.ref d), .val (.ref ou), .val (.int n), .val (.int c1), .val (.int c2), .val (.int c3)] [])) t := by
  by_cases hn : n < (2 : Int32)
  · refine ⟨T, h, locs, X, eT, N, Keep.refl _ _, by rw [rn5, if_pos hn]; exact hS, fun t kk => ?_⟩
    show Steps p.tables e below (T.setTop (mkF m 13 #[.val (.ref d), .val (.ref ou), .val (.int n), .val (.int c1), .val (.int c2), .val (.int c3)] [])) _
    refine XS.iloadN X.here hx rfl (hb hby dR_13) rfl ?_
    show Steps p.tables e below (T.setTop (mkF m 14 #[.val (.ref d), .val (.ref ou), .val (.int n), .val (.int c1), .val (.int c2), .val (.int c3)] [(.int n)])) _
    refine XS.iconst X.here hx rfl (hb hby dR_14) ?_
    show Steps p.tables e below (T.setTop (mkF m 15 #[.val (.ref d), .val (.ref ou), .val (.int n), .val (.int c1), .val (.int c2), .val (.int c3)] [(.int (2 : Int32)), (.int n)])) _
    refine XS.icmpYes X.here hx rfl (pc0 := 15) (pc' := 27) rfl (hb hby dR_15) rfl (tlt hn).1 (by decide) (by decide) ?_
    exact kk
  · obtain ⟨cq2, kq2, q2a, q2b, q2c⟩ := isOf hZ eT hS.1.ex
    obtain ⟨_, _, ⟨T2, L2, k2, n2⟩, -, X2, ⟨Lc2, hQ2, l2, y2, z2⟩, st2⟩ := X.virtualBack hx (y := (⟨"com/example/nereus/nereus/checker/DecisionPath", "decide", "(I)I"⟩ : MethodName)) (z := (⟨"com/example/nereus/nereus/checker/DecisionPath", "decide", "(I)I"⟩ : MethodName)) hown (mvT hZ (hw _ (List.mem_of_getElem? (i := 30) rfl))) (mvT hZ (hw _ (List.mem_of_getElem? (i := 31) rfl))) (notFace_of_selects (args := #[]) (mvT hZ (hw _ (List.mem_of_getElem? (i := 33) rfl)))) (mvT hZ (hw _ (List.mem_of_getElem? (i := 33) rfl))) (mvT hZ (hw _ (List.mem_of_getElem? (i := 32) rfl))) (by decide) (backOf (W := 2) (rmD l Z a0 hw [] d ta al c2 q.1 q.2.1 q.2.2.1 q.2.2.2.1 h n0 hS.1 hok.1 (Nat.lt_of_le_of_lt hok.2 (by decide)) g_d g_ta g_al) hZ (hw _ (List.mem_of_getElem? (i := 34) rfl)) (hw _ (List.mem_of_getElem? (i := 3) rfl)) (by decide) (by decide)) q2a q2c (g := (mkF m 23 #[.val (.ref d), .val (.ref ou), .val (.int n), .val (.int c1), .val (.int c2), .val (.int c3)] [(.int c2), (.ref d), (.int (1 : Int32)), (.ref ou)])) rfl (by rw [hml]; rfl) (Steps.refl _) (argsL := [(.int c2)]) (rest := [(.int (1 : Int32)), (.ref ou)]) (lenOf pdD rfl) rfl (by show 2 * 0 + _ ≤ _; exact Nat.le_of_eq rfl) (hb hby dR_23) (fun _ _ => ⟨rfl, eT, (by decide : 0 + 0 ≤ _), (by decide : 0 + 0 ≤ _)⟩)
    dsimp only [Pt.U, Pt.locs, Pt.cells, Pt.slots] at X2 l2 y2 z2 st2 hQ2
    subst l2 y2 z2
    obtain ⟨rfl, N2q, K2, P2⟩ := hQ2
    have N2 := Fr.app N N2q
    have I2 := hS.2.keep K2 (ninS (Ne.symm n1) (ninS (Ne.symm n2) (ninS (Ne.symm n3) nin0)))
    have K2b := (Keep.refl h [d, ta, al, ou]).trans K2 (fun y hy => Or.inl (own_mem4 hy))
    obtain ⟨T3, h3, X3, e3, W3, st3⟩ := I2.st X2 hx hZ rfl (i := 1) rfl (by decide) (g := (mkF m 26 #[.val (.ref d), .val (.ref ou), .val (.int n), .val (.int c1), .val (.int c2), .val (.int c3)] [(.int (dcF q.1 q.2.1 q.2.2.1 q.2.1)), (.int (1 : Int32)), (.ref ou)])) rfl rfl (hb hby dR_26)
    refine ⟨T3, h3, _, X3, e3, Fr.snoc X3 N2 g_ou, K2b.wr W3 (Or.inl (by simp)), by rw [rn5, if_neg hn]; exact ⟨P2.wrO W3 n1 n2 n3, I2.same (by decide) W3⟩, fun t kk => ?_⟩
    show Steps p.tables e below (T.setTop (mkF m 13 #[.val (.ref d), .val (.ref ou), .val (.int n), .val (.int c1), .val (.int c2), .val (.int c3)] [])) _
    refine XS.iloadN X.here hx rfl (hb hby dR_13) rfl ?_
    show Steps p.tables e below (T.setTop (mkF m 14 #[.val (.ref d), .val (.ref ou), .val (.int n), .val (.int c1), .val (.int c2), .val (.int c3)] [(.int n)])) _
    refine XS.iconst X.here hx rfl (hb hby dR_14) ?_
    show Steps p.tables e below (T.setTop (mkF m 15 #[.val (.ref d), .val (.ref ou), .val (.int n), .val (.int c1), .val (.int c2), .val (.int c3)] [(.int (2 : Int32)), (.int n)])) _
    refine XS.icmpNo X.here hx rfl (hb hby dR_15) rfl (flt hn).1 ?_
    show Steps p.tables e below (T.setTop (mkF m 18 #[.val (.ref d), .val (.ref ou), .val (.int n), .val (.int c1), .val (.int c2), .val (.int c3)] [])) _
    refine XS.aloadN X.here hx rfl (hb hby dR_18) rfl rfl ?_
    show Steps p.tables e below (T.setTop (mkF m 19 #[.val (.ref d), .val (.ref ou), .val (.int n), .val (.int c1), .val (.int c2), .val (.int c3)] [(.ref ou)])) _
    refine XS.iconst X.here hx rfl (hb hby dR_19) ?_
    show Steps p.tables e below (T.setTop (mkF m 20 #[.val (.ref d), .val (.ref ou), .val (.int n), .val (.int c1), .val (.int c2), .val (.int c3)] [(.int (1 : Int32)), (.ref ou)])) _
    refine XS.aloadN X.here hx rfl (hb hby dR_20) rfl rfl ?_
    show Steps p.tables e below (T.setTop (mkF m 21 #[.val (.ref d), .val (.ref ou), .val (.int n), .val (.int c1), .val (.int c2), .val (.int c3)] [(.ref d), (.int (1 : Int32)), (.ref ou)])) _
    refine XS.iload X.here hx rfl (hb hby dR_21) rfl ?_
    show Steps p.tables e below (T.setTop (mkF m 23 #[.val (.ref d), .val (.ref ou), .val (.int n), .val (.int c1), .val (.int c2), .val (.int c3)] [(.int c2), (.ref d), (.int (1 : Int32)), (.ref ou)])) _
    refine st2.trans ?_
    show Steps p.tables e below (T2.setTop (mkF m 26 #[.val (.ref d), .val (.ref ou), .val (.int n), .val (.int c1), .val (.int c2), .val (.int c3)] [(.int (dcF q.1 q.2.1 q.2.2.1 q.2.1)), (.int (1 : Int32)), (.ref ou)])) _
    refine st3 _ ?_
    exact kk
set_option maxRecDepth 65536 in
set_option maxHeartbeats 40000000 in
theorem rseg2 (hw : ∀ d ∈ tables_1, d.before a0 Z = true) (hx : p.tables.exec = Jvm.exec) (hby : c.code = method_3_code) (hml : c.maxLocals = 6) (hZ : Z.Warmed39 s.vm) (hown : s.vm.findClass "com/example/nereus/nereus/checker/DecisionPathAdvancePinLaw" = some m.cls) {d ta al ou : Addr} {n c1 c2 c3 : Int32} {q : Nat × Nat × (Nat → Int32) × (Nat → Int32) × (Nat → Int32)} {h : Heap} (X : Stand p l e ({ frames := 1, cells := 0, slots := 0, locals := 15 } : Room) s m args below meth c T locs 0 0) (eT : T.heap = h) (N : Fr n0 locs)
    (hS : own_D5 Z h d ta al ou q) (hok : ok5 60 q) (g_d : n0 ≤ d) (g_ta : n0 ≤ ta) (g_al : n0 ≤ al) (g_ou : n0 ≤ ou) (n1 : d ≠ ou) (n2 : ta ≠ ou) (n3 : al ≠ ou) :
    ∃ T' h' locs', Stand p l e ({ frames := 1, cells := 0, slots := 0, locals := 15 } : Room) s m args below meth c T' locs' 0 0 ∧ T'.heap = h' ∧ Fr n0 locs' ∧ Keep h h' [d, ta, al, ou] ∧ own_D5 Z h' d ta al ou (rn5 n 2 c3 (3 : Int32) q) ∧
      ∀ t, Steps p.tables e below (T'.setTop (mkF m 41 #[.val (.ref d), .val (.ref ou), .val (.int n), .val (.int c1), .val (.int c2), .val (.int c3)] [])) t → Steps p.tables e below (T.setTop (mkF m 27 #[.val (.ref d), .val (.ref ou), .val (.int n), .val (.int c1), .val (.int c2), .val (.int c3)] [])) t := by
  by_cases hn : n < (3 : Int32)
  · refine ⟨T, h, locs, X, eT, N, Keep.refl _ _, by rw [rn5, if_pos hn]; exact hS, fun t kk => ?_⟩
    show Steps p.tables e below (T.setTop (mkF m 27 #[.val (.ref d), .val (.ref ou), .val (.int n), .val (.int c1), .val (.int c2), .val (.int c3)] [])) _
    refine XS.iloadN X.here hx rfl (hb hby dR_27) rfl ?_
    show Steps p.tables e below (T.setTop (mkF m 28 #[.val (.ref d), .val (.ref ou), .val (.int n), .val (.int c1), .val (.int c2), .val (.int c3)] [(.int n)])) _
    refine XS.iconst X.here hx rfl (hb hby dR_28) ?_
    show Steps p.tables e below (T.setTop (mkF m 29 #[.val (.ref d), .val (.ref ou), .val (.int n), .val (.int c1), .val (.int c2), .val (.int c3)] [(.int (3 : Int32)), (.int n)])) _
    refine XS.icmpYes X.here hx rfl (pc0 := 29) (pc' := 41) rfl (hb hby dR_29) rfl (tlt hn).1 (by decide) (by decide) ?_
    exact kk
  · obtain ⟨cq2, kq2, q2a, q2b, q2c⟩ := isOf hZ eT hS.1.ex
    obtain ⟨_, _, ⟨T2, L2, k2, n2⟩, -, X2, ⟨Lc2, hQ2, l2, y2, z2⟩, st2⟩ := X.virtualBack hx (y := (⟨"com/example/nereus/nereus/checker/DecisionPath", "decide", "(I)I"⟩ : MethodName)) (z := (⟨"com/example/nereus/nereus/checker/DecisionPath", "decide", "(I)I"⟩ : MethodName)) hown (mvT hZ (hw _ (List.mem_of_getElem? (i := 30) rfl))) (mvT hZ (hw _ (List.mem_of_getElem? (i := 31) rfl))) (notFace_of_selects (args := #[]) (mvT hZ (hw _ (List.mem_of_getElem? (i := 33) rfl)))) (mvT hZ (hw _ (List.mem_of_getElem? (i := 33) rfl))) (mvT hZ (hw _ (List.mem_of_getElem? (i := 32) rfl))) (by decide) (backOf (W := 2) (rmD l Z a0 hw [] d ta al c3 q.1 q.2.1 q.2.2.1 q.2.2.2.1 h n0 hS.1 hok.1 (Nat.lt_of_le_of_lt hok.2 (by decide)) g_d g_ta g_al) hZ (hw _ (List.mem_of_getElem? (i := 34) rfl)) (hw _ (List.mem_of_getElem? (i := 3) rfl)) (by decide) (by decide)) q2a q2c (g := (mkF m 37 #[.val (.ref d), .val (.ref ou), .val (.int n), .val (.int c1), .val (.int c2), .val (.int c3)] [(.int c3), (.ref d), (.int (2 : Int32)), (.ref ou)])) rfl (by rw [hml]; rfl) (Steps.refl _) (argsL := [(.int c3)]) (rest := [(.int (2 : Int32)), (.ref ou)]) (lenOf pdD rfl) rfl (by show 2 * 0 + _ ≤ _; exact Nat.le_of_eq rfl) (hb hby dR_37) (fun _ _ => ⟨rfl, eT, (by decide : 0 + 0 ≤ _), (by decide : 0 + 0 ≤ _)⟩)
    dsimp only [Pt.U, Pt.locs, Pt.cells, Pt.slots] at X2 l2 y2 z2 st2 hQ2
    subst l2 y2 z2
    obtain ⟨rfl, N2q, K2, P2⟩ := hQ2
    have N2 := Fr.app N N2q
    have I2 := hS.2.keep K2 (ninS (Ne.symm n1) (ninS (Ne.symm n2) (ninS (Ne.symm n3) nin0)))
    have K2b := (Keep.refl h [d, ta, al, ou]).trans K2 (fun y hy => Or.inl (own_mem4 hy))
    obtain ⟨T3, h3, X3, e3, W3, st3⟩ := I2.st X2 hx hZ rfl (i := 2) rfl (by decide) (g := (mkF m 40 #[.val (.ref d), .val (.ref ou), .val (.int n), .val (.int c1), .val (.int c2), .val (.int c3)] [(.int (dcF q.1 q.2.1 q.2.2.1 q.2.1)), (.int (2 : Int32)), (.ref ou)])) rfl rfl (hb hby dR_40)
    refine ⟨T3, h3, _, X3, e3, Fr.snoc X3 N2 g_ou, K2b.wr W3 (Or.inl (by simp)), by rw [rn5, if_neg hn]; exact ⟨P2.wrO W3 n1 n2 n3, I2.same (by decide) W3⟩, fun t kk => ?_⟩
    show Steps p.tables e below (T.setTop (mkF m 27 #[.val (.ref d), .val (.ref ou), .val (.int n), .val (.int c1), .val (.int c2), .val (.int c3)] [])) _
    refine XS.iloadN X.here hx rfl (hb hby dR_27) rfl ?_
    show Steps p.tables e below (T.setTop (mkF m 28 #[.val (.ref d), .val (.ref ou), .val (.int n), .val (.int c1), .val (.int c2), .val (.int c3)] [(.int n)])) _
    refine XS.iconst X.here hx rfl (hb hby dR_28) ?_
    show Steps p.tables e below (T.setTop (mkF m 29 #[.val (.ref d), .val (.ref ou), .val (.int n), .val (.int c1), .val (.int c2), .val (.int c3)] [(.int (3 : Int32)), (.int n)])) _
    refine XS.icmpNo X.here hx rfl (hb hby dR_29) rfl (flt hn).1 ?_
    show Steps p.tables e below (T.setTop (mkF m 32 #[.val (.ref d), .val (.ref ou), .val (.int n), .val (.int c1), .val (.int c2), .val (.int c3)] [])) _
    refine XS.aloadN X.here hx rfl (hb hby dR_32) rfl rfl ?_
    show Steps p.tables e below (T.setTop (mkF m 33 #[.val (.ref d), .val (.ref ou), .val (.int n), .val (.int c1), .val (.int c2), .val (.int c3)] [(.ref ou)])) _
    refine XS.iconst X.here hx rfl (hb hby dR_33) ?_
    show Steps p.tables e below (T.setTop (mkF m 34 #[.val (.ref d), .val (.ref ou), .val (.int n), .val (.int c1), .val (.int c2), .val (.int c3)] [(.int (2 : Int32)), (.ref ou)])) _
    refine XS.aloadN X.here hx rfl (hb hby dR_34) rfl rfl ?_
    show Steps p.tables e below (T.setTop (mkF m 35 #[.val (.ref d), .val (.ref ou), .val (.int n), .val (.int c1), .val (.int c2), .val (.int c3)] [(.ref d), (.int (2 : Int32)), (.ref ou)])) _
    refine XS.iload X.here hx rfl (hb hby dR_35) rfl ?_
    show Steps p.tables e below (T.setTop (mkF m 37 #[.val (.ref d), .val (.ref ou), .val (.int n), .val (.int c1), .val (.int c2), .val (.int c3)] [(.int c3), (.ref d), (.int (2 : Int32)), (.ref ou)])) _
    refine st2.trans ?_
    show Steps p.tables e below (T2.setTop (mkF m 40 #[.val (.ref d), .val (.ref ou), .val (.int n), .val (.int c1), .val (.int c2), .val (.int c3)] [(.int (dcF q.1 q.2.1 q.2.2.1 q.2.1)), (.int (2 : Int32)), (.ref ou)])) _
    refine st3 _ ?_
    exact kk
end RunSegs
def rnA (n c1 c2 c3 : Int32) (q : Nat × Nat × (Nat → Int32) × (Nat → Int32) × (Nat → Int32)) : Nat × Nat × (Nat → Int32) × (Nat → Int32) × (Nat → Int32) := rn5 n 2 c3 (3 : Int32) (rn5 n 1 c2 (2 : Int32) (rn5 n 0 c1 (1 : Int32) q))
theorem rnA_ok {n c1 c2 c3 : Int32} {b : Nat} {q : Nat × Nat × (Nat → Int32) × (Nat → Int32) × (Nat → Int32)} (h : ok5 b q) : ok5 (b + 3) (rnA n c1 c2 c3 q) := rn5_ok (rn5_ok (rn5_ok h))
def QR (Z : State) (d ta al ou : Addr) (n c1 c2 c3 : Int32) (q : Nat × Nat × (Nat → Int32) × (Nat → Int32) × (Nat → Int32)) (h0 : Heap) (n0 : Nat) (v : Option Value) (h : Heap) (L : List Loc) : Prop := v = none ∧ Fr n0 L ∧ Keep h0 h [d, ta, al, ou] ∧ own_D5 Z h d ta al ou (rnA n c1 c2 c3 q)
set_option maxRecDepth 65536 in
set_option maxHeartbeats 40000000 in
theorem rmR (l : Launch) (Z : State) (a0 : Array Value) (hw : ∀ d ∈ tables_1, d.before a0 Z = true) (ws : List Jvm.Cond) (d ta al ou : Addr) (n c1 c2 c3 : Int32) (q : Nat × Nat × (Nat → Int32) × (Nat → Int32) × (Nat → Int32)) (h0 : Heap) (n0 : Nat) (hS : own_D5 Z h0 d ta al ou q) (hok : ok5 50 q) (g_d : n0 ≤ d) (g_ta : n0 ≤ ta) (g_al : n0 ≤ al) (g_ou : n0 ≤ ou) (n1 : d ≠ ou) (n2 : ta ≠ ou) (n3 : al ≠ ou) :
    MetFree l (⟨"com/example/nereus/nereus/checker/DecisionPathAdvancePinLaw", "run", "(Lcom/example/nereus/nereus/checker/DecisionPath;[IIIII)V"⟩ : MethodName) (head1 (Jvm.Cond.code (⟨"com/example/nereus/nereus/checker/DecisionPathAdvancePinLaw", "run", "(Lcom/example/nereus/nereus/checker/DecisionPath;[IIIII)V"⟩ : MethodName) method_3_code 6 none :: ws) ({ frames := 1, cells := 0, slots := 0, locals := 15 } : Room)) (fun a_ U => a_ = #[(.ref d), (.ref ou), (.int n), (.int c1), (.int c2), (.int c3)] ∧ Z.Warmed39 U.vm ∧ U.heap = h0) (fun _ _ _ _ _ => True) (fun _ U o U' => ∃ v L, o = .returned v ∧ QR Z d ta al ou n c1 c2 c3 q h0 n0 v U'.heap L ∧ FrameEnd U o U' L ({ frames := 1, cells := 0, slots := 0, locals := 15 } : Room).cells ({ frames := 1, cells := 0, slots := 0, locals := 15 } : Room).slots) := by
  refine MetFree.of_bodySF (plainFor_of_name pnL) hisR ?_
  intro p e s m args below meth c s₁ Bd hml0 hP hK
  obtain ⟨rfl, hZ, hh⟩ := hP
  have hx := Bd.exec
  have hby := Bd.bytes
  have hml : c.maxLocals = 6 := hml0
  have hown : s.vm.findClass "com/example/nereus/nereus/checker/DecisionPathAdvancePinLaw" = some m.cls := findClass_of_methodNamed Bd.named
  have hnm := (name_of_methodNamed Bd.named Bd.method).1
  have X0 : Stand p l e ({ frames := 1, cells := 0, slots := 0, locals := 15 } : Room) s m #[(.ref d), (.ref ou), (.int n), (.int c1), (.int c2), (.int c3)] below meth c s₁ [] 0 0 := Stand.of_body Bd
  have e0 : s₁.heap = h0 := by rw [← hh, Bd.state]; rfl
  have N0 := Fr.nil n0
  have pre0 : ∀ t_, Steps p.tables e below (s₁.setTop (mkF m 0 #[.val (.ref d), .val (.ref ou), .val (.int n), .val (.int c1), .val (.int c2), .val (.int c3)] [])) t_ → Steps p.tables e below (s₁.setTop (entryFrame m #[(.ref d), (.ref ou), (.int n), (.int c1), (.int c2), (.int c3)] 6)) t_ := fun t_ k_ => castTop (efR m d ou n c1 c2 c3) k_
  have up : ∀ {b b' : Nat} {q : Nat × Nat × (Nat → Int32) × (Nat → Int32) × (Nat → Int32)}, ok5 b q → b ≤ b' → ok5 b' q := fun h hb => ⟨h.1, Nat.le_trans h.2 hb⟩
  obtain ⟨T1, h1, L1, X1, e1, N1, K1, S1, st1⟩ := rseg0 (n := n) (c1 := c1) (c2 := c2) (c3 := c3) hw hx hby hml hZ hown X0 e0 N0 hS (up hok (by decide)) g_d g_ta g_al g_ou n1 n2 n3
  obtain ⟨T2, h2, L2, X2, e2, N2, K2, S2, st2⟩ := rseg1 (n := n) (c1 := c1) (c2 := c2) (c3 := c3) hw hx hby hml hZ hown X1 e1 N1 S1 (up (rn5_ok hok) (by decide)) g_d g_ta g_al g_ou n1 n2 n3
  obtain ⟨T3, h3, L3, X3, e3, N3, K3, S3, st3⟩ := rseg2 (n := n) (c1 := c1) (c2 := c2) (c3 := c3) hw hx hby hml hZ hown X2 e2 N2 S2 (up (rn5_ok (rn5_ok hok)) (by decide)) g_d g_ta g_al g_ou n1 n2 n3
  obtain ⟨fs, hr, hrun, hended, hW, hsame⟩ := X3.leave (v := none) (fun _ => rfl)
  refine ⟨_, _, pre0 _ ?_, hrun, hended, _, _, rfl, ?_, ⟨_, rfl⟩, hW, hsame.mono (by decide) (by decide)⟩
  · show Steps p.tables e below (s₁.setTop (mkF m 0 #[.val (.ref d), .val (.ref ou), .val (.int n), .val (.int c1), .val (.int c2), .val (.int c3)] [])) _
    refine st1 _ (st2 _ (st3 _ ?_))
    exact X3.returnOut hx Bd.returns (hb hby dR_41) hr
  · show QR Z d ta al ou n c1 c2 c3 q h0 n0 _ T3.heap _
    rw [e3]
    exact ⟨rfl, N3, (K1.trans K2 (fun y hy => Or.inl hy)).trans K3 (fun y hy => Or.inl hy), S3⟩
section MatchesReg
variable {p : Program} {l : Launch} {e : Env} {R : Room} {s : State} {m : MethodId} {args : Array Value} {below : List Frame} {meth : Method} {c : Code} {T : State} {locs : List Loc} {cells slots : Nat} {Z : State} {a0 : Array Value} {n0 : Nat}
set_option maxRecDepth 65536 in
set_option maxHeartbeats 40000000 in
theorem gmat (X : Stand p l e R s m args below meth c T locs cells slots) (hx : p.tables.exec = Jvm.exec) (hby : c.code = method_4_code) (hZ : Z.Warmed39 s.vm) {h : Heap} (eT : T.heap = h) {ou : Addr} {r : Nat → Int32} (F : own_IA Z h ou 3 r) {t : State} {s1 s3 s4 s5 s6 s7 : Slot} {n v8 v9 v10 : Int32} {z : Int32} (hz : z = (if n < (1 : Int32) then (if n < (2 : Int32) then (if n < (3 : Int32) then (1 : Int32) else (if (r 2) = v8 then (1 : Int32) else (0 : Int32))) else (if (r 1) = v9 then (if n < (3 : Int32) then (1 : Int32) else (if (r 2) = v8 then (1 : Int32) else (0 : Int32))) else (0 : Int32))) else (if (r 0) = v10 then (if n < (2 : Int32) then (if n < (3 : Int32) then (1 : Int32) else (if (r 2) = v8 then (1 : Int32) else (0 : Int32))) else (if (r 1) = v9 then (if n < (3 : Int32) then (1 : Int32) else (if (r 2) = v8 then (1 : Int32) else (0 : Int32))) else (0 : Int32))) else (0 : Int32))))
    (k : Steps p.tables e below (T.setTop (mkF m 79 #[.val (.ref ou), s1, .val (.int n), s3, s4, s5, s6, s7, .val (.int v8), .val (.int v9), .val (.int v10)] [(.int z)])) t) : Steps p.tables e below (T.setTop (mkF m 35 #[.val (.ref ou), s1, .val (.int n), s3, s4, s5, s6, s7, .val (.int v8), .val (.int v9), .val (.int v10)] [])) t := by
  subst hz
  show Steps p.tables e below (T.setTop (mkF m 35 #[.val (.ref ou), s1, .val (.int n), s3, s4, s5, s6, s7, .val (.int v8), .val (.int v9), .val (.int v10)] [])) _
  refine XS.iloadN X.here hx rfl (hb hby dM_35) rfl ?_
  show Steps p.tables e below (T.setTop (mkF m 36 #[.val (.ref ou), s1, .val (.int n), s3, s4, s5, s6, s7, .val (.int v8), .val (.int v9), .val (.int v10)] [(.int n)])) _
  refine XS.iconst X.here hx rfl (hb hby dM_36) ?_
  show Steps p.tables e below (T.setTop (mkF m 37 #[.val (.ref ou), s1, .val (.int n), s3, s4, s5, s6, s7, .val (.int v8), .val (.int v9), .val (.int v10)] [(.int (1 : Int32)), (.int n)])) _
  by_cases h37 : n < (1 : Int32)
  · rw [if_pos h37] at k
    refine XS.icmpYes X.here hx rfl (pc0 := 37) (pc' := 48) rfl (hb hby dM_37) rfl (tlt h37).1 (by decide) (by decide) ?_
    show Steps p.tables e below (T.setTop (mkF m 48 #[.val (.ref ou), s1, .val (.int n), s3, s4, s5, s6, s7, .val (.int v8), .val (.int v9), .val (.int v10)] [])) _
    refine XS.iloadN X.here hx rfl (hb hby dM_48) rfl ?_
    show Steps p.tables e below (T.setTop (mkF m 49 #[.val (.ref ou), s1, .val (.int n), s3, s4, s5, s6, s7, .val (.int v8), .val (.int v9), .val (.int v10)] [(.int n)])) _
    refine XS.iconst X.here hx rfl (hb hby dM_49) ?_
    show Steps p.tables e below (T.setTop (mkF m 50 #[.val (.ref ou), s1, .val (.int n), s3, s4, s5, s6, s7, .val (.int v8), .val (.int v9), .val (.int v10)] [(.int (2 : Int32)), (.int n)])) _
    by_cases h50 : n < (2 : Int32)
    · rw [if_pos h50] at k
      refine XS.icmpYes X.here hx rfl (pc0 := 50) (pc' := 61) rfl (hb hby dM_50) rfl (tlt h50).1 (by decide) (by decide) ?_
      show Steps p.tables e below (T.setTop (mkF m 61 #[.val (.ref ou), s1, .val (.int n), s3, s4, s5, s6, s7, .val (.int v8), .val (.int v9), .val (.int v10)] [])) _
      refine XS.iloadN X.here hx rfl (hb hby dM_61) rfl ?_
      show Steps p.tables e below (T.setTop (mkF m 62 #[.val (.ref ou), s1, .val (.int n), s3, s4, s5, s6, s7, .val (.int v8), .val (.int v9), .val (.int v10)] [(.int n)])) _
      refine XS.iconst X.here hx rfl (hb hby dM_62) ?_
      show Steps p.tables e below (T.setTop (mkF m 63 #[.val (.ref ou), s1, .val (.int n), s3, s4, s5, s6, s7, .val (.int v8), .val (.int v9), .val (.int v10)] [(.int (3 : Int32)), (.int n)])) _
      by_cases h63 : n < (3 : Int32)
      · rw [if_pos h63] at k
        refine XS.icmpYes X.here hx rfl (pc0 := 63) (pc' := 74) rfl (hb hby dM_63) rfl (tlt h63).1 (by decide) (by decide) ?_
        show Steps p.tables e below (T.setTop (mkF m 74 #[.val (.ref ou), s1, .val (.int n), s3, s4, s5, s6, s7, .val (.int v8), .val (.int v9), .val (.int v10)] [])) _
        refine XS.iconst X.here hx rfl (hb hby dM_74) ?_
        show Steps p.tables e below (T.setTop (mkF m 75 #[.val (.ref ou), s1, .val (.int n), s3, s4, s5, s6, s7, .val (.int v8), .val (.int v9), .val (.int v10)] [(.int (1 : Int32))])) _
        refine XS.goto X.here hx rfl (pc0 := 75) (pc' := 79) rfl (hb hby dM_75) (by decide) (by decide) ?_
        exact k
      · rw [if_neg h63] at k
        refine XS.icmpNo X.here hx rfl (hb hby dM_63) rfl (flt h63).1 ?_
        show Steps p.tables e below (T.setTop (mkF m 66 #[.val (.ref ou), s1, .val (.int n), s3, s4, s5, s6, s7, .val (.int v8), .val (.int v9), .val (.int v10)] [])) _
        refine XS.aloadN X.here hx rfl (hb hby dM_66) rfl rfl ?_
        show Steps p.tables e below (T.setTop (mkF m 67 #[.val (.ref ou), s1, .val (.int n), s3, s4, s5, s6, s7, .val (.int v8), .val (.int v9), .val (.int v10)] [(.ref ou)])) _
        refine XS.iconst X.here hx rfl (hb hby dM_67) ?_
        show Steps p.tables e below (T.setTop (mkF m 68 #[.val (.ref ou), s1, .val (.int n), s3, s4, s5, s6, s7, .val (.int v8), .val (.int v9), .val (.int v10)] [(.int (2 : Int32)), (.ref ou)])) _
        refine F.ld X hx hZ eT (i := 2) rfl (by decide) (g := (mkF m 68 #[.val (.ref ou), s1, .val (.int n), s3, s4, s5, s6, s7, .val (.int v8), .val (.int v9), .val (.int v10)] [(.int (2 : Int32)), (.ref ou)])) rfl rfl (hb hby dM_68) _ ?_
        show Steps p.tables e below (T.setTop (mkF m 69 #[.val (.ref ou), s1, .val (.int n), s3, s4, s5, s6, s7, .val (.int v8), .val (.int v9), .val (.int v10)] [(.int (r 2))])) _
        refine XS.iload X.here hx rfl (hb hby dM_69) rfl ?_
        show Steps p.tables e below (T.setTop (mkF m 71 #[.val (.ref ou), s1, .val (.int n), s3, s4, s5, s6, s7, .val (.int v8), .val (.int v9), .val (.int v10)] [(.int v8), (.int (r 2))])) _
        by_cases h71 : (r 2) = v8
        · rw [if_pos h71] at k
          refine XS.icmpNo X.here hx rfl (hb hby dM_71) rfl (teq h71).2 ?_
          show Steps p.tables e below (T.setTop (mkF m 74 #[.val (.ref ou), s1, .val (.int n), s3, s4, s5, s6, s7, .val (.int v8), .val (.int v9), .val (.int v10)] [])) _
          refine XS.iconst X.here hx rfl (hb hby dM_74) ?_
          show Steps p.tables e below (T.setTop (mkF m 75 #[.val (.ref ou), s1, .val (.int n), s3, s4, s5, s6, s7, .val (.int v8), .val (.int v9), .val (.int v10)] [(.int (1 : Int32))])) _
          refine XS.goto X.here hx rfl (pc0 := 75) (pc' := 79) rfl (hb hby dM_75) (by decide) (by decide) ?_
          exact k
        · rw [if_neg h71] at k
          refine XS.icmpYes X.here hx rfl (pc0 := 71) (pc' := 78) rfl (hb hby dM_71) rfl (feq h71).2 (by decide) (by decide) ?_
          show Steps p.tables e below (T.setTop (mkF m 78 #[.val (.ref ou), s1, .val (.int n), s3, s4, s5, s6, s7, .val (.int v8), .val (.int v9), .val (.int v10)] [])) _
          refine XS.iconst X.here hx rfl (hb hby dM_78) ?_
          exact k
    · rw [if_neg h50] at k
      refine XS.icmpNo X.here hx rfl (hb hby dM_50) rfl (flt h50).1 ?_
      show Steps p.tables e below (T.setTop (mkF m 53 #[.val (.ref ou), s1, .val (.int n), s3, s4, s5, s6, s7, .val (.int v8), .val (.int v9), .val (.int v10)] [])) _
      refine XS.aloadN X.here hx rfl (hb hby dM_53) rfl rfl ?_
      show Steps p.tables e below (T.setTop (mkF m 54 #[.val (.ref ou), s1, .val (.int n), s3, s4, s5, s6, s7, .val (.int v8), .val (.int v9), .val (.int v10)] [(.ref ou)])) _
      refine XS.iconst X.here hx rfl (hb hby dM_54) ?_
      show Steps p.tables e below (T.setTop (mkF m 55 #[.val (.ref ou), s1, .val (.int n), s3, s4, s5, s6, s7, .val (.int v8), .val (.int v9), .val (.int v10)] [(.int (1 : Int32)), (.ref ou)])) _
      refine F.ld X hx hZ eT (i := 1) rfl (by decide) (g := (mkF m 55 #[.val (.ref ou), s1, .val (.int n), s3, s4, s5, s6, s7, .val (.int v8), .val (.int v9), .val (.int v10)] [(.int (1 : Int32)), (.ref ou)])) rfl rfl (hb hby dM_55) _ ?_
      show Steps p.tables e below (T.setTop (mkF m 56 #[.val (.ref ou), s1, .val (.int n), s3, s4, s5, s6, s7, .val (.int v8), .val (.int v9), .val (.int v10)] [(.int (r 1))])) _
      refine XS.iload X.here hx rfl (hb hby dM_56) rfl ?_
      show Steps p.tables e below (T.setTop (mkF m 58 #[.val (.ref ou), s1, .val (.int n), s3, s4, s5, s6, s7, .val (.int v8), .val (.int v9), .val (.int v10)] [(.int v9), (.int (r 1))])) _
      by_cases h58 : (r 1) = v9
      · rw [if_pos h58] at k
        refine XS.icmpNo X.here hx rfl (hb hby dM_58) rfl (teq h58).2 ?_
        show Steps p.tables e below (T.setTop (mkF m 61 #[.val (.ref ou), s1, .val (.int n), s3, s4, s5, s6, s7, .val (.int v8), .val (.int v9), .val (.int v10)] [])) _
        refine XS.iloadN X.here hx rfl (hb hby dM_61) rfl ?_
        show Steps p.tables e below (T.setTop (mkF m 62 #[.val (.ref ou), s1, .val (.int n), s3, s4, s5, s6, s7, .val (.int v8), .val (.int v9), .val (.int v10)] [(.int n)])) _
        refine XS.iconst X.here hx rfl (hb hby dM_62) ?_
        show Steps p.tables e below (T.setTop (mkF m 63 #[.val (.ref ou), s1, .val (.int n), s3, s4, s5, s6, s7, .val (.int v8), .val (.int v9), .val (.int v10)] [(.int (3 : Int32)), (.int n)])) _
        by_cases h63 : n < (3 : Int32)
        · rw [if_pos h63] at k
          refine XS.icmpYes X.here hx rfl (pc0 := 63) (pc' := 74) rfl (hb hby dM_63) rfl (tlt h63).1 (by decide) (by decide) ?_
          show Steps p.tables e below (T.setTop (mkF m 74 #[.val (.ref ou), s1, .val (.int n), s3, s4, s5, s6, s7, .val (.int v8), .val (.int v9), .val (.int v10)] [])) _
          refine XS.iconst X.here hx rfl (hb hby dM_74) ?_
          show Steps p.tables e below (T.setTop (mkF m 75 #[.val (.ref ou), s1, .val (.int n), s3, s4, s5, s6, s7, .val (.int v8), .val (.int v9), .val (.int v10)] [(.int (1 : Int32))])) _
          refine XS.goto X.here hx rfl (pc0 := 75) (pc' := 79) rfl (hb hby dM_75) (by decide) (by decide) ?_
          exact k
        · rw [if_neg h63] at k
          refine XS.icmpNo X.here hx rfl (hb hby dM_63) rfl (flt h63).1 ?_
          show Steps p.tables e below (T.setTop (mkF m 66 #[.val (.ref ou), s1, .val (.int n), s3, s4, s5, s6, s7, .val (.int v8), .val (.int v9), .val (.int v10)] [])) _
          refine XS.aloadN X.here hx rfl (hb hby dM_66) rfl rfl ?_
          show Steps p.tables e below (T.setTop (mkF m 67 #[.val (.ref ou), s1, .val (.int n), s3, s4, s5, s6, s7, .val (.int v8), .val (.int v9), .val (.int v10)] [(.ref ou)])) _
          refine XS.iconst X.here hx rfl (hb hby dM_67) ?_
          show Steps p.tables e below (T.setTop (mkF m 68 #[.val (.ref ou), s1, .val (.int n), s3, s4, s5, s6, s7, .val (.int v8), .val (.int v9), .val (.int v10)] [(.int (2 : Int32)), (.ref ou)])) _
          refine F.ld X hx hZ eT (i := 2) rfl (by decide) (g := (mkF m 68 #[.val (.ref ou), s1, .val (.int n), s3, s4, s5, s6, s7, .val (.int v8), .val (.int v9), .val (.int v10)] [(.int (2 : Int32)), (.ref ou)])) rfl rfl (hb hby dM_68) _ ?_
          show Steps p.tables e below (T.setTop (mkF m 69 #[.val (.ref ou), s1, .val (.int n), s3, s4, s5, s6, s7, .val (.int v8), .val (.int v9), .val (.int v10)] [(.int (r 2))])) _
          refine XS.iload X.here hx rfl (hb hby dM_69) rfl ?_
          show Steps p.tables e below (T.setTop (mkF m 71 #[.val (.ref ou), s1, .val (.int n), s3, s4, s5, s6, s7, .val (.int v8), .val (.int v9), .val (.int v10)] [(.int v8), (.int (r 2))])) _
          by_cases h71 : (r 2) = v8
          · rw [if_pos h71] at k
            refine XS.icmpNo X.here hx rfl (hb hby dM_71) rfl (teq h71).2 ?_
            show Steps p.tables e below (T.setTop (mkF m 74 #[.val (.ref ou), s1, .val (.int n), s3, s4, s5, s6, s7, .val (.int v8), .val (.int v9), .val (.int v10)] [])) _
            refine XS.iconst X.here hx rfl (hb hby dM_74) ?_
            show Steps p.tables e below (T.setTop (mkF m 75 #[.val (.ref ou), s1, .val (.int n), s3, s4, s5, s6, s7, .val (.int v8), .val (.int v9), .val (.int v10)] [(.int (1 : Int32))])) _
            refine XS.goto X.here hx rfl (pc0 := 75) (pc' := 79) rfl (hb hby dM_75) (by decide) (by decide) ?_
            exact k
          · rw [if_neg h71] at k
            refine XS.icmpYes X.here hx rfl (pc0 := 71) (pc' := 78) rfl (hb hby dM_71) rfl (feq h71).2 (by decide) (by decide) ?_
            show Steps p.tables e below (T.setTop (mkF m 78 #[.val (.ref ou), s1, .val (.int n), s3, s4, s5, s6, s7, .val (.int v8), .val (.int v9), .val (.int v10)] [])) _
            refine XS.iconst X.here hx rfl (hb hby dM_78) ?_
            exact k
      · rw [if_neg h58] at k
        refine XS.icmpYes X.here hx rfl (pc0 := 58) (pc' := 78) rfl (hb hby dM_58) rfl (feq h58).2 (by decide) (by decide) ?_
        show Steps p.tables e below (T.setTop (mkF m 78 #[.val (.ref ou), s1, .val (.int n), s3, s4, s5, s6, s7, .val (.int v8), .val (.int v9), .val (.int v10)] [])) _
        refine XS.iconst X.here hx rfl (hb hby dM_78) ?_
        exact k
  · rw [if_neg h37] at k
    refine XS.icmpNo X.here hx rfl (hb hby dM_37) rfl (flt h37).1 ?_
    show Steps p.tables e below (T.setTop (mkF m 40 #[.val (.ref ou), s1, .val (.int n), s3, s4, s5, s6, s7, .val (.int v8), .val (.int v9), .val (.int v10)] [])) _
    refine XS.aloadN X.here hx rfl (hb hby dM_40) rfl rfl ?_
    show Steps p.tables e below (T.setTop (mkF m 41 #[.val (.ref ou), s1, .val (.int n), s3, s4, s5, s6, s7, .val (.int v8), .val (.int v9), .val (.int v10)] [(.ref ou)])) _
    refine XS.iconst X.here hx rfl (hb hby dM_41) ?_
    show Steps p.tables e below (T.setTop (mkF m 42 #[.val (.ref ou), s1, .val (.int n), s3, s4, s5, s6, s7, .val (.int v8), .val (.int v9), .val (.int v10)] [(.int (0 : Int32)), (.ref ou)])) _
    refine F.ld X hx hZ eT (i := 0) rfl (by decide) (g := (mkF m 42 #[.val (.ref ou), s1, .val (.int n), s3, s4, s5, s6, s7, .val (.int v8), .val (.int v9), .val (.int v10)] [(.int (0 : Int32)), (.ref ou)])) rfl rfl (hb hby dM_42) _ ?_
    show Steps p.tables e below (T.setTop (mkF m 43 #[.val (.ref ou), s1, .val (.int n), s3, s4, s5, s6, s7, .val (.int v8), .val (.int v9), .val (.int v10)] [(.int (r 0))])) _
    refine XS.iload X.here hx rfl (hb hby dM_43) rfl ?_
    show Steps p.tables e below (T.setTop (mkF m 45 #[.val (.ref ou), s1, .val (.int n), s3, s4, s5, s6, s7, .val (.int v8), .val (.int v9), .val (.int v10)] [(.int v10), (.int (r 0))])) _
    by_cases h45 : (r 0) = v10
    · rw [if_pos h45] at k
      refine XS.icmpNo X.here hx rfl (hb hby dM_45) rfl (teq h45).2 ?_
      show Steps p.tables e below (T.setTop (mkF m 48 #[.val (.ref ou), s1, .val (.int n), s3, s4, s5, s6, s7, .val (.int v8), .val (.int v9), .val (.int v10)] [])) _
      refine XS.iloadN X.here hx rfl (hb hby dM_48) rfl ?_
      show Steps p.tables e below (T.setTop (mkF m 49 #[.val (.ref ou), s1, .val (.int n), s3, s4, s5, s6, s7, .val (.int v8), .val (.int v9), .val (.int v10)] [(.int n)])) _
      refine XS.iconst X.here hx rfl (hb hby dM_49) ?_
      show Steps p.tables e below (T.setTop (mkF m 50 #[.val (.ref ou), s1, .val (.int n), s3, s4, s5, s6, s7, .val (.int v8), .val (.int v9), .val (.int v10)] [(.int (2 : Int32)), (.int n)])) _
      by_cases h50 : n < (2 : Int32)
      · rw [if_pos h50] at k
        refine XS.icmpYes X.here hx rfl (pc0 := 50) (pc' := 61) rfl (hb hby dM_50) rfl (tlt h50).1 (by decide) (by decide) ?_
        show Steps p.tables e below (T.setTop (mkF m 61 #[.val (.ref ou), s1, .val (.int n), s3, s4, s5, s6, s7, .val (.int v8), .val (.int v9), .val (.int v10)] [])) _
        refine XS.iloadN X.here hx rfl (hb hby dM_61) rfl ?_
        show Steps p.tables e below (T.setTop (mkF m 62 #[.val (.ref ou), s1, .val (.int n), s3, s4, s5, s6, s7, .val (.int v8), .val (.int v9), .val (.int v10)] [(.int n)])) _
        refine XS.iconst X.here hx rfl (hb hby dM_62) ?_
        show Steps p.tables e below (T.setTop (mkF m 63 #[.val (.ref ou), s1, .val (.int n), s3, s4, s5, s6, s7, .val (.int v8), .val (.int v9), .val (.int v10)] [(.int (3 : Int32)), (.int n)])) _
        by_cases h63 : n < (3 : Int32)
        · rw [if_pos h63] at k
          refine XS.icmpYes X.here hx rfl (pc0 := 63) (pc' := 74) rfl (hb hby dM_63) rfl (tlt h63).1 (by decide) (by decide) ?_
          show Steps p.tables e below (T.setTop (mkF m 74 #[.val (.ref ou), s1, .val (.int n), s3, s4, s5, s6, s7, .val (.int v8), .val (.int v9), .val (.int v10)] [])) _
          refine XS.iconst X.here hx rfl (hb hby dM_74) ?_
          show Steps p.tables e below (T.setTop (mkF m 75 #[.val (.ref ou), s1, .val (.int n), s3, s4, s5, s6, s7, .val (.int v8), .val (.int v9), .val (.int v10)] [(.int (1 : Int32))])) _
          refine XS.goto X.here hx rfl (pc0 := 75) (pc' := 79) rfl (hb hby dM_75) (by decide) (by decide) ?_
          exact k
        · rw [if_neg h63] at k
          refine XS.icmpNo X.here hx rfl (hb hby dM_63) rfl (flt h63).1 ?_
          show Steps p.tables e below (T.setTop (mkF m 66 #[.val (.ref ou), s1, .val (.int n), s3, s4, s5, s6, s7, .val (.int v8), .val (.int v9), .val (.int v10)] [])) _
          refine XS.aloadN X.here hx rfl (hb hby dM_66) rfl rfl ?_
          show Steps p.tables e below (T.setTop (mkF m 67 #[.val (.ref ou), s1, .val (.int n), s3, s4, s5, s6, s7, .val (.int v8), .val (.int v9), .val (.int v10)] [(.ref ou)])) _
          refine XS.iconst X.here hx rfl (hb hby dM_67) ?_
          show Steps p.tables e below (T.setTop (mkF m 68 #[.val (.ref ou), s1, .val (.int n), s3, s4, s5, s6, s7, .val (.int v8), .val (.int v9), .val (.int v10)] [(.int (2 : Int32)), (.ref ou)])) _
          refine F.ld X hx hZ eT (i := 2) rfl (by decide) (g := (mkF m 68 #[.val (.ref ou), s1, .val (.int n), s3, s4, s5, s6, s7, .val (.int v8), .val (.int v9), .val (.int v10)] [(.int (2 : Int32)), (.ref ou)])) rfl rfl (hb hby dM_68) _ ?_
          show Steps p.tables e below (T.setTop (mkF m 69 #[.val (.ref ou), s1, .val (.int n), s3, s4, s5, s6, s7, .val (.int v8), .val (.int v9), .val (.int v10)] [(.int (r 2))])) _
          refine XS.iload X.here hx rfl (hb hby dM_69) rfl ?_
          show Steps p.tables e below (T.setTop (mkF m 71 #[.val (.ref ou), s1, .val (.int n), s3, s4, s5, s6, s7, .val (.int v8), .val (.int v9), .val (.int v10)] [(.int v8), (.int (r 2))])) _
          by_cases h71 : (r 2) = v8
          · rw [if_pos h71] at k
            refine XS.icmpNo X.here hx rfl (hb hby dM_71) rfl (teq h71).2 ?_
            show Steps p.tables e below (T.setTop (mkF m 74 #[.val (.ref ou), s1, .val (.int n), s3, s4, s5, s6, s7, .val (.int v8), .val (.int v9), .val (.int v10)] [])) _
            refine XS.iconst X.here hx rfl (hb hby dM_74) ?_
            show Steps p.tables e below (T.setTop (mkF m 75 #[.val (.ref ou), s1, .val (.int n), s3, s4, s5, s6, s7, .val (.int v8), .val (.int v9), .val (.int v10)] [(.int (1 : Int32))])) _
            refine XS.goto X.here hx rfl (pc0 := 75) (pc' := 79) rfl (hb hby dM_75) (by decide) (by decide) ?_
            exact k
          · rw [if_neg h71] at k
            refine XS.icmpYes X.here hx rfl (pc0 := 71) (pc' := 78) rfl (hb hby dM_71) rfl (feq h71).2 (by decide) (by decide) ?_
            show Steps p.tables e below (T.setTop (mkF m 78 #[.val (.ref ou), s1, .val (.int n), s3, s4, s5, s6, s7, .val (.int v8), .val (.int v9), .val (.int v10)] [])) _
            refine XS.iconst X.here hx rfl (hb hby dM_78) ?_
            exact k
      · rw [if_neg h50] at k
        refine XS.icmpNo X.here hx rfl (hb hby dM_50) rfl (flt h50).1 ?_
        show Steps p.tables e below (T.setTop (mkF m 53 #[.val (.ref ou), s1, .val (.int n), s3, s4, s5, s6, s7, .val (.int v8), .val (.int v9), .val (.int v10)] [])) _
        refine XS.aloadN X.here hx rfl (hb hby dM_53) rfl rfl ?_
        show Steps p.tables e below (T.setTop (mkF m 54 #[.val (.ref ou), s1, .val (.int n), s3, s4, s5, s6, s7, .val (.int v8), .val (.int v9), .val (.int v10)] [(.ref ou)])) _
        refine XS.iconst X.here hx rfl (hb hby dM_54) ?_
        show Steps p.tables e below (T.setTop (mkF m 55 #[.val (.ref ou), s1, .val (.int n), s3, s4, s5, s6, s7, .val (.int v8), .val (.int v9), .val (.int v10)] [(.int (1 : Int32)), (.ref ou)])) _
        refine F.ld X hx hZ eT (i := 1) rfl (by decide) (g := (mkF m 55 #[.val (.ref ou), s1, .val (.int n), s3, s4, s5, s6, s7, .val (.int v8), .val (.int v9), .val (.int v10)] [(.int (1 : Int32)), (.ref ou)])) rfl rfl (hb hby dM_55) _ ?_
        show Steps p.tables e below (T.setTop (mkF m 56 #[.val (.ref ou), s1, .val (.int n), s3, s4, s5, s6, s7, .val (.int v8), .val (.int v9), .val (.int v10)] [(.int (r 1))])) _
        refine XS.iload X.here hx rfl (hb hby dM_56) rfl ?_
        show Steps p.tables e below (T.setTop (mkF m 58 #[.val (.ref ou), s1, .val (.int n), s3, s4, s5, s6, s7, .val (.int v8), .val (.int v9), .val (.int v10)] [(.int v9), (.int (r 1))])) _
        by_cases h58 : (r 1) = v9
        · rw [if_pos h58] at k
          refine XS.icmpNo X.here hx rfl (hb hby dM_58) rfl (teq h58).2 ?_
          show Steps p.tables e below (T.setTop (mkF m 61 #[.val (.ref ou), s1, .val (.int n), s3, s4, s5, s6, s7, .val (.int v8), .val (.int v9), .val (.int v10)] [])) _
          refine XS.iloadN X.here hx rfl (hb hby dM_61) rfl ?_
          show Steps p.tables e below (T.setTop (mkF m 62 #[.val (.ref ou), s1, .val (.int n), s3, s4, s5, s6, s7, .val (.int v8), .val (.int v9), .val (.int v10)] [(.int n)])) _
          refine XS.iconst X.here hx rfl (hb hby dM_62) ?_
          show Steps p.tables e below (T.setTop (mkF m 63 #[.val (.ref ou), s1, .val (.int n), s3, s4, s5, s6, s7, .val (.int v8), .val (.int v9), .val (.int v10)] [(.int (3 : Int32)), (.int n)])) _
          by_cases h63 : n < (3 : Int32)
          · rw [if_pos h63] at k
            refine XS.icmpYes X.here hx rfl (pc0 := 63) (pc' := 74) rfl (hb hby dM_63) rfl (tlt h63).1 (by decide) (by decide) ?_
            show Steps p.tables e below (T.setTop (mkF m 74 #[.val (.ref ou), s1, .val (.int n), s3, s4, s5, s6, s7, .val (.int v8), .val (.int v9), .val (.int v10)] [])) _
            refine XS.iconst X.here hx rfl (hb hby dM_74) ?_
            show Steps p.tables e below (T.setTop (mkF m 75 #[.val (.ref ou), s1, .val (.int n), s3, s4, s5, s6, s7, .val (.int v8), .val (.int v9), .val (.int v10)] [(.int (1 : Int32))])) _
            refine XS.goto X.here hx rfl (pc0 := 75) (pc' := 79) rfl (hb hby dM_75) (by decide) (by decide) ?_
            exact k
          · rw [if_neg h63] at k
            refine XS.icmpNo X.here hx rfl (hb hby dM_63) rfl (flt h63).1 ?_
            show Steps p.tables e below (T.setTop (mkF m 66 #[.val (.ref ou), s1, .val (.int n), s3, s4, s5, s6, s7, .val (.int v8), .val (.int v9), .val (.int v10)] [])) _
            refine XS.aloadN X.here hx rfl (hb hby dM_66) rfl rfl ?_
            show Steps p.tables e below (T.setTop (mkF m 67 #[.val (.ref ou), s1, .val (.int n), s3, s4, s5, s6, s7, .val (.int v8), .val (.int v9), .val (.int v10)] [(.ref ou)])) _
            refine XS.iconst X.here hx rfl (hb hby dM_67) ?_
            show Steps p.tables e below (T.setTop (mkF m 68 #[.val (.ref ou), s1, .val (.int n), s3, s4, s5, s6, s7, .val (.int v8), .val (.int v9), .val (.int v10)] [(.int (2 : Int32)), (.ref ou)])) _
            refine F.ld X hx hZ eT (i := 2) rfl (by decide) (g := (mkF m 68 #[.val (.ref ou), s1, .val (.int n), s3, s4, s5, s6, s7, .val (.int v8), .val (.int v9), .val (.int v10)] [(.int (2 : Int32)), (.ref ou)])) rfl rfl (hb hby dM_68) _ ?_
            show Steps p.tables e below (T.setTop (mkF m 69 #[.val (.ref ou), s1, .val (.int n), s3, s4, s5, s6, s7, .val (.int v8), .val (.int v9), .val (.int v10)] [(.int (r 2))])) _
            refine XS.iload X.here hx rfl (hb hby dM_69) rfl ?_
            show Steps p.tables e below (T.setTop (mkF m 71 #[.val (.ref ou), s1, .val (.int n), s3, s4, s5, s6, s7, .val (.int v8), .val (.int v9), .val (.int v10)] [(.int v8), (.int (r 2))])) _
            by_cases h71 : (r 2) = v8
            · rw [if_pos h71] at k
              refine XS.icmpNo X.here hx rfl (hb hby dM_71) rfl (teq h71).2 ?_
              show Steps p.tables e below (T.setTop (mkF m 74 #[.val (.ref ou), s1, .val (.int n), s3, s4, s5, s6, s7, .val (.int v8), .val (.int v9), .val (.int v10)] [])) _
              refine XS.iconst X.here hx rfl (hb hby dM_74) ?_
              show Steps p.tables e below (T.setTop (mkF m 75 #[.val (.ref ou), s1, .val (.int n), s3, s4, s5, s6, s7, .val (.int v8), .val (.int v9), .val (.int v10)] [(.int (1 : Int32))])) _
              refine XS.goto X.here hx rfl (pc0 := 75) (pc' := 79) rfl (hb hby dM_75) (by decide) (by decide) ?_
              exact k
            · rw [if_neg h71] at k
              refine XS.icmpYes X.here hx rfl (pc0 := 71) (pc' := 78) rfl (hb hby dM_71) rfl (feq h71).2 (by decide) (by decide) ?_
              show Steps p.tables e below (T.setTop (mkF m 78 #[.val (.ref ou), s1, .val (.int n), s3, s4, s5, s6, s7, .val (.int v8), .val (.int v9), .val (.int v10)] [])) _
              refine XS.iconst X.here hx rfl (hb hby dM_78) ?_
              exact k
        · rw [if_neg h58] at k
          refine XS.icmpYes X.here hx rfl (pc0 := 58) (pc' := 78) rfl (hb hby dM_58) rfl (feq h58).2 (by decide) (by decide) ?_
          show Steps p.tables e below (T.setTop (mkF m 78 #[.val (.ref ou), s1, .val (.int n), s3, s4, s5, s6, s7, .val (.int v8), .val (.int v9), .val (.int v10)] [])) _
          refine XS.iconst X.here hx rfl (hb hby dM_78) ?_
          exact k
    · rw [if_neg h45] at k
      refine XS.icmpYes X.here hx rfl (pc0 := 45) (pc' := 78) rfl (hb hby dM_45) rfl (feq h45).2 (by decide) (by decide) ?_
      show Steps p.tables e below (T.setTop (mkF m 78 #[.val (.ref ou), s1, .val (.int n), s3, s4, s5, s6, s7, .val (.int v8), .val (.int v9), .val (.int v10)] [])) _
      refine XS.iconst X.here hx rfl (hb hby dM_78) ?_
      exact k
end MatchesReg
def mt (r : Nat → Int32) (n v8 v9 v10 : Int32) : Int32 := (if n < (1 : Int32) then (if n < (2 : Int32) then (if n < (3 : Int32) then (1 : Int32) else (if (r 2) = v8 then (1 : Int32) else (0 : Int32))) else (if (r 1) = v9 then (if n < (3 : Int32) then (1 : Int32) else (if (r 2) = v8 then (1 : Int32) else (0 : Int32))) else (0 : Int32))) else (if (r 0) = v10 then (if n < (2 : Int32) then (if n < (3 : Int32) then (1 : Int32) else (if (r 2) = v8 then (1 : Int32) else (0 : Int32))) else (if (r 1) = v9 then (if n < (3 : Int32) then (1 : Int32) else (if (r 2) = v8 then (1 : Int32) else (0 : Int32))) else (0 : Int32))) else (0 : Int32)))
def rm32 (x y : Int32) : Int32 := x - (x / y) * y
def mtc (r : Nat → Int32) (k n e1 e2 e3 t : Int32) : Int32 := nar .boolean (mt r n (rm32 (rm32 k t) e3) (rm32 (rm32 k t / e3) e2) (rm32 (rm32 k t / e3 / e2) e1))
def QM (Z : State) (r : Nat → Int32) (k n e1 e2 e3 t : Int32) (h0 : Heap) (n0 : Nat) (v : Option Value) (h : Heap) (L : List Loc) : Prop := v = some (.int (mtc r k n e1 e2 e3 t)) ∧ Fr n0 L ∧ h = h0
set_option maxRecDepth 65536 in
set_option maxHeartbeats 40000000 in
theorem rmM (l : Launch) (Z : State) (a0 : Array Value) (hw : ∀ d ∈ tables_1, d.before a0 Z = true) (ws : List Jvm.Cond) (ou : Addr) (r : Nat → Int32) (k n e1 e2 e3 t : Int32) (h0 : Heap) (n0 : Nat) (F : own_IA Z h0 ou 3 r) (z1 : ¬ e1 = 0) (z2 : ¬ e2 = 0) (z3 : ¬ e3 = 0) (zt : ¬ t = 0) :
    MetFree l (⟨"com/example/nereus/nereus/checker/DecisionPathAdvancePinLaw", "matches", "([IIIIIII)Z"⟩ : MethodName) (head1 (Jvm.Cond.code (⟨"com/example/nereus/nereus/checker/DecisionPathAdvancePinLaw", "matches", "([IIIIIII)Z"⟩ : MethodName) method_4_code 11 (some .boolean) :: ws) ({ frames := 0, cells := 0, slots := 0, locals := 0 } : Room)) (fun a_ U => a_ = #[(.ref ou), (.int k), (.int n), (.int e1), (.int e2), (.int e3), (.int t)] ∧ Z.Warmed39 U.vm ∧ U.heap = h0) (fun _ _ _ _ _ => True) (fun _ U o U' => ∃ v L, o = .returned v ∧ QM Z r k n e1 e2 e3 t h0 n0 v U'.heap L ∧ FrameEnd U o U' L ({ frames := 0, cells := 0, slots := 0, locals := 0 } : Room).cells ({ frames := 0, cells := 0, slots := 0, locals := 0 } : Room).slots) := by
  refine MetFree.of_bodySF (plainFor_of_name pnL) hisR ?_
  intro p e s m args below meth c s₁ Bd hml0 hP hK
  obtain ⟨rfl, hZ, hh⟩ := hP
  have hx := Bd.exec
  have hby := Bd.bytes
  have hml : c.maxLocals = 11 := hml0
  have hown : s.vm.findClass "com/example/nereus/nereus/checker/DecisionPathAdvancePinLaw" = some m.cls := findClass_of_methodNamed Bd.named
  have hnm := (name_of_methodNamed Bd.named Bd.method).1
  have X0 : Stand p l e ({ frames := 0, cells := 0, slots := 0, locals := 0 } : Room) s m #[(.ref ou), (.int k), (.int n), (.int e1), (.int e2), (.int e3), (.int t)] below meth c s₁ [] 0 0 := Stand.of_body Bd
  have e0 : s₁.heap = h0 := by rw [← hh, Bd.state]; rfl
  have N0 := Fr.nil n0
  have pre0 : ∀ t_, Steps p.tables e below (s₁.setTop (mkF m 0 #[.val (.ref ou), .val (.int k), .val (.int n), .val (.int e1), .val (.int e2), .val (.int e3), .val (.int t), .unset, .unset, .unset, .unset] [])) t_ → Steps p.tables e below (s₁.setTop (entryFrame m #[(.ref ou), (.int k), (.int n), (.int e1), (.int e2), (.int e3), (.int t)] 11)) t_ := fun t_ k_ => castTop (efM m ou k n e1 e2 e3 t) k_
  obtain ⟨mm, hmm⟩ : ∃ z : Int32, z = (k - (k / t) * t) := ⟨_, rfl⟩
  obtain ⟨w8, hw8⟩ : ∃ z : Int32, z = (mm - (mm / e3) * e3) := ⟨_, rfl⟩
  obtain ⟨qq, hqq⟩ : ∃ z : Int32, z = (mm / e3) := ⟨_, rfl⟩
  obtain ⟨w9, hw9⟩ : ∃ z : Int32, z = (qq - (qq / e2) * e2) := ⟨_, rfl⟩
  obtain ⟨q2, hq2⟩ : ∃ z : Int32, z = (qq / e2) := ⟨_, rfl⟩
  obtain ⟨w10, hw10⟩ : ∃ z : Int32, z = (q2 - (q2 / e1) * e1) := ⟨_, rfl⟩
  obtain ⟨v, hv⟩ : ∃ z : Int32, z = (if n < (1 : Int32) then (if n < (2 : Int32) then (if n < (3 : Int32) then (1 : Int32) else (if (r 2) = w8 then (1 : Int32) else (0 : Int32))) else (if (r 1) = w9 then (if n < (3 : Int32) then (1 : Int32) else (if (r 2) = w8 then (1 : Int32) else (0 : Int32))) else (0 : Int32))) else (if (r 0) = w10 then (if n < (2 : Int32) then (if n < (3 : Int32) then (1 : Int32) else (if (r 2) = w8 then (1 : Int32) else (0 : Int32))) else (if (r 1) = w9 then (if n < (3 : Int32) then (1 : Int32) else (if (r 2) = w8 then (1 : Int32) else (0 : Int32))) else (0 : Int32))) else (0 : Int32))) := ⟨_, rfl⟩
  obtain ⟨fs, hr, hrun, hended, hW, hsame⟩ := X0.leave (v := some (.int (nar .boolean v))) (fun h => by rw [Bd.returns] at h; cases h)
  refine ⟨_, _, pre0 _ ?_, hrun, hended, _, _, rfl, ?_, ⟨_, rfl⟩, hW, hsame.mono (by decide) (by decide)⟩
  · show Steps p.tables e below (s₁.setTop (mkF m 0 #[.val (.ref ou), .val (.int k), .val (.int n), .val (.int e1), .val (.int e2), .val (.int e3), .val (.int t), .unset, .unset, .unset, .unset] [])) _
    refine XS.iloadN X0.here hx rfl (hb hby dM_0) rfl ?_
    show Steps p.tables e below (s₁.setTop (mkF m 1 #[.val (.ref ou), .val (.int k), .val (.int n), .val (.int e1), .val (.int e2), .val (.int e3), .val (.int t), .unset, .unset, .unset, .unset] [(.int k)])) _
    refine XS.iload X0.here hx rfl (hb hby dM_1) rfl ?_
    show Steps p.tables e below (s₁.setTop (mkF m 3 #[.val (.ref ou), .val (.int k), .val (.int n), .val (.int e1), .val (.int e2), .val (.int e3), .val (.int t), .unset, .unset, .unset, .unset] [(.int t), (.int k)])) _
    refine XS.irem X0.here hx rfl (hb hby dM_3) rfl zt ?_
    show Steps p.tables e below (s₁.setTop (mkF m 4 #[.val (.ref ou), .val (.int k), .val (.int n), .val (.int e1), .val (.int e2), .val (.int e3), .val (.int t), .unset, .unset, .unset, .unset] [(.int (k - (k / t) * t))])) _
    rw [← hmm]
    show Steps p.tables e below (s₁.setTop (mkF m 4 #[.val (.ref ou), .val (.int k), .val (.int n), .val (.int e1), .val (.int e2), .val (.int e3), .val (.int t), .unset, .unset, .unset, .unset] [(.int mm)])) _
    refine XS.istore X0.here hx rfl (hb hby dM_4) rfl (l' := #[.val (.ref ou), .val (.int k), .val (.int n), .val (.int e1), .val (.int e2), .val (.int e3), .val (.int t), .val (.int mm), .unset, .unset, .unset]) rfl ?_
    show Steps p.tables e below (s₁.setTop (mkF m 6 #[.val (.ref ou), .val (.int k), .val (.int n), .val (.int e1), .val (.int e2), .val (.int e3), .val (.int t), .val (.int mm), .unset, .unset, .unset] [])) _
    refine XS.iload X0.here hx rfl (hb hby dM_6) rfl ?_
    show Steps p.tables e below (s₁.setTop (mkF m 8 #[.val (.ref ou), .val (.int k), .val (.int n), .val (.int e1), .val (.int e2), .val (.int e3), .val (.int t), .val (.int mm), .unset, .unset, .unset] [(.int mm)])) _
    refine XS.iload X0.here hx rfl (hb hby dM_8) rfl ?_
    show Steps p.tables e below (s₁.setTop (mkF m 10 #[.val (.ref ou), .val (.int k), .val (.int n), .val (.int e1), .val (.int e2), .val (.int e3), .val (.int t), .val (.int mm), .unset, .unset, .unset] [(.int e3), (.int mm)])) _
    refine XS.irem X0.here hx rfl (hb hby dM_10) rfl z3 ?_
    show Steps p.tables e below (s₁.setTop (mkF m 11 #[.val (.ref ou), .val (.int k), .val (.int n), .val (.int e1), .val (.int e2), .val (.int e3), .val (.int t), .val (.int mm), .unset, .unset, .unset] [(.int (mm - (mm / e3) * e3))])) _
    rw [← hw8]
    show Steps p.tables e below (s₁.setTop (mkF m 11 #[.val (.ref ou), .val (.int k), .val (.int n), .val (.int e1), .val (.int e2), .val (.int e3), .val (.int t), .val (.int mm), .unset, .unset, .unset] [(.int w8)])) _
    refine XS.istore X0.here hx rfl (hb hby dM_11) rfl (l' := #[.val (.ref ou), .val (.int k), .val (.int n), .val (.int e1), .val (.int e2), .val (.int e3), .val (.int t), .val (.int mm), .val (.int w8), .unset, .unset]) rfl ?_
    show Steps p.tables e below (s₁.setTop (mkF m 13 #[.val (.ref ou), .val (.int k), .val (.int n), .val (.int e1), .val (.int e2), .val (.int e3), .val (.int t), .val (.int mm), .val (.int w8), .unset, .unset] [])) _
    refine XS.iload X0.here hx rfl (hb hby dM_13) rfl ?_
    show Steps p.tables e below (s₁.setTop (mkF m 15 #[.val (.ref ou), .val (.int k), .val (.int n), .val (.int e1), .val (.int e2), .val (.int e3), .val (.int t), .val (.int mm), .val (.int w8), .unset, .unset] [(.int mm)])) _
    refine XS.iload X0.here hx rfl (hb hby dM_15) rfl ?_
    show Steps p.tables e below (s₁.setTop (mkF m 17 #[.val (.ref ou), .val (.int k), .val (.int n), .val (.int e1), .val (.int e2), .val (.int e3), .val (.int t), .val (.int mm), .val (.int w8), .unset, .unset] [(.int e3), (.int mm)])) _
    refine XS.idiv X0.here hx rfl (hb hby dM_17) rfl z3 ?_
    show Steps p.tables e below (s₁.setTop (mkF m 18 #[.val (.ref ou), .val (.int k), .val (.int n), .val (.int e1), .val (.int e2), .val (.int e3), .val (.int t), .val (.int mm), .val (.int w8), .unset, .unset] [(.int (mm / e3))])) _
    rw [← hqq]
    show Steps p.tables e below (s₁.setTop (mkF m 18 #[.val (.ref ou), .val (.int k), .val (.int n), .val (.int e1), .val (.int e2), .val (.int e3), .val (.int t), .val (.int mm), .val (.int w8), .unset, .unset] [(.int qq)])) _
    refine XS.iload X0.here hx rfl (hb hby dM_18) rfl ?_
    show Steps p.tables e below (s₁.setTop (mkF m 20 #[.val (.ref ou), .val (.int k), .val (.int n), .val (.int e1), .val (.int e2), .val (.int e3), .val (.int t), .val (.int mm), .val (.int w8), .unset, .unset] [(.int e2), (.int qq)])) _
    refine XS.irem X0.here hx rfl (hb hby dM_20) rfl z2 ?_
    show Steps p.tables e below (s₁.setTop (mkF m 21 #[.val (.ref ou), .val (.int k), .val (.int n), .val (.int e1), .val (.int e2), .val (.int e3), .val (.int t), .val (.int mm), .val (.int w8), .unset, .unset] [(.int (qq - (qq / e2) * e2))])) _
    rw [← hw9]
    show Steps p.tables e below (s₁.setTop (mkF m 21 #[.val (.ref ou), .val (.int k), .val (.int n), .val (.int e1), .val (.int e2), .val (.int e3), .val (.int t), .val (.int mm), .val (.int w8), .unset, .unset] [(.int w9)])) _
    refine XS.istore X0.here hx rfl (hb hby dM_21) rfl (l' := #[.val (.ref ou), .val (.int k), .val (.int n), .val (.int e1), .val (.int e2), .val (.int e3), .val (.int t), .val (.int mm), .val (.int w8), .val (.int w9), .unset]) rfl ?_
    show Steps p.tables e below (s₁.setTop (mkF m 23 #[.val (.ref ou), .val (.int k), .val (.int n), .val (.int e1), .val (.int e2), .val (.int e3), .val (.int t), .val (.int mm), .val (.int w8), .val (.int w9), .unset] [])) _
    refine XS.iload X0.here hx rfl (hb hby dM_23) rfl ?_
    show Steps p.tables e below (s₁.setTop (mkF m 25 #[.val (.ref ou), .val (.int k), .val (.int n), .val (.int e1), .val (.int e2), .val (.int e3), .val (.int t), .val (.int mm), .val (.int w8), .val (.int w9), .unset] [(.int mm)])) _
    refine XS.iload X0.here hx rfl (hb hby dM_25) rfl ?_
    show Steps p.tables e below (s₁.setTop (mkF m 27 #[.val (.ref ou), .val (.int k), .val (.int n), .val (.int e1), .val (.int e2), .val (.int e3), .val (.int t), .val (.int mm), .val (.int w8), .val (.int w9), .unset] [(.int e3), (.int mm)])) _
    refine XS.idiv X0.here hx rfl (hb hby dM_27) rfl z3 ?_
    show Steps p.tables e below (s₁.setTop (mkF m 28 #[.val (.ref ou), .val (.int k), .val (.int n), .val (.int e1), .val (.int e2), .val (.int e3), .val (.int t), .val (.int mm), .val (.int w8), .val (.int w9), .unset] [(.int (mm / e3))])) _
    rw [← hqq]
    show Steps p.tables e below (s₁.setTop (mkF m 28 #[.val (.ref ou), .val (.int k), .val (.int n), .val (.int e1), .val (.int e2), .val (.int e3), .val (.int t), .val (.int mm), .val (.int w8), .val (.int w9), .unset] [(.int qq)])) _
    refine XS.iload X0.here hx rfl (hb hby dM_28) rfl ?_
    show Steps p.tables e below (s₁.setTop (mkF m 30 #[.val (.ref ou), .val (.int k), .val (.int n), .val (.int e1), .val (.int e2), .val (.int e3), .val (.int t), .val (.int mm), .val (.int w8), .val (.int w9), .unset] [(.int e2), (.int qq)])) _
    refine XS.idiv X0.here hx rfl (hb hby dM_30) rfl z2 ?_
    show Steps p.tables e below (s₁.setTop (mkF m 31 #[.val (.ref ou), .val (.int k), .val (.int n), .val (.int e1), .val (.int e2), .val (.int e3), .val (.int t), .val (.int mm), .val (.int w8), .val (.int w9), .unset] [(.int (qq / e2))])) _
    rw [← hq2]
    show Steps p.tables e below (s₁.setTop (mkF m 31 #[.val (.ref ou), .val (.int k), .val (.int n), .val (.int e1), .val (.int e2), .val (.int e3), .val (.int t), .val (.int mm), .val (.int w8), .val (.int w9), .unset] [(.int q2)])) _
    refine XS.iloadN X0.here hx rfl (hb hby dM_31) rfl ?_
    show Steps p.tables e below (s₁.setTop (mkF m 32 #[.val (.ref ou), .val (.int k), .val (.int n), .val (.int e1), .val (.int e2), .val (.int e3), .val (.int t), .val (.int mm), .val (.int w8), .val (.int w9), .unset] [(.int e1), (.int q2)])) _
    refine XS.irem X0.here hx rfl (hb hby dM_32) rfl z1 ?_
    show Steps p.tables e below (s₁.setTop (mkF m 33 #[.val (.ref ou), .val (.int k), .val (.int n), .val (.int e1), .val (.int e2), .val (.int e3), .val (.int t), .val (.int mm), .val (.int w8), .val (.int w9), .unset] [(.int (q2 - (q2 / e1) * e1))])) _
    rw [← hw10]
    show Steps p.tables e below (s₁.setTop (mkF m 33 #[.val (.ref ou), .val (.int k), .val (.int n), .val (.int e1), .val (.int e2), .val (.int e3), .val (.int t), .val (.int mm), .val (.int w8), .val (.int w9), .unset] [(.int w10)])) _
    refine XS.istore X0.here hx rfl (hb hby dM_33) rfl (l' := #[.val (.ref ou), .val (.int k), .val (.int n), .val (.int e1), .val (.int e2), .val (.int e3), .val (.int t), .val (.int mm), .val (.int w8), .val (.int w9), .val (.int w10)]) rfl ?_
    show Steps p.tables e below (s₁.setTop (mkF m 35 #[.val (.ref ou), .val (.int k), .val (.int n), .val (.int e1), .val (.int e2), .val (.int e3), .val (.int t), .val (.int mm), .val (.int w8), .val (.int w9), .val (.int w10)] [])) _
    refine gmat X0 hx hby hZ e0 F (v8 := w8) (v9 := w9) (v10 := w10) (z := v) hv ?_
    show Steps p.tables e below (s₁.setTop (mkF m 79 #[.val (.ref ou), .val (.int k), .val (.int n), .val (.int e1), .val (.int e2), .val (.int e3), .val (.int t), .val (.int mm), .val (.int w8), .val (.int w9), .val (.int w10)] [(.int v)])) _
    exact retN X0 hx (t := .boolean) Bd.returns (by simp) (hb hby dM_79) hr
  · show QM Z r k n e1 e2 e3 t h0 n0 _ s₁.heap _
    rw [e0]
    exact ⟨by rw [hv, hw10, hq2, hw9, hqq, hw8, hmm]; rfl, N0, rfl⟩
def QI (Z : State) (d : Addr) (h0 : Heap) (n0 : Nat) (v : Option Value) (h : Heap) (L : List Loc) : Prop := v = none ∧ Fr n0 L ∧ Keep h0 h [d] ∧ ∃ ta al, h0.size ≤ ta ∧ h0.size ≤ al ∧ own_DP Z h d ta al 0 0 (fun _ => 0) (fun _ => 0)
set_option maxRecDepth 65536 in
set_option maxHeartbeats 40000000 in
theorem rmI (l : Launch) (Z : State) (a0 : Array Value) (hw : ∀ d ∈ tables_1, d.before a0 Z = true) (ws : List Jvm.Cond) (d : Addr) (u1 u2 : Value) (h0 : Heap) (n0 : Nat) (Z0 : n0 ≤ h0.size) (Ed : Exa Z h0 d "com/example/nereus/nereus/checker/DecisionPath") (F1 : Fld Z h0 d "com/example/nereus/nereus/checker/DecisionPath" "taken" "[I" u1) (F2 : Fld Z h0 d "com/example/nereus/nereus/checker/DecisionPath" "alternatives" "[I" u2) (F3 : Fld Z h0 d "com/example/nereus/nereus/checker/DecisionPath" "length" "I" (.int (0 : Int32))) (F4 : Fld Z h0 d "com/example/nereus/nereus/checker/DecisionPath" "made" "I" (.int (0 : Int32))) (g_d : n0 ≤ d) :
    MetFree l (⟨"com/example/nereus/nereus/checker/DecisionPath", "<init>", "()V"⟩ : MethodName) (head1 (Jvm.Cond.code (⟨"com/example/nereus/nereus/checker/DecisionPath", "<init>", "()V"⟩ : MethodName) prog_5_method_1_code 1 none :: ws) ({ frames := 1, cells := 2, slots := 128, locals := 12 } : Room)) (fun a_ U => a_ = #[(.ref d)] ∧ Z.Warmed39 U.vm ∧ U.heap = h0) (fun _ _ _ _ _ => True) (fun _ U o U' => ∃ v L, o = .returned v ∧ QI Z d h0 n0 v U'.heap L ∧ FrameEnd U o U' L ({ frames := 1, cells := 2, slots := 128, locals := 12 } : Room).cells ({ frames := 1, cells := 2, slots := 128, locals := 12 } : Room).slots) := by
  refine MetFree.of_bodySF (plainFor_of_name pnC) hisR ?_
  intro p e s m args below meth c s₁ Bd hml0 hP hK
  obtain ⟨rfl, hZ, hh⟩ := hP
  have hx := Bd.exec
  have hby := Bd.bytes
  have hml : c.maxLocals = 1 := hml0
  have hown : s.vm.findClass "com/example/nereus/nereus/checker/DecisionPath" = some m.cls := findClass_of_methodNamed Bd.named
  have hnm := (name_of_methodNamed Bd.named Bd.method).1
  have X0 : Stand p l e ({ frames := 1, cells := 2, slots := 128, locals := 12 } : Room) s m #[(.ref d)] below meth c s₁ [] 0 0 := Stand.of_body Bd
  have e0 : s₁.heap = h0 := by rw [← hh, Bd.state]; rfl
  have N0 := Fr.nil n0
  have pre0 : ∀ t_, Steps p.tables e below (s₁.setTop (mkF m 0 #[.val (.ref d)] [])) t_ → Steps p.tables e below (s₁.setTop (entryFrame m #[(.ref d)] 1)) t_ := fun t_ k_ => castTop (efI m d) k_
  obtain ⟨T2, X2, e2, st2⟩ := initO X0 hx hZ hown (hw _ (List.mem_of_getElem? (i := 7) rfl)) (hw _ (List.mem_of_getElem? (i := 8) rfl)) (hw _ (List.mem_of_getElem? (i := 9) rfl)) e0 (g := (mkF m 1 #[.val (.ref d)] [(.ref d)])) rfl (by rw [hml]; rfl) rfl (hb hby dI_1) (by decide) (W := 0) (by show 2 * 0 + _ ≤ _; exact Nat.le_of_eq rfl) (by decide)
  obtain ⟨T3, h3, k3, X3, e3, E3, A3, st3⟩ := newP X2 hx hZ (hw _ (List.mem_of_getElem? (i := 0) rfl)) e2 (g := (mkF m 7 #[.val (.ref d)] [(.int (64 : Int32)), (.ref d)])) rfl (hb hby dI_7) rfl (by decide) (cap := 64) (by decide) (by decide) (by decide) (by decide)
  obtain ⟨b3, g3⟩ : ∃ z, z = h0.size := ⟨_, rfl⟩
  rw [← g3] at A3 st3
  obtain ⟨T4, h4, X4, e4, W4, st4⟩ := putF X3 hx hZ hown (host := "") (Or.inl (hw _ (List.mem_of_getElem? (i := 10) rfl))) Via.refl e3 (F1.ext E3) (Ed.ext E3) (Or.inl (hw _ (List.mem_of_getElem? (i := 11) rfl))) (hw _ (List.mem_of_getElem? (i := 2) rfl)) (ty := (.array .int)) (by decide) rfl rfl (g := (mkF m 9 #[.val (.ref d)] [(.ref b3), (.ref d)])) rfl rfl (hb hby dI_9)
  obtain ⟨T5, h5, k5, X5, e5, E5, A5, st5⟩ := newP X4 hx hZ (hw _ (List.mem_of_getElem? (i := 0) rfl)) e4 (g := (mkF m 15 #[.val (.ref d)] [(.int (64 : Int32)), (.ref d)])) rfl (hb hby dI_15) rfl (by decide) (cap := 64) (by decide) (by decide) (by decide) (by decide)
  obtain ⟨b5, g5⟩ : ∃ z, z = h4.size := ⟨_, rfl⟩
  rw [← g5] at A5 st5
  obtain ⟨T6, h6, X6, e6, W6, st6⟩ := putF X5 hx hZ hown (host := "") (Or.inl (hw _ (List.mem_of_getElem? (i := 12) rfl))) Via.refl e5 (((F2.ext E3).other W4 (Or.inr (slot_ne (Or.inl (hw _ (List.mem_of_getElem? (i := 13) rfl))) (Or.inl (hw _ (List.mem_of_getElem? (i := 11) rfl))) (by decide) (t := (.array .int)) (t' := (.array .int)) (by decide) (by decide)))).ext E5) (((Ed.ext E3).wr W4).ext E5) (Or.inl (hw _ (List.mem_of_getElem? (i := 13) rfl))) (hw _ (List.mem_of_getElem? (i := 2) rfl)) (ty := (.array .int)) (by decide) rfl rfl (g := (mkF m 17 #[.val (.ref d)] [(.ref b5), (.ref d)])) rfl rfl (hb hby dI_17)
  have ld : @LT.lt Nat _ d h0.size := Ed.lt
  have Ia : own_IA Z h3 b3 64 (fun _ => 0) := own_IA.new A3 (by decide) rfl
  have la : @LT.lt Nat _ b3 h3.size := Ia.lt
  have sw := W4.size
  have Ib : own_IA Z h5 b5 64 (fun _ => 0) := own_IA.new A5 (by decide) rfl
  have nda : d ≠ b3 := Nat.ne_of_lt (by omega)
  have ndb : d ≠ b5 := Nat.ne_of_lt (by have := E3.1; omega)
  have nab : b3 ≠ b5 := Nat.ne_of_lt (by omega)
  have NN := Fr.snoc X6 (Fr.snoc X4 N0 g_d) g_d
  have KK : Keep h0 h6 [d] := ((((Keep.refl h0 [d]).ext E3).wr W4 (Or.inl (by simp))).ext E5).wr W6 (Or.inl (by simp))
  have PP : own_DP Z h6 d b3 b5 0 0 (fun _ => 0) (fun _ => 0) := ⟨((((Ed.ext E3).wr W4).ext E5)).wr W6, ((((F1.ext E3).same W4).ext E5).other W6 (Or.inr (slot_ne (Or.inl (hw _ (List.mem_of_getElem? (i := 11) rfl))) (Or.inl (hw _ (List.mem_of_getElem? (i := 13) rfl))) (by decide) (t := (.array .int)) (t' := (.array .int)) (by decide) (by decide)))), ((((F2.ext E3).other W4 (Or.inr (slot_ne (Or.inl (hw _ (List.mem_of_getElem? (i := 13) rfl))) (Or.inl (hw _ (List.mem_of_getElem? (i := 11) rfl))) (by decide) (t := (.array .int)) (t' := (.array .int)) (by decide) (by decide)))).ext E5)).same W6, ((((F3.ext E3).other W4 (Or.inr (slot_ne (Or.inl (hw _ (List.mem_of_getElem? (i := 24) rfl))) (Or.inl (hw _ (List.mem_of_getElem? (i := 11) rfl))) (by decide) (t := .int) (t' := (.array .int)) (by decide) (by decide)))).ext E5).other W6 (Or.inr (slot_ne (Or.inl (hw _ (List.mem_of_getElem? (i := 24) rfl))) (Or.inl (hw _ (List.mem_of_getElem? (i := 13) rfl))) (by decide) (t := .int) (t' := (.array .int)) (by decide) (by decide)))), ((((F4.ext E3).other W4 (Or.inr (slot_ne (Or.inl (hw _ (List.mem_of_getElem? (i := 26) rfl))) (Or.inl (hw _ (List.mem_of_getElem? (i := 11) rfl))) (by decide) (t := .int) (t' := (.array .int)) (by decide) (by decide)))).ext E5).other W6 (Or.inr (slot_ne (Or.inl (hw _ (List.mem_of_getElem? (i := 26) rfl))) (Or.inl (hw _ (List.mem_of_getElem? (i := 13) rfl))) (by decide) (t := .int) (t' := (.array .int)) (by decide) (by decide)))),
    ((Ia.other W4 (Ne.symm nda)).ext E5).other W6 (Ne.symm nda), Ib.other W6 (Ne.symm ndb), nab, nda, ndb⟩
  obtain ⟨fs, hr, hrun, hended, hW, hsame⟩ := X6.leave (v := none) (fun _ => rfl)
  refine ⟨_, _, pre0 _ ?_, hrun, hended, _, _, rfl, ?_, ⟨_, rfl⟩, hW, hsame.mono (by decide) (by decide)⟩
  · show Steps p.tables e below (s₁.setTop (mkF m 0 #[.val (.ref d)] [])) _
    refine XS.aloadN X0.here hx rfl (hb hby dI_0) rfl rfl ?_
    show Steps p.tables e below (s₁.setTop (mkF m 1 #[.val (.ref d)] [(.ref d)])) _
    refine st2 _ ?_
    show Steps p.tables e below (T2.setTop (mkF m 4 #[.val (.ref d)] [])) _
    refine XS.aloadN X2.here hx rfl (hb hby dI_4) rfl rfl ?_
    show Steps p.tables e below (T2.setTop (mkF m 5 #[.val (.ref d)] [(.ref d)])) _
    refine XS.bipush X2.here hx rfl (hb hby dI_5) ?_
    show Steps p.tables e below (T2.setTop (mkF m 7 #[.val (.ref d)] [(.int (64 : Int32)), (.ref d)])) _
    refine st3 _ ?_
    show Steps p.tables e below (T3.setTop (mkF m 9 #[.val (.ref d)] [(.ref b3), (.ref d)])) _
    refine st4 _ ?_
    show Steps p.tables e below (T4.setTop (mkF m 12 #[.val (.ref d)] [])) _
    refine XS.aloadN X4.here hx rfl (hb hby dI_12) rfl rfl ?_
    show Steps p.tables e below (T4.setTop (mkF m 13 #[.val (.ref d)] [(.ref d)])) _
    refine XS.bipush X4.here hx rfl (hb hby dI_13) ?_
    show Steps p.tables e below (T4.setTop (mkF m 15 #[.val (.ref d)] [(.int (64 : Int32)), (.ref d)])) _
    refine st5 _ ?_
    show Steps p.tables e below (T5.setTop (mkF m 17 #[.val (.ref d)] [(.ref b5), (.ref d)])) _
    refine st6 _ ?_
    show Steps p.tables e below (T6.setTop (mkF m 20 #[.val (.ref d)] [])) _
    exact X6.returnOut hx Bd.returns (hb hby dI_20) hr
  · show QI Z d h0 n0 _ T6.heap _
    rw [e6]
    exact ⟨rfl, NN, KK, b3, b5, by omega, by have := E3.1; omega, PP⟩
section LawRegs
variable {p : Program} {l : Launch} {e : Env} {R : Room} {s : State} {m : MethodId} {args : Array Value} {below : List Frame} {meth : Method} {c : Code} {T : State} {locs : List Loc} {cells slots : Nat} {Z : State} {a0 : Array Value} {n0 : Nat}
set_option maxRecDepth 65536 in
set_option maxHeartbeats 40000000 in
theorem ge1 (X : Stand p l e R s m args below meth c T locs cells slots) (hx : p.tables.exec = Jvm.exec) (hby : c.code = code) {t : State} {s0 s1 s2 s3 s6 s7 s8 s9 s10 s11 s12 s13 s14 s15 s16 s17 : Slot} {n c : Int32} {z : Int32} (hz : z = (if n < (1 : Int32) then (1 : Int32) else c))
    (k : Steps p.tables e below (T.setTop (mkF m 38 #[s0, s1, s2, s3, .val (.int n), .val (.int c), s6, s7, s8, s9, s10, s11, s12, s13, s14, s15, s16, s17] [(.int z)])) t) : Steps p.tables e below (T.setTop (mkF m 26 #[s0, s1, s2, s3, .val (.int n), .val (.int c), s6, s7, s8, s9, s10, s11, s12, s13, s14, s15, s16, s17] [])) t := by
  subst hz
  show Steps p.tables e below (T.setTop (mkF m 26 #[s0, s1, s2, s3, .val (.int n), .val (.int c), s6, s7, s8, s9, s10, s11, s12, s13, s14, s15, s16, s17] [])) _
  refine XS.iload X.here hx rfl (hb hby at_26) rfl ?_
  show Steps p.tables e below (T.setTop (mkF m 28 #[s0, s1, s2, s3, .val (.int n), .val (.int c), s6, s7, s8, s9, s10, s11, s12, s13, s14, s15, s16, s17] [(.int n)])) _
  refine XS.iconst X.here hx rfl (hb hby at_28) ?_
  show Steps p.tables e below (T.setTop (mkF m 29 #[s0, s1, s2, s3, .val (.int n), .val (.int c), s6, s7, s8, s9, s10, s11, s12, s13, s14, s15, s16, s17] [(.int (1 : Int32)), (.int n)])) _
  by_cases h29 : n < (1 : Int32)
  · rw [if_pos h29] at k
    refine XS.icmpYes X.here hx rfl (pc0 := 29) (pc' := 37) rfl (hb hby at_29) rfl (tlt h29).1 (by decide) (by decide) ?_
    show Steps p.tables e below (T.setTop (mkF m 37 #[s0, s1, s2, s3, .val (.int n), .val (.int c), s6, s7, s8, s9, s10, s11, s12, s13, s14, s15, s16, s17] [])) _
    refine XS.iconst X.here hx rfl (hb hby at_37) ?_
    exact k
  · rw [if_neg h29] at k
    refine XS.icmpNo X.here hx rfl (hb hby at_29) rfl (flt h29).1 ?_
    show Steps p.tables e below (T.setTop (mkF m 32 #[s0, s1, s2, s3, .val (.int n), .val (.int c), s6, s7, s8, s9, s10, s11, s12, s13, s14, s15, s16, s17] [])) _
    refine XS.iload X.here hx rfl (hb hby at_32) rfl ?_
    show Steps p.tables e below (T.setTop (mkF m 34 #[s0, s1, s2, s3, .val (.int n), .val (.int c), s6, s7, s8, s9, s10, s11, s12, s13, s14, s15, s16, s17] [(.int c)])) _
    refine XS.goto X.here hx rfl (pc0 := 34) (pc' := 38) rfl (hb hby at_34) (by decide) (by decide) ?_
    exact k
set_option maxRecDepth 65536 in
set_option maxHeartbeats 40000000 in
theorem ge2 (X : Stand p l e R s m args below meth c T locs cells slots) (hx : p.tables.exec = Jvm.exec) (hby : c.code = code) {t : State} {s0 s1 s2 s3 s5 s7 s8 s9 s10 s11 s12 s13 s14 s15 s16 s17 : Slot} {n c : Int32} {z : Int32} (hz : z = (if n < (2 : Int32) then (1 : Int32) else c))
    (k : Steps p.tables e below (T.setTop (mkF m 52 #[s0, s1, s2, s3, .val (.int n), s5, .val (.int c), s7, s8, s9, s10, s11, s12, s13, s14, s15, s16, s17] [(.int z)])) t) : Steps p.tables e below (T.setTop (mkF m 40 #[s0, s1, s2, s3, .val (.int n), s5, .val (.int c), s7, s8, s9, s10, s11, s12, s13, s14, s15, s16, s17] [])) t := by
  subst hz
  show Steps p.tables e below (T.setTop (mkF m 40 #[s0, s1, s2, s3, .val (.int n), s5, .val (.int c), s7, s8, s9, s10, s11, s12, s13, s14, s15, s16, s17] [])) _
  refine XS.iload X.here hx rfl (hb hby at_40) rfl ?_
  show Steps p.tables e below (T.setTop (mkF m 42 #[s0, s1, s2, s3, .val (.int n), s5, .val (.int c), s7, s8, s9, s10, s11, s12, s13, s14, s15, s16, s17] [(.int n)])) _
  refine XS.iconst X.here hx rfl (hb hby at_42) ?_
  show Steps p.tables e below (T.setTop (mkF m 43 #[s0, s1, s2, s3, .val (.int n), s5, .val (.int c), s7, s8, s9, s10, s11, s12, s13, s14, s15, s16, s17] [(.int (2 : Int32)), (.int n)])) _
  by_cases h43 : n < (2 : Int32)
  · rw [if_pos h43] at k
    refine XS.icmpYes X.here hx rfl (pc0 := 43) (pc' := 51) rfl (hb hby at_43) rfl (tlt h43).1 (by decide) (by decide) ?_
    show Steps p.tables e below (T.setTop (mkF m 51 #[s0, s1, s2, s3, .val (.int n), s5, .val (.int c), s7, s8, s9, s10, s11, s12, s13, s14, s15, s16, s17] [])) _
    refine XS.iconst X.here hx rfl (hb hby at_51) ?_
    exact k
  · rw [if_neg h43] at k
    refine XS.icmpNo X.here hx rfl (hb hby at_43) rfl (flt h43).1 ?_
    show Steps p.tables e below (T.setTop (mkF m 46 #[s0, s1, s2, s3, .val (.int n), s5, .val (.int c), s7, s8, s9, s10, s11, s12, s13, s14, s15, s16, s17] [])) _
    refine XS.iload X.here hx rfl (hb hby at_46) rfl ?_
    show Steps p.tables e below (T.setTop (mkF m 48 #[s0, s1, s2, s3, .val (.int n), s5, .val (.int c), s7, s8, s9, s10, s11, s12, s13, s14, s15, s16, s17] [(.int c)])) _
    refine XS.goto X.here hx rfl (pc0 := 48) (pc' := 52) rfl (hb hby at_48) (by decide) (by decide) ?_
    exact k
set_option maxRecDepth 65536 in
set_option maxHeartbeats 40000000 in
theorem ge3 (X : Stand p l e R s m args below meth c T locs cells slots) (hx : p.tables.exec = Jvm.exec) (hby : c.code = code) {t : State} {s0 s1 s2 s3 s5 s6 s8 s9 s10 s11 s12 s13 s14 s15 s16 s17 : Slot} {n c : Int32} {z : Int32} (hz : z = (if n < (3 : Int32) then (1 : Int32) else c))
    (k : Steps p.tables e below (T.setTop (mkF m 66 #[s0, s1, s2, s3, .val (.int n), s5, s6, .val (.int c), s8, s9, s10, s11, s12, s13, s14, s15, s16, s17] [(.int z)])) t) : Steps p.tables e below (T.setTop (mkF m 54 #[s0, s1, s2, s3, .val (.int n), s5, s6, .val (.int c), s8, s9, s10, s11, s12, s13, s14, s15, s16, s17] [])) t := by
  subst hz
  show Steps p.tables e below (T.setTop (mkF m 54 #[s0, s1, s2, s3, .val (.int n), s5, s6, .val (.int c), s8, s9, s10, s11, s12, s13, s14, s15, s16, s17] [])) _
  refine XS.iload X.here hx rfl (hb hby at_54) rfl ?_
  show Steps p.tables e below (T.setTop (mkF m 56 #[s0, s1, s2, s3, .val (.int n), s5, s6, .val (.int c), s8, s9, s10, s11, s12, s13, s14, s15, s16, s17] [(.int n)])) _
  refine XS.iconst X.here hx rfl (hb hby at_56) ?_
  show Steps p.tables e below (T.setTop (mkF m 57 #[s0, s1, s2, s3, .val (.int n), s5, s6, .val (.int c), s8, s9, s10, s11, s12, s13, s14, s15, s16, s17] [(.int (3 : Int32)), (.int n)])) _
  by_cases h57 : n < (3 : Int32)
  · rw [if_pos h57] at k
    refine XS.icmpYes X.here hx rfl (pc0 := 57) (pc' := 65) rfl (hb hby at_57) rfl (tlt h57).1 (by decide) (by decide) ?_
    show Steps p.tables e below (T.setTop (mkF m 65 #[s0, s1, s2, s3, .val (.int n), s5, s6, .val (.int c), s8, s9, s10, s11, s12, s13, s14, s15, s16, s17] [])) _
    refine XS.iconst X.here hx rfl (hb hby at_65) ?_
    exact k
  · rw [if_neg h57] at k
    refine XS.icmpNo X.here hx rfl (hb hby at_57) rfl (flt h57).1 ?_
    show Steps p.tables e below (T.setTop (mkF m 60 #[s0, s1, s2, s3, .val (.int n), s5, s6, .val (.int c), s8, s9, s10, s11, s12, s13, s14, s15, s16, s17] [])) _
    refine XS.iload X.here hx rfl (hb hby at_60) rfl ?_
    show Steps p.tables e below (T.setTop (mkF m 62 #[s0, s1, s2, s3, .val (.int n), s5, s6, .val (.int c), s8, s9, s10, s11, s12, s13, s14, s15, s16, s17] [(.int c)])) _
    refine XS.goto X.here hx rfl (pc0 := 62) (pc' := 66) rfl (hb hby at_62) (by decide) (by decide) ?_
    exact k
set_option maxRecDepth 65536 in
set_option maxHeartbeats 40000000 in
theorem gz1 (X : Stand p l e R s m args below meth c T locs cells slots) (hx : p.tables.exec = Jvm.exec) (hby : c.code = code) {t : State} {s0 s1 s2 s3 s4 s5 s6 s7 s8 s9 s10 s11 s12 s13 s14 s15 s16 s17 : Slot} {y o : Int32} {z : Int32} (hz : z = (if y = (0 : Int32) then (0 : Int32) else (1 : Int32)))
    (k : Steps p.tables e below (T.setTop (mkF m 232 #[s0, s1, s2, s3, s4, s5, s6, s7, s8, s9, s10, s11, s12, s13, s14, s15, s16, s17] [(.int z), (.int o)])) t) : Steps p.tables e below (T.setTop (mkF m 224 #[s0, s1, s2, s3, s4, s5, s6, s7, s8, s9, s10, s11, s12, s13, s14, s15, s16, s17] [(.int y), (.int o)])) t := by
  subst hz
  show Steps p.tables e below (T.setTop (mkF m 224 #[s0, s1, s2, s3, s4, s5, s6, s7, s8, s9, s10, s11, s12, s13, s14, s15, s16, s17] [(.int y), (.int o)])) _
  by_cases h224 : y = (0 : Int32)
  · rw [if_pos h224] at k
    refine XS.ifYes X.here hx rfl (pc0 := 224) (pc' := 231) rfl (hb hby at_224) rfl ((if0 _ _).trans (teq h224).1) (by decide) (by decide) ?_
    show Steps p.tables e below (T.setTop (mkF m 231 #[s0, s1, s2, s3, s4, s5, s6, s7, s8, s9, s10, s11, s12, s13, s14, s15, s16, s17] [(.int o)])) _
    refine XS.iconst X.here hx rfl (hb hby at_231) ?_
    exact k
  · rw [if_neg h224] at k
    refine XS.ifNo X.here hx rfl (hb hby at_224) rfl ((if0 _ _).trans (feq h224).1) ?_
    show Steps p.tables e below (T.setTop (mkF m 227 #[s0, s1, s2, s3, s4, s5, s6, s7, s8, s9, s10, s11, s12, s13, s14, s15, s16, s17] [(.int o)])) _
    refine XS.iconst X.here hx rfl (hb hby at_227) ?_
    show Steps p.tables e below (T.setTop (mkF m 228 #[s0, s1, s2, s3, s4, s5, s6, s7, s8, s9, s10, s11, s12, s13, s14, s15, s16, s17] [(.int (1 : Int32)), (.int o)])) _
    refine XS.goto X.here hx rfl (pc0 := 228) (pc' := 232) rfl (hb hby at_228) (by decide) (by decide) ?_
    exact k
set_option maxRecDepth 65536 in
set_option maxHeartbeats 40000000 in
theorem gz2 (X : Stand p l e R s m args below meth c T locs cells slots) (hx : p.tables.exec = Jvm.exec) (hby : c.code = code) {t : State} {s0 s1 s2 s3 s4 s5 s6 s7 s8 s9 s10 s11 s12 s13 s14 s15 s16 s17 : Slot} {y o : Int32} {z : Int32} (hz : z = (if y = (0 : Int32) then (0 : Int32) else (1 : Int32)))
    (k : Steps p.tables e below (T.setTop (mkF m 249 #[s0, s1, s2, s3, s4, s5, s6, s7, s8, s9, s10, s11, s12, s13, s14, s15, s16, s17] [(.int z), (.int o)])) t) : Steps p.tables e below (T.setTop (mkF m 241 #[s0, s1, s2, s3, s4, s5, s6, s7, s8, s9, s10, s11, s12, s13, s14, s15, s16, s17] [(.int y), (.int o)])) t := by
  subst hz
  show Steps p.tables e below (T.setTop (mkF m 241 #[s0, s1, s2, s3, s4, s5, s6, s7, s8, s9, s10, s11, s12, s13, s14, s15, s16, s17] [(.int y), (.int o)])) _
  by_cases h241 : y = (0 : Int32)
  · rw [if_pos h241] at k
    refine XS.ifYes X.here hx rfl (pc0 := 241) (pc' := 248) rfl (hb hby at_241) rfl ((if0 _ _).trans (teq h241).1) (by decide) (by decide) ?_
    show Steps p.tables e below (T.setTop (mkF m 248 #[s0, s1, s2, s3, s4, s5, s6, s7, s8, s9, s10, s11, s12, s13, s14, s15, s16, s17] [(.int o)])) _
    refine XS.iconst X.here hx rfl (hb hby at_248) ?_
    exact k
  · rw [if_neg h241] at k
    refine XS.ifNo X.here hx rfl (hb hby at_241) rfl ((if0 _ _).trans (feq h241).1) ?_
    show Steps p.tables e below (T.setTop (mkF m 244 #[s0, s1, s2, s3, s4, s5, s6, s7, s8, s9, s10, s11, s12, s13, s14, s15, s16, s17] [(.int o)])) _
    refine XS.iconst X.here hx rfl (hb hby at_244) ?_
    show Steps p.tables e below (T.setTop (mkF m 245 #[s0, s1, s2, s3, s4, s5, s6, s7, s8, s9, s10, s11, s12, s13, s14, s15, s16, s17] [(.int (1 : Int32)), (.int o)])) _
    refine XS.goto X.here hx rfl (pc0 := 245) (pc' := 249) rfl (hb hby at_245) (by decide) (by decide) ?_
    exact k
end LawRegs
/-! the plain law: no program in sight -/
theorem own_mask3 (p : Int32) : ∃ k : Fin 4, p &&& (3 : Int32) = Int32.ofNat k.val := by
  have e : (p &&& (3 : Int32)).toInt = p.toInt % 2 ^ 2 := Jvm.Kit.i32_mask p 3 (k := 2) (by decide) (by decide)
  refine ⟨⟨(p.toInt % 4).toNat, by omega⟩, ?_⟩
  rw [← Int32.toInt_inj, e, Int32.toInt_ofNat_small (by show (p.toInt % 4).toNat < _; omega)]
  show p.toInt % 2 ^ 2 = ((p.toInt % 4).toNat : Int)
  omega
def own_q0 : Nat × Nat × (Nat → Int32) × (Nat → Int32) × (Nat → Int32) := (0, 0, (fun _ => 0), (fun _ => 0), (fun _ => 0))
def own_nx (r : Nat × Nat × (Nat → Int32) × (Nat → Int32) × (Nat → Int32)) : Nat × Nat × (Nat → Int32) × (Nat → Int32) × (Nat → Int32) := (avL r.2.2.1 r.2.2.2.1 r.1, 0, avF r.2.2.1 r.2.2.2.1 r.1, r.2.2.2.1, (fun _ => 0))
def own_av (r : Nat × Nat × (Nat → Int32) × (Nat → Int32) × (Nat → Int32)) : Int32 := if avL r.2.2.1 r.2.2.2.1 r.1 = 0 then 0 else 1
def own_e (n k c : Int32) : Int32 := if n < k then (1 : Int32) else c
abbrev own_goal (n e1 e2 e3 t : Int32) (r1 r2 r3 : Nat × Nat × (Nat → Int32) × (Nat → Int32) × (Nat → Int32)) : Prop :=
  ¬ e1 = 0 ∧ ¬ e2 = 0 ∧ ¬ e3 = 0 ∧ ¬ t = 0 ∧ ¬ mtc r1.2.2.2.2 (0 : Int32) n e1 e2 e3 t = 0 ∧ ¬ mtc r2.2.2.2.2 (1 : Int32) n e1 e2 e3 t = 0 ∧ ¬ mtc r3.2.2.2.2 (2 : Int32) n e1 e2 e3 t = 0 ∧
    own_av r1 = (if ((1 : Int32) - ((1 : Int32) / t) * t) = (0 : Int32) then (0 : Int32) else (1 : Int32)) ∧ own_av r2 = (if ((2 : Int32) - ((2 : Int32) / t) * t) = (0 : Int32) then (0 : Int32) else (1 : Int32))
def own_fin (n c1 c2 c3 : Int32) : Bool := decide (own_goal n (own_e n 1 c1) (own_e n 2 c2) (own_e n 3 c3) (own_e n 1 c1 * own_e n 2 c2 * own_e n 3 c3) (rnA n c1 c2 c3 own_q0) (rnA n c1 c2 c3 (own_nx (rnA n c1 c2 c3 own_q0))) (rnA n c1 c2 c3 (own_nx (rnA n c1 c2 c3 (own_nx (rnA n c1 c2 c3 own_q0))))))
def own_L4 : List Nat := [0, 1, 2, 3]
set_option maxRecDepth 65536 in
theorem own_fin_ok : (own_L4.all fun a => own_L4.all fun b => own_L4.all fun c => own_L4.all fun d => own_fin (Int32.ofNat a) (Int32.ofNat b + 1) (Int32.ofNat c + 1) (Int32.ofNat d + 1)) = true := by decide +kernel
theorem own_fin_all (a b c d : Fin 4) : own_fin (Int32.ofNat a.val) (Int32.ofNat b.val + 1) (Int32.ofNat c.val + 1) (Int32.ofNat d.val + 1) = true := by
  have m : ∀ k : Fin 4, k.val ∈ own_L4 := by decide
  exact List.all_eq_true.mp (List.all_eq_true.mp (List.all_eq_true.mp (List.all_eq_true.mp own_fin_ok _ (m a)) _ (m b)) _ (m c)) _ (m d)
theorem own_plain {p1 p2 p3 p4 n c1 c2 c3 e1 e2 e3 t v1 v2 : Int32} {q0 r1 q1 r2 q2 r3 : Nat × Nat × (Nat → Int32) × (Nat → Int32) × (Nat → Int32)} (hn : n = (p1 &&& (3 : Int32))) (hc1 : c1 = ((p2 &&& (3 : Int32)) + (1 : Int32))) (hc2 : c2 = ((p3 &&& (3 : Int32)) + (1 : Int32))) (hc3 : c3 = ((p4 &&& (3 : Int32)) + (1 : Int32)))
    (he1 : e1 = (if n < (1 : Int32) then (1 : Int32) else c1)) (he2 : e2 = (if n < (2 : Int32) then (1 : Int32) else c2)) (he3 : e3 = (if n < (3 : Int32) then (1 : Int32) else c3)) (ht : t = ((e1 * e2) * e3))
    (hq0 : q0 = (0, 0, (fun _ => 0), (fun _ => 0), (fun _ => 0))) (hr1 : r1 = rnA n c1 c2 c3 q0) (hv1 : v1 = (if avL r1.2.2.1 r1.2.2.2.1 r1.1 = 0 then 0 else 1)) (hq1 : q1 = (avL r1.2.2.1 r1.2.2.2.1 r1.1, 0, avF r1.2.2.1 r1.2.2.2.1 r1.1, r1.2.2.2.1, (fun _ => 0)))
    (hr2 : r2 = rnA n c1 c2 c3 q1) (hv2 : v2 = (if avL r2.2.2.1 r2.2.2.2.1 r2.1 = 0 then 0 else 1)) (hq2 : q2 = (avL r2.2.2.1 r2.2.2.2.1 r2.1, 0, avF r2.2.2.1 r2.2.2.2.1 r2.1, r2.2.2.2.1, (fun _ => 0))) (hr3 : r3 = rnA n c1 c2 c3 q2) :
    ¬ e1 = 0 ∧ ¬ e2 = 0 ∧ ¬ e3 = 0 ∧ ¬ t = 0 ∧ ¬ mtc r1.2.2.2.2 (0 : Int32) n e1 e2 e3 t = 0 ∧ ¬ mtc r2.2.2.2.2 (1 : Int32) n e1 e2 e3 t = 0 ∧ ¬ mtc r3.2.2.2.2 (2 : Int32) n e1 e2 e3 t = 0 ∧
      v1 = (if ((1 : Int32) - ((1 : Int32) / t) * t) = (0 : Int32) then (0 : Int32) else (1 : Int32)) ∧ v2 = (if ((2 : Int32) - ((2 : Int32) / t) * t) = (0 : Int32) then (0 : Int32) else (1 : Int32)) := by
  obtain ⟨k0, h0⟩ := own_mask3 p1
  obtain ⟨k1, h1⟩ := own_mask3 p2
  obtain ⟨k2, h2⟩ := own_mask3 p3
  obtain ⟨k3, h3⟩ := own_mask3 p4
  rw [h0] at hn
  rw [h1] at hc1
  rw [h2] at hc2
  rw [h3] at hc3
  have hf := of_decide_eq_true (own_fin_all k0 k1 k2 k3)
  rw [← hn, ← hc1, ← hc2, ← hc3] at hf
  have q0e : own_q0 = q0 := hq0.symm
  rw [q0e, ← hr1] at hf
  have q1e : own_nx r1 = q1 := hq1.symm
  rw [q1e, ← hr2] at hf
  have q2e : own_nx r2 = q2 := hq2.symm
  rw [q2e, ← hr3] at hf
  have e1e : own_e n 1 c1 = e1 := he1.symm
  have e2e : own_e n 2 c2 = e2 := he2.symm
  have e3e : own_e n 3 c3 = e3 := he3.symm
  rw [e1e, e2e, e3e, ← ht] at hf
  have v1e : own_av r1 = v1 := hv1.symm
  have v2e : own_av r2 = v2 := hv2.symm
  unfold own_goal at hf
  rw [v1e, v2e] at hf
  exact hf
def Q0 (Z : State) (h0 : Heap) (n0 : Nat) (v : Option Value) (h : Heap) (L : List Loc) : Prop := v = some (.int (1 : Int32)) ∧ Fr n0 L
set_option maxRecDepth 65536 in
set_option maxHeartbeats 40000000 in
theorem rm0 (l : Launch) (Z : State) (a0 : Array Value) (hw : ∀ d ∈ tables_1, d.before a0 Z = true) (ws : List Jvm.Cond) (p1 p2 p3 p4 : Int32) (h0 : Heap) (n0 : Nat) (Z0 : n0 ≤ h0.size) :
    MetFree l x (head1 (Jvm.Cond.code x code maxLocals ret :: ws) room_1) (fun a U => a = #[(.int p1), (.int p2), (.int p3), (.int p4)] ∧ Z.Warmed39 U.vm ∧ U.heap = h0) (fun _ _ _ _ _ => True) (fun _ U o U' => ∃ v L, o = .returned v ∧ Q0 Z h0 n0 v U'.heap L ∧ FrameEnd U o U' L room_1.cells room_1.slots) := by
  refine MetFree.of_bodySF (plainFor_of_name pnL) hisR ?_
  intro p e s m args below meth c s₁ Bd hml0 hP hK
  obtain ⟨rfl, hZ, hh⟩ := hP
  have hx := Bd.exec
  have hby := Bd.bytes
  have hml : c.maxLocals = 18 := hml0
  have hown : s.vm.findClass "com/example/nereus/nereus/checker/DecisionPathAdvancePinLaw" = some m.cls := findClass_of_methodNamed Bd.named
  have hnm := (name_of_methodNamed Bd.named Bd.method).1
  have X0 : Stand p l e room_1 s m #[(.int p1), (.int p2), (.int p3), (.int p4)] below meth c s₁ [] 0 0 := Stand.of_body Bd
  have e0 : s₁.heap = h0 := by rw [← hh, Bd.state]; rfl
  have N0 := Fr.nil n0
  have pre0 : ∀ t_, Steps p.tables e below (s₁.setTop (mkF m 0 #[.val (.int p1), .val (.int p2), .val (.int p3), .val (.int p4), .unset, .unset, .unset, .unset, .unset, .unset, .unset, .unset, .unset, .unset, .unset, .unset, .unset, .unset] [])) t_ → Steps p.tables e below (s₁.setTop (entryFrame m #[(.int p1), (.int p2), (.int p3), (.int p4)] maxLocals)) t_ := fun t_ k_ => castTop (ef0 m p1 p2 p3 p4) k_
  obtain ⟨n, hn⟩ : ∃ z, z = (p1 &&& (3 : Int32)) := ⟨_, rfl⟩
  obtain ⟨c1, hc1⟩ : ∃ z, z = ((p2 &&& (3 : Int32)) + (1 : Int32)) := ⟨_, rfl⟩
  obtain ⟨c2, hc2⟩ : ∃ z, z = ((p3 &&& (3 : Int32)) + (1 : Int32)) := ⟨_, rfl⟩
  obtain ⟨c3, hc3⟩ : ∃ z, z = ((p4 &&& (3 : Int32)) + (1 : Int32)) := ⟨_, rfl⟩
  obtain ⟨e1, he1⟩ : ∃ z : Int32, z = (if n < (1 : Int32) then (1 : Int32) else c1) := ⟨_, rfl⟩
  obtain ⟨e2, he2⟩ : ∃ z : Int32, z = (if n < (2 : Int32) then (1 : Int32) else c2) := ⟨_, rfl⟩
  obtain ⟨e3, he3⟩ : ∃ z : Int32, z = (if n < (3 : Int32) then (1 : Int32) else c3) := ⟨_, rfl⟩
  obtain ⟨t, ht⟩ : ∃ z : Int32, z = ((e1 * e2) * e3) := ⟨_, rfl⟩
  obtain ⟨T10, h10, k10, X10, e10, E10, A10, st10⟩ := newP X0 hx hZ (hw _ (List.mem_of_getElem? (i := 0) rfl)) e0 (g := (mkF m 79 #[.val (.int p1), .val (.int p2), .val (.int p3), .val (.int p4), .val (.int n), .val (.int c1), .val (.int c2), .val (.int c3), .val (.int e1), .val (.int e2), .val (.int e3), .val (.int t), .unset, .unset, .unset, .unset, .unset, .unset] [(.int (3 : Int32))])) rfl (hb hby at_79) rfl (by decide) (cap := 3) (by decide) (by decide) (by decide) (by decide)
  obtain ⟨b10, g10⟩ : ∃ z, z = h0.size := ⟨_, rfl⟩
  rw [← g10] at A10 st10
  obtain ⟨T11, h11, k11, X11, e11, E11, A11, st11⟩ := newP X10 hx hZ (hw _ (List.mem_of_getElem? (i := 0) rfl)) e10 (g := (mkF m 84 #[.val (.int p1), .val (.int p2), .val (.int p3), .val (.int p4), .val (.int n), .val (.int c1), .val (.int c2), .val (.int c3), .val (.int e1), .val (.int e2), .val (.int e3), .val (.int t), .val (.ref b10), .unset, .unset, .unset, .unset, .unset] [(.int (3 : Int32))])) rfl (hb hby at_84) rfl (by decide) (cap := 3) (by decide) (by decide) (by decide) (by decide)
  obtain ⟨b11, g11⟩ : ∃ z, z = h10.size := ⟨_, rfl⟩
  rw [← g11] at A11 st11
  obtain ⟨T12, h12, k12, X12, e12, E12, A12, st12⟩ := newP X11 hx hZ (hw _ (List.mem_of_getElem? (i := 0) rfl)) e11 (g := (mkF m 89 #[.val (.int p1), .val (.int p2), .val (.int p3), .val (.int p4), .val (.int n), .val (.int c1), .val (.int c2), .val (.int c3), .val (.int e1), .val (.int e2), .val (.int e3), .val (.int t), .val (.ref b10), .val (.ref b11), .unset, .unset, .unset, .unset] [(.int (3 : Int32))])) rfl (hb hby at_89) rfl (by decide) (cap := 3) (by decide) (by decide) (by decide) (by decide)
  obtain ⟨b12, g12⟩ : ∃ z, z = h11.size := ⟨_, rfl⟩
  rw [← g12] at A12 st12
  obtain ⟨T13, h13, X13, e13, E13, A13, D13, -, st13⟩ := newO X12 hx hZ hown (hw _ (List.mem_of_getElem? (i := 1) rfl)) (hw _ (List.mem_of_getElem? (i := 2) rfl)) (hw _ (List.mem_of_getElem? (i := 3) rfl)) e12 (g := (mkF m 93 #[.val (.int p1), .val (.int p2), .val (.int p3), .val (.int p4), .val (.int n), .val (.int c1), .val (.int c2), .val (.int c3), .val (.int e1), .val (.int e2), .val (.int e3), .val (.int t), .val (.ref b10), .val (.ref b11), .val (.ref b12), .unset, .unset, .unset] [])) rfl (hb hby at_93) (by decide) (by decide)
  obtain ⟨b13, g13⟩ : ∃ z, z = h12.size := ⟨_, rfl⟩
  rw [← g13] at A13 D13 st13
  have I1 : own_IA Z h10 b10 3 (fun _ => 0) := own_IA.new A10 (by decide) rfl
  have I2 : own_IA Z h11 b11 3 (fun _ => 0) := own_IA.new A11 (by decide) rfl
  have I3 : own_IA Z h12 b12 3 (fun _ => 0) := own_IA.new A12 (by decide) rfl
  have lt1 : @LT.lt Nat _ b10 h10.size := I1.lt
  have lt2 : @LT.lt Nat _ b11 h11.size := I2.lt
  have lt3 : @LT.lt Nat _ b12 h12.size := I3.lt
  have ltd : @LT.lt Nat _ b13 h13.size := A13.lt
  have x1 := E10.1
  have x2 := E11.1
  have x3 := E12.1
  have x4 := E13.1
  have Zd : n0 ≤ h13.size := by omega
  have g_d : n0 ≤ b13 := by omega
  have F1 := D13 (Or.inl (hw _ (List.mem_of_getElem? (i := 11) rfl))) (ty := .array .int) (by decide)
  have F2 := D13 (Or.inl (hw _ (List.mem_of_getElem? (i := 13) rfl))) (ty := .array .int) (by decide)
  have F3 := D13 (Or.inl (hw _ (List.mem_of_getElem? (i := 24) rfl))) (ty := .int) (by decide)
  have F4 := D13 (Or.inl (hw _ (List.mem_of_getElem? (i := 26) rfl))) (ty := .int) (by decide)
  obtain ⟨_, _, ⟨T14, L14, k14, n14⟩, -, X14, ⟨Lc14, hQ14, l14, y14, z14⟩, st14⟩ := X13.specialBack hx (y := (⟨"com/example/nereus/nereus/checker/DecisionPath", "<init>", "()V"⟩ : MethodName)) rfl hown (mvT hZ (hw _ (List.mem_of_getElem? (i := 4) rfl))) (mvT hZ (hw _ (List.mem_of_getElem? (i := 5) rfl))) (mvT hZ (hw _ (List.mem_of_getElem? (i := 6) rfl))) (by decide) (backOf (W := 1) (rmI l Z a0 hw [] b13 _ _ h13 n0 Zd A13 F1 F2 F3 F4 g_d) hZ (hw _ (List.mem_of_getElem? (i := 6) rfl)) (hw _ (List.mem_of_getElem? (i := 3) rfl)) (by decide) (by decide)) (g := (mkF m 97 #[.val (.int p1), .val (.int p2), .val (.int p3), .val (.int p4), .val (.int n), .val (.int c1), .val (.int c2), .val (.int c3), .val (.int e1), .val (.int e2), .val (.int e3), .val (.int t), .val (.ref b10), .val (.ref b11), .val (.ref b12), .unset, .unset, .unset] [(.ref b13), (.ref b13)])) rfl (by rw [hml]; rfl) (Steps.refl _) (a := b13) (argsL := []) (rest := [(.ref b13)]) (lenOf pdI rfl) rfl (by show 2 * 0 + _ ≤ _; exact Nat.le_of_eq rfl) (hb hby at_97) (fun _ _ => ⟨rfl, e13, (by decide : 4 + 2 ≤ _), (by decide : 13 + 128 ≤ _)⟩)
  dsimp only [Pt.U, Pt.locs, Pt.cells, Pt.slots] at X14 l14 y14 z14 st14 hQ14
  subst l14 y14 z14
  obtain ⟨rfl, N14q, K14, ta, al, szt, sza, P14⟩ := hQ14
  have N14 := Fr.app N0 N14q
  have g_ta : n0 ≤ ta := by omega
  have g_al : n0 ≤ al := by omega
  have g_1 : n0 ≤ b10 := by omega
  have g_2 : n0 ≤ b11 := by omega
  have g_3 : n0 ≤ b12 := by omega
  have d1 : b13 ≠ b10 := Nat.ne_of_gt (by omega)
  have t1 : ta ≠ b10 := Nat.ne_of_gt (by omega)
  have a1 : al ≠ b10 := Nat.ne_of_gt (by omega)
  have d2 : b13 ≠ b11 := Nat.ne_of_gt (by omega)
  have t2 : ta ≠ b11 := Nat.ne_of_gt (by omega)
  have a2 : al ≠ b11 := Nat.ne_of_gt (by omega)
  have d3 : b13 ≠ b12 := Nat.ne_of_gt (by omega)
  have t3 : ta ≠ b12 := Nat.ne_of_gt (by omega)
  have a3 : al ≠ b12 := Nat.ne_of_gt (by omega)
  have n12 : b10 ≠ b11 := Nat.ne_of_lt (by omega)
  have n13 : b10 ≠ b12 := Nat.ne_of_lt (by omega)
  have n23 : b11 ≠ b12 := Nat.ne_of_lt (by omega)
  have J1 := (((I1.ext E11).ext E12).ext E13).keep K14 (ninS (Ne.symm d1) nin0)
  have J2 := ((I2.ext E12).ext E13).keep K14 (ninS (Ne.symm d2) nin0)
  have J3 := (I3.ext E13).keep K14 (ninS (Ne.symm d3) nin0)
  obtain ⟨q0, hq0⟩ : ∃ z : Nat × Nat × (Nat → Int32) × (Nat → Int32) × (Nat → Int32), z = (0, 0, (fun _ => 0), (fun _ => 0), (fun _ => 0)) := ⟨_, rfl⟩
  have S0 : own_D5 Z T14.heap b13 ta al b10 q0 := by rw [hq0]; exact ⟨P14, J1⟩
  have ok0 : ok5 0 q0 := by rw [hq0]; exact ⟨Nat.le_refl _, Nat.le_refl _⟩
  obtain ⟨_, _, ⟨T15, L15, k15, n15⟩, -, X15, ⟨Lc15, hQ15, l15, y15, z15⟩, st15⟩ := Jvm.LawKit.callS X14 hx (y := (⟨"com/example/nereus/nereus/checker/DecisionPathAdvancePinLaw", "run", "(Lcom/example/nereus/nereus/checker/DecisionPath;[IIIII)V"⟩ : MethodName)) hown (mvT hZ (hw _ (List.mem_of_getElem? (i := 14) rfl))) (mvT hZ (hw _ (List.mem_of_getElem? (i := 15) rfl))) (mvT hZ (hw _ (List.mem_of_getElem? (i := 16) rfl))) (mvT hZ (hw _ (List.mem_of_getElem? (i := 17) rfl))) (by decide) (backOf (W := 0) (rmR l Z a0 hw [] b13 ta al b10 n c1 c2 c3 q0 T14.heap n0 S0 ⟨ok0.1, Nat.le_trans ok0.2 (by decide)⟩ g_d g_ta g_al g_1 d1 t1 a1) hZ (hw _ (List.mem_of_getElem? (i := 17) rfl)) (hw _ (List.mem_of_getElem? (i := 16) rfl)) (by decide) (by decide)) (g := (mkF m 114 #[.val (.int p1), .val (.int p2), .val (.int p3), .val (.int p4), .val (.int n), .val (.int c1), .val (.int c2), .val (.int c3), .val (.int e1), .val (.int e2), .val (.int e3), .val (.int t), .val (.ref b10), .val (.ref b11), .val (.ref b12), .val (.ref b13), .unset, .unset] [(.int c3), (.int c2), (.int c1), (.int n), (.ref b10), (.ref b13)])) rfl (by rw [hml]; rfl) (argsL := [(.ref b13), (.ref b10), (.int n), (.int c1), (.int c2), (.int c3)]) (rest := []) (lenOf pdR rfl) rfl (by show 2 * 0 + _ ≤ _; exact Nat.le_of_eq rfl) (hb hby at_114) (fun _ _ => ⟨rfl, rfl, (by decide : 6 + 0 ≤ _), (by decide : 141 + 0 ≤ _)⟩)
  dsimp only [Pt.U, Pt.locs, Pt.cells, Pt.slots] at X15 l15 y15 z15 st15 hQ15
  subst l15 y15 z15
  obtain ⟨rfl, N15q, K15, S15⟩ := hQ15
  have N15 := Fr.app N14 N15q
  obtain ⟨r1, hr1⟩ : ∃ z, z = rnA n c1 c2 c3 q0 := ⟨_, rfl⟩
  rw [← hr1] at S15
  have okr1 : ok5 3 r1 := by rw [hr1]; exact rnA_ok ok0
  obtain ⟨P15, Jn15⟩ := S15
  have Jk15_2 := J2.keep K15 (ninS (Ne.symm d2) (ninS (Ne.symm t2) (ninS (Ne.symm a2) (ninS (Ne.symm n12) nin0))))
  have Jk15_3 := J3.keep K15 (ninS (Ne.symm d3) (ninS (Ne.symm t3) (ninS (Ne.symm a3) (ninS (Ne.symm n13) nin0))))
  obtain ⟨cq16, kq16, q16a, q16b, q16c⟩ := isOf hZ rfl P15.ex
  obtain ⟨_, _, ⟨T16, L16, k16, n16⟩, -, X16, ⟨Lc16, hQ16, l16, y16, z16⟩, st16⟩ := X15.virtualBack hx (y := (⟨"com/example/nereus/nereus/checker/DecisionPath", "advance", "()Z"⟩ : MethodName)) (z := (⟨"com/example/nereus/nereus/checker/DecisionPath", "advance", "()Z"⟩ : MethodName)) hown (mvT hZ (hw _ (List.mem_of_getElem? (i := 18) rfl))) (mvT hZ (hw _ (List.mem_of_getElem? (i := 19) rfl))) (notFace_of_selects (args := #[]) (mvT hZ (hw _ (List.mem_of_getElem? (i := 21) rfl)))) (mvT hZ (hw _ (List.mem_of_getElem? (i := 21) rfl))) (mvT hZ (hw _ (List.mem_of_getElem? (i := 20) rfl))) (by decide) (backOf (W := 0) (rmA l Z a0 hw [] b13 ta al r1.1 r1.2.1 r1.2.2.1 r1.2.2.2.1 T15.heap n0 P15 (Nat.le_trans okr1.2 (by decide)) g_d g_ta) hZ (hw _ (List.mem_of_getElem? (i := 22) rfl)) (hw _ (List.mem_of_getElem? (i := 3) rfl)) (by decide) (by decide)) q16a q16c (g := (mkF m 119 #[.val (.int p1), .val (.int p2), .val (.int p3), .val (.int p4), .val (.int n), .val (.int c1), .val (.int c2), .val (.int c3), .val (.int e1), .val (.int e2), .val (.int e3), .val (.int t), .val (.ref b10), .val (.ref b11), .val (.ref b12), .val (.ref b13), .unset, .unset] [(.ref b13)])) rfl (by rw [hml]; rfl) (Steps.refl _) (argsL := []) (rest := []) (lenOf pdA rfl) rfl (by show 2 * 0 + _ ≤ _; exact Nat.le_of_eq rfl) (hb hby at_119) (fun _ _ => ⟨rfl, rfl, (by decide : 6 + 0 ≤ _), (by decide : 141 + 0 ≤ _)⟩)
  dsimp only [Pt.U, Pt.locs, Pt.cells, Pt.slots] at X16 l16 y16 z16 st16 hQ16
  subst l16 y16 z16
  obtain ⟨hv16, N16q, K16, P16⟩ := hQ16
  obtain ⟨v1, hv1⟩ : ∃ z : Int32, z = (if avL r1.2.2.1 r1.2.2.2.1 r1.1 = 0 then 0 else 1) := ⟨_, rfl⟩
  rw [← hv1] at hv16
  subst hv16
  have N16 := Fr.app N15 N16q
  obtain ⟨q1, hq1⟩ : ∃ z : Nat × Nat × (Nat → Int32) × (Nat → Int32) × (Nat → Int32), z = (avL r1.2.2.1 r1.2.2.2.1 r1.1, 0, avF r1.2.2.1 r1.2.2.2.1 r1.1, r1.2.2.2.1, (fun _ => 0)) := ⟨_, rfl⟩
  have Jk16_1 := Jn15.keep K16 (ninS (Ne.symm d1) (ninS (Ne.symm t1) (ninS (Ne.symm a1) nin0)))
  have Jk16_2 := Jk15_2.keep K16 (ninS (Ne.symm d2) (ninS (Ne.symm t2) (ninS (Ne.symm a2) nin0)))
  have Jk16_3 := Jk15_3.keep K16 (ninS (Ne.symm d3) (ninS (Ne.symm t3) (ninS (Ne.symm a3) nin0)))
  have S1 : own_D5 Z T16.heap b13 ta al b11 q1 := by rw [hq1]; exact ⟨P16, Jk16_2⟩
  have ok1 : ok5 6 q1 := by rw [hq1]; exact ⟨Nat.zero_le _, Nat.le_trans (avL_le _ _ _) (Nat.le_trans okr1.2 (by decide))⟩
  obtain ⟨_, _, ⟨T17, L17, k17, n17⟩, -, X17, ⟨Lc17, hQ17, l17, y17, z17⟩, st17⟩ := Jvm.LawKit.callS X16 hx (y := (⟨"com/example/nereus/nereus/checker/DecisionPathAdvancePinLaw", "run", "(Lcom/example/nereus/nereus/checker/DecisionPath;[IIIII)V"⟩ : MethodName)) hown (mvT hZ (hw _ (List.mem_of_getElem? (i := 14) rfl))) (mvT hZ (hw _ (List.mem_of_getElem? (i := 15) rfl))) (mvT hZ (hw _ (List.mem_of_getElem? (i := 16) rfl))) (mvT hZ (hw _ (List.mem_of_getElem? (i := 17) rfl))) (by decide) (backOf (W := 0) (rmR l Z a0 hw [] b13 ta al b11 n c1 c2 c3 q1 T16.heap n0 S1 ⟨ok1.1, Nat.le_trans ok1.2 (by decide)⟩ g_d g_ta g_al g_2 d2 t2 a2) hZ (hw _ (List.mem_of_getElem? (i := 17) rfl)) (hw _ (List.mem_of_getElem? (i := 16) rfl)) (by decide) (by decide)) (g := (mkF m 136 #[.val (.int p1), .val (.int p2), .val (.int p3), .val (.int p4), .val (.int n), .val (.int c1), .val (.int c2), .val (.int c3), .val (.int e1), .val (.int e2), .val (.int e3), .val (.int t), .val (.ref b10), .val (.ref b11), .val (.ref b12), .val (.ref b13), .val (.int v1), .unset] [(.int c3), (.int c2), (.int c1), (.int n), (.ref b11), (.ref b13)])) rfl (by rw [hml]; rfl) (argsL := [(.ref b13), (.ref b11), (.int n), (.int c1), (.int c2), (.int c3)]) (rest := []) (lenOf pdR rfl) rfl (by show 2 * 0 + _ ≤ _; exact Nat.le_of_eq rfl) (hb hby at_136) (fun _ _ => ⟨rfl, rfl, (by decide : 6 + 0 ≤ _), (by decide : 141 + 0 ≤ _)⟩)
  dsimp only [Pt.U, Pt.locs, Pt.cells, Pt.slots] at X17 l17 y17 z17 st17 hQ17
  subst l17 y17 z17
  obtain ⟨rfl, N17q, K17, S17⟩ := hQ17
  have N17 := Fr.app N16 N17q
  obtain ⟨r2, hr2⟩ : ∃ z, z = rnA n c1 c2 c3 q1 := ⟨_, rfl⟩
  rw [← hr2] at S17
  have okr2 : ok5 9 r2 := by rw [hr2]; exact rnA_ok ok1
  obtain ⟨P17, Jn17⟩ := S17
  have Jk17_1 := Jk16_1.keep K17 (ninS (Ne.symm d1) (ninS (Ne.symm t1) (ninS (Ne.symm a1) (ninS n12 nin0))))
  have Jk17_3 := Jk16_3.keep K17 (ninS (Ne.symm d3) (ninS (Ne.symm t3) (ninS (Ne.symm a3) (ninS (Ne.symm n23) nin0))))
  obtain ⟨cq18, kq18, q18a, q18b, q18c⟩ := isOf hZ rfl P17.ex
  obtain ⟨_, _, ⟨T18, L18, k18, n18⟩, -, X18, ⟨Lc18, hQ18, l18, y18, z18⟩, st18⟩ := X17.virtualBack hx (y := (⟨"com/example/nereus/nereus/checker/DecisionPath", "advance", "()Z"⟩ : MethodName)) (z := (⟨"com/example/nereus/nereus/checker/DecisionPath", "advance", "()Z"⟩ : MethodName)) hown (mvT hZ (hw _ (List.mem_of_getElem? (i := 18) rfl))) (mvT hZ (hw _ (List.mem_of_getElem? (i := 19) rfl))) (notFace_of_selects (args := #[]) (mvT hZ (hw _ (List.mem_of_getElem? (i := 21) rfl)))) (mvT hZ (hw _ (List.mem_of_getElem? (i := 21) rfl))) (mvT hZ (hw _ (List.mem_of_getElem? (i := 20) rfl))) (by decide) (backOf (W := 0) (rmA l Z a0 hw [] b13 ta al r2.1 r2.2.1 r2.2.2.1 r2.2.2.2.1 T17.heap n0 P17 (Nat.le_trans okr2.2 (by decide)) g_d g_ta) hZ (hw _ (List.mem_of_getElem? (i := 22) rfl)) (hw _ (List.mem_of_getElem? (i := 3) rfl)) (by decide) (by decide)) q18a q18c (g := (mkF m 141 #[.val (.int p1), .val (.int p2), .val (.int p3), .val (.int p4), .val (.int n), .val (.int c1), .val (.int c2), .val (.int c3), .val (.int e1), .val (.int e2), .val (.int e3), .val (.int t), .val (.ref b10), .val (.ref b11), .val (.ref b12), .val (.ref b13), .val (.int v1), .unset] [(.ref b13)])) rfl (by rw [hml]; rfl) (Steps.refl _) (argsL := []) (rest := []) (lenOf pdA rfl) rfl (by show 2 * 0 + _ ≤ _; exact Nat.le_of_eq rfl) (hb hby at_141) (fun _ _ => ⟨rfl, rfl, (by decide : 6 + 0 ≤ _), (by decide : 141 + 0 ≤ _)⟩)
  dsimp only [Pt.U, Pt.locs, Pt.cells, Pt.slots] at X18 l18 y18 z18 st18 hQ18
  subst l18 y18 z18
  obtain ⟨hv18, N18q, K18, P18⟩ := hQ18
  obtain ⟨v2, hv2⟩ : ∃ z : Int32, z = (if avL r2.2.2.1 r2.2.2.2.1 r2.1 = 0 then 0 else 1) := ⟨_, rfl⟩
  rw [← hv2] at hv18
  subst hv18
  have N18 := Fr.app N17 N18q
  obtain ⟨q2, hq2⟩ : ∃ z : Nat × Nat × (Nat → Int32) × (Nat → Int32) × (Nat → Int32), z = (avL r2.2.2.1 r2.2.2.2.1 r2.1, 0, avF r2.2.2.1 r2.2.2.2.1 r2.1, r2.2.2.2.1, (fun _ => 0)) := ⟨_, rfl⟩
  have Jk18_1 := Jk17_1.keep K18 (ninS (Ne.symm d1) (ninS (Ne.symm t1) (ninS (Ne.symm a1) nin0)))
  have Jk18_2 := Jn17.keep K18 (ninS (Ne.symm d2) (ninS (Ne.symm t2) (ninS (Ne.symm a2) nin0)))
  have Jk18_3 := Jk17_3.keep K18 (ninS (Ne.symm d3) (ninS (Ne.symm t3) (ninS (Ne.symm a3) nin0)))
  have S2 : own_D5 Z T18.heap b13 ta al b12 q2 := by rw [hq2]; exact ⟨P18, Jk18_3⟩
  have ok2 : ok5 12 q2 := by rw [hq2]; exact ⟨Nat.zero_le _, Nat.le_trans (avL_le _ _ _) (Nat.le_trans okr2.2 (by decide))⟩
  obtain ⟨_, _, ⟨T19, L19, k19, n19⟩, -, X19, ⟨Lc19, hQ19, l19, y19, z19⟩, st19⟩ := Jvm.LawKit.callS X18 hx (y := (⟨"com/example/nereus/nereus/checker/DecisionPathAdvancePinLaw", "run", "(Lcom/example/nereus/nereus/checker/DecisionPath;[IIIII)V"⟩ : MethodName)) hown (mvT hZ (hw _ (List.mem_of_getElem? (i := 14) rfl))) (mvT hZ (hw _ (List.mem_of_getElem? (i := 15) rfl))) (mvT hZ (hw _ (List.mem_of_getElem? (i := 16) rfl))) (mvT hZ (hw _ (List.mem_of_getElem? (i := 17) rfl))) (by decide) (backOf (W := 0) (rmR l Z a0 hw [] b13 ta al b12 n c1 c2 c3 q2 T18.heap n0 S2 ⟨ok2.1, Nat.le_trans ok2.2 (by decide)⟩ g_d g_ta g_al g_3 d3 t3 a3) hZ (hw _ (List.mem_of_getElem? (i := 17) rfl)) (hw _ (List.mem_of_getElem? (i := 16) rfl)) (by decide) (by decide)) (g := (mkF m 158 #[.val (.int p1), .val (.int p2), .val (.int p3), .val (.int p4), .val (.int n), .val (.int c1), .val (.int c2), .val (.int c3), .val (.int e1), .val (.int e2), .val (.int e3), .val (.int t), .val (.ref b10), .val (.ref b11), .val (.ref b12), .val (.ref b13), .val (.int v1), .val (.int v2)] [(.int c3), (.int c2), (.int c1), (.int n), (.ref b12), (.ref b13)])) rfl (by rw [hml]; rfl) (argsL := [(.ref b13), (.ref b12), (.int n), (.int c1), (.int c2), (.int c3)]) (rest := []) (lenOf pdR rfl) rfl (by show 2 * 0 + _ ≤ _; exact Nat.le_of_eq rfl) (hb hby at_158) (fun _ _ => ⟨rfl, rfl, (by decide : 6 + 0 ≤ _), (by decide : 141 + 0 ≤ _)⟩)
  dsimp only [Pt.U, Pt.locs, Pt.cells, Pt.slots] at X19 l19 y19 z19 st19 hQ19
  subst l19 y19 z19
  obtain ⟨rfl, N19q, K19, S19⟩ := hQ19
  have N19 := Fr.app N18 N19q
  obtain ⟨r3, hr3⟩ : ∃ z, z = rnA n c1 c2 c3 q2 := ⟨_, rfl⟩
  rw [← hr3] at S19
  have okr3 : ok5 15 r3 := by rw [hr3]; exact rnA_ok ok2
  obtain ⟨P19, Jn19⟩ := S19
  have Jk19_1 := Jk18_1.keep K19 (ninS (Ne.symm d1) (ninS (Ne.symm t1) (ninS (Ne.symm a1) (ninS n13 nin0))))
  have Jk19_2 := Jk18_2.keep K19 (ninS (Ne.symm d2) (ninS (Ne.symm t2) (ninS (Ne.symm a2) (ninS n23 nin0))))
  obtain ⟨z1, z2, z3, zt, y0, y1, y2, w1, w2⟩ := own_plain hn hc1 hc2 hc3 he1 he2 he3 ht hq0 hr1 hv1 hq1 hr2 hv2 hq2 hr3
  obtain ⟨_, _, ⟨T20, L20, k20, n20⟩, -, X20, ⟨Lc20, hQ20, l20, y20, z20⟩, st20⟩ := Jvm.LawKit.callS X19 hx (y := (⟨"com/example/nereus/nereus/checker/DecisionPathAdvancePinLaw", "matches", "([IIIIIII)Z"⟩ : MethodName)) hown (mvT hZ (hw _ (List.mem_of_getElem? (i := 27) rfl))) (mvT hZ (hw _ (List.mem_of_getElem? (i := 28) rfl))) (mvT hZ (hw _ (List.mem_of_getElem? (i := 16) rfl))) (mvT hZ (hw _ (List.mem_of_getElem? (i := 29) rfl))) (by decide) (backOf (W := 0) (rmM l Z a0 hw [] b10 r1.2.2.2.2 (0 : Int32) n e1 e2 e3 t T19.heap n0 Jk19_1 z1 z2 z3 zt) hZ (hw _ (List.mem_of_getElem? (i := 29) rfl)) (hw _ (List.mem_of_getElem? (i := 16) rfl)) (by decide) (by decide)) (g := (mkF m 174 #[.val (.int p1), .val (.int p2), .val (.int p3), .val (.int p4), .val (.int n), .val (.int c1), .val (.int c2), .val (.int c3), .val (.int e1), .val (.int e2), .val (.int e3), .val (.int t), .val (.ref b10), .val (.ref b11), .val (.ref b12), .val (.ref b13), .val (.int v1), .val (.int v2)] [(.int t), (.int e3), (.int e2), (.int e1), (.int n), (.int (0 : Int32)), (.ref b10)])) rfl (by rw [hml]; rfl) (argsL := [(.ref b10), (.int (0 : Int32)), (.int n), (.int e1), (.int e2), (.int e3), (.int t)]) (rest := []) (lenOf pdM rfl) rfl (by show 2 * 0 + _ ≤ _; exact Nat.le_of_eq rfl) (hb hby at_174) (fun _ _ => ⟨rfl, rfl, (by decide : 6 + 0 ≤ _), (by decide : 141 + 0 ≤ _)⟩)
  dsimp only [Pt.U, Pt.locs, Pt.cells, Pt.slots] at X20 l20 y20 z20 st20 hQ20
  subst l20 y20 z20
  obtain ⟨hv20, N20q, e20⟩ := hQ20
  obtain ⟨m1, hm1⟩ : ∃ z, z = mtc r1.2.2.2.2 (0 : Int32) n e1 e2 e3 t := ⟨_, rfl⟩
  rw [← hm1] at hv20
  subst hv20
  have N20 := Fr.app N19 N20q
  rw [← hm1] at y0
  obtain ⟨_, _, ⟨T21, L21, k21, n21⟩, -, X21, ⟨Lc21, hQ21, l21, y21, z21⟩, st21⟩ := Jvm.LawKit.callS X20 hx (y := (⟨"com/example/nereus/nereus/checker/DecisionPathAdvancePinLaw", "matches", "([IIIIIII)Z"⟩ : MethodName)) hown (mvT hZ (hw _ (List.mem_of_getElem? (i := 27) rfl))) (mvT hZ (hw _ (List.mem_of_getElem? (i := 28) rfl))) (mvT hZ (hw _ (List.mem_of_getElem? (i := 16) rfl))) (mvT hZ (hw _ (List.mem_of_getElem? (i := 29) rfl))) (by decide) (backOf (W := 0) (rmM l Z a0 hw [] b11 r2.2.2.2.2 (1 : Int32) n e1 e2 e3 t T19.heap n0 Jk19_2 z1 z2 z3 zt) hZ (hw _ (List.mem_of_getElem? (i := 29) rfl)) (hw _ (List.mem_of_getElem? (i := 16) rfl)) (by decide) (by decide)) (g := (mkF m 193 #[.val (.int p1), .val (.int p2), .val (.int p3), .val (.int p4), .val (.int n), .val (.int c1), .val (.int c2), .val (.int c3), .val (.int e1), .val (.int e2), .val (.int e3), .val (.int t), .val (.ref b10), .val (.ref b11), .val (.ref b12), .val (.ref b13), .val (.int v1), .val (.int v2)] [(.int t), (.int e3), (.int e2), (.int e1), (.int n), (.int (1 : Int32)), (.ref b11)])) rfl (by rw [hml]; rfl) (argsL := [(.ref b11), (.int (1 : Int32)), (.int n), (.int e1), (.int e2), (.int e3), (.int t)]) (rest := []) (lenOf pdM rfl) rfl (by show 2 * 0 + _ ≤ _; exact Nat.le_of_eq rfl) (hb hby at_193) (fun _ _ => ⟨rfl, e20, (by decide : 6 + 0 ≤ _), (by decide : 141 + 0 ≤ _)⟩)
  dsimp only [Pt.U, Pt.locs, Pt.cells, Pt.slots] at X21 l21 y21 z21 st21 hQ21
  subst l21 y21 z21
  obtain ⟨hv21, N21q, e21⟩ := hQ21
  obtain ⟨m2, hm2⟩ : ∃ z, z = mtc r2.2.2.2.2 (1 : Int32) n e1 e2 e3 t := ⟨_, rfl⟩
  rw [← hm2] at hv21
  subst hv21
  have N21 := Fr.app N20 N21q
  rw [← hm2] at y1
  obtain ⟨_, _, ⟨T22, L22, k22, n22⟩, -, X22, ⟨Lc22, hQ22, l22, y22, z22⟩, st22⟩ := Jvm.LawKit.callS X21 hx (y := (⟨"com/example/nereus/nereus/checker/DecisionPathAdvancePinLaw", "matches", "([IIIIIII)Z"⟩ : MethodName)) hown (mvT hZ (hw _ (List.mem_of_getElem? (i := 27) rfl))) (mvT hZ (hw _ (List.mem_of_getElem? (i := 28) rfl))) (mvT hZ (hw _ (List.mem_of_getElem? (i := 16) rfl))) (mvT hZ (hw _ (List.mem_of_getElem? (i := 29) rfl))) (by decide) (backOf (W := 0) (rmM l Z a0 hw [] b12 r3.2.2.2.2 (2 : Int32) n e1 e2 e3 t T19.heap n0 Jn19 z1 z2 z3 zt) hZ (hw _ (List.mem_of_getElem? (i := 29) rfl)) (hw _ (List.mem_of_getElem? (i := 16) rfl)) (by decide) (by decide)) (g := (mkF m 212 #[.val (.int p1), .val (.int p2), .val (.int p3), .val (.int p4), .val (.int n), .val (.int c1), .val (.int c2), .val (.int c3), .val (.int e1), .val (.int e2), .val (.int e3), .val (.int t), .val (.ref b10), .val (.ref b11), .val (.ref b12), .val (.ref b13), .val (.int v1), .val (.int v2)] [(.int t), (.int e3), (.int e2), (.int e1), (.int n), (.int (2 : Int32)), (.ref b12)])) rfl (by rw [hml]; rfl) (argsL := [(.ref b12), (.int (2 : Int32)), (.int n), (.int e1), (.int e2), (.int e3), (.int t)]) (rest := []) (lenOf pdM rfl) rfl (by show 2 * 0 + _ ≤ _; exact Nat.le_of_eq rfl) (hb hby at_212) (fun _ _ => ⟨rfl, e21, (by decide : 6 + 0 ≤ _), (by decide : 141 + 0 ≤ _)⟩)
  dsimp only [Pt.U, Pt.locs, Pt.cells, Pt.slots] at X22 l22 y22 z22 st22 hQ22
  subst l22 y22 z22
  obtain ⟨hv22, N22q, e22⟩ := hQ22
  obtain ⟨m3, hm3⟩ : ∃ z, z = mtc r3.2.2.2.2 (2 : Int32) n e1 e2 e3 t := ⟨_, rfl⟩
  rw [← hm3] at hv22
  subst hv22
  have N22 := Fr.app N21 N22q
  rw [← hm3] at y2
  obtain ⟨u1, hu1⟩ : ∃ z : Int32, z = (if ((1 : Int32) - ((1 : Int32) / t) * t) = (0 : Int32) then (0 : Int32) else (1 : Int32)) := ⟨_, rfl⟩
  obtain ⟨u2, hu2⟩ : ∃ z : Int32, z = (if ((2 : Int32) - ((2 : Int32) / t) * t) = (0 : Int32) then (0 : Int32) else (1 : Int32)) := ⟨_, rfl⟩
  rw [← hu1] at w1
  rw [← hu2] at w2
  obtain ⟨fs, hr, hrun, hended, hW, hsame⟩ := X22.leave (v := some (.int (1 : Int32))) (fun h => by rw [Bd.returns] at h; cases h)
  refine ⟨_, _, pre0 _ ?_, hrun, hended, _, _, rfl, ?_, ⟨_, rfl⟩, hW, hsame.mono (by decide) (by decide)⟩
  · show Steps p.tables e below (s₁.setTop (mkF m 0 #[.val (.int p1), .val (.int p2), .val (.int p3), .val (.int p4), .unset, .unset, .unset, .unset, .unset, .unset, .unset, .unset, .unset, .unset, .unset, .unset, .unset, .unset] [])) _
    refine XS.iloadN X0.here hx rfl (hb hby at_0) rfl ?_
    show Steps p.tables e below (s₁.setTop (mkF m 1 #[.val (.int p1), .val (.int p2), .val (.int p3), .val (.int p4), .unset, .unset, .unset, .unset, .unset, .unset, .unset, .unset, .unset, .unset, .unset, .unset, .unset, .unset] [(.int p1)])) _
    refine XS.iconst X0.here hx rfl (hb hby at_1) ?_
    show Steps p.tables e below (s₁.setTop (mkF m 2 #[.val (.int p1), .val (.int p2), .val (.int p3), .val (.int p4), .unset, .unset, .unset, .unset, .unset, .unset, .unset, .unset, .unset, .unset, .unset, .unset, .unset, .unset] [(.int (3 : Int32)), (.int p1)])) _
    refine XS.iand X0.here hx rfl (hb hby at_2) rfl ?_
    show Steps p.tables e below (s₁.setTop (mkF m 3 #[.val (.int p1), .val (.int p2), .val (.int p3), .val (.int p4), .unset, .unset, .unset, .unset, .unset, .unset, .unset, .unset, .unset, .unset, .unset, .unset, .unset, .unset] [(.int (p1 &&& (3 : Int32)))])) _
    rw [← hn]
    show Steps p.tables e below (s₁.setTop (mkF m 3 #[.val (.int p1), .val (.int p2), .val (.int p3), .val (.int p4), .unset, .unset, .unset, .unset, .unset, .unset, .unset, .unset, .unset, .unset, .unset, .unset, .unset, .unset] [(.int n)])) _
    refine XS.istore X0.here hx rfl (hb hby at_3) rfl (l' := #[.val (.int p1), .val (.int p2), .val (.int p3), .val (.int p4), .val (.int n), .unset, .unset, .unset, .unset, .unset, .unset, .unset, .unset, .unset, .unset, .unset, .unset, .unset]) rfl ?_
    show Steps p.tables e below (s₁.setTop (mkF m 5 #[.val (.int p1), .val (.int p2), .val (.int p3), .val (.int p4), .val (.int n), .unset, .unset, .unset, .unset, .unset, .unset, .unset, .unset, .unset, .unset, .unset, .unset, .unset] [])) _
    refine XS.iloadN X0.here hx rfl (hb hby at_5) rfl ?_
    show Steps p.tables e below (s₁.setTop (mkF m 6 #[.val (.int p1), .val (.int p2), .val (.int p3), .val (.int p4), .val (.int n), .unset, .unset, .unset, .unset, .unset, .unset, .unset, .unset, .unset, .unset, .unset, .unset, .unset] [(.int p2)])) _
    refine XS.iconst X0.here hx rfl (hb hby at_6) ?_
    show Steps p.tables e below (s₁.setTop (mkF m 7 #[.val (.int p1), .val (.int p2), .val (.int p3), .val (.int p4), .val (.int n), .unset, .unset, .unset, .unset, .unset, .unset, .unset, .unset, .unset, .unset, .unset, .unset, .unset] [(.int (3 : Int32)), (.int p2)])) _
    refine XS.iand X0.here hx rfl (hb hby at_7) rfl ?_
    show Steps p.tables e below (s₁.setTop (mkF m 8 #[.val (.int p1), .val (.int p2), .val (.int p3), .val (.int p4), .val (.int n), .unset, .unset, .unset, .unset, .unset, .unset, .unset, .unset, .unset, .unset, .unset, .unset, .unset] [(.int (p2 &&& (3 : Int32)))])) _
    refine XS.iconst X0.here hx rfl (hb hby at_8) ?_
    show Steps p.tables e below (s₁.setTop (mkF m 9 #[.val (.int p1), .val (.int p2), .val (.int p3), .val (.int p4), .val (.int n), .unset, .unset, .unset, .unset, .unset, .unset, .unset, .unset, .unset, .unset, .unset, .unset, .unset] [(.int (1 : Int32)), (.int (p2 &&& (3 : Int32)))])) _
    refine XS.iadd X0.here hx rfl (hb hby at_9) rfl ?_
    show Steps p.tables e below (s₁.setTop (mkF m 10 #[.val (.int p1), .val (.int p2), .val (.int p3), .val (.int p4), .val (.int n), .unset, .unset, .unset, .unset, .unset, .unset, .unset, .unset, .unset, .unset, .unset, .unset, .unset] [(.int ((p2 &&& (3 : Int32)) + (1 : Int32)))])) _
    rw [← hc1]
    show Steps p.tables e below (s₁.setTop (mkF m 10 #[.val (.int p1), .val (.int p2), .val (.int p3), .val (.int p4), .val (.int n), .unset, .unset, .unset, .unset, .unset, .unset, .unset, .unset, .unset, .unset, .unset, .unset, .unset] [(.int c1)])) _
    refine XS.istore X0.here hx rfl (hb hby at_10) rfl (l' := #[.val (.int p1), .val (.int p2), .val (.int p3), .val (.int p4), .val (.int n), .val (.int c1), .unset, .unset, .unset, .unset, .unset, .unset, .unset, .unset, .unset, .unset, .unset, .unset]) rfl ?_
    show Steps p.tables e below (s₁.setTop (mkF m 12 #[.val (.int p1), .val (.int p2), .val (.int p3), .val (.int p4), .val (.int n), .val (.int c1), .unset, .unset, .unset, .unset, .unset, .unset, .unset, .unset, .unset, .unset, .unset, .unset] [])) _
    refine XS.iloadN X0.here hx rfl (hb hby at_12) rfl ?_
    show Steps p.tables e below (s₁.setTop (mkF m 13 #[.val (.int p1), .val (.int p2), .val (.int p3), .val (.int p4), .val (.int n), .val (.int c1), .unset, .unset, .unset, .unset, .unset, .unset, .unset, .unset, .unset, .unset, .unset, .unset] [(.int p3)])) _
    refine XS.iconst X0.here hx rfl (hb hby at_13) ?_
    show Steps p.tables e below (s₁.setTop (mkF m 14 #[.val (.int p1), .val (.int p2), .val (.int p3), .val (.int p4), .val (.int n), .val (.int c1), .unset, .unset, .unset, .unset, .unset, .unset, .unset, .unset, .unset, .unset, .unset, .unset] [(.int (3 : Int32)), (.int p3)])) _
    refine XS.iand X0.here hx rfl (hb hby at_14) rfl ?_
    show Steps p.tables e below (s₁.setTop (mkF m 15 #[.val (.int p1), .val (.int p2), .val (.int p3), .val (.int p4), .val (.int n), .val (.int c1), .unset, .unset, .unset, .unset, .unset, .unset, .unset, .unset, .unset, .unset, .unset, .unset] [(.int (p3 &&& (3 : Int32)))])) _
    refine XS.iconst X0.here hx rfl (hb hby at_15) ?_
    show Steps p.tables e below (s₁.setTop (mkF m 16 #[.val (.int p1), .val (.int p2), .val (.int p3), .val (.int p4), .val (.int n), .val (.int c1), .unset, .unset, .unset, .unset, .unset, .unset, .unset, .unset, .unset, .unset, .unset, .unset] [(.int (1 : Int32)), (.int (p3 &&& (3 : Int32)))])) _
    refine XS.iadd X0.here hx rfl (hb hby at_16) rfl ?_
    show Steps p.tables e below (s₁.setTop (mkF m 17 #[.val (.int p1), .val (.int p2), .val (.int p3), .val (.int p4), .val (.int n), .val (.int c1), .unset, .unset, .unset, .unset, .unset, .unset, .unset, .unset, .unset, .unset, .unset, .unset] [(.int ((p3 &&& (3 : Int32)) + (1 : Int32)))])) _
    rw [← hc2]
    show Steps p.tables e below (s₁.setTop (mkF m 17 #[.val (.int p1), .val (.int p2), .val (.int p3), .val (.int p4), .val (.int n), .val (.int c1), .unset, .unset, .unset, .unset, .unset, .unset, .unset, .unset, .unset, .unset, .unset, .unset] [(.int c2)])) _
    refine XS.istore X0.here hx rfl (hb hby at_17) rfl (l' := #[.val (.int p1), .val (.int p2), .val (.int p3), .val (.int p4), .val (.int n), .val (.int c1), .val (.int c2), .unset, .unset, .unset, .unset, .unset, .unset, .unset, .unset, .unset, .unset, .unset]) rfl ?_
    show Steps p.tables e below (s₁.setTop (mkF m 19 #[.val (.int p1), .val (.int p2), .val (.int p3), .val (.int p4), .val (.int n), .val (.int c1), .val (.int c2), .unset, .unset, .unset, .unset, .unset, .unset, .unset, .unset, .unset, .unset, .unset] [])) _
    refine XS.iloadN X0.here hx rfl (hb hby at_19) rfl ?_
    show Steps p.tables e below (s₁.setTop (mkF m 20 #[.val (.int p1), .val (.int p2), .val (.int p3), .val (.int p4), .val (.int n), .val (.int c1), .val (.int c2), .unset, .unset, .unset, .unset, .unset, .unset, .unset, .unset, .unset, .unset, .unset] [(.int p4)])) _
    refine XS.iconst X0.here hx rfl (hb hby at_20) ?_
    show Steps p.tables e below (s₁.setTop (mkF m 21 #[.val (.int p1), .val (.int p2), .val (.int p3), .val (.int p4), .val (.int n), .val (.int c1), .val (.int c2), .unset, .unset, .unset, .unset, .unset, .unset, .unset, .unset, .unset, .unset, .unset] [(.int (3 : Int32)), (.int p4)])) _
    refine XS.iand X0.here hx rfl (hb hby at_21) rfl ?_
    show Steps p.tables e below (s₁.setTop (mkF m 22 #[.val (.int p1), .val (.int p2), .val (.int p3), .val (.int p4), .val (.int n), .val (.int c1), .val (.int c2), .unset, .unset, .unset, .unset, .unset, .unset, .unset, .unset, .unset, .unset, .unset] [(.int (p4 &&& (3 : Int32)))])) _
    refine XS.iconst X0.here hx rfl (hb hby at_22) ?_
    show Steps p.tables e below (s₁.setTop (mkF m 23 #[.val (.int p1), .val (.int p2), .val (.int p3), .val (.int p4), .val (.int n), .val (.int c1), .val (.int c2), .unset, .unset, .unset, .unset, .unset, .unset, .unset, .unset, .unset, .unset, .unset] [(.int (1 : Int32)), (.int (p4 &&& (3 : Int32)))])) _
    refine XS.iadd X0.here hx rfl (hb hby at_23) rfl ?_
    show Steps p.tables e below (s₁.setTop (mkF m 24 #[.val (.int p1), .val (.int p2), .val (.int p3), .val (.int p4), .val (.int n), .val (.int c1), .val (.int c2), .unset, .unset, .unset, .unset, .unset, .unset, .unset, .unset, .unset, .unset, .unset] [(.int ((p4 &&& (3 : Int32)) + (1 : Int32)))])) _
    rw [← hc3]
    show Steps p.tables e below (s₁.setTop (mkF m 24 #[.val (.int p1), .val (.int p2), .val (.int p3), .val (.int p4), .val (.int n), .val (.int c1), .val (.int c2), .unset, .unset, .unset, .unset, .unset, .unset, .unset, .unset, .unset, .unset, .unset] [(.int c3)])) _
    refine XS.istore X0.here hx rfl (hb hby at_24) rfl (l' := #[.val (.int p1), .val (.int p2), .val (.int p3), .val (.int p4), .val (.int n), .val (.int c1), .val (.int c2), .val (.int c3), .unset, .unset, .unset, .unset, .unset, .unset, .unset, .unset, .unset, .unset]) rfl ?_
    show Steps p.tables e below (s₁.setTop (mkF m 26 #[.val (.int p1), .val (.int p2), .val (.int p3), .val (.int p4), .val (.int n), .val (.int c1), .val (.int c2), .val (.int c3), .unset, .unset, .unset, .unset, .unset, .unset, .unset, .unset, .unset, .unset] [])) _
    refine ge1 X0 hx hby he1 ?_
    show Steps p.tables e below (s₁.setTop (mkF m 38 #[.val (.int p1), .val (.int p2), .val (.int p3), .val (.int p4), .val (.int n), .val (.int c1), .val (.int c2), .val (.int c3), .unset, .unset, .unset, .unset, .unset, .unset, .unset, .unset, .unset, .unset] [(.int e1)])) _
    refine XS.istore X0.here hx rfl (hb hby at_38) rfl (l' := #[.val (.int p1), .val (.int p2), .val (.int p3), .val (.int p4), .val (.int n), .val (.int c1), .val (.int c2), .val (.int c3), .val (.int e1), .unset, .unset, .unset, .unset, .unset, .unset, .unset, .unset, .unset]) rfl ?_
    show Steps p.tables e below (s₁.setTop (mkF m 40 #[.val (.int p1), .val (.int p2), .val (.int p3), .val (.int p4), .val (.int n), .val (.int c1), .val (.int c2), .val (.int c3), .val (.int e1), .unset, .unset, .unset, .unset, .unset, .unset, .unset, .unset, .unset] [])) _
    refine ge2 X0 hx hby he2 ?_
    show Steps p.tables e below (s₁.setTop (mkF m 52 #[.val (.int p1), .val (.int p2), .val (.int p3), .val (.int p4), .val (.int n), .val (.int c1), .val (.int c2), .val (.int c3), .val (.int e1), .unset, .unset, .unset, .unset, .unset, .unset, .unset, .unset, .unset] [(.int e2)])) _
    refine XS.istore X0.here hx rfl (hb hby at_52) rfl (l' := #[.val (.int p1), .val (.int p2), .val (.int p3), .val (.int p4), .val (.int n), .val (.int c1), .val (.int c2), .val (.int c3), .val (.int e1), .val (.int e2), .unset, .unset, .unset, .unset, .unset, .unset, .unset, .unset]) rfl ?_
    show Steps p.tables e below (s₁.setTop (mkF m 54 #[.val (.int p1), .val (.int p2), .val (.int p3), .val (.int p4), .val (.int n), .val (.int c1), .val (.int c2), .val (.int c3), .val (.int e1), .val (.int e2), .unset, .unset, .unset, .unset, .unset, .unset, .unset, .unset] [])) _
    refine ge3 X0 hx hby he3 ?_
    show Steps p.tables e below (s₁.setTop (mkF m 66 #[.val (.int p1), .val (.int p2), .val (.int p3), .val (.int p4), .val (.int n), .val (.int c1), .val (.int c2), .val (.int c3), .val (.int e1), .val (.int e2), .unset, .unset, .unset, .unset, .unset, .unset, .unset, .unset] [(.int e3)])) _
    refine XS.istore X0.here hx rfl (hb hby at_66) rfl (l' := #[.val (.int p1), .val (.int p2), .val (.int p3), .val (.int p4), .val (.int n), .val (.int c1), .val (.int c2), .val (.int c3), .val (.int e1), .val (.int e2), .val (.int e3), .unset, .unset, .unset, .unset, .unset, .unset, .unset]) rfl ?_
    show Steps p.tables e below (s₁.setTop (mkF m 68 #[.val (.int p1), .val (.int p2), .val (.int p3), .val (.int p4), .val (.int n), .val (.int c1), .val (.int c2), .val (.int c3), .val (.int e1), .val (.int e2), .val (.int e3), .unset, .unset, .unset, .unset, .unset, .unset, .unset] [])) _
    refine XS.iload X0.here hx rfl (hb hby at_68) rfl ?_
    show Steps p.tables e below (s₁.setTop (mkF m 70 #[.val (.int p1), .val (.int p2), .val (.int p3), .val (.int p4), .val (.int n), .val (.int c1), .val (.int c2), .val (.int c3), .val (.int e1), .val (.int e2), .val (.int e3), .unset, .unset, .unset, .unset, .unset, .unset, .unset] [(.int e1)])) _
    refine XS.iload X0.here hx rfl (hb hby at_70) rfl ?_
    show Steps p.tables e below (s₁.setTop (mkF m 72 #[.val (.int p1), .val (.int p2), .val (.int p3), .val (.int p4), .val (.int n), .val (.int c1), .val (.int c2), .val (.int c3), .val (.int e1), .val (.int e2), .val (.int e3), .unset, .unset, .unset, .unset, .unset, .unset, .unset] [(.int e2), (.int e1)])) _
    refine XS.imul X0.here hx rfl (hb hby at_72) rfl ?_
    show Steps p.tables e below (s₁.setTop (mkF m 73 #[.val (.int p1), .val (.int p2), .val (.int p3), .val (.int p4), .val (.int n), .val (.int c1), .val (.int c2), .val (.int c3), .val (.int e1), .val (.int e2), .val (.int e3), .unset, .unset, .unset, .unset, .unset, .unset, .unset] [(.int (e1 * e2))])) _
    refine XS.iload X0.here hx rfl (hb hby at_73) rfl ?_
    show Steps p.tables e below (s₁.setTop (mkF m 75 #[.val (.int p1), .val (.int p2), .val (.int p3), .val (.int p4), .val (.int n), .val (.int c1), .val (.int c2), .val (.int c3), .val (.int e1), .val (.int e2), .val (.int e3), .unset, .unset, .unset, .unset, .unset, .unset, .unset] [(.int e3), (.int (e1 * e2))])) _
    refine XS.imul X0.here hx rfl (hb hby at_75) rfl ?_
    show Steps p.tables e below (s₁.setTop (mkF m 76 #[.val (.int p1), .val (.int p2), .val (.int p3), .val (.int p4), .val (.int n), .val (.int c1), .val (.int c2), .val (.int c3), .val (.int e1), .val (.int e2), .val (.int e3), .unset, .unset, .unset, .unset, .unset, .unset, .unset] [(.int ((e1 * e2) * e3))])) _
    rw [← ht]
    show Steps p.tables e below (s₁.setTop (mkF m 76 #[.val (.int p1), .val (.int p2), .val (.int p3), .val (.int p4), .val (.int n), .val (.int c1), .val (.int c2), .val (.int c3), .val (.int e1), .val (.int e2), .val (.int e3), .unset, .unset, .unset, .unset, .unset, .unset, .unset] [(.int t)])) _
    refine XS.istore X0.here hx rfl (hb hby at_76) rfl (l' := #[.val (.int p1), .val (.int p2), .val (.int p3), .val (.int p4), .val (.int n), .val (.int c1), .val (.int c2), .val (.int c3), .val (.int e1), .val (.int e2), .val (.int e3), .val (.int t), .unset, .unset, .unset, .unset, .unset, .unset]) rfl ?_
    show Steps p.tables e below (s₁.setTop (mkF m 78 #[.val (.int p1), .val (.int p2), .val (.int p3), .val (.int p4), .val (.int n), .val (.int c1), .val (.int c2), .val (.int c3), .val (.int e1), .val (.int e2), .val (.int e3), .val (.int t), .unset, .unset, .unset, .unset, .unset, .unset] [])) _
    refine XS.iconst X0.here hx rfl (hb hby at_78) ?_
    show Steps p.tables e below (s₁.setTop (mkF m 79 #[.val (.int p1), .val (.int p2), .val (.int p3), .val (.int p4), .val (.int n), .val (.int c1), .val (.int c2), .val (.int c3), .val (.int e1), .val (.int e2), .val (.int e3), .val (.int t), .unset, .unset, .unset, .unset, .unset, .unset] [(.int (3 : Int32))])) _
    refine st10 _ ?_
    show Steps p.tables e below (T10.setTop (mkF m 81 #[.val (.int p1), .val (.int p2), .val (.int p3), .val (.int p4), .val (.int n), .val (.int c1), .val (.int c2), .val (.int c3), .val (.int e1), .val (.int e2), .val (.int e3), .val (.int t), .unset, .unset, .unset, .unset, .unset, .unset] [(.ref b10)])) _
    refine XS.astore X10.here hx rfl (hb hby at_81) rfl rfl (l' := #[.val (.int p1), .val (.int p2), .val (.int p3), .val (.int p4), .val (.int n), .val (.int c1), .val (.int c2), .val (.int c3), .val (.int e1), .val (.int e2), .val (.int e3), .val (.int t), .val (.ref b10), .unset, .unset, .unset, .unset, .unset]) rfl ?_
    show Steps p.tables e below (T10.setTop (mkF m 83 #[.val (.int p1), .val (.int p2), .val (.int p3), .val (.int p4), .val (.int n), .val (.int c1), .val (.int c2), .val (.int c3), .val (.int e1), .val (.int e2), .val (.int e3), .val (.int t), .val (.ref b10), .unset, .unset, .unset, .unset, .unset] [])) _
    refine XS.iconst X10.here hx rfl (hb hby at_83) ?_
    show Steps p.tables e below (T10.setTop (mkF m 84 #[.val (.int p1), .val (.int p2), .val (.int p3), .val (.int p4), .val (.int n), .val (.int c1), .val (.int c2), .val (.int c3), .val (.int e1), .val (.int e2), .val (.int e3), .val (.int t), .val (.ref b10), .unset, .unset, .unset, .unset, .unset] [(.int (3 : Int32))])) _
    refine st11 _ ?_
    show Steps p.tables e below (T11.setTop (mkF m 86 #[.val (.int p1), .val (.int p2), .val (.int p3), .val (.int p4), .val (.int n), .val (.int c1), .val (.int c2), .val (.int c3), .val (.int e1), .val (.int e2), .val (.int e3), .val (.int t), .val (.ref b10), .unset, .unset, .unset, .unset, .unset] [(.ref b11)])) _
    refine XS.astore X11.here hx rfl (hb hby at_86) rfl rfl (l' := #[.val (.int p1), .val (.int p2), .val (.int p3), .val (.int p4), .val (.int n), .val (.int c1), .val (.int c2), .val (.int c3), .val (.int e1), .val (.int e2), .val (.int e3), .val (.int t), .val (.ref b10), .val (.ref b11), .unset, .unset, .unset, .unset]) rfl ?_
    show Steps p.tables e below (T11.setTop (mkF m 88 #[.val (.int p1), .val (.int p2), .val (.int p3), .val (.int p4), .val (.int n), .val (.int c1), .val (.int c2), .val (.int c3), .val (.int e1), .val (.int e2), .val (.int e3), .val (.int t), .val (.ref b10), .val (.ref b11), .unset, .unset, .unset, .unset] [])) _
    refine XS.iconst X11.here hx rfl (hb hby at_88) ?_
    show Steps p.tables e below (T11.setTop (mkF m 89 #[.val (.int p1), .val (.int p2), .val (.int p3), .val (.int p4), .val (.int n), .val (.int c1), .val (.int c2), .val (.int c3), .val (.int e1), .val (.int e2), .val (.int e3), .val (.int t), .val (.ref b10), .val (.ref b11), .unset, .unset, .unset, .unset] [(.int (3 : Int32))])) _
    refine st12 _ ?_
    show Steps p.tables e below (T12.setTop (mkF m 91 #[.val (.int p1), .val (.int p2), .val (.int p3), .val (.int p4), .val (.int n), .val (.int c1), .val (.int c2), .val (.int c3), .val (.int e1), .val (.int e2), .val (.int e3), .val (.int t), .val (.ref b10), .val (.ref b11), .unset, .unset, .unset, .unset] [(.ref b12)])) _
    refine XS.astore X12.here hx rfl (hb hby at_91) rfl rfl (l' := #[.val (.int p1), .val (.int p2), .val (.int p3), .val (.int p4), .val (.int n), .val (.int c1), .val (.int c2), .val (.int c3), .val (.int e1), .val (.int e2), .val (.int e3), .val (.int t), .val (.ref b10), .val (.ref b11), .val (.ref b12), .unset, .unset, .unset]) rfl ?_
    show Steps p.tables e below (T12.setTop (mkF m 93 #[.val (.int p1), .val (.int p2), .val (.int p3), .val (.int p4), .val (.int n), .val (.int c1), .val (.int c2), .val (.int c3), .val (.int e1), .val (.int e2), .val (.int e3), .val (.int t), .val (.ref b10), .val (.ref b11), .val (.ref b12), .unset, .unset, .unset] [])) _
    refine st13 _ ?_
    show Steps p.tables e below (T13.setTop (mkF m 96 #[.val (.int p1), .val (.int p2), .val (.int p3), .val (.int p4), .val (.int n), .val (.int c1), .val (.int c2), .val (.int c3), .val (.int e1), .val (.int e2), .val (.int e3), .val (.int t), .val (.ref b10), .val (.ref b11), .val (.ref b12), .unset, .unset, .unset] [(.ref b13)])) _
    refine XS.dup X13.here hx rfl (hb hby at_96) rfl rfl ?_
    show Steps p.tables e below (T13.setTop (mkF m 97 #[.val (.int p1), .val (.int p2), .val (.int p3), .val (.int p4), .val (.int n), .val (.int c1), .val (.int c2), .val (.int c3), .val (.int e1), .val (.int e2), .val (.int e3), .val (.int t), .val (.ref b10), .val (.ref b11), .val (.ref b12), .unset, .unset, .unset] [(.ref b13), (.ref b13)])) _
    refine st14.trans ?_
    show Steps p.tables e below (T14.setTop (mkF m 100 #[.val (.int p1), .val (.int p2), .val (.int p3), .val (.int p4), .val (.int n), .val (.int c1), .val (.int c2), .val (.int c3), .val (.int e1), .val (.int e2), .val (.int e3), .val (.int t), .val (.ref b10), .val (.ref b11), .val (.ref b12), .unset, .unset, .unset] [(.ref b13)])) _
    refine XS.astore X14.here hx rfl (hb hby at_100) rfl rfl (l' := #[.val (.int p1), .val (.int p2), .val (.int p3), .val (.int p4), .val (.int n), .val (.int c1), .val (.int c2), .val (.int c3), .val (.int e1), .val (.int e2), .val (.int e3), .val (.int t), .val (.ref b10), .val (.ref b11), .val (.ref b12), .val (.ref b13), .unset, .unset]) rfl ?_
    show Steps p.tables e below (T14.setTop (mkF m 102 #[.val (.int p1), .val (.int p2), .val (.int p3), .val (.int p4), .val (.int n), .val (.int c1), .val (.int c2), .val (.int c3), .val (.int e1), .val (.int e2), .val (.int e3), .val (.int t), .val (.ref b10), .val (.ref b11), .val (.ref b12), .val (.ref b13), .unset, .unset] [])) _
    refine XS.aload X14.here hx rfl (hb hby at_102) rfl rfl ?_
    show Steps p.tables e below (T14.setTop (mkF m 104 #[.val (.int p1), .val (.int p2), .val (.int p3), .val (.int p4), .val (.int n), .val (.int c1), .val (.int c2), .val (.int c3), .val (.int e1), .val (.int e2), .val (.int e3), .val (.int t), .val (.ref b10), .val (.ref b11), .val (.ref b12), .val (.ref b13), .unset, .unset] [(.ref b13)])) _
    refine XS.aload X14.here hx rfl (hb hby at_104) rfl rfl ?_
    show Steps p.tables e below (T14.setTop (mkF m 106 #[.val (.int p1), .val (.int p2), .val (.int p3), .val (.int p4), .val (.int n), .val (.int c1), .val (.int c2), .val (.int c3), .val (.int e1), .val (.int e2), .val (.int e3), .val (.int t), .val (.ref b10), .val (.ref b11), .val (.ref b12), .val (.ref b13), .unset, .unset] [(.ref b10), (.ref b13)])) _
    refine XS.iload X14.here hx rfl (hb hby at_106) rfl ?_
    show Steps p.tables e below (T14.setTop (mkF m 108 #[.val (.int p1), .val (.int p2), .val (.int p3), .val (.int p4), .val (.int n), .val (.int c1), .val (.int c2), .val (.int c3), .val (.int e1), .val (.int e2), .val (.int e3), .val (.int t), .val (.ref b10), .val (.ref b11), .val (.ref b12), .val (.ref b13), .unset, .unset] [(.int n), (.ref b10), (.ref b13)])) _
    refine XS.iload X14.here hx rfl (hb hby at_108) rfl ?_
    show Steps p.tables e below (T14.setTop (mkF m 110 #[.val (.int p1), .val (.int p2), .val (.int p3), .val (.int p4), .val (.int n), .val (.int c1), .val (.int c2), .val (.int c3), .val (.int e1), .val (.int e2), .val (.int e3), .val (.int t), .val (.ref b10), .val (.ref b11), .val (.ref b12), .val (.ref b13), .unset, .unset] [(.int c1), (.int n), (.ref b10), (.ref b13)])) _
    refine XS.iload X14.here hx rfl (hb hby at_110) rfl ?_
    show Steps p.tables e below (T14.setTop (mkF m 112 #[.val (.int p1), .val (.int p2), .val (.int p3), .val (.int p4), .val (.int n), .val (.int c1), .val (.int c2), .val (.int c3), .val (.int e1), .val (.int e2), .val (.int e3), .val (.int t), .val (.ref b10), .val (.ref b11), .val (.ref b12), .val (.ref b13), .unset, .unset] [(.int c2), (.int c1), (.int n), (.ref b10), (.ref b13)])) _
    refine XS.iload X14.here hx rfl (hb hby at_112) rfl ?_
    show Steps p.tables e below (T14.setTop (mkF m 114 #[.val (.int p1), .val (.int p2), .val (.int p3), .val (.int p4), .val (.int n), .val (.int c1), .val (.int c2), .val (.int c3), .val (.int e1), .val (.int e2), .val (.int e3), .val (.int t), .val (.ref b10), .val (.ref b11), .val (.ref b12), .val (.ref b13), .unset, .unset] [(.int c3), (.int c2), (.int c1), (.int n), (.ref b10), (.ref b13)])) _
    refine st15 _ ?_
    show Steps p.tables e below (T15.setTop (mkF m 117 #[.val (.int p1), .val (.int p2), .val (.int p3), .val (.int p4), .val (.int n), .val (.int c1), .val (.int c2), .val (.int c3), .val (.int e1), .val (.int e2), .val (.int e3), .val (.int t), .val (.ref b10), .val (.ref b11), .val (.ref b12), .val (.ref b13), .unset, .unset] [])) _
    refine XS.aload X15.here hx rfl (hb hby at_117) rfl rfl ?_
    show Steps p.tables e below (T15.setTop (mkF m 119 #[.val (.int p1), .val (.int p2), .val (.int p3), .val (.int p4), .val (.int n), .val (.int c1), .val (.int c2), .val (.int c3), .val (.int e1), .val (.int e2), .val (.int e3), .val (.int t), .val (.ref b10), .val (.ref b11), .val (.ref b12), .val (.ref b13), .unset, .unset] [(.ref b13)])) _
    refine st16.trans ?_
    show Steps p.tables e below (T16.setTop (mkF m 122 #[.val (.int p1), .val (.int p2), .val (.int p3), .val (.int p4), .val (.int n), .val (.int c1), .val (.int c2), .val (.int c3), .val (.int e1), .val (.int e2), .val (.int e3), .val (.int t), .val (.ref b10), .val (.ref b11), .val (.ref b12), .val (.ref b13), .unset, .unset] [(.int v1)])) _
    refine XS.istore X16.here hx rfl (hb hby at_122) rfl (l' := #[.val (.int p1), .val (.int p2), .val (.int p3), .val (.int p4), .val (.int n), .val (.int c1), .val (.int c2), .val (.int c3), .val (.int e1), .val (.int e2), .val (.int e3), .val (.int t), .val (.ref b10), .val (.ref b11), .val (.ref b12), .val (.ref b13), .val (.int v1), .unset]) rfl ?_
    show Steps p.tables e below (T16.setTop (mkF m 124 #[.val (.int p1), .val (.int p2), .val (.int p3), .val (.int p4), .val (.int n), .val (.int c1), .val (.int c2), .val (.int c3), .val (.int e1), .val (.int e2), .val (.int e3), .val (.int t), .val (.ref b10), .val (.ref b11), .val (.ref b12), .val (.ref b13), .val (.int v1), .unset] [])) _
    refine XS.aload X16.here hx rfl (hb hby at_124) rfl rfl ?_
    show Steps p.tables e below (T16.setTop (mkF m 126 #[.val (.int p1), .val (.int p2), .val (.int p3), .val (.int p4), .val (.int n), .val (.int c1), .val (.int c2), .val (.int c3), .val (.int e1), .val (.int e2), .val (.int e3), .val (.int t), .val (.ref b10), .val (.ref b11), .val (.ref b12), .val (.ref b13), .val (.int v1), .unset] [(.ref b13)])) _
    refine XS.aload X16.here hx rfl (hb hby at_126) rfl rfl ?_
    show Steps p.tables e below (T16.setTop (mkF m 128 #[.val (.int p1), .val (.int p2), .val (.int p3), .val (.int p4), .val (.int n), .val (.int c1), .val (.int c2), .val (.int c3), .val (.int e1), .val (.int e2), .val (.int e3), .val (.int t), .val (.ref b10), .val (.ref b11), .val (.ref b12), .val (.ref b13), .val (.int v1), .unset] [(.ref b11), (.ref b13)])) _
    refine XS.iload X16.here hx rfl (hb hby at_128) rfl ?_
    show Steps p.tables e below (T16.setTop (mkF m 130 #[.val (.int p1), .val (.int p2), .val (.int p3), .val (.int p4), .val (.int n), .val (.int c1), .val (.int c2), .val (.int c3), .val (.int e1), .val (.int e2), .val (.int e3), .val (.int t), .val (.ref b10), .val (.ref b11), .val (.ref b12), .val (.ref b13), .val (.int v1), .unset] [(.int n), (.ref b11), (.ref b13)])) _
    refine XS.iload X16.here hx rfl (hb hby at_130) rfl ?_
    show Steps p.tables e below (T16.setTop (mkF m 132 #[.val (.int p1), .val (.int p2), .val (.int p3), .val (.int p4), .val (.int n), .val (.int c1), .val (.int c2), .val (.int c3), .val (.int e1), .val (.int e2), .val (.int e3), .val (.int t), .val (.ref b10), .val (.ref b11), .val (.ref b12), .val (.ref b13), .val (.int v1), .unset] [(.int c1), (.int n), (.ref b11), (.ref b13)])) _
    refine XS.iload X16.here hx rfl (hb hby at_132) rfl ?_
    show Steps p.tables e below (T16.setTop (mkF m 134 #[.val (.int p1), .val (.int p2), .val (.int p3), .val (.int p4), .val (.int n), .val (.int c1), .val (.int c2), .val (.int c3), .val (.int e1), .val (.int e2), .val (.int e3), .val (.int t), .val (.ref b10), .val (.ref b11), .val (.ref b12), .val (.ref b13), .val (.int v1), .unset] [(.int c2), (.int c1), (.int n), (.ref b11), (.ref b13)])) _
    refine XS.iload X16.here hx rfl (hb hby at_134) rfl ?_
    show Steps p.tables e below (T16.setTop (mkF m 136 #[.val (.int p1), .val (.int p2), .val (.int p3), .val (.int p4), .val (.int n), .val (.int c1), .val (.int c2), .val (.int c3), .val (.int e1), .val (.int e2), .val (.int e3), .val (.int t), .val (.ref b10), .val (.ref b11), .val (.ref b12), .val (.ref b13), .val (.int v1), .unset] [(.int c3), (.int c2), (.int c1), (.int n), (.ref b11), (.ref b13)])) _
    refine st17 _ ?_
    show Steps p.tables e below (T17.setTop (mkF m 139 #[.val (.int p1), .val (.int p2), .val (.int p3), .val (.int p4), .val (.int n), .val (.int c1), .val (.int c2), .val (.int c3), .val (.int e1), .val (.int e2), .val (.int e3), .val (.int t), .val (.ref b10), .val (.ref b11), .val (.ref b12), .val (.ref b13), .val (.int v1), .unset] [])) _
    refine XS.aload X17.here hx rfl (hb hby at_139) rfl rfl ?_
    show Steps p.tables e below (T17.setTop (mkF m 141 #[.val (.int p1), .val (.int p2), .val (.int p3), .val (.int p4), .val (.int n), .val (.int c1), .val (.int c2), .val (.int c3), .val (.int e1), .val (.int e2), .val (.int e3), .val (.int t), .val (.ref b10), .val (.ref b11), .val (.ref b12), .val (.ref b13), .val (.int v1), .unset] [(.ref b13)])) _
    refine st18.trans ?_
    show Steps p.tables e below (T18.setTop (mkF m 144 #[.val (.int p1), .val (.int p2), .val (.int p3), .val (.int p4), .val (.int n), .val (.int c1), .val (.int c2), .val (.int c3), .val (.int e1), .val (.int e2), .val (.int e3), .val (.int t), .val (.ref b10), .val (.ref b11), .val (.ref b12), .val (.ref b13), .val (.int v1), .unset] [(.int v2)])) _
    refine XS.istore X18.here hx rfl (hb hby at_144) rfl (l' := #[.val (.int p1), .val (.int p2), .val (.int p3), .val (.int p4), .val (.int n), .val (.int c1), .val (.int c2), .val (.int c3), .val (.int e1), .val (.int e2), .val (.int e3), .val (.int t), .val (.ref b10), .val (.ref b11), .val (.ref b12), .val (.ref b13), .val (.int v1), .val (.int v2)]) rfl ?_
    show Steps p.tables e below (T18.setTop (mkF m 146 #[.val (.int p1), .val (.int p2), .val (.int p3), .val (.int p4), .val (.int n), .val (.int c1), .val (.int c2), .val (.int c3), .val (.int e1), .val (.int e2), .val (.int e3), .val (.int t), .val (.ref b10), .val (.ref b11), .val (.ref b12), .val (.ref b13), .val (.int v1), .val (.int v2)] [])) _
    refine XS.aload X18.here hx rfl (hb hby at_146) rfl rfl ?_
    show Steps p.tables e below (T18.setTop (mkF m 148 #[.val (.int p1), .val (.int p2), .val (.int p3), .val (.int p4), .val (.int n), .val (.int c1), .val (.int c2), .val (.int c3), .val (.int e1), .val (.int e2), .val (.int e3), .val (.int t), .val (.ref b10), .val (.ref b11), .val (.ref b12), .val (.ref b13), .val (.int v1), .val (.int v2)] [(.ref b13)])) _
    refine XS.aload X18.here hx rfl (hb hby at_148) rfl rfl ?_
    show Steps p.tables e below (T18.setTop (mkF m 150 #[.val (.int p1), .val (.int p2), .val (.int p3), .val (.int p4), .val (.int n), .val (.int c1), .val (.int c2), .val (.int c3), .val (.int e1), .val (.int e2), .val (.int e3), .val (.int t), .val (.ref b10), .val (.ref b11), .val (.ref b12), .val (.ref b13), .val (.int v1), .val (.int v2)] [(.ref b12), (.ref b13)])) _
    refine XS.iload X18.here hx rfl (hb hby at_150) rfl ?_
    show Steps p.tables e below (T18.setTop (mkF m 152 #[.val (.int p1), .val (.int p2), .val (.int p3), .val (.int p4), .val (.int n), .val (.int c1), .val (.int c2), .val (.int c3), .val (.int e1), .val (.int e2), .val (.int e3), .val (.int t), .val (.ref b10), .val (.ref b11), .val (.ref b12), .val (.ref b13), .val (.int v1), .val (.int v2)] [(.int n), (.ref b12), (.ref b13)])) _
    refine XS.iload X18.here hx rfl (hb hby at_152) rfl ?_
    show Steps p.tables e below (T18.setTop (mkF m 154 #[.val (.int p1), .val (.int p2), .val (.int p3), .val (.int p4), .val (.int n), .val (.int c1), .val (.int c2), .val (.int c3), .val (.int e1), .val (.int e2), .val (.int e3), .val (.int t), .val (.ref b10), .val (.ref b11), .val (.ref b12), .val (.ref b13), .val (.int v1), .val (.int v2)] [(.int c1), (.int n), (.ref b12), (.ref b13)])) _
    refine XS.iload X18.here hx rfl (hb hby at_154) rfl ?_
    show Steps p.tables e below (T18.setTop (mkF m 156 #[.val (.int p1), .val (.int p2), .val (.int p3), .val (.int p4), .val (.int n), .val (.int c1), .val (.int c2), .val (.int c3), .val (.int e1), .val (.int e2), .val (.int e3), .val (.int t), .val (.ref b10), .val (.ref b11), .val (.ref b12), .val (.ref b13), .val (.int v1), .val (.int v2)] [(.int c2), (.int c1), (.int n), (.ref b12), (.ref b13)])) _
    refine XS.iload X18.here hx rfl (hb hby at_156) rfl ?_
    show Steps p.tables e below (T18.setTop (mkF m 158 #[.val (.int p1), .val (.int p2), .val (.int p3), .val (.int p4), .val (.int n), .val (.int c1), .val (.int c2), .val (.int c3), .val (.int e1), .val (.int e2), .val (.int e3), .val (.int t), .val (.ref b10), .val (.ref b11), .val (.ref b12), .val (.ref b13), .val (.int v1), .val (.int v2)] [(.int c3), (.int c2), (.int c1), (.int n), (.ref b12), (.ref b13)])) _
    refine st19 _ ?_
    show Steps p.tables e below (T19.setTop (mkF m 161 #[.val (.int p1), .val (.int p2), .val (.int p3), .val (.int p4), .val (.int n), .val (.int c1), .val (.int c2), .val (.int c3), .val (.int e1), .val (.int e2), .val (.int e3), .val (.int t), .val (.ref b10), .val (.ref b11), .val (.ref b12), .val (.ref b13), .val (.int v1), .val (.int v2)] [])) _
    refine XS.aload X19.here hx rfl (hb hby at_161) rfl rfl ?_
    show Steps p.tables e below (T19.setTop (mkF m 163 #[.val (.int p1), .val (.int p2), .val (.int p3), .val (.int p4), .val (.int n), .val (.int c1), .val (.int c2), .val (.int c3), .val (.int e1), .val (.int e2), .val (.int e3), .val (.int t), .val (.ref b10), .val (.ref b11), .val (.ref b12), .val (.ref b13), .val (.int v1), .val (.int v2)] [(.ref b10)])) _
    refine XS.iconst X19.here hx rfl (hb hby at_163) ?_
    show Steps p.tables e below (T19.setTop (mkF m 164 #[.val (.int p1), .val (.int p2), .val (.int p3), .val (.int p4), .val (.int n), .val (.int c1), .val (.int c2), .val (.int c3), .val (.int e1), .val (.int e2), .val (.int e3), .val (.int t), .val (.ref b10), .val (.ref b11), .val (.ref b12), .val (.ref b13), .val (.int v1), .val (.int v2)] [(.int (0 : Int32)), (.ref b10)])) _
    refine XS.iload X19.here hx rfl (hb hby at_164) rfl ?_
    show Steps p.tables e below (T19.setTop (mkF m 166 #[.val (.int p1), .val (.int p2), .val (.int p3), .val (.int p4), .val (.int n), .val (.int c1), .val (.int c2), .val (.int c3), .val (.int e1), .val (.int e2), .val (.int e3), .val (.int t), .val (.ref b10), .val (.ref b11), .val (.ref b12), .val (.ref b13), .val (.int v1), .val (.int v2)] [(.int n), (.int (0 : Int32)), (.ref b10)])) _
    refine XS.iload X19.here hx rfl (hb hby at_166) rfl ?_
    show Steps p.tables e below (T19.setTop (mkF m 168 #[.val (.int p1), .val (.int p2), .val (.int p3), .val (.int p4), .val (.int n), .val (.int c1), .val (.int c2), .val (.int c3), .val (.int e1), .val (.int e2), .val (.int e3), .val (.int t), .val (.ref b10), .val (.ref b11), .val (.ref b12), .val (.ref b13), .val (.int v1), .val (.int v2)] [(.int e1), (.int n), (.int (0 : Int32)), (.ref b10)])) _
    refine XS.iload X19.here hx rfl (hb hby at_168) rfl ?_
    show Steps p.tables e below (T19.setTop (mkF m 170 #[.val (.int p1), .val (.int p2), .val (.int p3), .val (.int p4), .val (.int n), .val (.int c1), .val (.int c2), .val (.int c3), .val (.int e1), .val (.int e2), .val (.int e3), .val (.int t), .val (.ref b10), .val (.ref b11), .val (.ref b12), .val (.ref b13), .val (.int v1), .val (.int v2)] [(.int e2), (.int e1), (.int n), (.int (0 : Int32)), (.ref b10)])) _
    refine XS.iload X19.here hx rfl (hb hby at_170) rfl ?_
    show Steps p.tables e below (T19.setTop (mkF m 172 #[.val (.int p1), .val (.int p2), .val (.int p3), .val (.int p4), .val (.int n), .val (.int c1), .val (.int c2), .val (.int c3), .val (.int e1), .val (.int e2), .val (.int e3), .val (.int t), .val (.ref b10), .val (.ref b11), .val (.ref b12), .val (.ref b13), .val (.int v1), .val (.int v2)] [(.int e3), (.int e2), (.int e1), (.int n), (.int (0 : Int32)), (.ref b10)])) _
    refine XS.iload X19.here hx rfl (hb hby at_172) rfl ?_
    show Steps p.tables e below (T19.setTop (mkF m 174 #[.val (.int p1), .val (.int p2), .val (.int p3), .val (.int p4), .val (.int n), .val (.int c1), .val (.int c2), .val (.int c3), .val (.int e1), .val (.int e2), .val (.int e3), .val (.int t), .val (.ref b10), .val (.ref b11), .val (.ref b12), .val (.ref b13), .val (.int v1), .val (.int v2)] [(.int t), (.int e3), (.int e2), (.int e1), (.int n), (.int (0 : Int32)), (.ref b10)])) _
    refine st20 _ ?_
    show Steps p.tables e below (T20.setTop (mkF m 177 #[.val (.int p1), .val (.int p2), .val (.int p3), .val (.int p4), .val (.int n), .val (.int c1), .val (.int c2), .val (.int c3), .val (.int e1), .val (.int e2), .val (.int e3), .val (.int t), .val (.ref b10), .val (.ref b11), .val (.ref b12), .val (.ref b13), .val (.int v1), .val (.int v2)] [(.int m1)])) _
    refine XS.ifNo X20.here hx rfl (hb hby at_177) rfl ((if0 _ _).trans (feq y0).1) ?_
    show Steps p.tables e below (T20.setTop (mkF m 180 #[.val (.int p1), .val (.int p2), .val (.int p3), .val (.int p4), .val (.int n), .val (.int c1), .val (.int c2), .val (.int c3), .val (.int e1), .val (.int e2), .val (.int e3), .val (.int t), .val (.ref b10), .val (.ref b11), .val (.ref b12), .val (.ref b13), .val (.int v1), .val (.int v2)] [])) _
    refine XS.aload X20.here hx rfl (hb hby at_180) rfl rfl ?_
    show Steps p.tables e below (T20.setTop (mkF m 182 #[.val (.int p1), .val (.int p2), .val (.int p3), .val (.int p4), .val (.int n), .val (.int c1), .val (.int c2), .val (.int c3), .val (.int e1), .val (.int e2), .val (.int e3), .val (.int t), .val (.ref b10), .val (.ref b11), .val (.ref b12), .val (.ref b13), .val (.int v1), .val (.int v2)] [(.ref b11)])) _
    refine XS.iconst X20.here hx rfl (hb hby at_182) ?_
    show Steps p.tables e below (T20.setTop (mkF m 183 #[.val (.int p1), .val (.int p2), .val (.int p3), .val (.int p4), .val (.int n), .val (.int c1), .val (.int c2), .val (.int c3), .val (.int e1), .val (.int e2), .val (.int e3), .val (.int t), .val (.ref b10), .val (.ref b11), .val (.ref b12), .val (.ref b13), .val (.int v1), .val (.int v2)] [(.int (1 : Int32)), (.ref b11)])) _
    refine XS.iload X20.here hx rfl (hb hby at_183) rfl ?_
    show Steps p.tables e below (T20.setTop (mkF m 185 #[.val (.int p1), .val (.int p2), .val (.int p3), .val (.int p4), .val (.int n), .val (.int c1), .val (.int c2), .val (.int c3), .val (.int e1), .val (.int e2), .val (.int e3), .val (.int t), .val (.ref b10), .val (.ref b11), .val (.ref b12), .val (.ref b13), .val (.int v1), .val (.int v2)] [(.int n), (.int (1 : Int32)), (.ref b11)])) _
    refine XS.iload X20.here hx rfl (hb hby at_185) rfl ?_
    show Steps p.tables e below (T20.setTop (mkF m 187 #[.val (.int p1), .val (.int p2), .val (.int p3), .val (.int p4), .val (.int n), .val (.int c1), .val (.int c2), .val (.int c3), .val (.int e1), .val (.int e2), .val (.int e3), .val (.int t), .val (.ref b10), .val (.ref b11), .val (.ref b12), .val (.ref b13), .val (.int v1), .val (.int v2)] [(.int e1), (.int n), (.int (1 : Int32)), (.ref b11)])) _
    refine XS.iload X20.here hx rfl (hb hby at_187) rfl ?_
    show Steps p.tables e below (T20.setTop (mkF m 189 #[.val (.int p1), .val (.int p2), .val (.int p3), .val (.int p4), .val (.int n), .val (.int c1), .val (.int c2), .val (.int c3), .val (.int e1), .val (.int e2), .val (.int e3), .val (.int t), .val (.ref b10), .val (.ref b11), .val (.ref b12), .val (.ref b13), .val (.int v1), .val (.int v2)] [(.int e2), (.int e1), (.int n), (.int (1 : Int32)), (.ref b11)])) _
    refine XS.iload X20.here hx rfl (hb hby at_189) rfl ?_
    show Steps p.tables e below (T20.setTop (mkF m 191 #[.val (.int p1), .val (.int p2), .val (.int p3), .val (.int p4), .val (.int n), .val (.int c1), .val (.int c2), .val (.int c3), .val (.int e1), .val (.int e2), .val (.int e3), .val (.int t), .val (.ref b10), .val (.ref b11), .val (.ref b12), .val (.ref b13), .val (.int v1), .val (.int v2)] [(.int e3), (.int e2), (.int e1), (.int n), (.int (1 : Int32)), (.ref b11)])) _
    refine XS.iload X20.here hx rfl (hb hby at_191) rfl ?_
    show Steps p.tables e below (T20.setTop (mkF m 193 #[.val (.int p1), .val (.int p2), .val (.int p3), .val (.int p4), .val (.int n), .val (.int c1), .val (.int c2), .val (.int c3), .val (.int e1), .val (.int e2), .val (.int e3), .val (.int t), .val (.ref b10), .val (.ref b11), .val (.ref b12), .val (.ref b13), .val (.int v1), .val (.int v2)] [(.int t), (.int e3), (.int e2), (.int e1), (.int n), (.int (1 : Int32)), (.ref b11)])) _
    refine st21 _ ?_
    show Steps p.tables e below (T21.setTop (mkF m 196 #[.val (.int p1), .val (.int p2), .val (.int p3), .val (.int p4), .val (.int n), .val (.int c1), .val (.int c2), .val (.int c3), .val (.int e1), .val (.int e2), .val (.int e3), .val (.int t), .val (.ref b10), .val (.ref b11), .val (.ref b12), .val (.ref b13), .val (.int v1), .val (.int v2)] [(.int m2)])) _
    refine XS.ifNo X21.here hx rfl (hb hby at_196) rfl ((if0 _ _).trans (feq y1).1) ?_
    show Steps p.tables e below (T21.setTop (mkF m 199 #[.val (.int p1), .val (.int p2), .val (.int p3), .val (.int p4), .val (.int n), .val (.int c1), .val (.int c2), .val (.int c3), .val (.int e1), .val (.int e2), .val (.int e3), .val (.int t), .val (.ref b10), .val (.ref b11), .val (.ref b12), .val (.ref b13), .val (.int v1), .val (.int v2)] [])) _
    refine XS.aload X21.here hx rfl (hb hby at_199) rfl rfl ?_
    show Steps p.tables e below (T21.setTop (mkF m 201 #[.val (.int p1), .val (.int p2), .val (.int p3), .val (.int p4), .val (.int n), .val (.int c1), .val (.int c2), .val (.int c3), .val (.int e1), .val (.int e2), .val (.int e3), .val (.int t), .val (.ref b10), .val (.ref b11), .val (.ref b12), .val (.ref b13), .val (.int v1), .val (.int v2)] [(.ref b12)])) _
    refine XS.iconst X21.here hx rfl (hb hby at_201) ?_
    show Steps p.tables e below (T21.setTop (mkF m 202 #[.val (.int p1), .val (.int p2), .val (.int p3), .val (.int p4), .val (.int n), .val (.int c1), .val (.int c2), .val (.int c3), .val (.int e1), .val (.int e2), .val (.int e3), .val (.int t), .val (.ref b10), .val (.ref b11), .val (.ref b12), .val (.ref b13), .val (.int v1), .val (.int v2)] [(.int (2 : Int32)), (.ref b12)])) _
    refine XS.iload X21.here hx rfl (hb hby at_202) rfl ?_
    show Steps p.tables e below (T21.setTop (mkF m 204 #[.val (.int p1), .val (.int p2), .val (.int p3), .val (.int p4), .val (.int n), .val (.int c1), .val (.int c2), .val (.int c3), .val (.int e1), .val (.int e2), .val (.int e3), .val (.int t), .val (.ref b10), .val (.ref b11), .val (.ref b12), .val (.ref b13), .val (.int v1), .val (.int v2)] [(.int n), (.int (2 : Int32)), (.ref b12)])) _
    refine XS.iload X21.here hx rfl (hb hby at_204) rfl ?_
    show Steps p.tables e below (T21.setTop (mkF m 206 #[.val (.int p1), .val (.int p2), .val (.int p3), .val (.int p4), .val (.int n), .val (.int c1), .val (.int c2), .val (.int c3), .val (.int e1), .val (.int e2), .val (.int e3), .val (.int t), .val (.ref b10), .val (.ref b11), .val (.ref b12), .val (.ref b13), .val (.int v1), .val (.int v2)] [(.int e1), (.int n), (.int (2 : Int32)), (.ref b12)])) _
    refine XS.iload X21.here hx rfl (hb hby at_206) rfl ?_
    show Steps p.tables e below (T21.setTop (mkF m 208 #[.val (.int p1), .val (.int p2), .val (.int p3), .val (.int p4), .val (.int n), .val (.int c1), .val (.int c2), .val (.int c3), .val (.int e1), .val (.int e2), .val (.int e3), .val (.int t), .val (.ref b10), .val (.ref b11), .val (.ref b12), .val (.ref b13), .val (.int v1), .val (.int v2)] [(.int e2), (.int e1), (.int n), (.int (2 : Int32)), (.ref b12)])) _
    refine XS.iload X21.here hx rfl (hb hby at_208) rfl ?_
    show Steps p.tables e below (T21.setTop (mkF m 210 #[.val (.int p1), .val (.int p2), .val (.int p3), .val (.int p4), .val (.int n), .val (.int c1), .val (.int c2), .val (.int c3), .val (.int e1), .val (.int e2), .val (.int e3), .val (.int t), .val (.ref b10), .val (.ref b11), .val (.ref b12), .val (.ref b13), .val (.int v1), .val (.int v2)] [(.int e3), (.int e2), (.int e1), (.int n), (.int (2 : Int32)), (.ref b12)])) _
    refine XS.iload X21.here hx rfl (hb hby at_210) rfl ?_
    show Steps p.tables e below (T21.setTop (mkF m 212 #[.val (.int p1), .val (.int p2), .val (.int p3), .val (.int p4), .val (.int n), .val (.int c1), .val (.int c2), .val (.int c3), .val (.int e1), .val (.int e2), .val (.int e3), .val (.int t), .val (.ref b10), .val (.ref b11), .val (.ref b12), .val (.ref b13), .val (.int v1), .val (.int v2)] [(.int t), (.int e3), (.int e2), (.int e1), (.int n), (.int (2 : Int32)), (.ref b12)])) _
    refine st22 _ ?_
    show Steps p.tables e below (T22.setTop (mkF m 215 #[.val (.int p1), .val (.int p2), .val (.int p3), .val (.int p4), .val (.int n), .val (.int c1), .val (.int c2), .val (.int c3), .val (.int e1), .val (.int e2), .val (.int e3), .val (.int t), .val (.ref b10), .val (.ref b11), .val (.ref b12), .val (.ref b13), .val (.int v1), .val (.int v2)] [(.int m3)])) _
    refine XS.ifNo X22.here hx rfl (hb hby at_215) rfl ((if0 _ _).trans (feq y2).1) ?_
    show Steps p.tables e below (T22.setTop (mkF m 218 #[.val (.int p1), .val (.int p2), .val (.int p3), .val (.int p4), .val (.int n), .val (.int c1), .val (.int c2), .val (.int c3), .val (.int e1), .val (.int e2), .val (.int e3), .val (.int t), .val (.ref b10), .val (.ref b11), .val (.ref b12), .val (.ref b13), .val (.int v1), .val (.int v2)] [])) _
    refine XS.iload X22.here hx rfl (hb hby at_218) rfl ?_
    show Steps p.tables e below (T22.setTop (mkF m 220 #[.val (.int p1), .val (.int p2), .val (.int p3), .val (.int p4), .val (.int n), .val (.int c1), .val (.int c2), .val (.int c3), .val (.int e1), .val (.int e2), .val (.int e3), .val (.int t), .val (.ref b10), .val (.ref b11), .val (.ref b12), .val (.ref b13), .val (.int v1), .val (.int v2)] [(.int v1)])) _
    refine XS.iconst X22.here hx rfl (hb hby at_220) ?_
    show Steps p.tables e below (T22.setTop (mkF m 221 #[.val (.int p1), .val (.int p2), .val (.int p3), .val (.int p4), .val (.int n), .val (.int c1), .val (.int c2), .val (.int c3), .val (.int e1), .val (.int e2), .val (.int e3), .val (.int t), .val (.ref b10), .val (.ref b11), .val (.ref b12), .val (.ref b13), .val (.int v1), .val (.int v2)] [(.int (1 : Int32)), (.int v1)])) _
    refine XS.iload X22.here hx rfl (hb hby at_221) rfl ?_
    show Steps p.tables e below (T22.setTop (mkF m 223 #[.val (.int p1), .val (.int p2), .val (.int p3), .val (.int p4), .val (.int n), .val (.int c1), .val (.int c2), .val (.int c3), .val (.int e1), .val (.int e2), .val (.int e3), .val (.int t), .val (.ref b10), .val (.ref b11), .val (.ref b12), .val (.ref b13), .val (.int v1), .val (.int v2)] [(.int t), (.int (1 : Int32)), (.int v1)])) _
    refine XS.irem X22.here hx rfl (hb hby at_223) rfl zt ?_
    show Steps p.tables e below (T22.setTop (mkF m 224 #[.val (.int p1), .val (.int p2), .val (.int p3), .val (.int p4), .val (.int n), .val (.int c1), .val (.int c2), .val (.int c3), .val (.int e1), .val (.int e2), .val (.int e3), .val (.int t), .val (.ref b10), .val (.ref b11), .val (.ref b12), .val (.ref b13), .val (.int v1), .val (.int v2)] [(.int ((1 : Int32) - ((1 : Int32) / t) * t)), (.int v1)])) _
    refine gz1 X22 hx hby hu1 ?_
    show Steps p.tables e below (T22.setTop (mkF m 232 #[.val (.int p1), .val (.int p2), .val (.int p3), .val (.int p4), .val (.int n), .val (.int c1), .val (.int c2), .val (.int c3), .val (.int e1), .val (.int e2), .val (.int e3), .val (.int t), .val (.ref b10), .val (.ref b11), .val (.ref b12), .val (.ref b13), .val (.int v1), .val (.int v2)] [(.int u1), (.int v1)])) _
    refine XS.icmpNo X22.here hx rfl (hb hby at_232) rfl (teq w1).2 ?_
    show Steps p.tables e below (T22.setTop (mkF m 235 #[.val (.int p1), .val (.int p2), .val (.int p3), .val (.int p4), .val (.int n), .val (.int c1), .val (.int c2), .val (.int c3), .val (.int e1), .val (.int e2), .val (.int e3), .val (.int t), .val (.ref b10), .val (.ref b11), .val (.ref b12), .val (.ref b13), .val (.int v1), .val (.int v2)] [])) _
    refine XS.iload X22.here hx rfl (hb hby at_235) rfl ?_
    show Steps p.tables e below (T22.setTop (mkF m 237 #[.val (.int p1), .val (.int p2), .val (.int p3), .val (.int p4), .val (.int n), .val (.int c1), .val (.int c2), .val (.int c3), .val (.int e1), .val (.int e2), .val (.int e3), .val (.int t), .val (.ref b10), .val (.ref b11), .val (.ref b12), .val (.ref b13), .val (.int v1), .val (.int v2)] [(.int v2)])) _
    refine XS.iconst X22.here hx rfl (hb hby at_237) ?_
    show Steps p.tables e below (T22.setTop (mkF m 238 #[.val (.int p1), .val (.int p2), .val (.int p3), .val (.int p4), .val (.int n), .val (.int c1), .val (.int c2), .val (.int c3), .val (.int e1), .val (.int e2), .val (.int e3), .val (.int t), .val (.ref b10), .val (.ref b11), .val (.ref b12), .val (.ref b13), .val (.int v1), .val (.int v2)] [(.int (2 : Int32)), (.int v2)])) _
    refine XS.iload X22.here hx rfl (hb hby at_238) rfl ?_
    show Steps p.tables e below (T22.setTop (mkF m 240 #[.val (.int p1), .val (.int p2), .val (.int p3), .val (.int p4), .val (.int n), .val (.int c1), .val (.int c2), .val (.int c3), .val (.int e1), .val (.int e2), .val (.int e3), .val (.int t), .val (.ref b10), .val (.ref b11), .val (.ref b12), .val (.ref b13), .val (.int v1), .val (.int v2)] [(.int t), (.int (2 : Int32)), (.int v2)])) _
    refine XS.irem X22.here hx rfl (hb hby at_240) rfl zt ?_
    show Steps p.tables e below (T22.setTop (mkF m 241 #[.val (.int p1), .val (.int p2), .val (.int p3), .val (.int p4), .val (.int n), .val (.int c1), .val (.int c2), .val (.int c3), .val (.int e1), .val (.int e2), .val (.int e3), .val (.int t), .val (.ref b10), .val (.ref b11), .val (.ref b12), .val (.ref b13), .val (.int v1), .val (.int v2)] [(.int ((2 : Int32) - ((2 : Int32) / t) * t)), (.int v2)])) _
    refine gz2 X22 hx hby hu2 ?_
    show Steps p.tables e below (T22.setTop (mkF m 249 #[.val (.int p1), .val (.int p2), .val (.int p3), .val (.int p4), .val (.int n), .val (.int c1), .val (.int c2), .val (.int c3), .val (.int e1), .val (.int e2), .val (.int e3), .val (.int t), .val (.ref b10), .val (.ref b11), .val (.ref b12), .val (.ref b13), .val (.int v1), .val (.int v2)] [(.int u2), (.int v2)])) _
    refine XS.icmpNo X22.here hx rfl (hb hby at_249) rfl (teq w2).2 ?_
    show Steps p.tables e below (T22.setTop (mkF m 252 #[.val (.int p1), .val (.int p2), .val (.int p3), .val (.int p4), .val (.int n), .val (.int c1), .val (.int c2), .val (.int c3), .val (.int e1), .val (.int e2), .val (.int e3), .val (.int t), .val (.ref b10), .val (.ref b11), .val (.ref b12), .val (.ref b13), .val (.int v1), .val (.int v2)] [])) _
    refine XS.iconst X22.here hx rfl (hb hby at_252) ?_
    show Steps p.tables e below (T22.setTop (mkF m 253 #[.val (.int p1), .val (.int p2), .val (.int p3), .val (.int p4), .val (.int n), .val (.int c1), .val (.int c2), .val (.int c3), .val (.int e1), .val (.int e2), .val (.int e3), .val (.int t), .val (.ref b10), .val (.ref b11), .val (.ref b12), .val (.ref b13), .val (.int v1), .val (.int v2)] [(.int (1 : Int32))])) _
    refine XS.goto X22.here hx rfl (pc0 := 253) (pc' := 257) rfl (hb hby at_253) (by decide) (by decide) ?_
    show Steps p.tables e below (T22.setTop (mkF m 257 #[.val (.int p1), .val (.int p2), .val (.int p3), .val (.int p4), .val (.int n), .val (.int c1), .val (.int c2), .val (.int c3), .val (.int e1), .val (.int e2), .val (.int e3), .val (.int t), .val (.ref b10), .val (.ref b11), .val (.ref b12), .val (.ref b13), .val (.int v1), .val (.int v2)] [(.int (1 : Int32))])) _
    exact retN X22 hx (t := .boolean) Bd.returns (by simp) (hb hby at_257) hr
  · show Q0 Z h0 n0 _ T22.heap _
    exact ⟨rfl, N22⟩
set_option maxRecDepth 65536 in
set_option maxHeartbeats 40000000 in
theorem comes_1 {Post : Tables → Env → Array Value → State → Outcome → State → Prop} (hpost : ∀ tb e args s v u, (limb_1_1.after args s (.returned v) u = true ∧ limb_1_2.after args s (.returned v) u = true ∧ True) → FrameEnd s (.returned v) u (Jvm.fieldLocs frame_1_writes args s ++ Jvm.arrayLocs frame_1_arrays args s ++ Jvm.staticLocs frame_1_statics s) 24 384 → Post tb e args s (.returned v) u) :
    ArmFor flags0 classFile x code maxLocals ret World_1 tables_1 room_1 Calls_1 rest_1 Pre_1 Post := by
  intro l hfl _ _ p e ha hc hk s m args below hf hA hF happ hP
  obtain ⟨hcalls, hrest, hpre⟩ := hP
  obtain ⟨-, -, -, hnamed, -, -, -, hat⟩ := (Spec.applies_iff hf).mp happ
  obtain ⟨hg, hn⟩ := and_e (Cond.before_iff.mp (show (Jvm.Cond.and given_1 narrow_1).before args s = true from hpre))
  obtain ⟨g16, g17⟩ := and_e hg
  obtain ⟨g18, g19⟩ := and_e g17
  obtain ⟨g20, g21⟩ := and_e g19
  obtain ⟨g22, g23⟩ := and_e g21
  obtain ⟨w0, w1, w2, w3, rfl⟩ : ∃ w0 w1 w2 w3 : Value, args = #[w0, w1, w2, w3] := by
    have hs : args.size = 4 := by simpa [Cond.value, given_1] using g16
    obtain ⟨L⟩ := args
    match L, hs with
    | [w0, w1, w2, w3], _ => exact ⟨w0, w1, w2, w3, rfl⟩
  have hw := fun d (hd : d ∈ tables_1) => atoms_spec (ws := Jvm.Cond.code x code maxLocals ret :: tables_1) hat d (List.mem_cons_of_mem _ hd)
  have hfit : Fit s := fun {y c} hc i hi => by
    obtain ⟨ha, rfl⟩ := Array.getElem?_eq_some_iff.mp hc
    have q := List.all_eq_true.mp ((Array.all_eq_true_iff_forall_mem.mp hF) _ (Array.getElem_mem ha)) i (List.mem_range.mpr hi)
    simpa [Array.getElem?_eq_getElem hi] using q
  obtain ⟨i0, ei0⟩ := is_v g18
  obtain rfl : w0 = (.int i0) := Option.some.inj ei0
  obtain ⟨i1, ei1⟩ := is_v g20
  obtain rfl : w1 = (.int i1) := Option.some.inj ei1
  obtain ⟨i2, ei2⟩ := is_v g22
  obtain rfl : w2 = (.int i2) := Option.some.inj ei2
  obtain ⟨i3, ei3⟩ := is_v g23
  obtain rfl : w3 = (.int i3) := Option.some.inj ei3
  obtain ⟨n, o, h1, h2, h3, _, L, rfl, ⟨rfl, N⟩, hq⟩ := rm0 l s _ hw tables_1 i0 i1 i2 i3 s.heap s.heap.size (Nat.le_refl _) p e ha hc hk s m _ below hf ((Spec.applies_iff_loose hf).mp happ).1 ⟨rfl, State.Warmed39.refl s, rfl⟩ trivial
  refine ⟨n, _, h1, h2, h3, hpost _ _ _ _ _ _ ⟨Cond.after_iff.mpr rfl, Cond.after_iff.mpr (eq_i res_at (Term.int_eval (1)) rfl), trivial⟩ ⟨hq.1, hq.2.1, (hq.2.2.sift fun y hy => Or.inr (N y hy)).mono (by decide) (by decide)⟩⟩
theorem main_1_1 : Claimed_1_1 := comes_1 fun _ _ _ _ _ _ h hF => ⟨h.1, hF⟩
theorem main_1_2 : Claimed_1_2 := comes_1 fun _ _ _ _ _ _ h hF => ⟨h.2.1, hF⟩
end Jvm.Pilot.@@N@@
namespace Jvm.Pilot.@@N@@
open Jvm Jvm.ClassFile Sem Op Lib Jvm.Free Jvm.Stand Jvm.Pilot.@@N@@.Jvm.D
/-! MADE BY PROGRAM (witnessworld.py) out of the Statement's table words and the real class files: 9 classes; the members and pool entries that the words name. The judged class is class 1, her method 1. -/
namespace start1
open Jvm.ClassFile
def u (s : String) : CpInfo := .utf8 (stringToUtf16 s)
/-- a pool by its gaps: so many unusable entries, then the entry; so many at the end -/
def gap : Nat → List CpInfo → List CpInfo
  | 0, r => r
  | n + 1, r => .unusable :: gap n r
def poolList (es : List (Nat × CpInfo)) (last : Nat) : List CpInfo := es.foldr (fun e r => gap e.1 (e.2 :: r)) (gap last [])
def pool (es : List (Nat × CpInfo)) (last : Nat) : Array CpInfo := ⟨poolList es last⟩
def fileOf (pool : Array CpInfo) (this : Nat) (attrs : Array Attribute := #[]) (ms : Array MethodInfo := #[]) (fl : Nat := 33) (sup : Nat := 0) (ifs : Array Nat := #[]) (fds : Array FieldInfo := #[]) : ClassFile where
  minorVersion := 0
  majorVersion := 65
  constantPool := pool
  accessFlags := fl
  thisClass := this
  superClass := sup
  interfaces := ifs
  fields := fds
  methods := ms
  attributes := attrs
def plain (name : String) (sup : Option ClassId) : Class where
  name := name
  kind := .ordinary
  loader := none
  accessFlags := 33
  super := sup
  interfaces := #[]
  cf := none
  fields := #[]
  methods := #[]
  instanceTypes := #[]
  staticTypes := #[]
  resolved := #[]
  callSites := []
  init := .initialized
  statics := none
  mirror := none

def pool0 : Array CpInfo := pool [(5, u "<init>"), (0, u "()V"), (1, .class_ 10), (1, u "java/lang/Object")] 113

def k0c0 : Code := { maxStack := 0, maxLocals := 1, code := object_method_1_code, exceptionTable := #[], attributes := #[] }
def k0m0 : Method := { name := "<init>", desc := "()V", sig := { parameters := [], returnType := none }, accessFlags := 1, code := some k0c0 }
/-- java/lang/Object -/
def k0 : Class := { plain "java/lang/Object" none with
  accessFlags := 33
  interfaces := #[]
  cf := some (fileOf pool0 8 #[] #[{ accessFlags := 1, nameIndex := 5, descriptorIndex := 6, attributes := #[] }] 33 0 #[] #[])
  fields := #[]
  methods := #[k0m0]
  instanceTypes := #[]
  staticTypes := #[]
  resolved := Array.replicate 124 none
  statics := none }

def pool1 : Array CpInfo := pool [(2, .class_ 4), (0, .nameAndType 5 6), (0, u "java/lang/Object"), (0, u "<init>"), (0, u "()V"), (0, .class_ 8), (0, u "com/example/nereus/nereus/checker/DecisionPath"), (0, .methodref 7 3), (0, .methodref 11 12), (0, .class_ 13), (0, .nameAndType 14 15), (0, u "com/example/nereus/nereus/checker/DecisionPathAdvancePinLaw"), (0, u "run"), (0, u "(Lcom/example/nereus/nereus/checker/DecisionPath;[IIIII)V"), (0, .methodref 7 17), (0, .nameAndType 18 19), (0, u "advance"), (0, u "()Z"), (0, .methodref 11 21), (0, .nameAndType 22 23), (0, u "matches"), (0, u "([IIIIIII)Z"), (0, .methodref 7 25), (0, .nameAndType 26 27), (0, u "decide"), (0, u "(I)I"), (2, u "law"), (0, u "(IIII)Z")] 5

def k1m0 : Method := { name := "<init>", desc := "()V", sig := { parameters := [], returnType := none }, accessFlags := 2, code := none }
def k1c1 : Code := { maxStack := 7, maxLocals := 18, code := code, exceptionTable := #[], attributes := #[] }
def k1m1 : Method := { name := "law", desc := "(IIII)Z", sig := { parameters := [.int, .int, .int, .int], returnType := some .boolean }, accessFlags := 9, code := some k1c1 }
def k1c2 : Code := { maxStack := 4, maxLocals := 6, code := method_3_code, exceptionTable := #[], attributes := #[] }
def k1m2 : Method := { name := "run", desc := "(Lcom/example/nereus/nereus/checker/DecisionPath;[IIIII)V", sig := { parameters := [(.object "com/example/nereus/nereus/checker/DecisionPath"), (.array .int), .int, .int, .int, .int], returnType := none }, accessFlags := 10, code := some k1c2 }
def k1c3 : Code := { maxStack := 2, maxLocals := 11, code := method_4_code, exceptionTable := #[], attributes := #[] }
def k1m3 : Method := { name := "matches", desc := "([IIIIIII)Z", sig := { parameters := [(.array .int), .int, .int, .int, .int, .int, .int], returnType := some .boolean }, accessFlags := 10, code := some k1c3 }
/-- com/example/nereus/nereus/checker/DecisionPathAdvancePinLaw -/
def k1 : Class := { plain "com/example/nereus/nereus/checker/DecisionPathAdvancePinLaw" (some 0) with
  accessFlags := 49
  interfaces := #[]
  cf := some (fileOf pool1 11 #[] #[{ accessFlags := 2, nameIndex := 5, descriptorIndex := 6, attributes := #[] }, { accessFlags := 9, nameIndex := 30, descriptorIndex := 31, attributes := #[] }, { accessFlags := 10, nameIndex := 14, descriptorIndex := 15, attributes := #[] }, { accessFlags := 10, nameIndex := 22, descriptorIndex := 23, attributes := #[] }] 49 2 #[] #[])
  fields := #[]
  methods := #[k1m0, k1m1, k1m2, k1m3]
  instanceTypes := #[]
  staticTypes := #[]
  resolved := Array.replicate 37 none
  statics := none }

def pool2 : Array CpInfo := pool [(1, .methodref 2 3), (0, .class_ 4), (0, .nameAndType 5 6), (0, u "java/lang/Object"), (0, u "<init>"), (0, u "()V"), (0, .fieldref 8 9), (0, .class_ 10), (0, .nameAndType 11 12), (0, u "com/example/nereus/nereus/checker/DecisionPath"), (0, u "taken"), (0, u "[I"), (0, .fieldref 8 14), (0, .nameAndType 15 12), (0, u "alternatives"), (0, .fieldref 8 17), (0, .nameAndType 18 19), (0, u "made"), (0, u "I"), (0, .fieldref 8 21), (0, .nameAndType 22 19), (0, u "length"), (8, u "decide"), (0, u "(I)I"), (4, u "()Z"), (0, u "advance")] 2

def k2c0 : Code := { maxStack := 2, maxLocals := 1, code := prog_5_method_1_code, exceptionTable := #[], attributes := #[] }
def k2m0 : Method := { name := "<init>", desc := "()V", sig := { parameters := [], returnType := none }, accessFlags := 0, code := some k2c0 }
def k2c1 : Code := { maxStack := 4, maxLocals := 2, code := prog_5_method_2_code, exceptionTable := #[], attributes := #[] }
def k2m1 : Method := { name := "decide", desc := "(I)I", sig := { parameters := [.int], returnType := some .int }, accessFlags := 0, code := some k2c1 }
def k2c2 : Code := { maxStack := 4, maxLocals := 1, code := prog_5_method_4_code, exceptionTable := #[], attributes := #[] }
def k2m2 : Method := { name := "advance", desc := "()Z", sig := { parameters := [], returnType := some .boolean }, accessFlags := 0, code := some k2c2 }
/-- com/example/nereus/nereus/checker/DecisionPath -/
def k2 : Class := { plain "com/example/nereus/nereus/checker/DecisionPath" (some 0) with
  accessFlags := 48
  interfaces := #[]
  cf := some (fileOf pool2 8 #[] #[{ accessFlags := 0, nameIndex := 5, descriptorIndex := 6, attributes := #[] }, { accessFlags := 0, nameIndex := 31, descriptorIndex := 32, attributes := #[] }, { accessFlags := 0, nameIndex := 38, descriptorIndex := 37, attributes := #[] }] 48 2 #[] #[{ accessFlags := 2, nameIndex := 11, descriptorIndex := 12, attributes := #[] }, { accessFlags := 2, nameIndex := 15, descriptorIndex := 12, attributes := #[] }, { accessFlags := 2, nameIndex := 22, descriptorIndex := 19, attributes := #[] }, { accessFlags := 2, nameIndex := 18, descriptorIndex := 19, attributes := #[] }])
  fields := #[{ name := "taken", type := (.array .int), accessFlags := 2, slot := 0, constantValue := 0 }, { name := "alternatives", type := (.array .int), accessFlags := 2, slot := 1, constantValue := 0 }, { name := "length", type := .int, accessFlags := 2, slot := 2, constantValue := 0 }, { name := "made", type := .int, accessFlags := 2, slot := 3, constantValue := 0 }]
  methods := #[k2m0, k2m1, k2m2]
  instanceTypes := #[(.array .int), (.array .int), .int, .int]
  staticTypes := #[]
  resolved := Array.replicate 41 none
  statics := none }

def pool3 : Array CpInfo := pool [(1, u "java/lang/Cloneable"), (0, .class_ 1), (0, u "java/lang/Object"), (0, .class_ 3)] 3

/-- java/lang/Cloneable -/
def k3 : Class := { plain "java/lang/Cloneable" (some 0) with
  accessFlags := 1537
  interfaces := #[]
  cf := some (fileOf pool3 2 #[] #[] 1537 4 #[] #[])
  fields := #[]
  methods := #[]
  instanceTypes := #[]
  staticTypes := #[]
  resolved := Array.replicate 8 none
  statics := none }

def pool4 : Array CpInfo := pool [(1, u "java/io/Serializable"), (0, .class_ 1), (0, u "java/lang/Object"), (0, .class_ 3)] 3

/-- java/io/Serializable -/
def k4 : Class := { plain "java/io/Serializable" (some 0) with
  accessFlags := 1537
  interfaces := #[]
  cf := some (fileOf pool4 2 #[] #[] 1537 4 #[] #[])
  fields := #[]
  methods := #[]
  instanceTypes := #[]
  staticTypes := #[]
  resolved := Array.replicate 8 none
  statics := none }

/-- the primitive byte -/
def k5 : Class := { plain "byte" none with kind := .primitive 'B', accessFlags := 0x411 }
/-- [B -/
def k6 : Class := { plain "[B" (some 0) with kind := .array 5 .byte, interfaces := #[3, 4], accessFlags := 1041 }

/-- the primitive int -/
def k7 : Class := { plain "int" none with kind := .primitive 'I', accessFlags := 0x411 }
/-- [I -/
def k8 : Class := { plain "[I" (some 0) with kind := .array 7 .int, interfaces := #[3, 4], accessFlags := 1041 }

def heap : Heap := #[]
def classes : Array Class := #[k0, k1, k2, k3, k4, k5, k6, k7, k8]
def interned : List (Array UInt16 × Addr) := []
def slotsUsed : Nat := 0
def theMethod : MethodId := ⟨1, 1⟩
def args0 : Array Value := #[.int 2, .int 1, .int 2, .int 3]
def aboutOver (below : List Frame) : State where
  vm := { classes := classes, interned := interned.toArray }
  heap := heap
  slotsUsed := slotsUsed
  threads := #[{ frames := .invoking theMethod args0 :: below }]
def below0 : List Frame := [.native { method := ⟨0, 0⟩, args := #[] }]
def about1 : State := aboutOver below0
def p0 : Program := .bare "" "" ""
def e0 : Env := launch0.env 0 0 0
theorem w_frames : about1.frames = Frame.invoking theMethod args0 :: below0 := rfl
set_option maxRecDepth 65536 in
theorem w_args : argsFit about1.vm theMethod args0 = true := by decide +kernel
set_option maxRecDepth 65536 in
theorem w_heap : heapFits about1 = true := by decide +kernel
set_option maxRecDepth 65536 in
theorem w_runnable : about1.curStatus? = some .runnable := by decide +kernel
set_option maxRecDepth 65536 in
theorem w_alone : about1.alone = true := by decide +kernel
set_option maxRecDepth 65536 in
theorem w_named : about1.methodNamed? x = some theMethod := by decide +kernel
set_option maxRecDepth 65536 in
theorem w_hears : about1.hears theMethod below0 = true := by decide +kernel
set_option maxRecDepth 65536 in
theorem w_ripe : about1.ripe theMethod args0 below0 = true := by decide +kernel
theorem w_running : about1.status = .running := rfl
set_option maxRecDepth 65536 in
theorem w_room : about1.hasRoom e0.platform room_1 = true :=
  launch0.hasRoom_least _ room_1 (by decide +kernel) (by decide +kernel) (by decide +kernel) (by decide +kernel) (by decide +kernel) (by decide +kernel)
theorem allAtoms_all (ts : List Jvm.Cond) (a : Array Jvm.Value) (st : Jvm.State) : (allAtoms ts).before a st = ts.all (fun c => c.before a st) := by
  induction ts with
  | nil => rfl
  | cons c t ih =>
    show (Jvm.Cond.and c (allAtoms t)).before a st = _
    rw [Jvm.Cond.before_and, ih, List.all_cons]
def words1 : List Jvm.Cond := Jvm.Cond.code x code maxLocals ret :: tables_1
/-- a 'code' word, met by the world's own term for the bytes: nothing is compared byte by byte -/
theorem code_word {y : MethodName} {bytes : ByteArray} {mx : Nat} {rt : Option FieldType} {a : Array Value} {s : State} {m : MethodId} {meth : Method} {c : Code} (h1 : s.methodNamed? y = some m) (h2 : s.vm.method? m = some meth) (h3 : meth.code = some c) (h4 : c.code = bytes)
    (h5 : (c.maxLocals == mx && c.exceptionTable.isEmpty && decide (c.maxStack ≤ mostOperands) && decide (meth.sig.returnType = rt) && !meth.locks && decide (parseMethodDescriptor y.desc = some meth.sig)) = true) : (Jvm.Cond.code y bytes mx rt).before a s = true := by
  simp only [Bool.and_eq_true, beq_iff_eq, Bool.not_eq_true', decide_eq_true_eq] at h5
  obtain ⟨⟨⟨⟨⟨g1, g2⟩, g3⟩, g4⟩, g5⟩, g6⟩ := h5
  simp [Cond.before, Cond.holds, Cond.value, h1, h2, h3, h4, g1, g2, g3, g4, g5, g6]
def isCode : Jvm.Cond → Bool
  | .code _ _ _ _ => true
  | _ => false
theorem all_split {L : List Jvm.Cond} {P : Jvm.Cond → Bool} (h1 : L.all (fun c => isCode c || P c) = true) (h2 : ∀ c ∈ L.filter isCode, P c = true) : L.all P = true := by
  refine List.all_eq_true.mpr fun c hc => ?_
  have h := List.all_eq_true.mp h1 c hc
  rcases Bool.eq_false_or_eq_true (isCode c) with hi | hi
  · exact h2 c (List.mem_filter.mpr ⟨hc, hi⟩)
  · simpa [hi] using h
set_option maxRecDepth 65536 in
theorem w_c0 : (Jvm.Cond.code x code maxLocals ret).before args0 about1 = true := code_word (m := ⟨1, 1⟩) (meth := k1m1) (c := k1c1) (by decide +kernel) rfl rfl rfl (by decide +kernel)
set_option maxRecDepth 65536 in
theorem w_c1 : (Jvm.Cond.code ({ cls := "com/example/nereus/nereus/checker/DecisionPath", name := "<init>", desc := "()V" } : Jvm.MethodName) prog_5_method_1_code (1 : Nat) (Option.none : Option Jvm.ClassFile.FieldType)).before args0 about1 = true := code_word (m := ⟨2, 0⟩) (meth := k2m0) (c := k2c0) (by decide +kernel) rfl rfl rfl (by decide +kernel)
set_option maxRecDepth 65536 in
theorem w_c2 : (Jvm.Cond.code ({ cls := "java/lang/Object", name := "<init>", desc := "()V" } : Jvm.MethodName) object_method_1_code (1 : Nat) (Option.none : Option Jvm.ClassFile.FieldType)).before args0 about1 = true := code_word (m := ⟨0, 0⟩) (meth := k0m0) (c := k0c0) (by decide +kernel) rfl rfl rfl (by decide +kernel)
set_option maxRecDepth 65536 in
theorem w_c3 : (Jvm.Cond.code ({ cls := "com/example/nereus/nereus/checker/DecisionPathAdvancePinLaw", name := "run", desc := "(Lcom/example/nereus/nereus/checker/DecisionPath;[IIIII)V" } : Jvm.MethodName) method_3_code (6 : Nat) (Option.none : Option Jvm.ClassFile.FieldType)).before args0 about1 = true := code_word (m := ⟨1, 2⟩) (meth := k1m2) (c := k1c2) (by decide +kernel) rfl rfl rfl (by decide +kernel)
set_option maxRecDepth 65536 in
theorem w_c4 : (Jvm.Cond.code ({ cls := "com/example/nereus/nereus/checker/DecisionPath", name := "advance", desc := "()Z" } : Jvm.MethodName) prog_5_method_4_code (1 : Nat) (Option.some Jvm.ClassFile.FieldType.boolean)).before args0 about1 = true := code_word (m := ⟨2, 2⟩) (meth := k2m2) (c := k2c2) (by decide +kernel) rfl rfl rfl (by decide +kernel)
set_option maxRecDepth 65536 in
theorem w_c5 : (Jvm.Cond.code ({ cls := "com/example/nereus/nereus/checker/DecisionPathAdvancePinLaw", name := "matches", desc := "([IIIIIII)Z" } : Jvm.MethodName) method_4_code (11 : Nat) (Option.some Jvm.ClassFile.FieldType.boolean)).before args0 about1 = true := code_word (m := ⟨1, 3⟩) (meth := k1m3) (c := k1c3) (by decide +kernel) rfl rfl rfl (by decide +kernel)
set_option maxRecDepth 65536 in
theorem w_c6 : (Jvm.Cond.code ({ cls := "com/example/nereus/nereus/checker/DecisionPath", name := "decide", desc := "(I)I" } : Jvm.MethodName) prog_5_method_2_code (2 : Nat) (Option.some Jvm.ClassFile.FieldType.int)).before args0 about1 = true := code_word (m := ⟨2, 1⟩) (meth := k2m1) (c := k2c1) (by decide +kernel) rfl rfl rfl (by decide +kernel)
def codes1 : List Jvm.Cond := [Jvm.Cond.code x code maxLocals ret, Jvm.Cond.code ({ cls := "com/example/nereus/nereus/checker/DecisionPath", name := "<init>", desc := "()V" } : Jvm.MethodName) prog_5_method_1_code (1 : Nat) (Option.none : Option Jvm.ClassFile.FieldType), Jvm.Cond.code ({ cls := "java/lang/Object", name := "<init>", desc := "()V" } : Jvm.MethodName) object_method_1_code (1 : Nat) (Option.none : Option Jvm.ClassFile.FieldType), Jvm.Cond.code ({ cls := "com/example/nereus/nereus/checker/DecisionPathAdvancePinLaw", name := "run", desc := "(Lcom/example/nereus/nereus/checker/DecisionPath;[IIIII)V" } : Jvm.MethodName) method_3_code (6 : Nat) (Option.none : Option Jvm.ClassFile.FieldType), Jvm.Cond.code ({ cls := "com/example/nereus/nereus/checker/DecisionPath", name := "advance", desc := "()Z" } : Jvm.MethodName) prog_5_method_4_code (1 : Nat) (Option.some Jvm.ClassFile.FieldType.boolean), Jvm.Cond.code ({ cls := "com/example/nereus/nereus/checker/DecisionPathAdvancePinLaw", name := "matches", desc := "([IIIIIII)Z" } : Jvm.MethodName) method_4_code (11 : Nat) (Option.some Jvm.ClassFile.FieldType.boolean), Jvm.Cond.code ({ cls := "com/example/nereus/nereus/checker/DecisionPath", name := "decide", desc := "(I)I" } : Jvm.MethodName) prog_5_method_2_code (2 : Nat) (Option.some Jvm.ClassFile.FieldType.int)]
set_option maxRecDepth 65536 in
theorem codes_eq : words1.filter isCode = codes1 := rfl
theorem w_codes : ∀ c ∈ words1.filter isCode, c.before args0 about1 = true := by
  rw [codes_eq]
  intro c hc
  simp only [codes1, List.mem_cons, List.not_mem_nil, or_false] at hc
  rcases hc with rfl | rfl | rfl | rfl | rfl | rfl | rfl
  · exact w_c0
  · exact w_c1
  · exact w_c2
  · exact w_c3
  · exact w_c4
  · exact w_c5
  · exact w_c6
set_option maxRecDepth 65536 in
theorem w_t1 : (words1.take 24).all (fun c => isCode c || c.before args0 about1) = true := by decide +kernel
set_option maxRecDepth 65536 in
theorem w_t2 : (words1.drop 24).all (fun c => isCode c || c.before args0 about1) = true := by decide +kernel
theorem w_tables : (allAtoms (Jvm.Cond.code x code maxLocals ret :: tables_1)).before args0 about1 = true := by
  rw [allAtoms_all]
  show words1.all (fun c => c.before args0 about1) = true
  refine all_split ?_ w_codes
  rw [← List.take_append_drop 24 words1, List.all_append, w_t1, w_t2]
  rfl
set_option maxRecDepth 65536 in
theorem w_case : (Jvm.Cond.and given_1 narrow_1).before args0 about1 = true := by decide +kernel
theorem w_applies : (headSpec (Jvm.Cond.code x code maxLocals ret :: tables_1) room_1).applies x e0.platform about1 = true :=
  (Spec.applies_iff w_frames).mpr ⟨w_running, w_runnable, w_alone, w_named, w_hears, w_ripe, w_room, w_tables⟩
theorem atStart : AtStart classFile x code maxLocals ret World_1 tables_1 room_1 Calls_1 rest_1 Pre_1 launch0 p0 e0 about1 theMethod args0 below0 :=
  ⟨lists_1, trivial, launch0.admits_env _ _ _, launch0.least_env, fairChoices_fair.cas, fairChoices_fair.clock, w_frames, w_args, w_heap, w_applies, trivial, trivial, w_case⟩
end start1
theorem witness_1 : WitnessClaimed_1 := ⟨start1.p0, start1.e0, start1.about1, start1.theMethod, start1.args0, start1.below0, start1.atStart⟩
end Jvm.Pilot.@@N@@
