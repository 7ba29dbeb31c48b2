import JvmDerived
import JvmDerived.Pilot.@@N@@Statement
import JvmDerived.Pilot.@@N@@Code
set_option linter.unusedVariables false
set_option linter.unusedSimpArgs false
@@BLOCK:NumsL.lean.txt@@
namespace Jvm.RoadKit
open Sem ClassFile Op Lib Jvm.Stand Jvm.Free Jvm.LawKit
section New
variable {p : Program} {l : Launch} {e : Env} {R : Room} {s : State} {m : MethodId} {args : Array Value} {below : List Frame} {meth : Method} {c : Code} {T : State} {locs : List Loc} {cells slots : Nat}
theorem retI (X : Stand p l e R s m args below meth c T locs cells slots) (hx : p.tables.exec = Jvm.exec) {pc : Nat} {Ls : Array Slot} {z : Int32} {rest : List Value} (hret : meth.sig.returnType = some .int) (hd : decode c.code pc = .ok (.ireturn, 1)) {fs : List Frame}
    (hl : ∀ (f : JFrame) (acts : List Action), f.method = m → f.locked = none → f.entered = [] → (doReturn e (T.setTop f) acts (some (.int z))).1 = T.setFrames fs) : Steps p.tables e below (T.setTop (mkF m pc Ls (.int z :: rest))) (T.setFrames fs) := by
  have hm' : T.vm.method? m = some meth := X.method'
  have hn : narrow .int (.int z) = .int z := rfl
  show Steps p.tables e below (T.setTop { method := m, pc := pc, locals := Ls, stack := _ :: rest, locked := none }) _
  jvm_step X.here [X.here.top, hx, hd, hm', hret, hn]
  first | (intro acts; rw [hl _ acts rfl rfl rfl]) | rw [hl _ _ rfl rfl rfl]
  exact Steps.refl _
end New
end Jvm.RoadKit
namespace Jvm.Pilot.@@N@@
open Jvm Jvm.ClassFile Sem Op Lib Jvm.Free Jvm.Stand Jvm.LawKit Jvm.RoadKit Bundle Jvm.Pilot.@@N@@.Jvm.D
theorem d1_0 : decode method_2_code 0 = .ok (.iload_n 0, 1) := by decide +kernel
theorem d1_1 : decode method_2_code 1 = .ok (.iconst 1, 1) := by decide +kernel
theorem d1_2 : decode method_2_code 2 = .ok (.iand, 1) := by decide +kernel
theorem d1_3 : decode method_2_code 3 = .ok (.ifCond .ne 10, 3) := by decide +kernel
theorem d1_6 : decode method_2_code 6 = .ok (.iload_n 0, 1) := by decide +kernel
theorem d1_7 : decode method_2_code 7 = .ok (.iconst 1, 1) := by decide +kernel
theorem d1_8 : decode method_2_code 8 = .ok (.iushr, 1) := by decide +kernel
theorem d1_9 : decode method_2_code 9 = .ok (.ldc 7, 2) := by decide +kernel
theorem d1_11 : decode method_2_code 11 = .ok (.irem, 1) := by decide +kernel
theorem d1_12 : decode method_2_code 12 = .ok (.ireturn, 1) := by decide +kernel
theorem pn_1 : plainName "com/example/tasks_to_gates/taskstogates/check/CallBudgetTakePinLaw" = true := by first | (simp [plainName, overriddenIn]; done) | decide +kernel
theorem ef_1 (m : MethodId) (x0 : Int32) : entryFrame m #[(.int x0)] 1 = mkF m 0 #[.val (.int x0)] [] := by first | (simp [entryFrame, mkF, argsToLocals, Value.category]; done) | rfl
theorem d1_13 : decode method_2_code 13 = .ok (.iload_n 0, 1) := by decide +kernel
theorem d1_14 : decode method_2_code 14 = .ok (.iconst 1, 1) := by decide +kernel
theorem d1_15 : decode method_2_code 15 = .ok (.iushr, 1) := by decide +kernel
theorem d1_16 : decode method_2_code 16 = .ok (.ireturn, 1) := by decide +kernel
theorem d2_0 : decode prog_12_method_1_code 0 = .ok (.aload_n 0, 1) := by decide +kernel
theorem d2_1 : decode prog_12_method_1_code 1 = .ok (.invokespecial 1, 3) := by decide +kernel
theorem d2_4 : decode prog_12_method_1_code 4 = .ok (.aload_n 0, 1) := by decide +kernel
theorem d2_5 : decode prog_12_method_1_code 5 = .ok (.ldc 9, 2) := by decide +kernel
theorem d2_7 : decode prog_12_method_1_code 7 = .ok (.putfield 10, 3) := by decide +kernel
theorem d2_10 : decode prog_12_method_1_code 10 = .ok (.return_, 1) := by decide +kernel
theorem pn_2 : plainName "com/example/tasks_to_gates/taskstogates/check/CallBudget" = true := by first | (simp [plainName, overriddenIn]; done) | decide +kernel
theorem ef_2 (m : MethodId) (x0 : Addr) : entryFrame m #[(.ref x0)] 1 = mkF m 0 #[.val (.ref x0)] [] := by first | (simp [entryFrame, mkF, argsToLocals, Value.category]; done) | rfl
theorem d4_0 : decode prog_12_method_2_code 0 = .ok (.iload_n 1, 1) := by decide +kernel
theorem d4_1 : decode prog_12_method_2_code 1 = .ok (.aload_n 0, 1) := by decide +kernel
theorem d4_2 : decode prog_12_method_2_code 2 = .ok (.getfield 10, 3) := by decide +kernel
theorem d4_5 : decode prog_12_method_2_code 5 = .ok (.if_icmp .gt 7, 3) := by decide +kernel
theorem d4_8 : decode prog_12_method_2_code 8 = .ok (.iconst 1, 1) := by decide +kernel
theorem d4_9 : decode prog_12_method_2_code 9 = .ok (.goto 4, 3) := by decide +kernel
theorem d4_13 : decode prog_12_method_2_code 13 = .ok (.istore_n 2, 1) := by decide +kernel
theorem d4_14 : decode prog_12_method_2_code 14 = .ok (.iload_n 2, 1) := by decide +kernel
theorem d4_15 : decode prog_12_method_2_code 15 = .ok (.ifCond .eq 16, 3) := by decide +kernel
theorem d4_18 : decode prog_12_method_2_code 18 = .ok (.aload_n 0, 1) := by decide +kernel
theorem d4_19 : decode prog_12_method_2_code 19 = .ok (.dup, 1) := by decide +kernel
theorem d4_20 : decode prog_12_method_2_code 20 = .ok (.getfield 10, 3) := by decide +kernel
theorem d4_23 : decode prog_12_method_2_code 23 = .ok (.iload_n 1, 1) := by decide +kernel
theorem d4_24 : decode prog_12_method_2_code 24 = .ok (.isub, 1) := by decide +kernel
theorem d4_25 : decode prog_12_method_2_code 25 = .ok (.putfield 10, 3) := by decide +kernel
theorem d4_28 : decode prog_12_method_2_code 28 = .ok (.goto 13, 3) := by decide +kernel
theorem d4_41 : decode prog_12_method_2_code 41 = .ok (.iload_n 2, 1) := by decide +kernel
theorem d4_42 : decode prog_12_method_2_code 42 = .ok (.ireturn, 1) := by decide +kernel
theorem pn_4 : plainName "com/example/tasks_to_gates/taskstogates/check/CallBudget" = true := by first | (simp [plainName, overriddenIn]; done) | decide +kernel
theorem ef_4 (m : MethodId) (x0 : Addr) (x1 : Int32) : entryFrame m #[(.ref x0), (.int x1)] 3 = mkF m 0 #[.val (.ref x0), .val (.int x1), .unset] [] := by first | (simp [entryFrame, mkF, argsToLocals, Value.category]; done) | rfl
theorem d4_12 : decode prog_12_method_2_code 12 = .ok (.iconst 0, 1) := by decide +kernel
theorem d4_31 : decode prog_12_method_2_code 31 = .ok (.aload_n 0, 1) := by decide +kernel
theorem d4_32 : decode prog_12_method_2_code 32 = .ok (.iconst 0, 1) := by decide +kernel
theorem d4_33 : decode prog_12_method_2_code 33 = .ok (.putfield 10, 3) := by decide +kernel
theorem d4_36 : decode prog_12_method_2_code 36 = .ok (.aload_n 0, 1) := by decide +kernel
theorem d4_37 : decode prog_12_method_2_code 37 = .ok (.iconst 1, 1) := by decide +kernel
theorem d4_38 : decode prog_12_method_2_code 38 = .ok (.putfield 14, 3) := by decide +kernel
theorem d5_0 : decode prog_12_method_3_code 0 = .ok (.aload_n 0, 1) := by decide +kernel
theorem d5_1 : decode prog_12_method_3_code 1 = .ok (.getfield 14, 3) := by decide +kernel
theorem d5_4 : decode prog_12_method_3_code 4 = .ok (.ireturn, 1) := by decide +kernel
theorem pn_5 : plainName "com/example/tasks_to_gates/taskstogates/check/CallBudget" = true := by first | (simp [plainName, overriddenIn]; done) | decide +kernel
theorem ef_5 (m : MethodId) (x0 : Addr) : entryFrame m #[(.ref x0)] 1 = mkF m 0 #[.val (.ref x0)] [] := by first | (simp [entryFrame, mkF, argsToLocals, Value.category]; done) | rfl
theorem pn_0 : plainName "com/example/tasks_to_gates/taskstogates/check/CallBudgetTakePinLaw" = true := by first | (simp [plainName, overriddenIn]; done) | decide +kernel
theorem pd_0_0 : parseMethodDescriptor "(I)I" = some ⟨[.int], some .int⟩ := by decide +kernel
theorem pd_0_1 : parseMethodDescriptor "()V" = some ⟨[], none⟩ := by decide +kernel
theorem pd_0_2 : parseMethodDescriptor "(I)Z" = some ⟨[.int], some .boolean⟩ := by decide +kernel
theorem pd_0_3 : parseMethodDescriptor "()Z" = some ⟨[], some .boolean⟩ := by decide +kernel
theorem ef_0 (m : MethodId) (x0 : Int32) (x1 : Int32) (x2 : Int32) (x3 : Int32) : entryFrame m #[(.int x0), (.int x1), (.int x2), (.int x3)] maxLocals = mkF m 0 #[.val (.int x0), .val (.int x1), .val (.int x2), .val (.int x3), .unset, .unset, .unset, .unset, .unset, .unset, .unset, .unset, .unset, .unset, .unset, .unset, .unset, .unset, .unset, .unset, .unset, .unset, .unset, .unset, .unset, .unset, .unset, .unset, .unset, .unset, .unset] [] := by first | (simp [entryFrame, mkF, argsToLocals, Value.category, maxLocals]; done) | rfl
/-! what the bodies compute -/
def own_ush (x : Int32) : Int32 := (x.toUInt32 >>> ((1 : Int32) &&& 31).toUInt32).toInt32
def amt (x : Int32) : Int32 := if (x &&& (1 : Int32)) = (0 : Int32) then own_ush x - (own_ush x / (200001 : Int32)) * (200001 : Int32) else own_ush x
def tkR (w p : Int32) : Int32 := if w < p then 0 else 1
def tkL (w p : Int32) : Int32 := if w < p then 0 else w - p
def tkO (w p o : Int32) : Int32 := if w < p then 1 else o
def Q1 (Z : State) (p1 : Int32) (h0 : Heap) (n0 : Nat) (v : Option Value) (h : Heap) (L : List Loc) : Prop := v = some (.int (amt p1)) ∧ Fr n0 L ∧ h = h0
set_option maxRecDepth 65536 in
set_option maxHeartbeats 40000000 in
theorem rm1 (l : Launch) (Z : State) (a0 : Array Value) (hw : ∀ d ∈ tables_1, d.before a0 Z = true) (ws : List Jvm.Cond) (p1 : Int32) (h0 : Heap) (n0 : Nat) (Z0 : n0 ≤ h0.size) :
    MetFree l (⟨"com/example/tasks_to_gates/taskstogates/check/CallBudgetTakePinLaw", "amount", "(I)I"⟩ : MethodName) (head1 (Jvm.Cond.code (⟨"com/example/tasks_to_gates/taskstogates/check/CallBudgetTakePinLaw", "amount", "(I)I"⟩ : MethodName) method_2_code 1 (some .int) :: ws) ({ frames := 0, cells := 0, slots := 0, locals := 0 } : Room)) (fun a U => a = #[(.int p1)] ∧ Z.Warmed39 U.vm ∧ U.heap = h0) (fun _ _ _ _ _ => True) (fun _ U o U' => ∃ v L, o = .returned v ∧ Q1 Z p1 h0 n0 v U'.heap L ∧ FrameEnd U o U' L ({ frames := 0, cells := 0, slots := 0, locals := 0 } : Room).cells ({ frames := 0, cells := 0, slots := 0, locals := 0 } : Room).slots) := by
  refine MetFree.of_bodySF (plainFor_of_name pn_1) hisR ?_
  intro p e s m args below meth c s₁ Bd hml0 hP hK
  obtain ⟨rfl, hZ, hh⟩ := hP
  have hx := Bd.exec
  have hby := Bd.bytes
  have hml : c.maxLocals = 1 := hml0
  have hown : s.vm.findClass "com/example/tasks_to_gates/taskstogates/check/CallBudgetTakePinLaw" = some m.cls := findClass_of_methodNamed Bd.named
  have hnm := (name_of_methodNamed Bd.named Bd.method).1
  have X0 : Stand p l e ({ frames := 0, cells := 0, slots := 0, locals := 0 } : Room) s m #[(.int p1)] below meth c s₁ [] 0 0 := Stand.of_body Bd
  have e0 : s₁.heap = h0 := by rw [← hh, Bd.state]; rfl
  have N0 := Fr.nil n0
  have pre0 : ∀ t, Steps p.tables e below (s₁.setTop (mkF m 0 #[.val (.int p1)] [])) t → Steps p.tables e below (s₁.setTop (entryFrame m #[(.int p1)] 1)) t := fun t k => castTop (ef_1 m p1) k
  have hnz11 : ¬ ((200001 : Int32) = (0 : Int32)) := by decide
  by_cases hc3 : (p1 &&& (1 : Int32)) = (0 : Int32)
  · obtain ⟨fs, hr, hrun, hended, hW, hsame⟩ := X0.leave (v := some (.int (((p1.toUInt32 >>> ((1 : Int32) &&& 31).toUInt32).toInt32) - (((p1.toUInt32 >>> ((1 : Int32) &&& 31).toUInt32).toInt32) / (200001 : Int32)) * (200001 : Int32)))) (fun h => by rw [Bd.returns] at h; cases h)
    refine ⟨_, _, pre0 _ ?_, hrun, hended, _, _, rfl, ?_, ⟨_, rfl⟩, hW, hsame.mono (by decide) (by decide)⟩
    · show Steps p.tables e below (s₁.setTop (mkF m 0 #[.val (.int p1)] [])) _
      refine XS.iloadN X0.here hx rfl (hb hby d1_0) rfl ?_
      show Steps p.tables e below (s₁.setTop (mkF m 1 #[.val (.int p1)] [(.int p1)])) _
      refine XS.iconst X0.here hx rfl (hb hby d1_1) ?_
      show Steps p.tables e below (s₁.setTop (mkF m 2 #[.val (.int p1)] [(.int (1 : Int32)), (.int p1)])) _
      refine XS.iand X0.here hx rfl (hb hby d1_2) rfl ?_
      show Steps p.tables e below (s₁.setTop (mkF m 3 #[.val (.int p1)] [(.int (p1 &&& (1 : Int32)))])) _
      refine XS.ifNo X0.here hx rfl (hb hby d1_3) rfl ((if0 _ _).trans (teq hc3).2) ?_
      show Steps p.tables e below (s₁.setTop (mkF m 6 #[.val (.int p1)] [])) _
      refine XS.iloadN X0.here hx rfl (hb hby d1_6) rfl ?_
      show Steps p.tables e below (s₁.setTop (mkF m 7 #[.val (.int p1)] [(.int p1)])) _
      refine XS.iconst X0.here hx rfl (hb hby d1_7) ?_
      show Steps p.tables e below (s₁.setTop (mkF m 8 #[.val (.int p1)] [(.int (1 : Int32)), (.int p1)])) _
      refine XS.iushr X0.here hx rfl (hb hby d1_8) rfl ?_
      show Steps p.tables e below (s₁.setTop (mkF m 9 #[.val (.int p1)] [(.int ((p1.toUInt32 >>> ((1 : Int32) &&& 31).toUInt32).toInt32))])) _
      refine X0.ldcInt hx hown (mvT hZ (hw _ (List.mem_of_getElem? (i := 4) rfl))) (g := (mkF m 9 #[.val (.int p1)] [(.int ((p1.toUInt32 >>> ((1 : Int32) &&& 31).toUInt32).toInt32))])) rfl (hb hby d1_9) _ ?_
      show Steps p.tables e below (s₁.setTop (mkF m 11 #[.val (.int p1)] [(.int (200001 : Int32)), (.int ((p1.toUInt32 >>> ((1 : Int32) &&& 31).toUInt32).toInt32))])) _
      refine XS.irem X0.here hx rfl (hb hby d1_11) rfl hnz11 ?_
      show Steps p.tables e below (s₁.setTop (mkF m 12 #[.val (.int p1)] [(.int (((p1.toUInt32 >>> ((1 : Int32) &&& 31).toUInt32).toInt32) - (((p1.toUInt32 >>> ((1 : Int32) &&& 31).toUInt32).toInt32) / (200001 : Int32)) * (200001 : Int32)))])) _
      exact retI X0 hx Bd.returns (hb hby d1_12) hr
    · show Q1 Z p1 h0 n0 _ s₁.heap _
      rw [e0]
      exact ⟨by rw [amt, if_pos hc3]; rfl, N0, rfl⟩
  · obtain ⟨fs, hr, hrun, hended, hW, hsame⟩ := X0.leave (v := some (.int ((p1.toUInt32 >>> ((1 : Int32) &&& 31).toUInt32).toInt32))) (fun h => by rw [Bd.returns] at h; cases h)
    refine ⟨_, _, pre0 _ ?_, hrun, hended, _, _, rfl, ?_, ⟨_, rfl⟩, hW, hsame.mono (by decide) (by decide)⟩
    · show Steps p.tables e below (s₁.setTop (mkF m 0 #[.val (.int p1)] [])) _
      refine XS.iloadN X0.here hx rfl (hb hby d1_0) rfl ?_
      show Steps p.tables e below (s₁.setTop (mkF m 1 #[.val (.int p1)] [(.int p1)])) _
      refine XS.iconst X0.here hx rfl (hb hby d1_1) ?_
      show Steps p.tables e below (s₁.setTop (mkF m 2 #[.val (.int p1)] [(.int (1 : Int32)), (.int p1)])) _
      refine XS.iand X0.here hx rfl (hb hby d1_2) rfl ?_
      show Steps p.tables e below (s₁.setTop (mkF m 3 #[.val (.int p1)] [(.int (p1 &&& (1 : Int32)))])) _
      refine XS.ifYes X0.here hx rfl (pc0 := 3) (pc' := 13) rfl (hb hby d1_3) rfl ((if0 _ _).trans (feq hc3).2) (by decide) (by decide) ?_
      show Steps p.tables e below (s₁.setTop (mkF m 13 #[.val (.int p1)] [])) _
      refine XS.iloadN X0.here hx rfl (hb hby d1_13) rfl ?_
      show Steps p.tables e below (s₁.setTop (mkF m 14 #[.val (.int p1)] [(.int p1)])) _
      refine XS.iconst X0.here hx rfl (hb hby d1_14) ?_
      show Steps p.tables e below (s₁.setTop (mkF m 15 #[.val (.int p1)] [(.int (1 : Int32)), (.int p1)])) _
      refine XS.iushr X0.here hx rfl (hb hby d1_15) rfl ?_
      show Steps p.tables e below (s₁.setTop (mkF m 16 #[.val (.int p1)] [(.int ((p1.toUInt32 >>> ((1 : Int32) &&& 31).toUInt32).toInt32))])) _
      exact retI X0 hx Bd.returns (hb hby d1_16) hr
    · show Q1 Z p1 h0 n0 _ s₁.heap _
      rw [e0]
      exact ⟨by rw [amt, if_neg hc3]; rfl, N0, rfl⟩
def Q2 (Z : State) (a1 : Addr) (o : Int32) (h0 : Heap) (n0 : Nat) (v : Option Value) (h : Heap) (L : List Loc) : Prop := v = none ∧ Fr n0 L ∧ Keep h0 h [a1] ∧ Exa Z h a1 "com/example/tasks_to_gates/taskstogates/check/CallBudget" ∧ Fld Z h a1 "com/example/tasks_to_gates/taskstogates/check/CallBudget" "left" "I" (.int (100000 : Int32)) ∧ Fld Z h a1 "com/example/tasks_to_gates/taskstogates/check/CallBudget" "overrun" "Z" (.int o)
set_option maxRecDepth 65536 in
set_option maxHeartbeats 40000000 in
theorem rm2 (l : Launch) (Z : State) (a0 : Array Value) (hw : ∀ d ∈ tables_1, d.before a0 Z = true) (ws : List Jvm.Cond) (a1 : Addr) (o_ : Int32) (u_left_a1 : Value) (h0 : Heap) (n0 : Nat) (Z0 : n0 ≤ h0.size) (E_a1 : Exa Z h0 a1 "com/example/tasks_to_gates/taskstogates/check/CallBudget") (F_left_a1 : Fld Z h0 a1 "com/example/tasks_to_gates/taskstogates/check/CallBudget" "left" "I" u_left_a1) (F_overrun_a1 : Fld Z h0 a1 "com/example/tasks_to_gates/taskstogates/check/CallBudget" "overrun" "Z" (.int o_)) (g_a1 : n0 ≤ a1) :
    MetFree l (⟨"com/example/tasks_to_gates/taskstogates/check/CallBudget", "<init>", "()V"⟩ : MethodName) (head1 (Jvm.Cond.code (⟨"com/example/tasks_to_gates/taskstogates/check/CallBudget", "<init>", "()V"⟩ : MethodName) prog_12_method_1_code 1 none :: ws) ({ frames := 1, cells := 0, slots := 0, locals := 12 } : Room)) (fun a U => a = #[(.ref a1)] ∧ Z.Warmed39 U.vm ∧ U.heap = h0) (fun _ _ _ _ _ => True) (fun _ U o U' => ∃ v L, o = .returned v ∧ Q2 Z a1 o_ h0 n0 v U'.heap L ∧ FrameEnd U o U' L ({ frames := 1, cells := 0, slots := 0, locals := 12 } : Room).cells ({ frames := 1, cells := 0, slots := 0, locals := 12 } : Room).slots) := by
  refine MetFree.of_bodySF (plainFor_of_name pn_2) hisR ?_
  intro p e s m args below meth c s₁ Bd hml0 hP hK
  obtain ⟨rfl, hZ, hh⟩ := hP
  have hx := Bd.exec
  have hby := Bd.bytes
  have hml : c.maxLocals = 1 := hml0
  have hown : s.vm.findClass "com/example/tasks_to_gates/taskstogates/check/CallBudget" = some m.cls := findClass_of_methodNamed Bd.named
  have hnm := (name_of_methodNamed Bd.named Bd.method).1
  have X0 : Stand p l e ({ frames := 1, cells := 0, slots := 0, locals := 12 } : Room) s m #[(.ref a1)] below meth c s₁ [] 0 0 := Stand.of_body Bd
  have e0 : s₁.heap = h0 := by rw [← hh, Bd.state]; rfl
  have N0 := Fr.nil n0
  have pre0 : ∀ t, Steps p.tables e below (s₁.setTop (mkF m 0 #[.val (.ref a1)] [])) t → Steps p.tables e below (s₁.setTop (entryFrame m #[(.ref a1)] 1)) t := fun t k => castTop (ef_2 m a1) k
  obtain ⟨T2, X2, e2, st2⟩ := initO X0 hx hZ hown (hw _ (List.mem_of_getElem? (i := 11) rfl)) (hw _ (List.mem_of_getElem? (i := 12) rfl)) (hw _ (List.mem_of_getElem? (i := 13) rfl)) e0 (g := (mkF m 1 #[.val (.ref a1)] [(.ref a1)])) rfl (by rw [hml]; rfl) rfl (hb hby d2_1) (by decide) (W := 0) (by show 2 * 0 + _ ≤ _; exact Nat.le_of_eq rfl) (by decide)
  obtain ⟨T3, h3, X3, e3, W3, st3⟩ := putF X2 hx hZ hown (host := "") (Or.inl (hw _ (List.mem_of_getElem? (i := 15) rfl))) Via.refl e2 F_left_a1 E_a1 (Or.inl (hw _ (List.mem_of_getElem? (i := 16) rfl))) (hw _ (List.mem_of_getElem? (i := 6) rfl)) (ty := .int) (by decide) rfl rfl (g := (mkF m 7 #[.val (.ref a1)] [(.int (100000 : Int32)), (.ref a1)])) rfl rfl (hb hby d2_7)
  have Fw3 := F_left_a1.same W3      -- the field now holds (.int (100000 : Int32))
  have K3 : Keep h0 h3 [a1] := (Keep.refl h0 [a1]).wr W3 (Or.inl (List.mem_of_getElem? (i := 0) rfl))
  have N3 := Fr.snoc X3 N0 g_a1
  obtain ⟨fs, hr, hrun, hended, hW, hsame⟩ := X3.leave (v := none) (fun _ => rfl)
  refine ⟨_, _, pre0 _ ?_, hrun, hended, _, _, rfl, ?_, ⟨_, rfl⟩, hW, hsame.mono (by decide) (by decide)⟩
  · show Steps p.tables e below (s₁.setTop (mkF m 0 #[.val (.ref a1)] [])) _
    refine XS.aloadN X0.here hx rfl (hb hby d2_0) rfl rfl ?_
    show Steps p.tables e below (s₁.setTop (mkF m 1 #[.val (.ref a1)] [(.ref a1)])) _
    refine st2 _ ?_
    show Steps p.tables e below (T2.setTop (mkF m 4 #[.val (.ref a1)] [])) _
    refine XS.aloadN X2.here hx rfl (hb hby d2_4) rfl rfl ?_
    show Steps p.tables e below (T2.setTop (mkF m 5 #[.val (.ref a1)] [(.ref a1)])) _
    refine X2.ldcInt hx hown (mvT hZ (hw _ (List.mem_of_getElem? (i := 14) rfl))) (g := (mkF m 5 #[.val (.ref a1)] [(.ref a1)])) rfl (hb hby d2_5) _ ?_
    show Steps p.tables e below (T2.setTop (mkF m 7 #[.val (.ref a1)] [(.int (100000 : Int32)), (.ref a1)])) _
    refine st3 _ ?_
    show Steps p.tables e below (T3.setTop (mkF m 10 #[.val (.ref a1)] [])) _
    exact X3.returnOut hx Bd.returns (hb hby d2_10) hr
  · show Q2 Z a1 o_ h0 n0 _ T3.heap _
    rw [e3]
    exact ⟨rfl, N3, K3, (E_a1.wr W3), Fw3, F_overrun_a1.other W3 (Or.inr (slot_ne (Or.inl (hw _ (List.mem_of_getElem? (i := 28) rfl))) (Or.inl (hw _ (List.mem_of_getElem? (i := 16) rfl))) (by decide) (t := .boolean) (t' := .int) (by decide) (by decide)))⟩
def Q4 (Z : State) (a1 : Addr) (p2 w3 o : Int32) (h0 : Heap) (n0 : Nat) (v : Option Value) (h : Heap) (L : List Loc) : Prop := v = some (.int (tkR w3 p2)) ∧ Fr n0 L ∧ Keep h0 h [a1] ∧ Exa Z h a1 "com/example/tasks_to_gates/taskstogates/check/CallBudget" ∧ Fld Z h a1 "com/example/tasks_to_gates/taskstogates/check/CallBudget" "left" "I" (.int (tkL w3 p2)) ∧ Fld Z h a1 "com/example/tasks_to_gates/taskstogates/check/CallBudget" "overrun" "Z" (.int (tkO w3 p2 o))
set_option maxRecDepth 65536 in
set_option maxHeartbeats 40000000 in
theorem rm4 (l : Launch) (Z : State) (a0 : Array Value) (hw : ∀ d ∈ tables_1, d.before a0 Z = true) (ws : List Jvm.Cond) (a1 : Addr) (p2 w3 o_ : Int32) (h0 : Heap) (n0 : Nat) (Z0 : n0 ≤ h0.size) (E_a1 : Exa Z h0 a1 "com/example/tasks_to_gates/taskstogates/check/CallBudget") (F_left_a1 : Fld Z h0 a1 "com/example/tasks_to_gates/taskstogates/check/CallBudget" "left" "I" (.int w3)) (F_overrun_a1 : Fld Z h0 a1 "com/example/tasks_to_gates/taskstogates/check/CallBudget" "overrun" "Z" (.int o_)) (g_a1 : n0 ≤ a1) :
    MetFree l (⟨"com/example/tasks_to_gates/taskstogates/check/CallBudget", "take", "(I)Z"⟩ : MethodName) (head1 (Jvm.Cond.code (⟨"com/example/tasks_to_gates/taskstogates/check/CallBudget", "take", "(I)Z"⟩ : MethodName) prog_12_method_2_code 3 (some .boolean) :: ws) ({ frames := 0, cells := 0, slots := 0, locals := 0 } : Room)) (fun a U => a = #[(.ref a1), (.int p2)] ∧ Z.Warmed39 U.vm ∧ U.heap = h0) (fun _ _ _ _ _ => True) (fun _ U o U' => ∃ v L, o = .returned v ∧ Q4 Z a1 p2 w3 o_ h0 n0 v U'.heap L ∧ FrameEnd U o U' L ({ frames := 0, cells := 0, slots := 0, locals := 0 } : Room).cells ({ frames := 0, cells := 0, slots := 0, locals := 0 } : Room).slots) := by
  refine MetFree.of_bodySF (plainFor_of_name pn_4) hisR ?_
  intro p e s m args below meth c s₁ Bd hml0 hP hK
  obtain ⟨rfl, hZ, hh⟩ := hP
  have hx := Bd.exec
  have hby := Bd.bytes
  have hml : c.maxLocals = 3 := hml0
  have hown : s.vm.findClass "com/example/tasks_to_gates/taskstogates/check/CallBudget" = some m.cls := findClass_of_methodNamed Bd.named
  have hnm := (name_of_methodNamed Bd.named Bd.method).1
  have X0 : Stand p l e ({ frames := 0, cells := 0, slots := 0, locals := 0 } : Room) s m #[(.ref a1), (.int p2)] below meth c s₁ [] 0 0 := Stand.of_body Bd
  have e0 : s₁.heap = h0 := by rw [← hh, Bd.state]; rfl
  have N0 := Fr.nil n0
  have pre0 : ∀ t, Steps p.tables e below (s₁.setTop (mkF m 0 #[.val (.ref a1), .val (.int p2), .unset] [])) t → Steps p.tables e below (s₁.setTop (entryFrame m #[(.ref a1), (.int p2)] 3)) t := fun t k => castTop (ef_4 m a1 p2) k
  have hc15 : ¬ ((1 : Int32) = (0 : Int32)) := by decide
  by_cases hc5 : w3 < p2
  · obtain ⟨T4, X4, e4, st4⟩ := getF X0 hx hZ hown (host := "") (Or.inl (hw _ (List.mem_of_getElem? (i := 15) rfl))) Via.refl e0 F_left_a1 (g := (mkF m 2 #[.val (.ref a1), .val (.int p2), .unset] [(.ref a1), (.int p2)])) rfl rfl (hb hby d4_2)
    obtain ⟨T5, h5, X5, e5, W5, st5⟩ := putF X4 hx hZ hown (host := "") (Or.inl (hw _ (List.mem_of_getElem? (i := 15) rfl))) Via.refl e4 F_left_a1 E_a1 (Or.inl (hw _ (List.mem_of_getElem? (i := 16) rfl))) (hw _ (List.mem_of_getElem? (i := 6) rfl)) (ty := .int) (by decide) rfl rfl (g := (mkF m 33 #[.val (.ref a1), .val (.int p2), .val (.int (0 : Int32))] [(.int (0 : Int32)), (.ref a1)])) rfl rfl (hb hby d4_33)
    have Fw5 := F_left_a1.same W5      -- the field now holds (.int (0 : Int32))
    have K5 : Keep h0 h5 [a1] := (Keep.refl h0 [a1]).wr W5 (Or.inl (List.mem_of_getElem? (i := 0) rfl))
    have N5 := Fr.snoc X5 N0 g_a1
    obtain ⟨T6, h6, X6, e6, W6, st6⟩ := putFN X5 hx hZ hown (hw _ (List.mem_of_getElem? (i := 27) rfl)) Via.refl e5 (F_overrun_a1.other W5 (Or.inr (slot_ne (Or.inl (hw _ (List.mem_of_getElem? (i := 28) rfl))) (Or.inl (hw _ (List.mem_of_getElem? (i := 16) rfl))) (by decide) (t := .boolean) (t' := .int) (by decide) (by decide)))) (E_a1.wr W5) (Or.inl (hw _ (List.mem_of_getElem? (i := 28) rfl))) (hw _ (List.mem_of_getElem? (i := 6) rfl)) (ty := .boolean) (v' := (.int (1 : Int32))) (by decide) rfl (by decide) (g := (mkF m 38 #[.val (.ref a1), .val (.int p2), .val (.int (0 : Int32))] [(.int (1 : Int32)), (.ref a1)])) rfl rfl (hb hby d4_38)
    have Fw6 := (F_overrun_a1.other W5 (Or.inr (slot_ne (Or.inl (hw _ (List.mem_of_getElem? (i := 28) rfl))) (Or.inl (hw _ (List.mem_of_getElem? (i := 16) rfl))) (by decide) (t := .boolean) (t' := .int) (by decide) (by decide)))).same W6      -- the field now holds (.int (1 : Int32))
    have K6 : Keep h0 h6 [a1] := K5.wr W6 (Or.inl (List.mem_of_getElem? (i := 0) rfl))
    have N6 := Fr.snoc X6 N5 g_a1
    obtain ⟨fs, hr, hrun, hended, hW, hsame⟩ := X6.leave (v := some (.int (0 : Int32))) (fun h => by rw [Bd.returns] at h; cases h)
    refine ⟨_, _, pre0 _ ?_, hrun, hended, _, _, rfl, ?_, ⟨_, rfl⟩, hW, hsame.mono (by decide) (by decide)⟩
    · show Steps p.tables e below (s₁.setTop (mkF m 0 #[.val (.ref a1), .val (.int p2), .unset] [])) _
      refine XS.iloadN X0.here hx rfl (hb hby d4_0) rfl ?_
      show Steps p.tables e below (s₁.setTop (mkF m 1 #[.val (.ref a1), .val (.int p2), .unset] [(.int p2)])) _
      refine XS.aloadN X0.here hx rfl (hb hby d4_1) rfl rfl ?_
      show Steps p.tables e below (s₁.setTop (mkF m 2 #[.val (.ref a1), .val (.int p2), .unset] [(.ref a1), (.int p2)])) _
      refine st4 _ ?_
      show Steps p.tables e below (T4.setTop (mkF m 5 #[.val (.ref a1), .val (.int p2), .unset] [(.int w3), (.int p2)])) _
      refine XS.icmpYes X4.here hx rfl (pc0 := 5) (pc' := 12) rfl (hb hby d4_5) rfl (tlt hc5).2.2.1 (by decide) (by decide) ?_
      show Steps p.tables e below (T4.setTop (mkF m 12 #[.val (.ref a1), .val (.int p2), .unset] [])) _
      refine XS.iconst X4.here hx rfl (hb hby d4_12) ?_
      show Steps p.tables e below (T4.setTop (mkF m 13 #[.val (.ref a1), .val (.int p2), .unset] [(.int (0 : Int32))])) _
      refine XS.istoreN X4.here hx rfl (hb hby d4_13) rfl (l' := #[.val (.ref a1), .val (.int p2), .val (.int (0 : Int32))]) rfl ?_
      show Steps p.tables e below (T4.setTop (mkF m 14 #[.val (.ref a1), .val (.int p2), .val (.int (0 : Int32))] [])) _
      refine XS.iloadN X4.here hx rfl (hb hby d4_14) rfl ?_
      show Steps p.tables e below (T4.setTop (mkF m 15 #[.val (.ref a1), .val (.int p2), .val (.int (0 : Int32))] [(.int (0 : Int32))])) _
      refine XS.ifYes X4.here hx rfl (pc0 := 15) (pc' := 31) rfl (hb hby d4_15) rfl ((if0 _ _).trans (teq (rfl : (0 : Int32) = (0 : Int32))).1) (by decide) (by decide) ?_
      show Steps p.tables e below (T4.setTop (mkF m 31 #[.val (.ref a1), .val (.int p2), .val (.int (0 : Int32))] [])) _
      refine XS.aloadN X4.here hx rfl (hb hby d4_31) rfl rfl ?_
      show Steps p.tables e below (T4.setTop (mkF m 32 #[.val (.ref a1), .val (.int p2), .val (.int (0 : Int32))] [(.ref a1)])) _
      refine XS.iconst X4.here hx rfl (hb hby d4_32) ?_
      show Steps p.tables e below (T4.setTop (mkF m 33 #[.val (.ref a1), .val (.int p2), .val (.int (0 : Int32))] [(.int (0 : Int32)), (.ref a1)])) _
      refine st5 _ ?_
      show Steps p.tables e below (T5.setTop (mkF m 36 #[.val (.ref a1), .val (.int p2), .val (.int (0 : Int32))] [])) _
      refine XS.aloadN X5.here hx rfl (hb hby d4_36) rfl rfl ?_
      show Steps p.tables e below (T5.setTop (mkF m 37 #[.val (.ref a1), .val (.int p2), .val (.int (0 : Int32))] [(.ref a1)])) _
      refine XS.iconst X5.here hx rfl (hb hby d4_37) ?_
      show Steps p.tables e below (T5.setTop (mkF m 38 #[.val (.ref a1), .val (.int p2), .val (.int (0 : Int32))] [(.int (1 : Int32)), (.ref a1)])) _
      refine st6 _ ?_
      show Steps p.tables e below (T6.setTop (mkF m 41 #[.val (.ref a1), .val (.int p2), .val (.int (0 : Int32))] [])) _
      refine XS.iloadN X6.here hx rfl (hb hby d4_41) rfl ?_
      show Steps p.tables e below (T6.setTop (mkF m 42 #[.val (.ref a1), .val (.int p2), .val (.int (0 : Int32))] [(.int (0 : Int32))])) _
      exact retN X6 hx (t := .boolean) Bd.returns (by simp) (hb hby d4_42) hr
    · show Q4 Z a1 p2 w3 o_ h0 n0 _ T6.heap _
      rw [e6]
      exact ⟨by rw [tkR, if_pos hc5], N6, K6, ((E_a1.wr W5).wr W6), by rw [tkL, if_pos hc5]; exact (Fw5.other W6 (Or.inr (slot_ne (Or.inl (hw _ (List.mem_of_getElem? (i := 16) rfl))) (Or.inl (hw _ (List.mem_of_getElem? (i := 28) rfl))) (by decide) (t := .int) (t' := .boolean) (by decide) (by decide)))), by rw [tkO, if_pos hc5]; exact Fw6⟩
  · obtain ⟨T4, X4, e4, st4⟩ := getF X0 hx hZ hown (host := "") (Or.inl (hw _ (List.mem_of_getElem? (i := 15) rfl))) Via.refl e0 F_left_a1 (g := (mkF m 2 #[.val (.ref a1), .val (.int p2), .unset] [(.ref a1), (.int p2)])) rfl rfl (hb hby d4_2)
    obtain ⟨T5, X5, e5, st5⟩ := getF X4 hx hZ hown (host := "") (Or.inl (hw _ (List.mem_of_getElem? (i := 15) rfl))) Via.refl e4 F_left_a1 (g := (mkF m 20 #[.val (.ref a1), .val (.int p2), .val (.int (1 : Int32))] [(.ref a1), (.ref a1)])) rfl rfl (hb hby d4_20)
    obtain ⟨T6, h6, X6, e6, W6, st6⟩ := putF X5 hx hZ hown (host := "") (Or.inl (hw _ (List.mem_of_getElem? (i := 15) rfl))) Via.refl e5 F_left_a1 E_a1 (Or.inl (hw _ (List.mem_of_getElem? (i := 16) rfl))) (hw _ (List.mem_of_getElem? (i := 6) rfl)) (ty := .int) (by decide) rfl rfl (g := (mkF m 25 #[.val (.ref a1), .val (.int p2), .val (.int (1 : Int32))] [(.int (w3 - p2)), (.ref a1)])) rfl rfl (hb hby d4_25)
    have Fw6 := F_left_a1.same W6      -- the field now holds (.int (w3 - p2))
    have K6 : Keep h0 h6 [a1] := (Keep.refl h0 [a1]).wr W6 (Or.inl (List.mem_of_getElem? (i := 0) rfl))
    have N6 := Fr.snoc X6 N0 g_a1
    obtain ⟨fs, hr, hrun, hended, hW, hsame⟩ := X6.leave (v := some (.int (1 : Int32))) (fun h => by rw [Bd.returns] at h; cases h)
    refine ⟨_, _, pre0 _ ?_, hrun, hended, _, _, rfl, ?_, ⟨_, rfl⟩, hW, hsame.mono (by decide) (by decide)⟩
    · show Steps p.tables e below (s₁.setTop (mkF m 0 #[.val (.ref a1), .val (.int p2), .unset] [])) _
      refine XS.iloadN X0.here hx rfl (hb hby d4_0) rfl ?_
      show Steps p.tables e below (s₁.setTop (mkF m 1 #[.val (.ref a1), .val (.int p2), .unset] [(.int p2)])) _
      refine XS.aloadN X0.here hx rfl (hb hby d4_1) rfl rfl ?_
      show Steps p.tables e below (s₁.setTop (mkF m 2 #[.val (.ref a1), .val (.int p2), .unset] [(.ref a1), (.int p2)])) _
      refine st4 _ ?_
      show Steps p.tables e below (T4.setTop (mkF m 5 #[.val (.ref a1), .val (.int p2), .unset] [(.int w3), (.int p2)])) _
      refine XS.icmpNo X4.here hx rfl (hb hby d4_5) rfl (flt hc5).2.2.1 ?_
      show Steps p.tables e below (T4.setTop (mkF m 8 #[.val (.ref a1), .val (.int p2), .unset] [])) _
      refine XS.iconst X4.here hx rfl (hb hby d4_8) ?_
      show Steps p.tables e below (T4.setTop (mkF m 9 #[.val (.ref a1), .val (.int p2), .unset] [(.int (1 : Int32))])) _
      refine XS.goto X4.here hx rfl (pc0 := 9) (pc' := 13) rfl (hb hby d4_9) (by decide) (by decide) ?_
      show Steps p.tables e below (T4.setTop (mkF m 13 #[.val (.ref a1), .val (.int p2), .unset] [(.int (1 : Int32))])) _
      refine XS.istoreN X4.here hx rfl (hb hby d4_13) rfl (l' := #[.val (.ref a1), .val (.int p2), .val (.int (1 : Int32))]) rfl ?_
      show Steps p.tables e below (T4.setTop (mkF m 14 #[.val (.ref a1), .val (.int p2), .val (.int (1 : Int32))] [])) _
      refine XS.iloadN X4.here hx rfl (hb hby d4_14) rfl ?_
      show Steps p.tables e below (T4.setTop (mkF m 15 #[.val (.ref a1), .val (.int p2), .val (.int (1 : Int32))] [(.int (1 : Int32))])) _
      refine XS.ifNo X4.here hx rfl (hb hby d4_15) rfl ((if0 _ _).trans (feq hc15).1) ?_
      show Steps p.tables e below (T4.setTop (mkF m 18 #[.val (.ref a1), .val (.int p2), .val (.int (1 : Int32))] [])) _
      refine XS.aloadN X4.here hx rfl (hb hby d4_18) rfl rfl ?_
      show Steps p.tables e below (T4.setTop (mkF m 19 #[.val (.ref a1), .val (.int p2), .val (.int (1 : Int32))] [(.ref a1)])) _
      refine XS.dup X4.here hx rfl (hb hby d4_19) rfl rfl ?_
      show Steps p.tables e below (T4.setTop (mkF m 20 #[.val (.ref a1), .val (.int p2), .val (.int (1 : Int32))] [(.ref a1), (.ref a1)])) _
      refine st5 _ ?_
      show Steps p.tables e below (T5.setTop (mkF m 23 #[.val (.ref a1), .val (.int p2), .val (.int (1 : Int32))] [(.int w3), (.ref a1)])) _
      refine XS.iloadN X5.here hx rfl (hb hby d4_23) rfl ?_
      show Steps p.tables e below (T5.setTop (mkF m 24 #[.val (.ref a1), .val (.int p2), .val (.int (1 : Int32))] [(.int p2), (.int w3), (.ref a1)])) _
      refine XS.isub X5.here hx rfl (hb hby d4_24) rfl ?_
      show Steps p.tables e below (T5.setTop (mkF m 25 #[.val (.ref a1), .val (.int p2), .val (.int (1 : Int32))] [(.int (w3 - p2)), (.ref a1)])) _
      refine st6 _ ?_
      show Steps p.tables e below (T6.setTop (mkF m 28 #[.val (.ref a1), .val (.int p2), .val (.int (1 : Int32))] [])) _
      refine XS.goto X6.here hx rfl (pc0 := 28) (pc' := 41) rfl (hb hby d4_28) (by decide) (by decide) ?_
      show Steps p.tables e below (T6.setTop (mkF m 41 #[.val (.ref a1), .val (.int p2), .val (.int (1 : Int32))] [])) _
      refine XS.iloadN X6.here hx rfl (hb hby d4_41) rfl ?_
      show Steps p.tables e below (T6.setTop (mkF m 42 #[.val (.ref a1), .val (.int p2), .val (.int (1 : Int32))] [(.int (1 : Int32))])) _
      exact retN X6 hx (t := .boolean) Bd.returns (by simp) (hb hby d4_42) hr
    · show Q4 Z a1 p2 w3 o_ h0 n0 _ T6.heap _
      rw [e6]
      exact ⟨by rw [tkR, if_neg hc5], N6, K6, (E_a1.wr W6), by rw [tkL, if_neg hc5]; exact Fw6, by rw [tkO, if_neg hc5]; exact F_overrun_a1.other W6 (Or.inr (slot_ne (Or.inl (hw _ (List.mem_of_getElem? (i := 28) rfl))) (Or.inl (hw _ (List.mem_of_getElem? (i := 16) rfl))) (by decide) (t := .boolean) (t' := .int) (by decide) (by decide)))⟩
def Q5 (Z : State) (a1 : Addr) (w2 : Int32) (h0 : Heap) (n0 : Nat) (v : Option Value) (h : Heap) (L : List Loc) : Prop := v = some (.int (nar .boolean w2)) ∧ Fr n0 L ∧ h = h0
set_option maxRecDepth 65536 in
set_option maxHeartbeats 40000000 in
theorem rm5 (l : Launch) (Z : State) (a0 : Array Value) (hw : ∀ d ∈ tables_1, d.before a0 Z = true) (ws : List Jvm.Cond) (a1 : Addr) (w2 : Int32) (h0 : Heap) (n0 : Nat) (Z0 : n0 ≤ h0.size) (F_overrun_a1 : Fld Z h0 a1 "com/example/tasks_to_gates/taskstogates/check/CallBudget" "overrun" "Z" (.int w2)) :
    MetFree l (⟨"com/example/tasks_to_gates/taskstogates/check/CallBudget", "isOverrun", "()Z"⟩ : MethodName) (head1 (Jvm.Cond.code (⟨"com/example/tasks_to_gates/taskstogates/check/CallBudget", "isOverrun", "()Z"⟩ : MethodName) prog_12_method_3_code 1 (some .boolean) :: ws) ({ frames := 0, cells := 0, slots := 0, locals := 0 } : Room)) (fun a U => a = #[(.ref a1)] ∧ Z.Warmed39 U.vm ∧ U.heap = h0) (fun _ _ _ _ _ => True) (fun _ U o U' => ∃ v L, o = .returned v ∧ Q5 Z a1 w2 h0 n0 v U'.heap L ∧ FrameEnd U o U' L ({ frames := 0, cells := 0, slots := 0, locals := 0 } : Room).cells ({ frames := 0, cells := 0, slots := 0, locals := 0 } : Room).slots) := by
  refine MetFree.of_bodySF (plainFor_of_name pn_5) hisR ?_
  intro p e s m args below meth c s₁ Bd hml0 hP hK
  obtain ⟨rfl, hZ, hh⟩ := hP
  have hx := Bd.exec
  have hby := Bd.bytes
  have hml : c.maxLocals = 1 := hml0
  have hown : s.vm.findClass "com/example/tasks_to_gates/taskstogates/check/CallBudget" = some m.cls := findClass_of_methodNamed Bd.named
  have hnm := (name_of_methodNamed Bd.named Bd.method).1
  have X0 : Stand p l e ({ frames := 0, cells := 0, slots := 0, locals := 0 } : Room) s m #[(.ref a1)] below meth c s₁ [] 0 0 := Stand.of_body Bd
  have e0 : s₁.heap = h0 := by rw [← hh, Bd.state]; rfl
  have N0 := Fr.nil n0
  have pre0 : ∀ t, Steps p.tables e below (s₁.setTop (mkF m 0 #[.val (.ref a1)] [])) t → Steps p.tables e below (s₁.setTop (entryFrame m #[(.ref a1)] 1)) t := fun t k => castTop (ef_5 m a1) k
  obtain ⟨T3, X3, e3, st3⟩ := getF X0 hx hZ hown (host := "") (Or.inl (hw _ (List.mem_of_getElem? (i := 27) rfl))) Via.refl e0 F_overrun_a1 (g := (mkF m 1 #[.val (.ref a1)] [(.ref a1)])) rfl rfl (hb hby d5_1)
  obtain ⟨fs, hr, hrun, hended, hW, hsame⟩ := X3.leave (v := some (.int (nar .boolean w2))) (fun h => by rw [Bd.returns] at h; cases h)
  refine ⟨_, _, pre0 _ ?_, hrun, hended, _, _, rfl, ?_, ⟨_, rfl⟩, hW, hsame.mono (by decide) (by decide)⟩
  · show Steps p.tables e below (s₁.setTop (mkF m 0 #[.val (.ref a1)] [])) _
    refine XS.aloadN X0.here hx rfl (hb hby d5_0) rfl rfl ?_
    show Steps p.tables e below (s₁.setTop (mkF m 1 #[.val (.ref a1)] [(.ref a1)])) _
    refine st3 _ ?_
    show Steps p.tables e below (T3.setTop (mkF m 4 #[.val (.ref a1)] [(.int w2)])) _
    exact retN X3 hx (t := .boolean) Bd.returns (by simp) (hb hby d5_4) hr
  · show Q5 Z a1 w2 h0 n0 _ T3.heap _
    rw [e3]
    exact ⟨rfl, N0, rfl⟩
section Regions
variable {p : Program} {l : Launch} {e : Env} {R : Room} {s : State} {m : MethodId} {args : Array Value} {below : List Frame} {meth : Method} {c : Code} {T : State} {locs : List Loc} {cells slots : Nat}
set_option maxRecDepth 65536 in
set_option maxHeartbeats 4000000 in
theorem g110 (X : Stand p l e R s m args below meth c T locs cells slots) (hx : p.tables.exec = Jvm.exec) (hby : c.code = code) {t : State} {s0 s1 s2 s3 s4 s5 s6 s7 s8 s9 s10 s11 s12 s13 s18 s19 s20 s21 s22 s23 s24 s25 s26 s27 s28 s29 s30 : Slot} {v14 v16 : Int64} {z : Int32} (hz : z = (if (0 : Int32) < (lcmpW v16 v14) then (0 : Int32) else (1 : Int32)))
    (k : Steps p.tables e below (T.setTop (mkF m 123 #[s0, s1, s2, s3, s4, s5, s6, s7, s8, s9, s10, s11, s12, s13, .val (.long v14), .second, .val (.long v16), .second, s18, s19, s20, s21, s22, s23, s24, s25, s26, s27, s28, s29, s30] [(.int z)])) t) : Steps p.tables e below (T.setTop (mkF m 110 #[s0, s1, s2, s3, s4, s5, s6, s7, s8, s9, s10, s11, s12, s13, .val (.long v14), .second, .val (.long v16), .second, s18, s19, s20, s21, s22, s23, s24, s25, s26, s27, s28, s29, s30] [])) t := by
  subst hz
  show Steps p.tables e below (T.setTop (mkF m 110 #[s0, s1, s2, s3, s4, s5, s6, s7, s8, s9, s10, s11, s12, s13, .val (.long v14), .second, .val (.long v16), .second, s18, s19, s20, s21, s22, s23, s24, s25, s26, s27, s28, s29, s30] [])) _
  refine XS.lload X.here hx rfl (hb hby at_110) rfl ?_
  show Steps p.tables e below (T.setTop (mkF m 112 #[s0, s1, s2, s3, s4, s5, s6, s7, s8, s9, s10, s11, s12, s13, .val (.long v14), .second, .val (.long v16), .second, s18, s19, s20, s21, s22, s23, s24, s25, s26, s27, s28, s29, s30] [(.long v16)])) _
  refine XS.lload X.here hx rfl (hb hby at_112) rfl ?_
  show Steps p.tables e below (T.setTop (mkF m 114 #[s0, s1, s2, s3, s4, s5, s6, s7, s8, s9, s10, s11, s12, s13, .val (.long v14), .second, .val (.long v16), .second, s18, s19, s20, s21, s22, s23, s24, s25, s26, s27, s28, s29, s30] [(.long v14), (.long v16)])) _
  refine XS.lcmp X.here hx rfl (hb hby at_114) rfl ?_
  show Steps p.tables e below (T.setTop (mkF m 115 #[s0, s1, s2, s3, s4, s5, s6, s7, s8, s9, s10, s11, s12, s13, .val (.long v14), .second, .val (.long v16), .second, s18, s19, s20, s21, s22, s23, s24, s25, s26, s27, s28, s29, s30] [(.int (lcmpW v16 v14))])) _
  by_cases h115 : (0 : Int32) < (lcmpW v16 v14)
  · rw [if_pos h115] at k
    refine XS.ifYes X.here hx rfl (pc0 := 115) (pc' := 122) rfl (hb hby at_115) rfl ((if0 _ _).trans (tlt h115).2.2.1) (by decide) (by decide) ?_
    show Steps p.tables e below (T.setTop (mkF m 122 #[s0, s1, s2, s3, s4, s5, s6, s7, s8, s9, s10, s11, s12, s13, .val (.long v14), .second, .val (.long v16), .second, s18, s19, s20, s21, s22, s23, s24, s25, s26, s27, s28, s29, s30] [])) _
    refine XS.iconst X.here hx rfl (hb hby at_122) ?_
    exact k
  · rw [if_neg h115] at k
    refine XS.ifNo X.here hx rfl (hb hby at_115) rfl ((if0 _ _).trans (flt h115).2.2.1) ?_
    show Steps p.tables e below (T.setTop (mkF m 118 #[s0, s1, s2, s3, s4, s5, s6, s7, s8, s9, s10, s11, s12, s13, .val (.long v14), .second, .val (.long v16), .second, s18, s19, s20, s21, s22, s23, s24, s25, s26, s27, s28, s29, s30] [])) _
    refine XS.iconst X.here hx rfl (hb hby at_118) ?_
    show Steps p.tables e below (T.setTop (mkF m 119 #[s0, s1, s2, s3, s4, s5, s6, s7, s8, s9, s10, s11, s12, s13, .val (.long v14), .second, .val (.long v16), .second, s18, s19, s20, s21, s22, s23, s24, s25, s26, s27, s28, s29, s30] [(.int (1 : Int32))])) _
    refine XS.goto X.here hx rfl (pc0 := 119) (pc' := 123) rfl (hb hby at_119) (by decide) (by decide) ?_
    exact k
set_option maxRecDepth 65536 in
set_option maxHeartbeats 4000000 in
theorem g125 (X : Stand p l e R s m args below meth c T locs cells slots) (hx : p.tables.exec = Jvm.exec) (hby : c.code = code) {t : State} {s0 s1 s2 s3 s4 s6 s7 s8 s9 s10 s11 s12 s13 s16 s17 s20 s21 s22 s23 s25 s26 s27 s28 s29 s30 : Slot} {v5 v24 : Int32} {v14 v18 : Int64} {z : Int32} (hz : z = (if v24 = (0 : Int32) then (if v5 = (0 : Int32) then (1 : Int32) else (0 : Int32)) else (if (0 : Int32) < (lcmpW v18 v14) then (0 : Int32) else (1 : Int32))))
    (k : Steps p.tables e below (T.setTop (mkF m 156 #[s0, s1, s2, s3, s4, .val (.int v5), s6, s7, s8, s9, s10, s11, s12, s13, .val (.long v14), .second, s16, s17, .val (.long v18), .second, s20, s21, s22, s23, .val (.int v24), s25, s26, s27, s28, s29, s30] [(.int z)])) t) : Steps p.tables e below (T.setTop (mkF m 125 #[s0, s1, s2, s3, s4, .val (.int v5), s6, s7, s8, s9, s10, s11, s12, s13, .val (.long v14), .second, s16, s17, .val (.long v18), .second, s20, s21, s22, s23, .val (.int v24), s25, s26, s27, s28, s29, s30] [])) t := by
  subst hz
  show Steps p.tables e below (T.setTop (mkF m 125 #[s0, s1, s2, s3, s4, .val (.int v5), s6, s7, s8, s9, s10, s11, s12, s13, .val (.long v14), .second, s16, s17, .val (.long v18), .second, s20, s21, s22, s23, .val (.int v24), s25, s26, s27, s28, s29, s30] [])) _
  refine XS.iload X.here hx rfl (hb hby at_125) rfl ?_
  show Steps p.tables e below (T.setTop (mkF m 127 #[s0, s1, s2, s3, s4, .val (.int v5), s6, s7, s8, s9, s10, s11, s12, s13, .val (.long v14), .second, s16, s17, .val (.long v18), .second, s20, s21, s22, s23, .val (.int v24), s25, s26, s27, s28, s29, s30] [(.int v24)])) _
  by_cases h127 : v24 = (0 : Int32)
  · rw [if_pos h127] at k
    refine XS.ifYes X.here hx rfl (pc0 := 127) (pc' := 146) rfl (hb hby at_127) rfl ((if0 _ _).trans (teq h127).1) (by decide) (by decide) ?_
    show Steps p.tables e below (T.setTop (mkF m 146 #[s0, s1, s2, s3, s4, .val (.int v5), s6, s7, s8, s9, s10, s11, s12, s13, .val (.long v14), .second, s16, s17, .val (.long v18), .second, s20, s21, s22, s23, .val (.int v24), s25, s26, s27, s28, s29, s30] [])) _
    refine XS.iload X.here hx rfl (hb hby at_146) rfl ?_
    show Steps p.tables e below (T.setTop (mkF m 148 #[s0, s1, s2, s3, s4, .val (.int v5), s6, s7, s8, s9, s10, s11, s12, s13, .val (.long v14), .second, s16, s17, .val (.long v18), .second, s20, s21, s22, s23, .val (.int v24), s25, s26, s27, s28, s29, s30] [(.int v5)])) _
    by_cases h148 : v5 = (0 : Int32)
    · rw [if_pos h148] at k
      refine XS.ifNo X.here hx rfl (hb hby at_148) rfl ((if0 _ _).trans (teq h148).2) ?_
      show Steps p.tables e below (T.setTop (mkF m 151 #[s0, s1, s2, s3, s4, .val (.int v5), s6, s7, s8, s9, s10, s11, s12, s13, .val (.long v14), .second, s16, s17, .val (.long v18), .second, s20, s21, s22, s23, .val (.int v24), s25, s26, s27, s28, s29, s30] [])) _
      refine XS.iconst X.here hx rfl (hb hby at_151) ?_
      show Steps p.tables e below (T.setTop (mkF m 152 #[s0, s1, s2, s3, s4, .val (.int v5), s6, s7, s8, s9, s10, s11, s12, s13, .val (.long v14), .second, s16, s17, .val (.long v18), .second, s20, s21, s22, s23, .val (.int v24), s25, s26, s27, s28, s29, s30] [(.int (1 : Int32))])) _
      refine XS.goto X.here hx rfl (pc0 := 152) (pc' := 156) rfl (hb hby at_152) (by decide) (by decide) ?_
      exact k
    · rw [if_neg h148] at k
      refine XS.ifYes X.here hx rfl (pc0 := 148) (pc' := 155) rfl (hb hby at_148) rfl ((if0 _ _).trans (feq h148).2) (by decide) (by decide) ?_
      show Steps p.tables e below (T.setTop (mkF m 155 #[s0, s1, s2, s3, s4, .val (.int v5), s6, s7, s8, s9, s10, s11, s12, s13, .val (.long v14), .second, s16, s17, .val (.long v18), .second, s20, s21, s22, s23, .val (.int v24), s25, s26, s27, s28, s29, s30] [])) _
      refine XS.iconst X.here hx rfl (hb hby at_155) ?_
      exact k
  · rw [if_neg h127] at k
    refine XS.ifNo X.here hx rfl (hb hby at_127) rfl ((if0 _ _).trans (feq h127).1) ?_
    show Steps p.tables e below (T.setTop (mkF m 130 #[s0, s1, s2, s3, s4, .val (.int v5), s6, s7, s8, s9, s10, s11, s12, s13, .val (.long v14), .second, s16, s17, .val (.long v18), .second, s20, s21, s22, s23, .val (.int v24), s25, s26, s27, s28, s29, s30] [])) _
    refine XS.lload X.here hx rfl (hb hby at_130) rfl ?_
    show Steps p.tables e below (T.setTop (mkF m 132 #[s0, s1, s2, s3, s4, .val (.int v5), s6, s7, s8, s9, s10, s11, s12, s13, .val (.long v14), .second, s16, s17, .val (.long v18), .second, s20, s21, s22, s23, .val (.int v24), s25, s26, s27, s28, s29, s30] [(.long v18)])) _
    refine XS.lload X.here hx rfl (hb hby at_132) rfl ?_
    show Steps p.tables e below (T.setTop (mkF m 134 #[s0, s1, s2, s3, s4, .val (.int v5), s6, s7, s8, s9, s10, s11, s12, s13, .val (.long v14), .second, s16, s17, .val (.long v18), .second, s20, s21, s22, s23, .val (.int v24), s25, s26, s27, s28, s29, s30] [(.long v14), (.long v18)])) _
    refine XS.lcmp X.here hx rfl (hb hby at_134) rfl ?_
    show Steps p.tables e below (T.setTop (mkF m 135 #[s0, s1, s2, s3, s4, .val (.int v5), s6, s7, s8, s9, s10, s11, s12, s13, .val (.long v14), .second, s16, s17, .val (.long v18), .second, s20, s21, s22, s23, .val (.int v24), s25, s26, s27, s28, s29, s30] [(.int (lcmpW v18 v14))])) _
    by_cases h135 : (0 : Int32) < (lcmpW v18 v14)
    · rw [if_pos h135] at k
      refine XS.ifYes X.here hx rfl (pc0 := 135) (pc' := 142) rfl (hb hby at_135) rfl ((if0 _ _).trans (tlt h135).2.2.1) (by decide) (by decide) ?_
      show Steps p.tables e below (T.setTop (mkF m 142 #[s0, s1, s2, s3, s4, .val (.int v5), s6, s7, s8, s9, s10, s11, s12, s13, .val (.long v14), .second, s16, s17, .val (.long v18), .second, s20, s21, s22, s23, .val (.int v24), s25, s26, s27, s28, s29, s30] [])) _
      refine XS.iconst X.here hx rfl (hb hby at_142) ?_
      show Steps p.tables e below (T.setTop (mkF m 143 #[s0, s1, s2, s3, s4, .val (.int v5), s6, s7, s8, s9, s10, s11, s12, s13, .val (.long v14), .second, s16, s17, .val (.long v18), .second, s20, s21, s22, s23, .val (.int v24), s25, s26, s27, s28, s29, s30] [(.int (0 : Int32))])) _
      refine XS.goto X.here hx rfl (pc0 := 143) (pc' := 156) rfl (hb hby at_143) (by decide) (by decide) ?_
      exact k
    · rw [if_neg h135] at k
      refine XS.ifNo X.here hx rfl (hb hby at_135) rfl ((if0 _ _).trans (flt h135).2.2.1) ?_
      show Steps p.tables e below (T.setTop (mkF m 138 #[s0, s1, s2, s3, s4, .val (.int v5), s6, s7, s8, s9, s10, s11, s12, s13, .val (.long v14), .second, s16, s17, .val (.long v18), .second, s20, s21, s22, s23, .val (.int v24), s25, s26, s27, s28, s29, s30] [])) _
      refine XS.iconst X.here hx rfl (hb hby at_138) ?_
      show Steps p.tables e below (T.setTop (mkF m 139 #[s0, s1, s2, s3, s4, .val (.int v5), s6, s7, s8, s9, s10, s11, s12, s13, .val (.long v14), .second, s16, s17, .val (.long v18), .second, s20, s21, s22, s23, .val (.int v24), s25, s26, s27, s28, s29, s30] [(.int (1 : Int32))])) _
      refine XS.goto X.here hx rfl (pc0 := 139) (pc' := 156) rfl (hb hby at_139) (by decide) (by decide) ?_
      exact k
set_option maxRecDepth 65536 in
set_option maxHeartbeats 4000000 in
theorem g158 (X : Stand p l e R s m args below meth c T locs cells slots) (hx : p.tables.exec = Jvm.exec) (hby : c.code = code) {t : State} {s0 s1 s2 s3 s4 s5 s6 s7 s8 s9 s10 s11 s12 s13 s14 s15 s16 s17 s18 s19 s20 s21 s22 s23 s26 s27 s28 s29 s30 : Slot} {v24 v25 : Int32} {z : Int32} (hz : z = (if v24 = (0 : Int32) then (0 : Int32) else (if v25 = (0 : Int32) then (0 : Int32) else (1 : Int32))))
    (k : Steps p.tables e below (T.setTop (mkF m 173 #[s0, s1, s2, s3, s4, s5, s6, s7, s8, s9, s10, s11, s12, s13, s14, s15, s16, s17, s18, s19, s20, s21, s22, s23, .val (.int v24), .val (.int v25), s26, s27, s28, s29, s30] [(.int z)])) t) : Steps p.tables e below (T.setTop (mkF m 158 #[s0, s1, s2, s3, s4, s5, s6, s7, s8, s9, s10, s11, s12, s13, s14, s15, s16, s17, s18, s19, s20, s21, s22, s23, .val (.int v24), .val (.int v25), s26, s27, s28, s29, s30] [])) t := by
  subst hz
  show Steps p.tables e below (T.setTop (mkF m 158 #[s0, s1, s2, s3, s4, s5, s6, s7, s8, s9, s10, s11, s12, s13, s14, s15, s16, s17, s18, s19, s20, s21, s22, s23, .val (.int v24), .val (.int v25), s26, s27, s28, s29, s30] [])) _
  refine XS.iload X.here hx rfl (hb hby at_158) rfl ?_
  show Steps p.tables e below (T.setTop (mkF m 160 #[s0, s1, s2, s3, s4, s5, s6, s7, s8, s9, s10, s11, s12, s13, s14, s15, s16, s17, s18, s19, s20, s21, s22, s23, .val (.int v24), .val (.int v25), s26, s27, s28, s29, s30] [(.int v24)])) _
  by_cases h160 : v24 = (0 : Int32)
  · rw [if_pos h160] at k
    refine XS.ifYes X.here hx rfl (pc0 := 160) (pc' := 172) rfl (hb hby at_160) rfl ((if0 _ _).trans (teq h160).1) (by decide) (by decide) ?_
    show Steps p.tables e below (T.setTop (mkF m 172 #[s0, s1, s2, s3, s4, s5, s6, s7, s8, s9, s10, s11, s12, s13, s14, s15, s16, s17, s18, s19, s20, s21, s22, s23, .val (.int v24), .val (.int v25), s26, s27, s28, s29, s30] [])) _
    refine XS.iconst X.here hx rfl (hb hby at_172) ?_
    exact k
  · rw [if_neg h160] at k
    refine XS.ifNo X.here hx rfl (hb hby at_160) rfl ((if0 _ _).trans (feq h160).1) ?_
    show Steps p.tables e below (T.setTop (mkF m 163 #[s0, s1, s2, s3, s4, s5, s6, s7, s8, s9, s10, s11, s12, s13, s14, s15, s16, s17, s18, s19, s20, s21, s22, s23, .val (.int v24), .val (.int v25), s26, s27, s28, s29, s30] [])) _
    refine XS.iload X.here hx rfl (hb hby at_163) rfl ?_
    show Steps p.tables e below (T.setTop (mkF m 165 #[s0, s1, s2, s3, s4, s5, s6, s7, s8, s9, s10, s11, s12, s13, s14, s15, s16, s17, s18, s19, s20, s21, s22, s23, .val (.int v24), .val (.int v25), s26, s27, s28, s29, s30] [(.int v25)])) _
    by_cases h165 : v25 = (0 : Int32)
    · rw [if_pos h165] at k
      refine XS.ifYes X.here hx rfl (pc0 := 165) (pc' := 172) rfl (hb hby at_165) rfl ((if0 _ _).trans (teq h165).1) (by decide) (by decide) ?_
      show Steps p.tables e below (T.setTop (mkF m 172 #[s0, s1, s2, s3, s4, s5, s6, s7, s8, s9, s10, s11, s12, s13, s14, s15, s16, s17, s18, s19, s20, s21, s22, s23, .val (.int v24), .val (.int v25), s26, s27, s28, s29, s30] [])) _
      refine XS.iconst X.here hx rfl (hb hby at_172) ?_
      exact k
    · rw [if_neg h165] at k
      refine XS.ifNo X.here hx rfl (hb hby at_165) rfl ((if0 _ _).trans (feq h165).1) ?_
      show Steps p.tables e below (T.setTop (mkF m 168 #[s0, s1, s2, s3, s4, s5, s6, s7, s8, s9, s10, s11, s12, s13, s14, s15, s16, s17, s18, s19, s20, s21, s22, s23, .val (.int v24), .val (.int v25), s26, s27, s28, s29, s30] [])) _
      refine XS.iconst X.here hx rfl (hb hby at_168) ?_
      show Steps p.tables e below (T.setTop (mkF m 169 #[s0, s1, s2, s3, s4, s5, s6, s7, s8, s9, s10, s11, s12, s13, s14, s15, s16, s17, s18, s19, s20, s21, s22, s23, .val (.int v24), .val (.int v25), s26, s27, s28, s29, s30] [(.int (1 : Int32))])) _
      refine XS.goto X.here hx rfl (pc0 := 169) (pc' := 173) rfl (hb hby at_169) (by decide) (by decide) ?_
      exact k
set_option maxRecDepth 65536 in
set_option maxHeartbeats 4000000 in
theorem g175 (X : Stand p l e R s m args below meth c T locs cells slots) (hx : p.tables.exec = Jvm.exec) (hby : c.code = code) {t : State} {s0 s1 s2 s3 s4 s5 s7 s8 s9 s10 s11 s12 s13 s16 s17 s18 s19 s22 s23 s24 s25 s27 s28 s29 s30 : Slot} {v6 v26 : Int32} {v14 v20 : Int64} {z : Int32} (hz : z = (if v26 = (0 : Int32) then (if v6 = (0 : Int32) then (1 : Int32) else (0 : Int32)) else (if (0 : Int32) < (lcmpW v20 v14) then (0 : Int32) else (1 : Int32))))
    (k : Steps p.tables e below (T.setTop (mkF m 206 #[s0, s1, s2, s3, s4, s5, .val (.int v6), s7, s8, s9, s10, s11, s12, s13, .val (.long v14), .second, s16, s17, s18, s19, .val (.long v20), .second, s22, s23, s24, s25, .val (.int v26), s27, s28, s29, s30] [(.int z)])) t) : Steps p.tables e below (T.setTop (mkF m 175 #[s0, s1, s2, s3, s4, s5, .val (.int v6), s7, s8, s9, s10, s11, s12, s13, .val (.long v14), .second, s16, s17, s18, s19, .val (.long v20), .second, s22, s23, s24, s25, .val (.int v26), s27, s28, s29, s30] [])) t := by
  subst hz
  show Steps p.tables e below (T.setTop (mkF m 175 #[s0, s1, s2, s3, s4, s5, .val (.int v6), s7, s8, s9, s10, s11, s12, s13, .val (.long v14), .second, s16, s17, s18, s19, .val (.long v20), .second, s22, s23, s24, s25, .val (.int v26), s27, s28, s29, s30] [])) _
  refine XS.iload X.here hx rfl (hb hby at_175) rfl ?_
  show Steps p.tables e below (T.setTop (mkF m 177 #[s0, s1, s2, s3, s4, s5, .val (.int v6), s7, s8, s9, s10, s11, s12, s13, .val (.long v14), .second, s16, s17, s18, s19, .val (.long v20), .second, s22, s23, s24, s25, .val (.int v26), s27, s28, s29, s30] [(.int v26)])) _
  by_cases h177 : v26 = (0 : Int32)
  · rw [if_pos h177] at k
    refine XS.ifYes X.here hx rfl (pc0 := 177) (pc' := 196) rfl (hb hby at_177) rfl ((if0 _ _).trans (teq h177).1) (by decide) (by decide) ?_
    show Steps p.tables e below (T.setTop (mkF m 196 #[s0, s1, s2, s3, s4, s5, .val (.int v6), s7, s8, s9, s10, s11, s12, s13, .val (.long v14), .second, s16, s17, s18, s19, .val (.long v20), .second, s22, s23, s24, s25, .val (.int v26), s27, s28, s29, s30] [])) _
    refine XS.iload X.here hx rfl (hb hby at_196) rfl ?_
    show Steps p.tables e below (T.setTop (mkF m 198 #[s0, s1, s2, s3, s4, s5, .val (.int v6), s7, s8, s9, s10, s11, s12, s13, .val (.long v14), .second, s16, s17, s18, s19, .val (.long v20), .second, s22, s23, s24, s25, .val (.int v26), s27, s28, s29, s30] [(.int v6)])) _
    by_cases h198 : v6 = (0 : Int32)
    · rw [if_pos h198] at k
      refine XS.ifNo X.here hx rfl (hb hby at_198) rfl ((if0 _ _).trans (teq h198).2) ?_
      show Steps p.tables e below (T.setTop (mkF m 201 #[s0, s1, s2, s3, s4, s5, .val (.int v6), s7, s8, s9, s10, s11, s12, s13, .val (.long v14), .second, s16, s17, s18, s19, .val (.long v20), .second, s22, s23, s24, s25, .val (.int v26), s27, s28, s29, s30] [])) _
      refine XS.iconst X.here hx rfl (hb hby at_201) ?_
      show Steps p.tables e below (T.setTop (mkF m 202 #[s0, s1, s2, s3, s4, s5, .val (.int v6), s7, s8, s9, s10, s11, s12, s13, .val (.long v14), .second, s16, s17, s18, s19, .val (.long v20), .second, s22, s23, s24, s25, .val (.int v26), s27, s28, s29, s30] [(.int (1 : Int32))])) _
      refine XS.goto X.here hx rfl (pc0 := 202) (pc' := 206) rfl (hb hby at_202) (by decide) (by decide) ?_
      exact k
    · rw [if_neg h198] at k
      refine XS.ifYes X.here hx rfl (pc0 := 198) (pc' := 205) rfl (hb hby at_198) rfl ((if0 _ _).trans (feq h198).2) (by decide) (by decide) ?_
      show Steps p.tables e below (T.setTop (mkF m 205 #[s0, s1, s2, s3, s4, s5, .val (.int v6), s7, s8, s9, s10, s11, s12, s13, .val (.long v14), .second, s16, s17, s18, s19, .val (.long v20), .second, s22, s23, s24, s25, .val (.int v26), s27, s28, s29, s30] [])) _
      refine XS.iconst X.here hx rfl (hb hby at_205) ?_
      exact k
  · rw [if_neg h177] at k
    refine XS.ifNo X.here hx rfl (hb hby at_177) rfl ((if0 _ _).trans (feq h177).1) ?_
    show Steps p.tables e below (T.setTop (mkF m 180 #[s0, s1, s2, s3, s4, s5, .val (.int v6), s7, s8, s9, s10, s11, s12, s13, .val (.long v14), .second, s16, s17, s18, s19, .val (.long v20), .second, s22, s23, s24, s25, .val (.int v26), s27, s28, s29, s30] [])) _
    refine XS.lload X.here hx rfl (hb hby at_180) rfl ?_
    show Steps p.tables e below (T.setTop (mkF m 182 #[s0, s1, s2, s3, s4, s5, .val (.int v6), s7, s8, s9, s10, s11, s12, s13, .val (.long v14), .second, s16, s17, s18, s19, .val (.long v20), .second, s22, s23, s24, s25, .val (.int v26), s27, s28, s29, s30] [(.long v20)])) _
    refine XS.lload X.here hx rfl (hb hby at_182) rfl ?_
    show Steps p.tables e below (T.setTop (mkF m 184 #[s0, s1, s2, s3, s4, s5, .val (.int v6), s7, s8, s9, s10, s11, s12, s13, .val (.long v14), .second, s16, s17, s18, s19, .val (.long v20), .second, s22, s23, s24, s25, .val (.int v26), s27, s28, s29, s30] [(.long v14), (.long v20)])) _
    refine XS.lcmp X.here hx rfl (hb hby at_184) rfl ?_
    show Steps p.tables e below (T.setTop (mkF m 185 #[s0, s1, s2, s3, s4, s5, .val (.int v6), s7, s8, s9, s10, s11, s12, s13, .val (.long v14), .second, s16, s17, s18, s19, .val (.long v20), .second, s22, s23, s24, s25, .val (.int v26), s27, s28, s29, s30] [(.int (lcmpW v20 v14))])) _
    by_cases h185 : (0 : Int32) < (lcmpW v20 v14)
    · rw [if_pos h185] at k
      refine XS.ifYes X.here hx rfl (pc0 := 185) (pc' := 192) rfl (hb hby at_185) rfl ((if0 _ _).trans (tlt h185).2.2.1) (by decide) (by decide) ?_
      show Steps p.tables e below (T.setTop (mkF m 192 #[s0, s1, s2, s3, s4, s5, .val (.int v6), s7, s8, s9, s10, s11, s12, s13, .val (.long v14), .second, s16, s17, s18, s19, .val (.long v20), .second, s22, s23, s24, s25, .val (.int v26), s27, s28, s29, s30] [])) _
      refine XS.iconst X.here hx rfl (hb hby at_192) ?_
      show Steps p.tables e below (T.setTop (mkF m 193 #[s0, s1, s2, s3, s4, s5, .val (.int v6), s7, s8, s9, s10, s11, s12, s13, .val (.long v14), .second, s16, s17, s18, s19, .val (.long v20), .second, s22, s23, s24, s25, .val (.int v26), s27, s28, s29, s30] [(.int (0 : Int32))])) _
      refine XS.goto X.here hx rfl (pc0 := 193) (pc' := 206) rfl (hb hby at_193) (by decide) (by decide) ?_
      exact k
    · rw [if_neg h185] at k
      refine XS.ifNo X.here hx rfl (hb hby at_185) rfl ((if0 _ _).trans (flt h185).2.2.1) ?_
      show Steps p.tables e below (T.setTop (mkF m 188 #[s0, s1, s2, s3, s4, s5, .val (.int v6), s7, s8, s9, s10, s11, s12, s13, .val (.long v14), .second, s16, s17, s18, s19, .val (.long v20), .second, s22, s23, s24, s25, .val (.int v26), s27, s28, s29, s30] [])) _
      refine XS.iconst X.here hx rfl (hb hby at_188) ?_
      show Steps p.tables e below (T.setTop (mkF m 189 #[s0, s1, s2, s3, s4, s5, .val (.int v6), s7, s8, s9, s10, s11, s12, s13, .val (.long v14), .second, s16, s17, s18, s19, .val (.long v20), .second, s22, s23, s24, s25, .val (.int v26), s27, s28, s29, s30] [(.int (1 : Int32))])) _
      refine XS.goto X.here hx rfl (pc0 := 189) (pc' := 206) rfl (hb hby at_189) (by decide) (by decide) ?_
      exact k
set_option maxRecDepth 65536 in
set_option maxHeartbeats 4000000 in
theorem g208 (X : Stand p l e R s m args below meth c T locs cells slots) (hx : p.tables.exec = Jvm.exec) (hby : c.code = code) {t : State} {s0 s1 s2 s3 s4 s5 s6 s7 s8 s9 s10 s11 s12 s13 s14 s15 s16 s17 s18 s19 s20 s21 s22 s23 s24 s25 s28 s29 s30 : Slot} {v26 v27 : Int32} {z : Int32} (hz : z = (if v26 = (0 : Int32) then (0 : Int32) else (if v27 = (0 : Int32) then (0 : Int32) else (1 : Int32))))
    (k : Steps p.tables e below (T.setTop (mkF m 223 #[s0, s1, s2, s3, s4, s5, s6, s7, s8, s9, s10, s11, s12, s13, s14, s15, s16, s17, s18, s19, s20, s21, s22, s23, s24, s25, .val (.int v26), .val (.int v27), s28, s29, s30] [(.int z)])) t) : Steps p.tables e below (T.setTop (mkF m 208 #[s0, s1, s2, s3, s4, s5, s6, s7, s8, s9, s10, s11, s12, s13, s14, s15, s16, s17, s18, s19, s20, s21, s22, s23, s24, s25, .val (.int v26), .val (.int v27), s28, s29, s30] [])) t := by
  subst hz
  show Steps p.tables e below (T.setTop (mkF m 208 #[s0, s1, s2, s3, s4, s5, s6, s7, s8, s9, s10, s11, s12, s13, s14, s15, s16, s17, s18, s19, s20, s21, s22, s23, s24, s25, .val (.int v26), .val (.int v27), s28, s29, s30] [])) _
  refine XS.iload X.here hx rfl (hb hby at_208) rfl ?_
  show Steps p.tables e below (T.setTop (mkF m 210 #[s0, s1, s2, s3, s4, s5, s6, s7, s8, s9, s10, s11, s12, s13, s14, s15, s16, s17, s18, s19, s20, s21, s22, s23, s24, s25, .val (.int v26), .val (.int v27), s28, s29, s30] [(.int v26)])) _
  by_cases h210 : v26 = (0 : Int32)
  · rw [if_pos h210] at k
    refine XS.ifYes X.here hx rfl (pc0 := 210) (pc' := 222) rfl (hb hby at_210) rfl ((if0 _ _).trans (teq h210).1) (by decide) (by decide) ?_
    show Steps p.tables e below (T.setTop (mkF m 222 #[s0, s1, s2, s3, s4, s5, s6, s7, s8, s9, s10, s11, s12, s13, s14, s15, s16, s17, s18, s19, s20, s21, s22, s23, s24, s25, .val (.int v26), .val (.int v27), s28, s29, s30] [])) _
    refine XS.iconst X.here hx rfl (hb hby at_222) ?_
    exact k
  · rw [if_neg h210] at k
    refine XS.ifNo X.here hx rfl (hb hby at_210) rfl ((if0 _ _).trans (feq h210).1) ?_
    show Steps p.tables e below (T.setTop (mkF m 213 #[s0, s1, s2, s3, s4, s5, s6, s7, s8, s9, s10, s11, s12, s13, s14, s15, s16, s17, s18, s19, s20, s21, s22, s23, s24, s25, .val (.int v26), .val (.int v27), s28, s29, s30] [])) _
    refine XS.iload X.here hx rfl (hb hby at_213) rfl ?_
    show Steps p.tables e below (T.setTop (mkF m 215 #[s0, s1, s2, s3, s4, s5, s6, s7, s8, s9, s10, s11, s12, s13, s14, s15, s16, s17, s18, s19, s20, s21, s22, s23, s24, s25, .val (.int v26), .val (.int v27), s28, s29, s30] [(.int v27)])) _
    by_cases h215 : v27 = (0 : Int32)
    · rw [if_pos h215] at k
      refine XS.ifYes X.here hx rfl (pc0 := 215) (pc' := 222) rfl (hb hby at_215) rfl ((if0 _ _).trans (teq h215).1) (by decide) (by decide) ?_
      show Steps p.tables e below (T.setTop (mkF m 222 #[s0, s1, s2, s3, s4, s5, s6, s7, s8, s9, s10, s11, s12, s13, s14, s15, s16, s17, s18, s19, s20, s21, s22, s23, s24, s25, .val (.int v26), .val (.int v27), s28, s29, s30] [])) _
      refine XS.iconst X.here hx rfl (hb hby at_222) ?_
      exact k
    · rw [if_neg h215] at k
      refine XS.ifNo X.here hx rfl (hb hby at_215) rfl ((if0 _ _).trans (feq h215).1) ?_
      show Steps p.tables e below (T.setTop (mkF m 218 #[s0, s1, s2, s3, s4, s5, s6, s7, s8, s9, s10, s11, s12, s13, s14, s15, s16, s17, s18, s19, s20, s21, s22, s23, s24, s25, .val (.int v26), .val (.int v27), s28, s29, s30] [])) _
      refine XS.iconst X.here hx rfl (hb hby at_218) ?_
      show Steps p.tables e below (T.setTop (mkF m 219 #[s0, s1, s2, s3, s4, s5, s6, s7, s8, s9, s10, s11, s12, s13, s14, s15, s16, s17, s18, s19, s20, s21, s22, s23, s24, s25, .val (.int v26), .val (.int v27), s28, s29, s30] [(.int (1 : Int32))])) _
      refine XS.goto X.here hx rfl (pc0 := 219) (pc' := 223) rfl (hb hby at_219) (by decide) (by decide) ?_
      exact k
set_option maxRecDepth 65536 in
set_option maxHeartbeats 4000000 in
theorem g225 (X : Stand p l e R s m args below meth c T locs cells slots) (hx : p.tables.exec = Jvm.exec) (hby : c.code = code) {t : State} {s0 s1 s2 s3 s4 s5 s6 s8 s9 s10 s11 s12 s13 s16 s17 s18 s19 s20 s21 s24 s25 s26 s27 s29 s30 : Slot} {v7 v28 : Int32} {v14 v22 : Int64} {z : Int32} (hz : z = (if v28 = (0 : Int32) then (if v7 = (0 : Int32) then (1 : Int32) else (0 : Int32)) else (if (0 : Int32) < (lcmpW v22 v14) then (0 : Int32) else (1 : Int32))))
    (k : Steps p.tables e below (T.setTop (mkF m 256 #[s0, s1, s2, s3, s4, s5, s6, .val (.int v7), s8, s9, s10, s11, s12, s13, .val (.long v14), .second, s16, s17, s18, s19, s20, s21, .val (.long v22), .second, s24, s25, s26, s27, .val (.int v28), s29, s30] [(.int z)])) t) : Steps p.tables e below (T.setTop (mkF m 225 #[s0, s1, s2, s3, s4, s5, s6, .val (.int v7), s8, s9, s10, s11, s12, s13, .val (.long v14), .second, s16, s17, s18, s19, s20, s21, .val (.long v22), .second, s24, s25, s26, s27, .val (.int v28), s29, s30] [])) t := by
  subst hz
  show Steps p.tables e below (T.setTop (mkF m 225 #[s0, s1, s2, s3, s4, s5, s6, .val (.int v7), s8, s9, s10, s11, s12, s13, .val (.long v14), .second, s16, s17, s18, s19, s20, s21, .val (.long v22), .second, s24, s25, s26, s27, .val (.int v28), s29, s30] [])) _
  refine XS.iload X.here hx rfl (hb hby at_225) rfl ?_
  show Steps p.tables e below (T.setTop (mkF m 227 #[s0, s1, s2, s3, s4, s5, s6, .val (.int v7), s8, s9, s10, s11, s12, s13, .val (.long v14), .second, s16, s17, s18, s19, s20, s21, .val (.long v22), .second, s24, s25, s26, s27, .val (.int v28), s29, s30] [(.int v28)])) _
  by_cases h227 : v28 = (0 : Int32)
  · rw [if_pos h227] at k
    refine XS.ifYes X.here hx rfl (pc0 := 227) (pc' := 246) rfl (hb hby at_227) rfl ((if0 _ _).trans (teq h227).1) (by decide) (by decide) ?_
    show Steps p.tables e below (T.setTop (mkF m 246 #[s0, s1, s2, s3, s4, s5, s6, .val (.int v7), s8, s9, s10, s11, s12, s13, .val (.long v14), .second, s16, s17, s18, s19, s20, s21, .val (.long v22), .second, s24, s25, s26, s27, .val (.int v28), s29, s30] [])) _
    refine XS.iload X.here hx rfl (hb hby at_246) rfl ?_
    show Steps p.tables e below (T.setTop (mkF m 248 #[s0, s1, s2, s3, s4, s5, s6, .val (.int v7), s8, s9, s10, s11, s12, s13, .val (.long v14), .second, s16, s17, s18, s19, s20, s21, .val (.long v22), .second, s24, s25, s26, s27, .val (.int v28), s29, s30] [(.int v7)])) _
    by_cases h248 : v7 = (0 : Int32)
    · rw [if_pos h248] at k
      refine XS.ifNo X.here hx rfl (hb hby at_248) rfl ((if0 _ _).trans (teq h248).2) ?_
      show Steps p.tables e below (T.setTop (mkF m 251 #[s0, s1, s2, s3, s4, s5, s6, .val (.int v7), s8, s9, s10, s11, s12, s13, .val (.long v14), .second, s16, s17, s18, s19, s20, s21, .val (.long v22), .second, s24, s25, s26, s27, .val (.int v28), s29, s30] [])) _
      refine XS.iconst X.here hx rfl (hb hby at_251) ?_
      show Steps p.tables e below (T.setTop (mkF m 252 #[s0, s1, s2, s3, s4, s5, s6, .val (.int v7), s8, s9, s10, s11, s12, s13, .val (.long v14), .second, s16, s17, s18, s19, s20, s21, .val (.long v22), .second, s24, s25, s26, s27, .val (.int v28), s29, s30] [(.int (1 : Int32))])) _
      refine XS.goto X.here hx rfl (pc0 := 252) (pc' := 256) rfl (hb hby at_252) (by decide) (by decide) ?_
      exact k
    · rw [if_neg h248] at k
      refine XS.ifYes X.here hx rfl (pc0 := 248) (pc' := 255) rfl (hb hby at_248) rfl ((if0 _ _).trans (feq h248).2) (by decide) (by decide) ?_
      show Steps p.tables e below (T.setTop (mkF m 255 #[s0, s1, s2, s3, s4, s5, s6, .val (.int v7), s8, s9, s10, s11, s12, s13, .val (.long v14), .second, s16, s17, s18, s19, s20, s21, .val (.long v22), .second, s24, s25, s26, s27, .val (.int v28), s29, s30] [])) _
      refine XS.iconst X.here hx rfl (hb hby at_255) ?_
      exact k
  · rw [if_neg h227] at k
    refine XS.ifNo X.here hx rfl (hb hby at_227) rfl ((if0 _ _).trans (feq h227).1) ?_
    show Steps p.tables e below (T.setTop (mkF m 230 #[s0, s1, s2, s3, s4, s5, s6, .val (.int v7), s8, s9, s10, s11, s12, s13, .val (.long v14), .second, s16, s17, s18, s19, s20, s21, .val (.long v22), .second, s24, s25, s26, s27, .val (.int v28), s29, s30] [])) _
    refine XS.lload X.here hx rfl (hb hby at_230) rfl ?_
    show Steps p.tables e below (T.setTop (mkF m 232 #[s0, s1, s2, s3, s4, s5, s6, .val (.int v7), s8, s9, s10, s11, s12, s13, .val (.long v14), .second, s16, s17, s18, s19, s20, s21, .val (.long v22), .second, s24, s25, s26, s27, .val (.int v28), s29, s30] [(.long v22)])) _
    refine XS.lload X.here hx rfl (hb hby at_232) rfl ?_
    show Steps p.tables e below (T.setTop (mkF m 234 #[s0, s1, s2, s3, s4, s5, s6, .val (.int v7), s8, s9, s10, s11, s12, s13, .val (.long v14), .second, s16, s17, s18, s19, s20, s21, .val (.long v22), .second, s24, s25, s26, s27, .val (.int v28), s29, s30] [(.long v14), (.long v22)])) _
    refine XS.lcmp X.here hx rfl (hb hby at_234) rfl ?_
    show Steps p.tables e below (T.setTop (mkF m 235 #[s0, s1, s2, s3, s4, s5, s6, .val (.int v7), s8, s9, s10, s11, s12, s13, .val (.long v14), .second, s16, s17, s18, s19, s20, s21, .val (.long v22), .second, s24, s25, s26, s27, .val (.int v28), s29, s30] [(.int (lcmpW v22 v14))])) _
    by_cases h235 : (0 : Int32) < (lcmpW v22 v14)
    · rw [if_pos h235] at k
      refine XS.ifYes X.here hx rfl (pc0 := 235) (pc' := 242) rfl (hb hby at_235) rfl ((if0 _ _).trans (tlt h235).2.2.1) (by decide) (by decide) ?_
      show Steps p.tables e below (T.setTop (mkF m 242 #[s0, s1, s2, s3, s4, s5, s6, .val (.int v7), s8, s9, s10, s11, s12, s13, .val (.long v14), .second, s16, s17, s18, s19, s20, s21, .val (.long v22), .second, s24, s25, s26, s27, .val (.int v28), s29, s30] [])) _
      refine XS.iconst X.here hx rfl (hb hby at_242) ?_
      show Steps p.tables e below (T.setTop (mkF m 243 #[s0, s1, s2, s3, s4, s5, s6, .val (.int v7), s8, s9, s10, s11, s12, s13, .val (.long v14), .second, s16, s17, s18, s19, s20, s21, .val (.long v22), .second, s24, s25, s26, s27, .val (.int v28), s29, s30] [(.int (0 : Int32))])) _
      refine XS.goto X.here hx rfl (pc0 := 243) (pc' := 256) rfl (hb hby at_243) (by decide) (by decide) ?_
      exact k
    · rw [if_neg h235] at k
      refine XS.ifNo X.here hx rfl (hb hby at_235) rfl ((if0 _ _).trans (flt h235).2.2.1) ?_
      show Steps p.tables e below (T.setTop (mkF m 238 #[s0, s1, s2, s3, s4, s5, s6, .val (.int v7), s8, s9, s10, s11, s12, s13, .val (.long v14), .second, s16, s17, s18, s19, s20, s21, .val (.long v22), .second, s24, s25, s26, s27, .val (.int v28), s29, s30] [])) _
      refine XS.iconst X.here hx rfl (hb hby at_238) ?_
      show Steps p.tables e below (T.setTop (mkF m 239 #[s0, s1, s2, s3, s4, s5, s6, .val (.int v7), s8, s9, s10, s11, s12, s13, .val (.long v14), .second, s16, s17, s18, s19, s20, s21, .val (.long v22), .second, s24, s25, s26, s27, .val (.int v28), s29, s30] [(.int (1 : Int32))])) _
      refine XS.goto X.here hx rfl (pc0 := 239) (pc' := 256) rfl (hb hby at_239) (by decide) (by decide) ?_
      exact k
set_option maxRecDepth 65536 in
set_option maxHeartbeats 4000000 in
theorem g258 (X : Stand p l e R s m args below meth c T locs cells slots) (hx : p.tables.exec = Jvm.exec) (hby : c.code = code) {t : State} {s0 s1 s2 s3 s4 s5 s6 s7 s8 s9 s10 s11 s12 s13 s14 s15 s16 s17 s18 s19 s20 s21 s22 s23 s24 s25 s26 s27 s30 : Slot} {v28 v29 : Int32} {z : Int32} (hz : z = (if v28 = (0 : Int32) then (0 : Int32) else (if v29 = (0 : Int32) then (0 : Int32) else (1 : Int32))))
    (k : Steps p.tables e below (T.setTop (mkF m 273 #[s0, s1, s2, s3, s4, s5, s6, s7, s8, s9, s10, s11, s12, s13, s14, s15, s16, s17, s18, s19, s20, s21, s22, s23, s24, s25, s26, s27, .val (.int v28), .val (.int v29), s30] [(.int z)])) t) : Steps p.tables e below (T.setTop (mkF m 258 #[s0, s1, s2, s3, s4, s5, s6, s7, s8, s9, s10, s11, s12, s13, s14, s15, s16, s17, s18, s19, s20, s21, s22, s23, s24, s25, s26, s27, .val (.int v28), .val (.int v29), s30] [])) t := by
  subst hz
  show Steps p.tables e below (T.setTop (mkF m 258 #[s0, s1, s2, s3, s4, s5, s6, s7, s8, s9, s10, s11, s12, s13, s14, s15, s16, s17, s18, s19, s20, s21, s22, s23, s24, s25, s26, s27, .val (.int v28), .val (.int v29), s30] [])) _
  refine XS.iload X.here hx rfl (hb hby at_258) rfl ?_
  show Steps p.tables e below (T.setTop (mkF m 260 #[s0, s1, s2, s3, s4, s5, s6, s7, s8, s9, s10, s11, s12, s13, s14, s15, s16, s17, s18, s19, s20, s21, s22, s23, s24, s25, s26, s27, .val (.int v28), .val (.int v29), s30] [(.int v28)])) _
  by_cases h260 : v28 = (0 : Int32)
  · rw [if_pos h260] at k
    refine XS.ifYes X.here hx rfl (pc0 := 260) (pc' := 272) rfl (hb hby at_260) rfl ((if0 _ _).trans (teq h260).1) (by decide) (by decide) ?_
    show Steps p.tables e below (T.setTop (mkF m 272 #[s0, s1, s2, s3, s4, s5, s6, s7, s8, s9, s10, s11, s12, s13, s14, s15, s16, s17, s18, s19, s20, s21, s22, s23, s24, s25, s26, s27, .val (.int v28), .val (.int v29), s30] [])) _
    refine XS.iconst X.here hx rfl (hb hby at_272) ?_
    exact k
  · rw [if_neg h260] at k
    refine XS.ifNo X.here hx rfl (hb hby at_260) rfl ((if0 _ _).trans (feq h260).1) ?_
    show Steps p.tables e below (T.setTop (mkF m 263 #[s0, s1, s2, s3, s4, s5, s6, s7, s8, s9, s10, s11, s12, s13, s14, s15, s16, s17, s18, s19, s20, s21, s22, s23, s24, s25, s26, s27, .val (.int v28), .val (.int v29), s30] [])) _
    refine XS.iload X.here hx rfl (hb hby at_263) rfl ?_
    show Steps p.tables e below (T.setTop (mkF m 265 #[s0, s1, s2, s3, s4, s5, s6, s7, s8, s9, s10, s11, s12, s13, s14, s15, s16, s17, s18, s19, s20, s21, s22, s23, s24, s25, s26, s27, .val (.int v28), .val (.int v29), s30] [(.int v29)])) _
    by_cases h265 : v29 = (0 : Int32)
    · rw [if_pos h265] at k
      refine XS.ifYes X.here hx rfl (pc0 := 265) (pc' := 272) rfl (hb hby at_265) rfl ((if0 _ _).trans (teq h265).1) (by decide) (by decide) ?_
      show Steps p.tables e below (T.setTop (mkF m 272 #[s0, s1, s2, s3, s4, s5, s6, s7, s8, s9, s10, s11, s12, s13, s14, s15, s16, s17, s18, s19, s20, s21, s22, s23, s24, s25, s26, s27, .val (.int v28), .val (.int v29), s30] [])) _
      refine XS.iconst X.here hx rfl (hb hby at_272) ?_
      exact k
    · rw [if_neg h265] at k
      refine XS.ifNo X.here hx rfl (hb hby at_265) rfl ((if0 _ _).trans (feq h265).1) ?_
      show Steps p.tables e below (T.setTop (mkF m 268 #[s0, s1, s2, s3, s4, s5, s6, s7, s8, s9, s10, s11, s12, s13, s14, s15, s16, s17, s18, s19, s20, s21, s22, s23, s24, s25, s26, s27, .val (.int v28), .val (.int v29), s30] [])) _
      refine XS.iconst X.here hx rfl (hb hby at_268) ?_
      show Steps p.tables e below (T.setTop (mkF m 269 #[s0, s1, s2, s3, s4, s5, s6, s7, s8, s9, s10, s11, s12, s13, s14, s15, s16, s17, s18, s19, s20, s21, s22, s23, s24, s25, s26, s27, .val (.int v28), .val (.int v29), s30] [(.int (1 : Int32))])) _
      refine XS.goto X.here hx rfl (pc0 := 269) (pc' := 273) rfl (hb hby at_269) (by decide) (by decide) ?_
      exact k
set_option maxRecDepth 65536 in
set_option maxHeartbeats 4000000 in
theorem g305 (X : Stand p l e R s m args below meth c T locs cells slots) (hx : p.tables.exec = Jvm.exec) (hby : c.code = code) {t : State} {s0 s1 s2 s3 s4 s5 s6 s7 s8 s9 s10 s11 s12 s13 s14 s15 s16 s17 s18 s19 s20 s21 s22 s23 s24 s25 s26 s27 s28 s29 : Slot} {v30 : Int32} {o : Int32} {z : Int32} (hz : z = (if v30 = (0 : Int32) then (1 : Int32) else (0 : Int32)))
    (k : Steps p.tables e below (T.setTop (mkF m 315 #[s0, s1, s2, s3, s4, s5, s6, s7, s8, s9, s10, s11, s12, s13, s14, s15, s16, s17, s18, s19, s20, s21, s22, s23, s24, s25, s26, s27, s28, s29, .val (.int v30)] [(.int z), (.int o)])) t) : Steps p.tables e below (T.setTop (mkF m 305 #[s0, s1, s2, s3, s4, s5, s6, s7, s8, s9, s10, s11, s12, s13, s14, s15, s16, s17, s18, s19, s20, s21, s22, s23, s24, s25, s26, s27, s28, s29, .val (.int v30)] [(.int o)])) t := by
  subst hz
  show Steps p.tables e below (T.setTop (mkF m 305 #[s0, s1, s2, s3, s4, s5, s6, s7, s8, s9, s10, s11, s12, s13, s14, s15, s16, s17, s18, s19, s20, s21, s22, s23, s24, s25, s26, s27, s28, s29, .val (.int v30)] [(.int o)])) _
  refine XS.iload X.here hx rfl (hb hby at_305) rfl ?_
  show Steps p.tables e below (T.setTop (mkF m 307 #[s0, s1, s2, s3, s4, s5, s6, s7, s8, s9, s10, s11, s12, s13, s14, s15, s16, s17, s18, s19, s20, s21, s22, s23, s24, s25, s26, s27, s28, s29, .val (.int v30)] [(.int v30), (.int o)])) _
  by_cases h307 : v30 = (0 : Int32)
  · rw [if_pos h307] at k
    refine XS.ifNo X.here hx rfl (hb hby at_307) rfl ((if0 _ _).trans (teq h307).2) ?_
    show Steps p.tables e below (T.setTop (mkF m 310 #[s0, s1, s2, s3, s4, s5, s6, s7, s8, s9, s10, s11, s12, s13, s14, s15, s16, s17, s18, s19, s20, s21, s22, s23, s24, s25, s26, s27, s28, s29, .val (.int v30)] [(.int o)])) _
    refine XS.iconst X.here hx rfl (hb hby at_310) ?_
    show Steps p.tables e below (T.setTop (mkF m 311 #[s0, s1, s2, s3, s4, s5, s6, s7, s8, s9, s10, s11, s12, s13, s14, s15, s16, s17, s18, s19, s20, s21, s22, s23, s24, s25, s26, s27, s28, s29, .val (.int v30)] [(.int (1 : Int32)), (.int o)])) _
    refine XS.goto X.here hx rfl (pc0 := 311) (pc' := 315) rfl (hb hby at_311) (by decide) (by decide) ?_
    exact k
  · rw [if_neg h307] at k
    refine XS.ifYes X.here hx rfl (pc0 := 307) (pc' := 314) rfl (hb hby at_307) rfl ((if0 _ _).trans (feq h307).2) (by decide) (by decide) ?_
    show Steps p.tables e below (T.setTop (mkF m 314 #[s0, s1, s2, s3, s4, s5, s6, s7, s8, s9, s10, s11, s12, s13, s14, s15, s16, s17, s18, s19, s20, s21, s22, s23, s24, s25, s26, s27, s28, s29, .val (.int v30)] [(.int o)])) _
    refine XS.iconst X.here hx rfl (hb hby at_314) ?_
    exact k
end Regions
def Q0 (Z : State) (p1 : Int32) (p2 : Int32) (p3 : Int32) (p4 : Int32) (h0 : Heap) (n0 : Nat) (v : Option Value) (h : Heap) (L : List Loc) : Prop := v = some (.int (1 : Int32)) ∧ Fr n0 L
/-! the plain law: no program in sight -/
theorem own_rem32 (x y : Int32) : (x - (x / y) * y).toInt = x.toInt.tmod y.toInt := by
  have a := (x % y).toInt_lt; have b := (x % y).le_toInt
  rw [Int32.toInt_mod] at a b
  rw [Int32.toInt_sub, Int32.toInt_mul, Int32.toInt_div, Int.bmod_mul_bmod, Int.sub_bmod_bmod, Int.mul_comm, ← Int.tmod_def]
  exact Jvm.Kit.bmod32 b a
theorem own_ush_nonneg (x : Int32) : 0 ≤ (own_ush x).toInt := by
  have e2 : (own_ush x).toBitVec.toNat = x.toBitVec.toNat / 2 ^ 1 := by
    have hn : (((1 : Int32) &&& 31).toUInt32).toNat = 1 := by decide
    simp only [own_ush, UInt32.toBitVec_toInt32, UInt32.toBitVec_shiftRight, Int32.toBitVec_toUInt32]
    simp [BitVec.toNat_ushiftRight, Nat.shiftRight_eq_div_pow, hn]
  have hb := x.toBitVec.isLt
  have : (own_ush x).toInt = (own_ush x).toBitVec.toInt := rfl
  rw [this, BitVec.toInt_eq_toNat_cond, e2, if_pos (by omega)]
  omega
theorem own_amt_nonneg (x : Int32) : 0 ≤ (amt x).toInt := by
  unfold amt
  split
  · rw [own_rem32]
    exact Int.tmod_nonneg _ (own_ush_nonneg x)
  · exact own_ush_nonneg x
def own_inv (w o k : Int32) (S : Int64) : Prop := (k = 1 ∧ o = 0 ∧ w.toInt = 100000 - S.toInt ∧ S.toInt ≤ 100000) ∨ (k = 0 ∧ o = 1 ∧ w = 0)
theorem own_step {w o k x : Int32} {S S' : Int64} {r w' o' e k' : Int32} (hI : own_inv w o k S) (hS0 : 0 ≤ S.toInt) (hSb : S.toInt ≤ 2 ^ 40) (hx : 0 ≤ x.toInt) (hS : S' = S + x.toInt64) (hr : r = tkR w x) (hw : w' = tkL w x) (ho : o' = tkO w x o)
    (he : e = if k = (0 : Int32) then (if x = (0 : Int32) then (1 : Int32) else (0 : Int32)) else (if (0 : Int32) < (lcmpW S' (100000 : Int64)) then (0 : Int32) else (1 : Int32))) (hk : k' = if k = (0 : Int32) then (0 : Int32) else (if e = (0 : Int32) then (0 : Int32) else (1 : Int32))) :
    r = e ∧ own_inv w' o' k' S' ∧ 0 ≤ S'.toInt ∧ S'.toInt ≤ S.toInt + 2 ^ 31 := by
  have hxb := x.toInt_lt
  have e1 : x.toInt64.toInt = x.toInt := Int32.toInt_toInt64 x
  have e2 : S'.toInt = S.toInt + x.toInt := by rw [hS, Jvm.Kit.i64_add (by omega) (by omega), e1]
  have c0 : (100000 : Int64).toInt = 100000 := by decide
  have hm : ((0 : Int32) < lcmpW S' (100000 : Int64)) ↔ 100000 < S'.toInt := by rw [lw_gt, Int64.lt_iff_toInt_lt, c0]
  have h01 : ¬ ((1 : Int32) = (0 : Int32)) := by decide
  refine ⟨?_, ?_, by omega, by omega⟩
  · rcases hI with ⟨rfl, rfl, h1, h2⟩ | ⟨rfl, rfl, rfl⟩
    · have c1 : (w < x) ↔ 100000 < S'.toInt := by rw [Int32.lt_iff_toInt_lt]; omega
      rw [hr, he, if_neg h01, tkR]
      by_cases hc : 100000 < S'.toInt
      · rw [if_pos (c1.mpr hc), if_pos (hm.mpr hc)]
      · rw [if_neg (fun q => hc (c1.mp q)), if_neg (fun q => hc (hm.mp q))]
    · have c1 : ((0 : Int32) < x) ↔ ¬ x = 0 := by
        rw [Int32.lt_iff_toInt_lt, ← Int32.toInt_inj, Int32.toInt_zero]; omega
      rw [hr, he, if_pos rfl, tkR]
      by_cases hc : x = 0
      · rw [if_neg (fun q => c1.mp q hc), if_pos hc]
      · rw [if_pos (c1.mpr hc), if_neg hc]
  · rcases hI with ⟨rfl, rfl, h1, h2⟩ | ⟨rfl, rfl, rfl⟩
    · have c1 : (w < x) ↔ 100000 < S'.toInt := by rw [Int32.lt_iff_toInt_lt]; omega
      rw [if_neg h01] at he hk
      by_cases hc : 100000 < S'.toInt
      · rw [if_pos (hm.mpr hc)] at he
        rw [if_pos he] at hk
        rw [tkL, if_pos (c1.mpr hc)] at hw
        rw [tkO, if_pos (c1.mpr hc)] at ho
        exact Or.inr ⟨hk, ho, hw⟩
      · rw [if_neg (fun q => hc (hm.mp q))] at he
        rw [if_neg (by rw [he]; decide)] at hk
        rw [tkL, if_neg (fun q => hc (c1.mp q))] at hw
        rw [tkO, if_neg (fun q => hc (c1.mp q))] at ho
        refine Or.inl ⟨hk, ho, ?_, by omega⟩
        rw [hw, Jvm.Kit.i32_sub (by omega) (by omega)]
        omega
    · rw [if_pos rfl] at hk
      have c1 : ((0 : Int32) < x) ↔ ¬ x = 0 := by
        rw [Int32.lt_iff_toInt_lt, ← Int32.toInt_inj, Int32.toInt_zero]; omega
      refine Or.inr ⟨hk, ?_, ?_⟩
      · rw [ho, tkO]; split <;> rfl
      · rw [hw, tkL]
        split
        · rfl
        · rename_i q
          have : x = 0 := by
            by_cases hc : x = 0
            · exact hc
            · exact absurd (c1.mpr hc) q
          rw [this]; rfl
theorem own_plain (p1 p2 p3 p4 : Int32) {x1 x2 x3 x4 w0 o0 r1 w1 o1 r2 w2 o2 r3 w3 o3 r4 w4 o4 o5 e1 e2 k2 e3 k3 e4 k4 n4 : Int32} {s1 s2 s3 s4 : Int64} (hx1 : x1 = amt p1) (hx2 : x2 = amt p2) (hx3 : x3 = amt p3) (hx4 : x4 = amt p4)
    (hw0 : w0 = 100000) (ho0 : o0 = 0) (hr1 : r1 = tkR w0 x1) (hw1 : w1 = tkL w0 x1) (ho1 : o1 = tkO w0 x1 o0) (hr2 : r2 = tkR w1 x2) (hw2 : w2 = tkL w1 x2) (ho2 : o2 = tkO w1 x2 o1) (hr3 : r3 = tkR w2 x3) (hw3 : w3 = tkL w2 x3) (ho3 : o3 = tkO w2 x3 o2) (hr4 : r4 = tkR w3 x4) (hw4 : w4 = tkL w3 x4) (ho4 : o4 = tkO w3 x4 o3) (ho5 : o5 = nar .boolean o4)
    (hs1 : s1 = x1.toInt64) (hs2 : s2 = s1 + x2.toInt64) (hs3 : s3 = s2 + x3.toInt64) (hs4 : s4 = s3 + x4.toInt64)
    (he1 : e1 = if (0 : Int32) < (lcmpW s1 (100000 : Int64)) then (0 : Int32) else (1 : Int32))
    (he2 : e2 = if e1 = (0 : Int32) then (if x2 = (0 : Int32) then (1 : Int32) else (0 : Int32)) else (if (0 : Int32) < (lcmpW s2 (100000 : Int64)) then (0 : Int32) else (1 : Int32)))
    (hk2 : k2 = if e1 = (0 : Int32) then (0 : Int32) else (if e2 = (0 : Int32) then (0 : Int32) else (1 : Int32)))
    (he3 : e3 = if k2 = (0 : Int32) then (if x3 = (0 : Int32) then (1 : Int32) else (0 : Int32)) else (if (0 : Int32) < (lcmpW s3 (100000 : Int64)) then (0 : Int32) else (1 : Int32)))
    (hk3 : k3 = if k2 = (0 : Int32) then (0 : Int32) else (if e3 = (0 : Int32) then (0 : Int32) else (1 : Int32)))
    (he4 : e4 = if k3 = (0 : Int32) then (if x4 = (0 : Int32) then (1 : Int32) else (0 : Int32)) else (if (0 : Int32) < (lcmpW s4 (100000 : Int64)) then (0 : Int32) else (1 : Int32)))
    (hk4 : k4 = if k3 = (0 : Int32) then (0 : Int32) else (if e4 = (0 : Int32) then (0 : Int32) else (1 : Int32)))
    (hn4 : n4 = if k4 = (0 : Int32) then (1 : Int32) else (0 : Int32)) : r1 = e1 ∧ r2 = e2 ∧ r3 = e3 ∧ r4 = e4 ∧ o5 = n4 := by
  have a1 : 0 ≤ x1.toInt := hx1 ▸ own_amt_nonneg p1
  have a2 : 0 ≤ x2.toInt := hx2 ▸ own_amt_nonneg p2
  have a3 : 0 ≤ x3.toInt := hx3 ▸ own_amt_nonneg p3
  have a4 : 0 ≤ x4.toInt := hx4 ▸ own_amt_nonneg p4
  have h01 : ¬ ((1 : Int32) = (0 : Int32)) := by decide
  have z0 : (0 : Int64).toInt = 0 := by decide
  have hs1' : s1 = 0 + x1.toInt64 := by rw [hs1]; simp
  have he1' : e1 = if (1 : Int32) = (0 : Int32) then (if x1 = (0 : Int32) then (1 : Int32) else (0 : Int32)) else (if (0 : Int32) < (lcmpW s1 (100000 : Int64)) then (0 : Int32) else (1 : Int32)) := by rw [if_neg h01]; exact he1
  have hk1 : e1 = if (1 : Int32) = (0 : Int32) then (0 : Int32) else (if e1 = (0 : Int32) then (0 : Int32) else (1 : Int32)) := by
    rw [if_neg h01]
    by_cases hc : (0 : Int32) < (lcmpW s1 (100000 : Int64))
    · rw [if_pos hc] at he1; rw [he1]; rfl
    · rw [if_neg hc] at he1; rw [he1]; rfl
  obtain ⟨q1, I1, b1, c1⟩ := own_step (S := 0) (k' := e1) (Or.inl ⟨rfl, ho0, by rw [hw0]; decide, by rw [z0]; decide⟩) (by rw [z0]; decide) (by rw [z0]; decide) a1 hs1' hr1 hw1 ho1 he1' hk1
  rw [z0] at c1
  obtain ⟨q2, I2, b2, c2⟩ := own_step I1 b1 (by omega) a2 hs2 hr2 hw2 ho2 he2 hk2
  obtain ⟨q3, I3, b3, c3⟩ := own_step I2 b2 (by omega) a3 hs3 hr3 hw3 ho3 he3 hk3
  obtain ⟨q4, I4, b4, c4⟩ := own_step I3 b3 (by omega) a4 hs4 hr4 hw4 ho4 he4 hk4
  refine ⟨q1, q2, q3, q4, ?_⟩
  rcases I4 with ⟨h1, h2, -, -⟩ | ⟨h1, h2, -⟩
  · rw [ho5, hn4, h1, h2]; rfl
  · rw [ho5, hn4, h1, h2]; rfl
set_option maxRecDepth 65536 in
set_option maxHeartbeats 40000000 in
theorem rm0 (l : Launch) (Z : State) (a0 : Array Value) (hw : ∀ d ∈ tables_1, d.before a0 Z = true) (ws : List Jvm.Cond) (p1 : Int32) (p2 : Int32) (p3 : Int32) (p4 : Int32) (h0 : Heap) (n0 : Nat) (Z0 : n0 ≤ h0.size) :
    MetFree l x (head1 (Jvm.Cond.code x code maxLocals ret :: ws) room_1) (fun a U => a = #[(.int p1), (.int p2), (.int p3), (.int p4)] ∧ Z.Warmed39 U.vm ∧ U.heap = h0) (fun _ _ _ _ _ => True) (fun _ U o U' => ∃ v L, o = .returned v ∧ Q0 Z p1 p2 p3 p4 h0 n0 v U'.heap L ∧ FrameEnd U o U' L room_1.cells room_1.slots) := by
  refine MetFree.of_bodySF (plainFor_of_name pn_0) hisR ?_
  intro p e s m args below meth c s₁ Bd hml0 hP hK
  obtain ⟨rfl, hZ, hh⟩ := hP
  have hx := Bd.exec
  have hby := Bd.bytes
  have hml : c.maxLocals = 31 := hml0
  have hown : s.vm.findClass "com/example/tasks_to_gates/taskstogates/check/CallBudgetTakePinLaw" = some m.cls := findClass_of_methodNamed Bd.named
  have hnm := (name_of_methodNamed Bd.named Bd.method).1
  have X0 : Stand p l e room_1 s m #[(.int p1), (.int p2), (.int p3), (.int p4)] below meth c s₁ [] 0 0 := Stand.of_body Bd
  have e0 : s₁.heap = h0 := by rw [← hh, Bd.state]; rfl
  have N0 := Fr.nil n0
  have pre0 : ∀ t, Steps p.tables e below (s₁.setTop (mkF m 0 #[.val (.int p1), .val (.int p2), .val (.int p3), .val (.int p4), .unset, .unset, .unset, .unset, .unset, .unset, .unset, .unset, .unset, .unset, .unset, .unset, .unset, .unset, .unset, .unset, .unset, .unset, .unset, .unset, .unset, .unset, .unset, .unset, .unset, .unset, .unset] [])) t → Steps p.tables e below (s₁.setTop (entryFrame m #[(.int p1), (.int p2), (.int p3), (.int p4)] maxLocals)) t := fun t k => castTop (ef_0 m p1 p2 p3 p4) k
  obtain ⟨_, _, ⟨T5, L5, k5, n5⟩, -, X5, ⟨Lc5, hQ5, l5, y5, z5⟩, st5⟩ := Jvm.LawKit.callS X0 hx (y := (⟨"com/example/tasks_to_gates/taskstogates/check/CallBudgetTakePinLaw", "amount", "(I)I"⟩ : MethodName)) hown (mvT hZ (hw _ (List.mem_of_getElem? (i := 0) rfl))) (mvT hZ (hw _ (List.mem_of_getElem? (i := 1) rfl))) (mvT hZ (hw _ (List.mem_of_getElem? (i := 2) rfl))) (mvT hZ (hw _ (List.mem_of_getElem? (i := 3) rfl))) (by decide) (backOf (W := 0) (rm1 l Z a0 hw [] p1 h0 n0 Z0) hZ (hw _ (List.mem_of_getElem? (i := 3) rfl)) (hw _ (List.mem_of_getElem? (i := 2) rfl)) (by decide) (by decide)) (g := (mkF m 1 #[.val (.int p1), .val (.int p2), .val (.int p3), .val (.int p4), .unset, .unset, .unset, .unset, .unset, .unset, .unset, .unset, .unset, .unset, .unset, .unset, .unset, .unset, .unset, .unset, .unset, .unset, .unset, .unset, .unset, .unset, .unset, .unset, .unset, .unset, .unset] [(.int p1)])) rfl (by rw [hml]; rfl) (argsL := [(.int p1)]) (rest := []) (lenOf pd_0_0 rfl) rfl (by show 2 * 0 + _ ≤ _; exact Nat.le_of_eq rfl) (hb hby at_1) (fun _ _ => ⟨rfl, e0, (by decide : 0 + 0 ≤ _), (by decide : 0 + 0 ≤ _)⟩)
  dsimp only [Pt.U, Pt.locs, Pt.cells, Pt.slots] at X5 l5 y5 z5 st5 hQ5
  subst l5 y5 z5
  obtain ⟨v5, N5q, e5⟩ := hQ5
  obtain ⟨x1, hx1⟩ : ∃ z, z = amt p1 := ⟨_, rfl⟩
  rw [← hx1] at v5
  subst v5
  have N5 := Fr.app N0 N5q
  obtain ⟨_, _, ⟨T6, L6, k6, n6⟩, -, X6, ⟨Lc6, hQ6, l6, y6, z6⟩, st6⟩ := Jvm.LawKit.callS X5 hx (y := (⟨"com/example/tasks_to_gates/taskstogates/check/CallBudgetTakePinLaw", "amount", "(I)I"⟩ : MethodName)) hown (mvT hZ (hw _ (List.mem_of_getElem? (i := 0) rfl))) (mvT hZ (hw _ (List.mem_of_getElem? (i := 1) rfl))) (mvT hZ (hw _ (List.mem_of_getElem? (i := 2) rfl))) (mvT hZ (hw _ (List.mem_of_getElem? (i := 3) rfl))) (by decide) (backOf (W := 0) (rm1 l Z a0 hw [] p2 h0 n0 Z0) hZ (hw _ (List.mem_of_getElem? (i := 3) rfl)) (hw _ (List.mem_of_getElem? (i := 2) rfl)) (by decide) (by decide)) (g := (mkF m 7 #[.val (.int p1), .val (.int p2), .val (.int p3), .val (.int p4), .val (.int x1), .unset, .unset, .unset, .unset, .unset, .unset, .unset, .unset, .unset, .unset, .unset, .unset, .unset, .unset, .unset, .unset, .unset, .unset, .unset, .unset, .unset, .unset, .unset, .unset, .unset, .unset] [(.int p2)])) rfl (by rw [hml]; rfl) (argsL := [(.int p2)]) (rest := []) (lenOf pd_0_0 rfl) rfl (by show 2 * 0 + _ ≤ _; exact Nat.le_of_eq rfl) (hb hby at_7) (fun _ _ => ⟨rfl, e5, (by decide : 0 + 0 ≤ _), (by decide : 0 + 0 ≤ _)⟩)
  dsimp only [Pt.U, Pt.locs, Pt.cells, Pt.slots] at X6 l6 y6 z6 st6 hQ6
  subst l6 y6 z6
  obtain ⟨v6, N6q, e6⟩ := hQ6
  obtain ⟨x2, hx2⟩ : ∃ z, z = amt p2 := ⟨_, rfl⟩
  rw [← hx2] at v6
  subst v6
  have N6 := Fr.app N5 N6q
  obtain ⟨_, _, ⟨T7, L7, k7, n7⟩, -, X7, ⟨Lc7, hQ7, l7, y7, z7⟩, st7⟩ := Jvm.LawKit.callS X6 hx (y := (⟨"com/example/tasks_to_gates/taskstogates/check/CallBudgetTakePinLaw", "amount", "(I)I"⟩ : MethodName)) hown (mvT hZ (hw _ (List.mem_of_getElem? (i := 0) rfl))) (mvT hZ (hw _ (List.mem_of_getElem? (i := 1) rfl))) (mvT hZ (hw _ (List.mem_of_getElem? (i := 2) rfl))) (mvT hZ (hw _ (List.mem_of_getElem? (i := 3) rfl))) (by decide) (backOf (W := 0) (rm1 l Z a0 hw [] p3 h0 n0 Z0) hZ (hw _ (List.mem_of_getElem? (i := 3) rfl)) (hw _ (List.mem_of_getElem? (i := 2) rfl)) (by decide) (by decide)) (g := (mkF m 13 #[.val (.int p1), .val (.int p2), .val (.int p3), .val (.int p4), .val (.int x1), .val (.int x2), .unset, .unset, .unset, .unset, .unset, .unset, .unset, .unset, .unset, .unset, .unset, .unset, .unset, .unset, .unset, .unset, .unset, .unset, .unset, .unset, .unset, .unset, .unset, .unset, .unset] [(.int p3)])) rfl (by rw [hml]; rfl) (argsL := [(.int p3)]) (rest := []) (lenOf pd_0_0 rfl) rfl (by show 2 * 0 + _ ≤ _; exact Nat.le_of_eq rfl) (hb hby at_13) (fun _ _ => ⟨rfl, e6, (by decide : 0 + 0 ≤ _), (by decide : 0 + 0 ≤ _)⟩)
  dsimp only [Pt.U, Pt.locs, Pt.cells, Pt.slots] at X7 l7 y7 z7 st7 hQ7
  subst l7 y7 z7
  obtain ⟨v7, N7q, e7⟩ := hQ7
  obtain ⟨x3, hx3⟩ : ∃ z, z = amt p3 := ⟨_, rfl⟩
  rw [← hx3] at v7
  subst v7
  have N7 := Fr.app N6 N7q
  obtain ⟨_, _, ⟨T8, L8, k8, n8⟩, -, X8, ⟨Lc8, hQ8, l8, y8, z8⟩, st8⟩ := Jvm.LawKit.callS X7 hx (y := (⟨"com/example/tasks_to_gates/taskstogates/check/CallBudgetTakePinLaw", "amount", "(I)I"⟩ : MethodName)) hown (mvT hZ (hw _ (List.mem_of_getElem? (i := 0) rfl))) (mvT hZ (hw _ (List.mem_of_getElem? (i := 1) rfl))) (mvT hZ (hw _ (List.mem_of_getElem? (i := 2) rfl))) (mvT hZ (hw _ (List.mem_of_getElem? (i := 3) rfl))) (by decide) (backOf (W := 0) (rm1 l Z a0 hw [] p4 h0 n0 Z0) hZ (hw _ (List.mem_of_getElem? (i := 3) rfl)) (hw _ (List.mem_of_getElem? (i := 2) rfl)) (by decide) (by decide)) (g := (mkF m 19 #[.val (.int p1), .val (.int p2), .val (.int p3), .val (.int p4), .val (.int x1), .val (.int x2), .val (.int x3), .unset, .unset, .unset, .unset, .unset, .unset, .unset, .unset, .unset, .unset, .unset, .unset, .unset, .unset, .unset, .unset, .unset, .unset, .unset, .unset, .unset, .unset, .unset, .unset] [(.int p4)])) rfl (by rw [hml]; rfl) (argsL := [(.int p4)]) (rest := []) (lenOf pd_0_0 rfl) rfl (by show 2 * 0 + _ ≤ _; exact Nat.le_of_eq rfl) (hb hby at_19) (fun _ _ => ⟨rfl, e7, (by decide : 0 + 0 ≤ _), (by decide : 0 + 0 ≤ _)⟩)
  dsimp only [Pt.U, Pt.locs, Pt.cells, Pt.slots] at X8 l8 y8 z8 st8 hQ8
  subst l8 y8 z8
  obtain ⟨v8, N8q, e8⟩ := hQ8
  obtain ⟨x4, hx4⟩ : ∃ z, z = amt p4 := ⟨_, rfl⟩
  rw [← hx4] at v8
  subst v8
  have N8 := Fr.app N7 N8q
  obtain ⟨T9, h9, X9, e9, E9, A9, D9, -, st9⟩ := newO X8 hx hZ hown (hw _ (List.mem_of_getElem? (i := 5) rfl)) (hw _ (List.mem_of_getElem? (i := 6) rfl)) (hw _ (List.mem_of_getElem? (i := 7) rfl)) e8 (g := (mkF m 24 #[.val (.int p1), .val (.int p2), .val (.int p3), .val (.int p4), .val (.int x1), .val (.int x2), .val (.int x3), .val (.int x4), .unset, .unset, .unset, .unset, .unset, .unset, .unset, .unset, .unset, .unset, .unset, .unset, .unset, .unset, .unset, .unset, .unset, .unset, .unset, .unset, .unset, .unset, .unset] [])) rfl (hb hby at_24) (by decide) (by decide)
  obtain ⟨b9, g9⟩ : ∃ z, z = h0.size := ⟨_, rfl⟩
  rw [← g9] at A9 D9 st9
  have F_left_b9 : Fld Z h9 b9 "com/example/tasks_to_gates/taskstogates/check/CallBudget" "left" "I" (.int (0 : Int32)) := D9 (Or.inl (hw _ (List.mem_of_getElem? (i := 16) rfl))) (ty := .int) (by decide)
  have F_overrun_b9 : Fld Z h9 b9 "com/example/tasks_to_gates/taskstogates/check/CallBudget" "overrun" "Z" (.int (0 : Int32)) := D9 (Or.inl (hw _ (List.mem_of_getElem? (i := 28) rfl))) (ty := .boolean) (by decide)
  have g_b9 : n0 ≤ b9 := Nat.le_trans Z0 (Nat.le_of_eq g9.symm)
  have Z9 : n0 ≤ h9.size := Nat.le_trans Z0 E9.1
  obtain ⟨_, _, ⟨T10, L10, k10, n10⟩, -, X10, ⟨Lc10, hQ10, l10, y10, z10⟩, st10⟩ := X9.specialBack hx (y := (⟨"com/example/tasks_to_gates/taskstogates/check/CallBudget", "<init>", "()V"⟩ : MethodName)) rfl hown (mvT hZ (hw _ (List.mem_of_getElem? (i := 8) rfl))) (mvT hZ (hw _ (List.mem_of_getElem? (i := 9) rfl))) (mvT hZ (hw _ (List.mem_of_getElem? (i := 10) rfl))) (by decide) (backOf (W := 1) (rm2 l Z a0 hw [] b9 0 _ h9 n0 Z9 A9 F_left_b9 F_overrun_b9 g_b9) hZ (hw _ (List.mem_of_getElem? (i := 10) rfl)) (hw _ (List.mem_of_getElem? (i := 7) rfl)) (by decide) (by decide)) (g := (mkF m 28 #[.val (.int p1), .val (.int p2), .val (.int p3), .val (.int p4), .val (.int x1), .val (.int x2), .val (.int x3), .val (.int x4), .unset, .unset, .unset, .unset, .unset, .unset, .unset, .unset, .unset, .unset, .unset, .unset, .unset, .unset, .unset, .unset, .unset, .unset, .unset, .unset, .unset, .unset, .unset] [(.ref b9), (.ref b9)])) rfl (by rw [hml]; rfl) (Steps.refl _) (a := b9) (argsL := []) (rest := [(.ref b9)]) (lenOf pd_0_1 rfl) rfl (by show 2 * 0 + _ ≤ _; exact Nat.le_of_eq rfl) (hb hby at_28) (fun _ _ => ⟨rfl, e9, (by decide : 1 + 0 ≤ _), (by decide : 2 + 0 ≤ _)⟩)
  dsimp only [Pt.U, Pt.locs, Pt.cells, Pt.slots] at X10 l10 y10 z10 st10 hQ10
  subst l10 y10 z10
  obtain ⟨rfl, N10q, K10, E10, FL10, FO10⟩ := hQ10
  have N10 := Fr.app N8 N10q
  have Z10 : n0 ≤ T10.heap.size := Nat.le_trans Z9 K10.1
  obtain ⟨w0, hw0⟩ : ∃ z : Int32, z = 100000 := ⟨_, rfl⟩
  obtain ⟨o0, ho0⟩ : ∃ z : Int32, z = 0 := ⟨_, rfl⟩
  rw [← hw0] at FL10
  rw [← ho0] at FO10
  obtain ⟨cq11, kq11, q11a, q11b, q11c⟩ := isOf hZ rfl E10
  obtain ⟨_, _, ⟨T11, L11, k11, n11⟩, -, X11, ⟨Lc11, hQ11, l11, y11, z11⟩, st11⟩ := X10.virtualBack hx (y := (⟨"com/example/tasks_to_gates/taskstogates/check/CallBudget", "take", "(I)Z"⟩ : MethodName)) (z := (⟨"com/example/tasks_to_gates/taskstogates/check/CallBudget", "take", "(I)Z"⟩ : MethodName)) hown (mvT hZ (hw _ (List.mem_of_getElem? (i := 17) rfl))) (mvT hZ (hw _ (List.mem_of_getElem? (i := 18) rfl))) (notFace_of_selects (args := #[]) (mvT hZ (hw _ (List.mem_of_getElem? (i := 20) rfl)))) (mvT hZ (hw _ (List.mem_of_getElem? (i := 20) rfl))) (mvT hZ (hw _ (List.mem_of_getElem? (i := 19) rfl))) (by decide) (backOf (W := 0) (rm4 l Z a0 hw [] b9 x1 w0 o0 T10.heap n0 Z10 E10 FL10 FO10 g_b9) hZ (hw _ (List.mem_of_getElem? (i := 21) rfl)) (hw _ (List.mem_of_getElem? (i := 7) rfl)) (by decide) (by decide)) q11a q11c (g := (mkF m 37 #[.val (.int p1), .val (.int p2), .val (.int p3), .val (.int p4), .val (.int x1), .val (.int x2), .val (.int x3), .val (.int x4), .val (.ref b9), .unset, .unset, .unset, .unset, .unset, .unset, .unset, .unset, .unset, .unset, .unset, .unset, .unset, .unset, .unset, .unset, .unset, .unset, .unset, .unset, .unset, .unset] [(.int x1), (.ref b9)])) rfl (by rw [hml]; rfl) (Steps.refl _) (argsL := [(.int x1)]) (rest := []) (lenOf pd_0_2 rfl) rfl (by show 2 * 0 + _ ≤ _; exact Nat.le_of_eq rfl) (hb hby at_37) (fun _ _ => ⟨rfl, rfl, (by decide : 1 + 0 ≤ _), (by decide : 2 + 0 ≤ _)⟩)
  dsimp only [Pt.U, Pt.locs, Pt.cells, Pt.slots] at X11 l11 y11 z11 st11 hQ11
  subst l11 y11 z11
  obtain ⟨v11, N11q, K11, E11, FL11, FO11⟩ := hQ11
  obtain ⟨r1, hr1⟩ : ∃ z, z = tkR w0 x1 := ⟨_, rfl⟩
  obtain ⟨w1, hw1⟩ : ∃ z, z = tkL w0 x1 := ⟨_, rfl⟩
  obtain ⟨o1, ho1⟩ : ∃ z, z = tkO w0 x1 o0 := ⟨_, rfl⟩
  rw [← hr1] at v11
  rw [← hw1] at FL11
  rw [← ho1] at FO11
  subst v11
  have N11 := Fr.app N10 N11q
  have Z11 : n0 ≤ T11.heap.size := Nat.le_trans Z10 K11.1
  obtain ⟨cq12, kq12, q12a, q12b, q12c⟩ := isOf hZ rfl E11
  obtain ⟨_, _, ⟨T12, L12, k12, n12⟩, -, X12, ⟨Lc12, hQ12, l12, y12, z12⟩, st12⟩ := X11.virtualBack hx (y := (⟨"com/example/tasks_to_gates/taskstogates/check/CallBudget", "take", "(I)Z"⟩ : MethodName)) (z := (⟨"com/example/tasks_to_gates/taskstogates/check/CallBudget", "take", "(I)Z"⟩ : MethodName)) hown (mvT hZ (hw _ (List.mem_of_getElem? (i := 17) rfl))) (mvT hZ (hw _ (List.mem_of_getElem? (i := 18) rfl))) (notFace_of_selects (args := #[]) (mvT hZ (hw _ (List.mem_of_getElem? (i := 20) rfl)))) (mvT hZ (hw _ (List.mem_of_getElem? (i := 20) rfl))) (mvT hZ (hw _ (List.mem_of_getElem? (i := 19) rfl))) (by decide) (backOf (W := 0) (rm4 l Z a0 hw [] b9 x2 w1 o1 T11.heap n0 Z11 E11 FL11 FO11 g_b9) hZ (hw _ (List.mem_of_getElem? (i := 21) rfl)) (hw _ (List.mem_of_getElem? (i := 7) rfl)) (by decide) (by decide)) q12a q12c (g := (mkF m 46 #[.val (.int p1), .val (.int p2), .val (.int p3), .val (.int p4), .val (.int x1), .val (.int x2), .val (.int x3), .val (.int x4), .val (.ref b9), .val (.int r1), .unset, .unset, .unset, .unset, .unset, .unset, .unset, .unset, .unset, .unset, .unset, .unset, .unset, .unset, .unset, .unset, .unset, .unset, .unset, .unset, .unset] [(.int x2), (.ref b9)])) rfl (by rw [hml]; rfl) (Steps.refl _) (argsL := [(.int x2)]) (rest := []) (lenOf pd_0_2 rfl) rfl (by show 2 * 0 + _ ≤ _; exact Nat.le_of_eq rfl) (hb hby at_46) (fun _ _ => ⟨rfl, rfl, (by decide : 1 + 0 ≤ _), (by decide : 2 + 0 ≤ _)⟩)
  dsimp only [Pt.U, Pt.locs, Pt.cells, Pt.slots] at X12 l12 y12 z12 st12 hQ12
  subst l12 y12 z12
  obtain ⟨v12, N12q, K12, E12, FL12, FO12⟩ := hQ12
  obtain ⟨r2, hr2⟩ : ∃ z, z = tkR w1 x2 := ⟨_, rfl⟩
  obtain ⟨w2, hw2⟩ : ∃ z, z = tkL w1 x2 := ⟨_, rfl⟩
  obtain ⟨o2, ho2⟩ : ∃ z, z = tkO w1 x2 o1 := ⟨_, rfl⟩
  rw [← hr2] at v12
  rw [← hw2] at FL12
  rw [← ho2] at FO12
  subst v12
  have N12 := Fr.app N11 N12q
  have Z12 : n0 ≤ T12.heap.size := Nat.le_trans Z11 K12.1
  obtain ⟨cq13, kq13, q13a, q13b, q13c⟩ := isOf hZ rfl E12
  obtain ⟨_, _, ⟨T13, L13, k13, n13⟩, -, X13, ⟨Lc13, hQ13, l13, y13, z13⟩, st13⟩ := X12.virtualBack hx (y := (⟨"com/example/tasks_to_gates/taskstogates/check/CallBudget", "take", "(I)Z"⟩ : MethodName)) (z := (⟨"com/example/tasks_to_gates/taskstogates/check/CallBudget", "take", "(I)Z"⟩ : MethodName)) hown (mvT hZ (hw _ (List.mem_of_getElem? (i := 17) rfl))) (mvT hZ (hw _ (List.mem_of_getElem? (i := 18) rfl))) (notFace_of_selects (args := #[]) (mvT hZ (hw _ (List.mem_of_getElem? (i := 20) rfl)))) (mvT hZ (hw _ (List.mem_of_getElem? (i := 20) rfl))) (mvT hZ (hw _ (List.mem_of_getElem? (i := 19) rfl))) (by decide) (backOf (W := 0) (rm4 l Z a0 hw [] b9 x3 w2 o2 T12.heap n0 Z12 E12 FL12 FO12 g_b9) hZ (hw _ (List.mem_of_getElem? (i := 21) rfl)) (hw _ (List.mem_of_getElem? (i := 7) rfl)) (by decide) (by decide)) q13a q13c (g := (mkF m 55 #[.val (.int p1), .val (.int p2), .val (.int p3), .val (.int p4), .val (.int x1), .val (.int x2), .val (.int x3), .val (.int x4), .val (.ref b9), .val (.int r1), .val (.int r2), .unset, .unset, .unset, .unset, .unset, .unset, .unset, .unset, .unset, .unset, .unset, .unset, .unset, .unset, .unset, .unset, .unset, .unset, .unset, .unset] [(.int x3), (.ref b9)])) rfl (by rw [hml]; rfl) (Steps.refl _) (argsL := [(.int x3)]) (rest := []) (lenOf pd_0_2 rfl) rfl (by show 2 * 0 + _ ≤ _; exact Nat.le_of_eq rfl) (hb hby at_55) (fun _ _ => ⟨rfl, rfl, (by decide : 1 + 0 ≤ _), (by decide : 2 + 0 ≤ _)⟩)
  dsimp only [Pt.U, Pt.locs, Pt.cells, Pt.slots] at X13 l13 y13 z13 st13 hQ13
  subst l13 y13 z13
  obtain ⟨v13, N13q, K13, E13, FL13, FO13⟩ := hQ13
  obtain ⟨r3, hr3⟩ : ∃ z, z = tkR w2 x3 := ⟨_, rfl⟩
  obtain ⟨w3, hw3⟩ : ∃ z, z = tkL w2 x3 := ⟨_, rfl⟩
  obtain ⟨o3, ho3⟩ : ∃ z, z = tkO w2 x3 o2 := ⟨_, rfl⟩
  rw [← hr3] at v13
  rw [← hw3] at FL13
  rw [← ho3] at FO13
  subst v13
  have N13 := Fr.app N12 N13q
  have Z13 : n0 ≤ T13.heap.size := Nat.le_trans Z12 K13.1
  obtain ⟨cq14, kq14, q14a, q14b, q14c⟩ := isOf hZ rfl E13
  obtain ⟨_, _, ⟨T14, L14, k14, n14⟩, -, X14, ⟨Lc14, hQ14, l14, y14, z14⟩, st14⟩ := X13.virtualBack hx (y := (⟨"com/example/tasks_to_gates/taskstogates/check/CallBudget", "take", "(I)Z"⟩ : MethodName)) (z := (⟨"com/example/tasks_to_gates/taskstogates/check/CallBudget", "take", "(I)Z"⟩ : MethodName)) hown (mvT hZ (hw _ (List.mem_of_getElem? (i := 17) rfl))) (mvT hZ (hw _ (List.mem_of_getElem? (i := 18) rfl))) (notFace_of_selects (args := #[]) (mvT hZ (hw _ (List.mem_of_getElem? (i := 20) rfl)))) (mvT hZ (hw _ (List.mem_of_getElem? (i := 20) rfl))) (mvT hZ (hw _ (List.mem_of_getElem? (i := 19) rfl))) (by decide) (backOf (W := 0) (rm4 l Z a0 hw [] b9 x4 w3 o3 T13.heap n0 Z13 E13 FL13 FO13 g_b9) hZ (hw _ (List.mem_of_getElem? (i := 21) rfl)) (hw _ (List.mem_of_getElem? (i := 7) rfl)) (by decide) (by decide)) q14a q14c (g := (mkF m 64 #[.val (.int p1), .val (.int p2), .val (.int p3), .val (.int p4), .val (.int x1), .val (.int x2), .val (.int x3), .val (.int x4), .val (.ref b9), .val (.int r1), .val (.int r2), .val (.int r3), .unset, .unset, .unset, .unset, .unset, .unset, .unset, .unset, .unset, .unset, .unset, .unset, .unset, .unset, .unset, .unset, .unset, .unset, .unset] [(.int x4), (.ref b9)])) rfl (by rw [hml]; rfl) (Steps.refl _) (argsL := [(.int x4)]) (rest := []) (lenOf pd_0_2 rfl) rfl (by show 2 * 0 + _ ≤ _; exact Nat.le_of_eq rfl) (hb hby at_64) (fun _ _ => ⟨rfl, rfl, (by decide : 1 + 0 ≤ _), (by decide : 2 + 0 ≤ _)⟩)
  dsimp only [Pt.U, Pt.locs, Pt.cells, Pt.slots] at X14 l14 y14 z14 st14 hQ14
  subst l14 y14 z14
  obtain ⟨v14, N14q, K14, E14, FL14, FO14⟩ := hQ14
  obtain ⟨r4, hr4⟩ : ∃ z, z = tkR w3 x4 := ⟨_, rfl⟩
  obtain ⟨w4, hw4⟩ : ∃ z, z = tkL w3 x4 := ⟨_, rfl⟩
  obtain ⟨o4, ho4⟩ : ∃ z, z = tkO w3 x4 o3 := ⟨_, rfl⟩
  rw [← hr4] at v14
  rw [← hw4] at FL14
  rw [← ho4] at FO14
  subst v14
  have N14 := Fr.app N13 N14q
  have Z14 : n0 ≤ T14.heap.size := Nat.le_trans Z13 K14.1
  obtain ⟨cq15, kq15, q15a, q15b, q15c⟩ := isOf hZ rfl E14
  obtain ⟨_, _, ⟨T15, L15, k15, n15⟩, -, X15, ⟨Lc15, hQ15, l15, y15, z15⟩, st15⟩ := X14.virtualBack hx (y := (⟨"com/example/tasks_to_gates/taskstogates/check/CallBudget", "isOverrun", "()Z"⟩ : MethodName)) (z := (⟨"com/example/tasks_to_gates/taskstogates/check/CallBudget", "isOverrun", "()Z"⟩ : MethodName)) hown (mvT hZ (hw _ (List.mem_of_getElem? (i := 22) rfl))) (mvT hZ (hw _ (List.mem_of_getElem? (i := 23) rfl))) (notFace_of_selects (args := #[]) (mvT hZ (hw _ (List.mem_of_getElem? (i := 25) rfl)))) (mvT hZ (hw _ (List.mem_of_getElem? (i := 25) rfl))) (mvT hZ (hw _ (List.mem_of_getElem? (i := 24) rfl))) (by decide) (backOf (W := 0) (rm5 l Z a0 hw [] b9 o4 T14.heap n0 Z14 FO14) hZ (hw _ (List.mem_of_getElem? (i := 26) rfl)) (hw _ (List.mem_of_getElem? (i := 7) rfl)) (by decide) (by decide)) q15a q15c (g := (mkF m 71 #[.val (.int p1), .val (.int p2), .val (.int p3), .val (.int p4), .val (.int x1), .val (.int x2), .val (.int x3), .val (.int x4), .val (.ref b9), .val (.int r1), .val (.int r2), .val (.int r3), .val (.int r4), .unset, .unset, .unset, .unset, .unset, .unset, .unset, .unset, .unset, .unset, .unset, .unset, .unset, .unset, .unset, .unset, .unset, .unset] [(.ref b9)])) rfl (by rw [hml]; rfl) (Steps.refl _) (argsL := []) (rest := []) (lenOf pd_0_3 rfl) rfl (by show 2 * 0 + _ ≤ _; exact Nat.le_of_eq rfl) (hb hby at_71) (fun _ _ => ⟨rfl, rfl, (by decide : 1 + 0 ≤ _), (by decide : 2 + 0 ≤ _)⟩)
  dsimp only [Pt.U, Pt.locs, Pt.cells, Pt.slots] at X15 l15 y15 z15 st15 hQ15
  subst l15 y15 z15
  obtain ⟨v15, N15q, -⟩ := hQ15
  obtain ⟨o5, ho5⟩ : ∃ z, z = nar .boolean o4 := ⟨_, rfl⟩
  rw [← ho5] at v15
  subst v15
  have N15 := Fr.app N14 N15q
  obtain ⟨s1, hs1⟩ : ∃ z : Int64, z = x1.toInt64 := ⟨_, rfl⟩
  obtain ⟨s2, hs2⟩ : ∃ z : Int64, z = s1 + x2.toInt64 := ⟨_, rfl⟩
  obtain ⟨s3, hs3⟩ : ∃ z : Int64, z = s2 + x3.toInt64 := ⟨_, rfl⟩
  obtain ⟨s4, hs4⟩ : ∃ z : Int64, z = s3 + x4.toInt64 := ⟨_, rfl⟩
  obtain ⟨e1, he1⟩ : ∃ z : Int32, z = (if (0 : Int32) < (lcmpW s1 (100000 : Int64)) then (0 : Int32) else (1 : Int32)) := ⟨_, rfl⟩
  obtain ⟨e2, he2⟩ : ∃ z : Int32, z = (if e1 = (0 : Int32) then (if x2 = (0 : Int32) then (1 : Int32) else (0 : Int32)) else (if (0 : Int32) < (lcmpW s2 (100000 : Int64)) then (0 : Int32) else (1 : Int32))) := ⟨_, rfl⟩
  obtain ⟨k2, hk2⟩ : ∃ z : Int32, z = (if e1 = (0 : Int32) then (0 : Int32) else (if e2 = (0 : Int32) then (0 : Int32) else (1 : Int32))) := ⟨_, rfl⟩
  obtain ⟨e3, he3⟩ : ∃ z : Int32, z = (if k2 = (0 : Int32) then (if x3 = (0 : Int32) then (1 : Int32) else (0 : Int32)) else (if (0 : Int32) < (lcmpW s3 (100000 : Int64)) then (0 : Int32) else (1 : Int32))) := ⟨_, rfl⟩
  obtain ⟨k3, hk3⟩ : ∃ z : Int32, z = (if k2 = (0 : Int32) then (0 : Int32) else (if e3 = (0 : Int32) then (0 : Int32) else (1 : Int32))) := ⟨_, rfl⟩
  obtain ⟨e4, he4⟩ : ∃ z : Int32, z = (if k3 = (0 : Int32) then (if x4 = (0 : Int32) then (1 : Int32) else (0 : Int32)) else (if (0 : Int32) < (lcmpW s4 (100000 : Int64)) then (0 : Int32) else (1 : Int32))) := ⟨_, rfl⟩
  obtain ⟨k4, hk4⟩ : ∃ z : Int32, z = (if k3 = (0 : Int32) then (0 : Int32) else (if e4 = (0 : Int32) then (0 : Int32) else (1 : Int32))) := ⟨_, rfl⟩
  obtain ⟨n4, hn4⟩ : ∃ z : Int32, z = (if k4 = (0 : Int32) then (1 : Int32) else (0 : Int32)) := ⟨_, rfl⟩
  obtain ⟨q1, q2, q3, q4, q5⟩ := own_plain p1 p2 p3 p4 hx1 hx2 hx3 hx4 hw0 ho0 hr1 hw1 ho1 hr2 hw2 ho2 hr3 hw3 ho3 hr4 hw4 ho4 ho5 hs1 hs2 hs3 hs4 he1 he2 hk2 he3 hk3 he4 hk4 hn4
  obtain ⟨fs, hr, hrun, hended, hW, hsame⟩ := X15.leave (v := some (.int (1 : Int32))) (fun h => by rw [Bd.returns] at h; cases h)
  refine ⟨_, _, pre0 _ ?_, hrun, hended, _, _, rfl, ?_, ⟨_, rfl⟩, hW, hsame.mono (by decide) (by decide)⟩
  · show Steps p.tables e below (s₁.setTop (mkF m 0 #[.val (.int p1), .val (.int p2), .val (.int p3), .val (.int p4), .unset, .unset, .unset, .unset, .unset, .unset, .unset, .unset, .unset, .unset, .unset, .unset, .unset, .unset, .unset, .unset, .unset, .unset, .unset, .unset, .unset, .unset, .unset, .unset, .unset, .unset, .unset] [])) _
    refine XS.iloadN X0.here hx rfl (hb hby at_0) rfl ?_
    show Steps p.tables e below (s₁.setTop (mkF m 1 #[.val (.int p1), .val (.int p2), .val (.int p3), .val (.int p4), .unset, .unset, .unset, .unset, .unset, .unset, .unset, .unset, .unset, .unset, .unset, .unset, .unset, .unset, .unset, .unset, .unset, .unset, .unset, .unset, .unset, .unset, .unset, .unset, .unset, .unset, .unset] [(.int p1)])) _
    refine st5 _ ?_
    show Steps p.tables e below (T5.setTop (mkF m 4 #[.val (.int p1), .val (.int p2), .val (.int p3), .val (.int p4), .unset, .unset, .unset, .unset, .unset, .unset, .unset, .unset, .unset, .unset, .unset, .unset, .unset, .unset, .unset, .unset, .unset, .unset, .unset, .unset, .unset, .unset, .unset, .unset, .unset, .unset, .unset] [(.int x1)])) _
    refine XS.istore X5.here hx rfl (hb hby at_4) rfl (l' := #[.val (.int p1), .val (.int p2), .val (.int p3), .val (.int p4), .val (.int x1), .unset, .unset, .unset, .unset, .unset, .unset, .unset, .unset, .unset, .unset, .unset, .unset, .unset, .unset, .unset, .unset, .unset, .unset, .unset, .unset, .unset, .unset, .unset, .unset, .unset, .unset]) rfl ?_
    show Steps p.tables e below (T5.setTop (mkF m 6 #[.val (.int p1), .val (.int p2), .val (.int p3), .val (.int p4), .val (.int x1), .unset, .unset, .unset, .unset, .unset, .unset, .unset, .unset, .unset, .unset, .unset, .unset, .unset, .unset, .unset, .unset, .unset, .unset, .unset, .unset, .unset, .unset, .unset, .unset, .unset, .unset] [])) _
    refine XS.iloadN X5.here hx rfl (hb hby at_6) rfl ?_
    show Steps p.tables e below (T5.setTop (mkF m 7 #[.val (.int p1), .val (.int p2), .val (.int p3), .val (.int p4), .val (.int x1), .unset, .unset, .unset, .unset, .unset, .unset, .unset, .unset, .unset, .unset, .unset, .unset, .unset, .unset, .unset, .unset, .unset, .unset, .unset, .unset, .unset, .unset, .unset, .unset, .unset, .unset] [(.int p2)])) _
    refine st6 _ ?_
    show Steps p.tables e below (T6.setTop (mkF m 10 #[.val (.int p1), .val (.int p2), .val (.int p3), .val (.int p4), .val (.int x1), .unset, .unset, .unset, .unset, .unset, .unset, .unset, .unset, .unset, .unset, .unset, .unset, .unset, .unset, .unset, .unset, .unset, .unset, .unset, .unset, .unset, .unset, .unset, .unset, .unset, .unset] [(.int x2)])) _
    refine XS.istore X6.here hx rfl (hb hby at_10) rfl (l' := #[.val (.int p1), .val (.int p2), .val (.int p3), .val (.int p4), .val (.int x1), .val (.int x2), .unset, .unset, .unset, .unset, .unset, .unset, .unset, .unset, .unset, .unset, .unset, .unset, .unset, .unset, .unset, .unset, .unset, .unset, .unset, .unset, .unset, .unset, .unset, .unset, .unset]) rfl ?_
    show Steps p.tables e below (T6.setTop (mkF m 12 #[.val (.int p1), .val (.int p2), .val (.int p3), .val (.int p4), .val (.int x1), .val (.int x2), .unset, .unset, .unset, .unset, .unset, .unset, .unset, .unset, .unset, .unset, .unset, .unset, .unset, .unset, .unset, .unset, .unset, .unset, .unset, .unset, .unset, .unset, .unset, .unset, .unset] [])) _
    refine XS.iloadN X6.here hx rfl (hb hby at_12) rfl ?_
    show Steps p.tables e below (T6.setTop (mkF m 13 #[.val (.int p1), .val (.int p2), .val (.int p3), .val (.int p4), .val (.int x1), .val (.int x2), .unset, .unset, .unset, .unset, .unset, .unset, .unset, .unset, .unset, .unset, .unset, .unset, .unset, .unset, .unset, .unset, .unset, .unset, .unset, .unset, .unset, .unset, .unset, .unset, .unset] [(.int p3)])) _
    refine st7 _ ?_
    show Steps p.tables e below (T7.setTop (mkF m 16 #[.val (.int p1), .val (.int p2), .val (.int p3), .val (.int p4), .val (.int x1), .val (.int x2), .unset, .unset, .unset, .unset, .unset, .unset, .unset, .unset, .unset, .unset, .unset, .unset, .unset, .unset, .unset, .unset, .unset, .unset, .unset, .unset, .unset, .unset, .unset, .unset, .unset] [(.int x3)])) _
    refine XS.istore X7.here hx rfl (hb hby at_16) rfl (l' := #[.val (.int p1), .val (.int p2), .val (.int p3), .val (.int p4), .val (.int x1), .val (.int x2), .val (.int x3), .unset, .unset, .unset, .unset, .unset, .unset, .unset, .unset, .unset, .unset, .unset, .unset, .unset, .unset, .unset, .unset, .unset, .unset, .unset, .unset, .unset, .unset, .unset, .unset]) rfl ?_
    show Steps p.tables e below (T7.setTop (mkF m 18 #[.val (.int p1), .val (.int p2), .val (.int p3), .val (.int p4), .val (.int x1), .val (.int x2), .val (.int x3), .unset, .unset, .unset, .unset, .unset, .unset, .unset, .unset, .unset, .unset, .unset, .unset, .unset, .unset, .unset, .unset, .unset, .unset, .unset, .unset, .unset, .unset, .unset, .unset] [])) _
    refine XS.iloadN X7.here hx rfl (hb hby at_18) rfl ?_
    show Steps p.tables e below (T7.setTop (mkF m 19 #[.val (.int p1), .val (.int p2), .val (.int p3), .val (.int p4), .val (.int x1), .val (.int x2), .val (.int x3), .unset, .unset, .unset, .unset, .unset, .unset, .unset, .unset, .unset, .unset, .unset, .unset, .unset, .unset, .unset, .unset, .unset, .unset, .unset, .unset, .unset, .unset, .unset, .unset] [(.int p4)])) _
    refine st8 _ ?_
    show Steps p.tables e below (T8.setTop (mkF m 22 #[.val (.int p1), .val (.int p2), .val (.int p3), .val (.int p4), .val (.int x1), .val (.int x2), .val (.int x3), .unset, .unset, .unset, .unset, .unset, .unset, .unset, .unset, .unset, .unset, .unset, .unset, .unset, .unset, .unset, .unset, .unset, .unset, .unset, .unset, .unset, .unset, .unset, .unset] [(.int x4)])) _
    refine XS.istore X8.here hx rfl (hb hby at_22) rfl (l' := #[.val (.int p1), .val (.int p2), .val (.int p3), .val (.int p4), .val (.int x1), .val (.int x2), .val (.int x3), .val (.int x4), .unset, .unset, .unset, .unset, .unset, .unset, .unset, .unset, .unset, .unset, .unset, .unset, .unset, .unset, .unset, .unset, .unset, .unset, .unset, .unset, .unset, .unset, .unset]) rfl ?_
    show Steps p.tables e below (T8.setTop (mkF m 24 #[.val (.int p1), .val (.int p2), .val (.int p3), .val (.int p4), .val (.int x1), .val (.int x2), .val (.int x3), .val (.int x4), .unset, .unset, .unset, .unset, .unset, .unset, .unset, .unset, .unset, .unset, .unset, .unset, .unset, .unset, .unset, .unset, .unset, .unset, .unset, .unset, .unset, .unset, .unset] [])) _
    refine st9 _ ?_
    show Steps p.tables e below (T9.setTop (mkF m 27 #[.val (.int p1), .val (.int p2), .val (.int p3), .val (.int p4), .val (.int x1), .val (.int x2), .val (.int x3), .val (.int x4), .unset, .unset, .unset, .unset, .unset, .unset, .unset, .unset, .unset, .unset, .unset, .unset, .unset, .unset, .unset, .unset, .unset, .unset, .unset, .unset, .unset, .unset, .unset] [(.ref b9)])) _
    refine XS.dup X9.here hx rfl (hb hby at_27) rfl rfl ?_
    show Steps p.tables e below (T9.setTop (mkF m 28 #[.val (.int p1), .val (.int p2), .val (.int p3), .val (.int p4), .val (.int x1), .val (.int x2), .val (.int x3), .val (.int x4), .unset, .unset, .unset, .unset, .unset, .unset, .unset, .unset, .unset, .unset, .unset, .unset, .unset, .unset, .unset, .unset, .unset, .unset, .unset, .unset, .unset, .unset, .unset] [(.ref b9), (.ref b9)])) _
    refine st10.trans ?_
    show Steps p.tables e below (T10.setTop (mkF m 31 #[.val (.int p1), .val (.int p2), .val (.int p3), .val (.int p4), .val (.int x1), .val (.int x2), .val (.int x3), .val (.int x4), .unset, .unset, .unset, .unset, .unset, .unset, .unset, .unset, .unset, .unset, .unset, .unset, .unset, .unset, .unset, .unset, .unset, .unset, .unset, .unset, .unset, .unset, .unset] [(.ref b9)])) _
    refine XS.astore X10.here hx rfl (hb hby at_31) rfl rfl (l' := #[.val (.int p1), .val (.int p2), .val (.int p3), .val (.int p4), .val (.int x1), .val (.int x2), .val (.int x3), .val (.int x4), .val (.ref b9), .unset, .unset, .unset, .unset, .unset, .unset, .unset, .unset, .unset, .unset, .unset, .unset, .unset, .unset, .unset, .unset, .unset, .unset, .unset, .unset, .unset, .unset]) rfl ?_
    show Steps p.tables e below (T10.setTop (mkF m 33 #[.val (.int p1), .val (.int p2), .val (.int p3), .val (.int p4), .val (.int x1), .val (.int x2), .val (.int x3), .val (.int x4), .val (.ref b9), .unset, .unset, .unset, .unset, .unset, .unset, .unset, .unset, .unset, .unset, .unset, .unset, .unset, .unset, .unset, .unset, .unset, .unset, .unset, .unset, .unset, .unset] [])) _
    refine XS.aload X10.here hx rfl (hb hby at_33) rfl rfl ?_
    show Steps p.tables e below (T10.setTop (mkF m 35 #[.val (.int p1), .val (.int p2), .val (.int p3), .val (.int p4), .val (.int x1), .val (.int x2), .val (.int x3), .val (.int x4), .val (.ref b9), .unset, .unset, .unset, .unset, .unset, .unset, .unset, .unset, .unset, .unset, .unset, .unset, .unset, .unset, .unset, .unset, .unset, .unset, .unset, .unset, .unset, .unset] [(.ref b9)])) _
    refine XS.iload X10.here hx rfl (hb hby at_35) rfl ?_
    show Steps p.tables e below (T10.setTop (mkF m 37 #[.val (.int p1), .val (.int p2), .val (.int p3), .val (.int p4), .val (.int x1), .val (.int x2), .val (.int x3), .val (.int x4), .val (.ref b9), .unset, .unset, .unset, .unset, .unset, .unset, .unset, .unset, .unset, .unset, .unset, .unset, .unset, .unset, .unset, .unset, .unset, .unset, .unset, .unset, .unset, .unset] [(.int x1), (.ref b9)])) _
    refine st11.trans ?_
    show Steps p.tables e below (T11.setTop (mkF m 40 #[.val (.int p1), .val (.int p2), .val (.int p3), .val (.int p4), .val (.int x1), .val (.int x2), .val (.int x3), .val (.int x4), .val (.ref b9), .unset, .unset, .unset, .unset, .unset, .unset, .unset, .unset, .unset, .unset, .unset, .unset, .unset, .unset, .unset, .unset, .unset, .unset, .unset, .unset, .unset, .unset] [(.int r1)])) _
    refine XS.istore X11.here hx rfl (hb hby at_40) rfl (l' := #[.val (.int p1), .val (.int p2), .val (.int p3), .val (.int p4), .val (.int x1), .val (.int x2), .val (.int x3), .val (.int x4), .val (.ref b9), .val (.int r1), .unset, .unset, .unset, .unset, .unset, .unset, .unset, .unset, .unset, .unset, .unset, .unset, .unset, .unset, .unset, .unset, .unset, .unset, .unset, .unset, .unset]) rfl ?_
    show Steps p.tables e below (T11.setTop (mkF m 42 #[.val (.int p1), .val (.int p2), .val (.int p3), .val (.int p4), .val (.int x1), .val (.int x2), .val (.int x3), .val (.int x4), .val (.ref b9), .val (.int r1), .unset, .unset, .unset, .unset, .unset, .unset, .unset, .unset, .unset, .unset, .unset, .unset, .unset, .unset, .unset, .unset, .unset, .unset, .unset, .unset, .unset] [])) _
    refine XS.aload X11.here hx rfl (hb hby at_42) rfl rfl ?_
    show Steps p.tables e below (T11.setTop (mkF m 44 #[.val (.int p1), .val (.int p2), .val (.int p3), .val (.int p4), .val (.int x1), .val (.int x2), .val (.int x3), .val (.int x4), .val (.ref b9), .val (.int r1), .unset, .unset, .unset, .unset, .unset, .unset, .unset, .unset, .unset, .unset, .unset, .unset, .unset, .unset, .unset, .unset, .unset, .unset, .unset, .unset, .unset] [(.ref b9)])) _
    refine XS.iload X11.here hx rfl (hb hby at_44) rfl ?_
    show Steps p.tables e below (T11.setTop (mkF m 46 #[.val (.int p1), .val (.int p2), .val (.int p3), .val (.int p4), .val (.int x1), .val (.int x2), .val (.int x3), .val (.int x4), .val (.ref b9), .val (.int r1), .unset, .unset, .unset, .unset, .unset, .unset, .unset, .unset, .unset, .unset, .unset, .unset, .unset, .unset, .unset, .unset, .unset, .unset, .unset, .unset, .unset] [(.int x2), (.ref b9)])) _
    refine st12.trans ?_
    show Steps p.tables e below (T12.setTop (mkF m 49 #[.val (.int p1), .val (.int p2), .val (.int p3), .val (.int p4), .val (.int x1), .val (.int x2), .val (.int x3), .val (.int x4), .val (.ref b9), .val (.int r1), .unset, .unset, .unset, .unset, .unset, .unset, .unset, .unset, .unset, .unset, .unset, .unset, .unset, .unset, .unset, .unset, .unset, .unset, .unset, .unset, .unset] [(.int r2)])) _
    refine XS.istore X12.here hx rfl (hb hby at_49) rfl (l' := #[.val (.int p1), .val (.int p2), .val (.int p3), .val (.int p4), .val (.int x1), .val (.int x2), .val (.int x3), .val (.int x4), .val (.ref b9), .val (.int r1), .val (.int r2), .unset, .unset, .unset, .unset, .unset, .unset, .unset, .unset, .unset, .unset, .unset, .unset, .unset, .unset, .unset, .unset, .unset, .unset, .unset, .unset]) rfl ?_
    show Steps p.tables e below (T12.setTop (mkF m 51 #[.val (.int p1), .val (.int p2), .val (.int p3), .val (.int p4), .val (.int x1), .val (.int x2), .val (.int x3), .val (.int x4), .val (.ref b9), .val (.int r1), .val (.int r2), .unset, .unset, .unset, .unset, .unset, .unset, .unset, .unset, .unset, .unset, .unset, .unset, .unset, .unset, .unset, .unset, .unset, .unset, .unset, .unset] [])) _
    refine XS.aload X12.here hx rfl (hb hby at_51) rfl rfl ?_
    show Steps p.tables e below (T12.setTop (mkF m 53 #[.val (.int p1), .val (.int p2), .val (.int p3), .val (.int p4), .val (.int x1), .val (.int x2), .val (.int x3), .val (.int x4), .val (.ref b9), .val (.int r1), .val (.int r2), .unset, .unset, .unset, .unset, .unset, .unset, .unset, .unset, .unset, .unset, .unset, .unset, .unset, .unset, .unset, .unset, .unset, .unset, .unset, .unset] [(.ref b9)])) _
    refine XS.iload X12.here hx rfl (hb hby at_53) rfl ?_
    show Steps p.tables e below (T12.setTop (mkF m 55 #[.val (.int p1), .val (.int p2), .val (.int p3), .val (.int p4), .val (.int x1), .val (.int x2), .val (.int x3), .val (.int x4), .val (.ref b9), .val (.int r1), .val (.int r2), .unset, .unset, .unset, .unset, .unset, .unset, .unset, .unset, .unset, .unset, .unset, .unset, .unset, .unset, .unset, .unset, .unset, .unset, .unset, .unset] [(.int x3), (.ref b9)])) _
    refine st13.trans ?_
    show Steps p.tables e below (T13.setTop (mkF m 58 #[.val (.int p1), .val (.int p2), .val (.int p3), .val (.int p4), .val (.int x1), .val (.int x2), .val (.int x3), .val (.int x4), .val (.ref b9), .val (.int r1), .val (.int r2), .unset, .unset, .unset, .unset, .unset, .unset, .unset, .unset, .unset, .unset, .unset, .unset, .unset, .unset, .unset, .unset, .unset, .unset, .unset, .unset] [(.int r3)])) _
    refine XS.istore X13.here hx rfl (hb hby at_58) rfl (l' := #[.val (.int p1), .val (.int p2), .val (.int p3), .val (.int p4), .val (.int x1), .val (.int x2), .val (.int x3), .val (.int x4), .val (.ref b9), .val (.int r1), .val (.int r2), .val (.int r3), .unset, .unset, .unset, .unset, .unset, .unset, .unset, .unset, .unset, .unset, .unset, .unset, .unset, .unset, .unset, .unset, .unset, .unset, .unset]) rfl ?_
    show Steps p.tables e below (T13.setTop (mkF m 60 #[.val (.int p1), .val (.int p2), .val (.int p3), .val (.int p4), .val (.int x1), .val (.int x2), .val (.int x3), .val (.int x4), .val (.ref b9), .val (.int r1), .val (.int r2), .val (.int r3), .unset, .unset, .unset, .unset, .unset, .unset, .unset, .unset, .unset, .unset, .unset, .unset, .unset, .unset, .unset, .unset, .unset, .unset, .unset] [])) _
    refine XS.aload X13.here hx rfl (hb hby at_60) rfl rfl ?_
    show Steps p.tables e below (T13.setTop (mkF m 62 #[.val (.int p1), .val (.int p2), .val (.int p3), .val (.int p4), .val (.int x1), .val (.int x2), .val (.int x3), .val (.int x4), .val (.ref b9), .val (.int r1), .val (.int r2), .val (.int r3), .unset, .unset, .unset, .unset, .unset, .unset, .unset, .unset, .unset, .unset, .unset, .unset, .unset, .unset, .unset, .unset, .unset, .unset, .unset] [(.ref b9)])) _
    refine XS.iload X13.here hx rfl (hb hby at_62) rfl ?_
    show Steps p.tables e below (T13.setTop (mkF m 64 #[.val (.int p1), .val (.int p2), .val (.int p3), .val (.int p4), .val (.int x1), .val (.int x2), .val (.int x3), .val (.int x4), .val (.ref b9), .val (.int r1), .val (.int r2), .val (.int r3), .unset, .unset, .unset, .unset, .unset, .unset, .unset, .unset, .unset, .unset, .unset, .unset, .unset, .unset, .unset, .unset, .unset, .unset, .unset] [(.int x4), (.ref b9)])) _
    refine st14.trans ?_
    show Steps p.tables e below (T14.setTop (mkF m 67 #[.val (.int p1), .val (.int p2), .val (.int p3), .val (.int p4), .val (.int x1), .val (.int x2), .val (.int x3), .val (.int x4), .val (.ref b9), .val (.int r1), .val (.int r2), .val (.int r3), .unset, .unset, .unset, .unset, .unset, .unset, .unset, .unset, .unset, .unset, .unset, .unset, .unset, .unset, .unset, .unset, .unset, .unset, .unset] [(.int r4)])) _
    refine XS.istore X14.here hx rfl (hb hby at_67) rfl (l' := #[.val (.int p1), .val (.int p2), .val (.int p3), .val (.int p4), .val (.int x1), .val (.int x2), .val (.int x3), .val (.int x4), .val (.ref b9), .val (.int r1), .val (.int r2), .val (.int r3), .val (.int r4), .unset, .unset, .unset, .unset, .unset, .unset, .unset, .unset, .unset, .unset, .unset, .unset, .unset, .unset, .unset, .unset, .unset, .unset]) rfl ?_
    show Steps p.tables e below (T14.setTop (mkF m 69 #[.val (.int p1), .val (.int p2), .val (.int p3), .val (.int p4), .val (.int x1), .val (.int x2), .val (.int x3), .val (.int x4), .val (.ref b9), .val (.int r1), .val (.int r2), .val (.int r3), .val (.int r4), .unset, .unset, .unset, .unset, .unset, .unset, .unset, .unset, .unset, .unset, .unset, .unset, .unset, .unset, .unset, .unset, .unset, .unset] [])) _
    refine XS.aload X14.here hx rfl (hb hby at_69) rfl rfl ?_
    show Steps p.tables e below (T14.setTop (mkF m 71 #[.val (.int p1), .val (.int p2), .val (.int p3), .val (.int p4), .val (.int x1), .val (.int x2), .val (.int x3), .val (.int x4), .val (.ref b9), .val (.int r1), .val (.int r2), .val (.int r3), .val (.int r4), .unset, .unset, .unset, .unset, .unset, .unset, .unset, .unset, .unset, .unset, .unset, .unset, .unset, .unset, .unset, .unset, .unset, .unset] [(.ref b9)])) _
    refine st15.trans ?_
    show Steps p.tables e below (T15.setTop (mkF m 74 #[.val (.int p1), .val (.int p2), .val (.int p3), .val (.int p4), .val (.int x1), .val (.int x2), .val (.int x3), .val (.int x4), .val (.ref b9), .val (.int r1), .val (.int r2), .val (.int r3), .val (.int r4), .unset, .unset, .unset, .unset, .unset, .unset, .unset, .unset, .unset, .unset, .unset, .unset, .unset, .unset, .unset, .unset, .unset, .unset] [(.int o5)])) _
    refine XS.istore X15.here hx rfl (hb hby at_74) rfl (l' := #[.val (.int p1), .val (.int p2), .val (.int p3), .val (.int p4), .val (.int x1), .val (.int x2), .val (.int x3), .val (.int x4), .val (.ref b9), .val (.int r1), .val (.int r2), .val (.int r3), .val (.int r4), .val (.int o5), .unset, .unset, .unset, .unset, .unset, .unset, .unset, .unset, .unset, .unset, .unset, .unset, .unset, .unset, .unset, .unset, .unset]) rfl ?_
    show Steps p.tables e below (T15.setTop (mkF m 76 #[.val (.int p1), .val (.int p2), .val (.int p3), .val (.int p4), .val (.int x1), .val (.int x2), .val (.int x3), .val (.int x4), .val (.ref b9), .val (.int r1), .val (.int r2), .val (.int r3), .val (.int r4), .val (.int o5), .unset, .unset, .unset, .unset, .unset, .unset, .unset, .unset, .unset, .unset, .unset, .unset, .unset, .unset, .unset, .unset, .unset] [])) _
    refine X15.ldc2Long hx hown (mvT hZ (hw _ (List.mem_of_getElem? (i := 29) rfl))) (g := (mkF m 76 #[.val (.int p1), .val (.int p2), .val (.int p3), .val (.int p4), .val (.int x1), .val (.int x2), .val (.int x3), .val (.int x4), .val (.ref b9), .val (.int r1), .val (.int r2), .val (.int r3), .val (.int r4), .val (.int o5), .unset, .unset, .unset, .unset, .unset, .unset, .unset, .unset, .unset, .unset, .unset, .unset, .unset, .unset, .unset, .unset, .unset] [])) rfl (hb hby at_76) _ ?_
    show Steps p.tables e below (T15.setTop (mkF m 79 #[.val (.int p1), .val (.int p2), .val (.int p3), .val (.int p4), .val (.int x1), .val (.int x2), .val (.int x3), .val (.int x4), .val (.ref b9), .val (.int r1), .val (.int r2), .val (.int r3), .val (.int r4), .val (.int o5), .unset, .unset, .unset, .unset, .unset, .unset, .unset, .unset, .unset, .unset, .unset, .unset, .unset, .unset, .unset, .unset, .unset] [(.long (100000 : Int64))])) _
    refine XS.lstore X15.here hx rfl (hb hby at_79) rfl (l' := #[.val (.int p1), .val (.int p2), .val (.int p3), .val (.int p4), .val (.int x1), .val (.int x2), .val (.int x3), .val (.int x4), .val (.ref b9), .val (.int r1), .val (.int r2), .val (.int r3), .val (.int r4), .val (.int o5), .val (.long (100000 : Int64)), .second, .unset, .unset, .unset, .unset, .unset, .unset, .unset, .unset, .unset, .unset, .unset, .unset, .unset, .unset, .unset]) rfl ?_
    show Steps p.tables e below (T15.setTop (mkF m 81 #[.val (.int p1), .val (.int p2), .val (.int p3), .val (.int p4), .val (.int x1), .val (.int x2), .val (.int x3), .val (.int x4), .val (.ref b9), .val (.int r1), .val (.int r2), .val (.int r3), .val (.int r4), .val (.int o5), .val (.long (100000 : Int64)), .second, .unset, .unset, .unset, .unset, .unset, .unset, .unset, .unset, .unset, .unset, .unset, .unset, .unset, .unset, .unset] [])) _
    refine XS.iload X15.here hx rfl (hb hby at_81) rfl ?_
    show Steps p.tables e below (T15.setTop (mkF m 83 #[.val (.int p1), .val (.int p2), .val (.int p3), .val (.int p4), .val (.int x1), .val (.int x2), .val (.int x3), .val (.int x4), .val (.ref b9), .val (.int r1), .val (.int r2), .val (.int r3), .val (.int r4), .val (.int o5), .val (.long (100000 : Int64)), .second, .unset, .unset, .unset, .unset, .unset, .unset, .unset, .unset, .unset, .unset, .unset, .unset, .unset, .unset, .unset] [(.int x1)])) _
    refine XS.i2l X15.here hx rfl (hb hby at_83) rfl ?_
    show Steps p.tables e below (T15.setTop (mkF m 84 #[.val (.int p1), .val (.int p2), .val (.int p3), .val (.int p4), .val (.int x1), .val (.int x2), .val (.int x3), .val (.int x4), .val (.ref b9), .val (.int r1), .val (.int r2), .val (.int r3), .val (.int r4), .val (.int o5), .val (.long (100000 : Int64)), .second, .unset, .unset, .unset, .unset, .unset, .unset, .unset, .unset, .unset, .unset, .unset, .unset, .unset, .unset, .unset] [(.long (x1.toInt64))])) _
    rw [← hs1]
    show Steps p.tables e below (T15.setTop (mkF m 84 #[.val (.int p1), .val (.int p2), .val (.int p3), .val (.int p4), .val (.int x1), .val (.int x2), .val (.int x3), .val (.int x4), .val (.ref b9), .val (.int r1), .val (.int r2), .val (.int r3), .val (.int r4), .val (.int o5), .val (.long (100000 : Int64)), .second, .unset, .unset, .unset, .unset, .unset, .unset, .unset, .unset, .unset, .unset, .unset, .unset, .unset, .unset, .unset] [(.long s1)])) _
    refine XS.lstore X15.here hx rfl (hb hby at_84) rfl (l' := #[.val (.int p1), .val (.int p2), .val (.int p3), .val (.int p4), .val (.int x1), .val (.int x2), .val (.int x3), .val (.int x4), .val (.ref b9), .val (.int r1), .val (.int r2), .val (.int r3), .val (.int r4), .val (.int o5), .val (.long (100000 : Int64)), .second, .val (.long s1), .second, .unset, .unset, .unset, .unset, .unset, .unset, .unset, .unset, .unset, .unset, .unset, .unset, .unset]) rfl ?_
    show Steps p.tables e below (T15.setTop (mkF m 86 #[.val (.int p1), .val (.int p2), .val (.int p3), .val (.int p4), .val (.int x1), .val (.int x2), .val (.int x3), .val (.int x4), .val (.ref b9), .val (.int r1), .val (.int r2), .val (.int r3), .val (.int r4), .val (.int o5), .val (.long (100000 : Int64)), .second, .val (.long s1), .second, .unset, .unset, .unset, .unset, .unset, .unset, .unset, .unset, .unset, .unset, .unset, .unset, .unset] [])) _
    refine XS.lload X15.here hx rfl (hb hby at_86) rfl ?_
    show Steps p.tables e below (T15.setTop (mkF m 88 #[.val (.int p1), .val (.int p2), .val (.int p3), .val (.int p4), .val (.int x1), .val (.int x2), .val (.int x3), .val (.int x4), .val (.ref b9), .val (.int r1), .val (.int r2), .val (.int r3), .val (.int r4), .val (.int o5), .val (.long (100000 : Int64)), .second, .val (.long s1), .second, .unset, .unset, .unset, .unset, .unset, .unset, .unset, .unset, .unset, .unset, .unset, .unset, .unset] [(.long s1)])) _
    refine XS.iload X15.here hx rfl (hb hby at_88) rfl ?_
    show Steps p.tables e below (T15.setTop (mkF m 90 #[.val (.int p1), .val (.int p2), .val (.int p3), .val (.int p4), .val (.int x1), .val (.int x2), .val (.int x3), .val (.int x4), .val (.ref b9), .val (.int r1), .val (.int r2), .val (.int r3), .val (.int r4), .val (.int o5), .val (.long (100000 : Int64)), .second, .val (.long s1), .second, .unset, .unset, .unset, .unset, .unset, .unset, .unset, .unset, .unset, .unset, .unset, .unset, .unset] [(.int x2), (.long s1)])) _
    refine XS.i2l X15.here hx rfl (hb hby at_90) rfl ?_
    show Steps p.tables e below (T15.setTop (mkF m 91 #[.val (.int p1), .val (.int p2), .val (.int p3), .val (.int p4), .val (.int x1), .val (.int x2), .val (.int x3), .val (.int x4), .val (.ref b9), .val (.int r1), .val (.int r2), .val (.int r3), .val (.int r4), .val (.int o5), .val (.long (100000 : Int64)), .second, .val (.long s1), .second, .unset, .unset, .unset, .unset, .unset, .unset, .unset, .unset, .unset, .unset, .unset, .unset, .unset] [(.long (x2.toInt64)), (.long s1)])) _
    refine XS.ladd X15.here hx rfl (hb hby at_91) rfl ?_
    show Steps p.tables e below (T15.setTop (mkF m 92 #[.val (.int p1), .val (.int p2), .val (.int p3), .val (.int p4), .val (.int x1), .val (.int x2), .val (.int x3), .val (.int x4), .val (.ref b9), .val (.int r1), .val (.int r2), .val (.int r3), .val (.int r4), .val (.int o5), .val (.long (100000 : Int64)), .second, .val (.long s1), .second, .unset, .unset, .unset, .unset, .unset, .unset, .unset, .unset, .unset, .unset, .unset, .unset, .unset] [(.long (s1 + (x2.toInt64)))])) _
    rw [← hs2]
    show Steps p.tables e below (T15.setTop (mkF m 92 #[.val (.int p1), .val (.int p2), .val (.int p3), .val (.int p4), .val (.int x1), .val (.int x2), .val (.int x3), .val (.int x4), .val (.ref b9), .val (.int r1), .val (.int r2), .val (.int r3), .val (.int r4), .val (.int o5), .val (.long (100000 : Int64)), .second, .val (.long s1), .second, .unset, .unset, .unset, .unset, .unset, .unset, .unset, .unset, .unset, .unset, .unset, .unset, .unset] [(.long s2)])) _
    refine XS.lstore X15.here hx rfl (hb hby at_92) rfl (l' := #[.val (.int p1), .val (.int p2), .val (.int p3), .val (.int p4), .val (.int x1), .val (.int x2), .val (.int x3), .val (.int x4), .val (.ref b9), .val (.int r1), .val (.int r2), .val (.int r3), .val (.int r4), .val (.int o5), .val (.long (100000 : Int64)), .second, .val (.long s1), .second, .val (.long s2), .second, .unset, .unset, .unset, .unset, .unset, .unset, .unset, .unset, .unset, .unset, .unset]) rfl ?_
    show Steps p.tables e below (T15.setTop (mkF m 94 #[.val (.int p1), .val (.int p2), .val (.int p3), .val (.int p4), .val (.int x1), .val (.int x2), .val (.int x3), .val (.int x4), .val (.ref b9), .val (.int r1), .val (.int r2), .val (.int r3), .val (.int r4), .val (.int o5), .val (.long (100000 : Int64)), .second, .val (.long s1), .second, .val (.long s2), .second, .unset, .unset, .unset, .unset, .unset, .unset, .unset, .unset, .unset, .unset, .unset] [])) _
    refine XS.lload X15.here hx rfl (hb hby at_94) rfl ?_
    show Steps p.tables e below (T15.setTop (mkF m 96 #[.val (.int p1), .val (.int p2), .val (.int p3), .val (.int p4), .val (.int x1), .val (.int x2), .val (.int x3), .val (.int x4), .val (.ref b9), .val (.int r1), .val (.int r2), .val (.int r3), .val (.int r4), .val (.int o5), .val (.long (100000 : Int64)), .second, .val (.long s1), .second, .val (.long s2), .second, .unset, .unset, .unset, .unset, .unset, .unset, .unset, .unset, .unset, .unset, .unset] [(.long s2)])) _
    refine XS.iload X15.here hx rfl (hb hby at_96) rfl ?_
    show Steps p.tables e below (T15.setTop (mkF m 98 #[.val (.int p1), .val (.int p2), .val (.int p3), .val (.int p4), .val (.int x1), .val (.int x2), .val (.int x3), .val (.int x4), .val (.ref b9), .val (.int r1), .val (.int r2), .val (.int r3), .val (.int r4), .val (.int o5), .val (.long (100000 : Int64)), .second, .val (.long s1), .second, .val (.long s2), .second, .unset, .unset, .unset, .unset, .unset, .unset, .unset, .unset, .unset, .unset, .unset] [(.int x3), (.long s2)])) _
    refine XS.i2l X15.here hx rfl (hb hby at_98) rfl ?_
    show Steps p.tables e below (T15.setTop (mkF m 99 #[.val (.int p1), .val (.int p2), .val (.int p3), .val (.int p4), .val (.int x1), .val (.int x2), .val (.int x3), .val (.int x4), .val (.ref b9), .val (.int r1), .val (.int r2), .val (.int r3), .val (.int r4), .val (.int o5), .val (.long (100000 : Int64)), .second, .val (.long s1), .second, .val (.long s2), .second, .unset, .unset, .unset, .unset, .unset, .unset, .unset, .unset, .unset, .unset, .unset] [(.long (x3.toInt64)), (.long s2)])) _
    refine XS.ladd X15.here hx rfl (hb hby at_99) rfl ?_
    show Steps p.tables e below (T15.setTop (mkF m 100 #[.val (.int p1), .val (.int p2), .val (.int p3), .val (.int p4), .val (.int x1), .val (.int x2), .val (.int x3), .val (.int x4), .val (.ref b9), .val (.int r1), .val (.int r2), .val (.int r3), .val (.int r4), .val (.int o5), .val (.long (100000 : Int64)), .second, .val (.long s1), .second, .val (.long s2), .second, .unset, .unset, .unset, .unset, .unset, .unset, .unset, .unset, .unset, .unset, .unset] [(.long (s2 + (x3.toInt64)))])) _
    rw [← hs3]
    show Steps p.tables e below (T15.setTop (mkF m 100 #[.val (.int p1), .val (.int p2), .val (.int p3), .val (.int p4), .val (.int x1), .val (.int x2), .val (.int x3), .val (.int x4), .val (.ref b9), .val (.int r1), .val (.int r2), .val (.int r3), .val (.int r4), .val (.int o5), .val (.long (100000 : Int64)), .second, .val (.long s1), .second, .val (.long s2), .second, .unset, .unset, .unset, .unset, .unset, .unset, .unset, .unset, .unset, .unset, .unset] [(.long s3)])) _
    refine XS.lstore X15.here hx rfl (hb hby at_100) rfl (l' := #[.val (.int p1), .val (.int p2), .val (.int p3), .val (.int p4), .val (.int x1), .val (.int x2), .val (.int x3), .val (.int x4), .val (.ref b9), .val (.int r1), .val (.int r2), .val (.int r3), .val (.int r4), .val (.int o5), .val (.long (100000 : Int64)), .second, .val (.long s1), .second, .val (.long s2), .second, .val (.long s3), .second, .unset, .unset, .unset, .unset, .unset, .unset, .unset, .unset, .unset]) rfl ?_
    show Steps p.tables e below (T15.setTop (mkF m 102 #[.val (.int p1), .val (.int p2), .val (.int p3), .val (.int p4), .val (.int x1), .val (.int x2), .val (.int x3), .val (.int x4), .val (.ref b9), .val (.int r1), .val (.int r2), .val (.int r3), .val (.int r4), .val (.int o5), .val (.long (100000 : Int64)), .second, .val (.long s1), .second, .val (.long s2), .second, .val (.long s3), .second, .unset, .unset, .unset, .unset, .unset, .unset, .unset, .unset, .unset] [])) _
    refine XS.lload X15.here hx rfl (hb hby at_102) rfl ?_
    show Steps p.tables e below (T15.setTop (mkF m 104 #[.val (.int p1), .val (.int p2), .val (.int p3), .val (.int p4), .val (.int x1), .val (.int x2), .val (.int x3), .val (.int x4), .val (.ref b9), .val (.int r1), .val (.int r2), .val (.int r3), .val (.int r4), .val (.int o5), .val (.long (100000 : Int64)), .second, .val (.long s1), .second, .val (.long s2), .second, .val (.long s3), .second, .unset, .unset, .unset, .unset, .unset, .unset, .unset, .unset, .unset] [(.long s3)])) _
    refine XS.iload X15.here hx rfl (hb hby at_104) rfl ?_
    show Steps p.tables e below (T15.setTop (mkF m 106 #[.val (.int p1), .val (.int p2), .val (.int p3), .val (.int p4), .val (.int x1), .val (.int x2), .val (.int x3), .val (.int x4), .val (.ref b9), .val (.int r1), .val (.int r2), .val (.int r3), .val (.int r4), .val (.int o5), .val (.long (100000 : Int64)), .second, .val (.long s1), .second, .val (.long s2), .second, .val (.long s3), .second, .unset, .unset, .unset, .unset, .unset, .unset, .unset, .unset, .unset] [(.int x4), (.long s3)])) _
    refine XS.i2l X15.here hx rfl (hb hby at_106) rfl ?_
    show Steps p.tables e below (T15.setTop (mkF m 107 #[.val (.int p1), .val (.int p2), .val (.int p3), .val (.int p4), .val (.int x1), .val (.int x2), .val (.int x3), .val (.int x4), .val (.ref b9), .val (.int r1), .val (.int r2), .val (.int r3), .val (.int r4), .val (.int o5), .val (.long (100000 : Int64)), .second, .val (.long s1), .second, .val (.long s2), .second, .val (.long s3), .second, .unset, .unset, .unset, .unset, .unset, .unset, .unset, .unset, .unset] [(.long (x4.toInt64)), (.long s3)])) _
    refine XS.ladd X15.here hx rfl (hb hby at_107) rfl ?_
    show Steps p.tables e below (T15.setTop (mkF m 108 #[.val (.int p1), .val (.int p2), .val (.int p3), .val (.int p4), .val (.int x1), .val (.int x2), .val (.int x3), .val (.int x4), .val (.ref b9), .val (.int r1), .val (.int r2), .val (.int r3), .val (.int r4), .val (.int o5), .val (.long (100000 : Int64)), .second, .val (.long s1), .second, .val (.long s2), .second, .val (.long s3), .second, .unset, .unset, .unset, .unset, .unset, .unset, .unset, .unset, .unset] [(.long (s3 + (x4.toInt64)))])) _
    rw [← hs4]
    show Steps p.tables e below (T15.setTop (mkF m 108 #[.val (.int p1), .val (.int p2), .val (.int p3), .val (.int p4), .val (.int x1), .val (.int x2), .val (.int x3), .val (.int x4), .val (.ref b9), .val (.int r1), .val (.int r2), .val (.int r3), .val (.int r4), .val (.int o5), .val (.long (100000 : Int64)), .second, .val (.long s1), .second, .val (.long s2), .second, .val (.long s3), .second, .unset, .unset, .unset, .unset, .unset, .unset, .unset, .unset, .unset] [(.long s4)])) _
    refine XS.lstore X15.here hx rfl (hb hby at_108) rfl (l' := #[.val (.int p1), .val (.int p2), .val (.int p3), .val (.int p4), .val (.int x1), .val (.int x2), .val (.int x3), .val (.int x4), .val (.ref b9), .val (.int r1), .val (.int r2), .val (.int r3), .val (.int r4), .val (.int o5), .val (.long (100000 : Int64)), .second, .val (.long s1), .second, .val (.long s2), .second, .val (.long s3), .second, .val (.long s4), .second, .unset, .unset, .unset, .unset, .unset, .unset, .unset]) rfl ?_
    show Steps p.tables e below (T15.setTop (mkF m 110 #[.val (.int p1), .val (.int p2), .val (.int p3), .val (.int p4), .val (.int x1), .val (.int x2), .val (.int x3), .val (.int x4), .val (.ref b9), .val (.int r1), .val (.int r2), .val (.int r3), .val (.int r4), .val (.int o5), .val (.long (100000 : Int64)), .second, .val (.long s1), .second, .val (.long s2), .second, .val (.long s3), .second, .val (.long s4), .second, .unset, .unset, .unset, .unset, .unset, .unset, .unset] [])) _
    refine g110 X15 hx hby he1 ?_
    show Steps p.tables e below (T15.setTop (mkF m 123 #[.val (.int p1), .val (.int p2), .val (.int p3), .val (.int p4), .val (.int x1), .val (.int x2), .val (.int x3), .val (.int x4), .val (.ref b9), .val (.int r1), .val (.int r2), .val (.int r3), .val (.int r4), .val (.int o5), .val (.long (100000 : Int64)), .second, .val (.long s1), .second, .val (.long s2), .second, .val (.long s3), .second, .val (.long s4), .second, .unset, .unset, .unset, .unset, .unset, .unset, .unset] [(.int e1)])) _
    refine XS.istore X15.here hx rfl (hb hby at_123) rfl (l' := #[.val (.int p1), .val (.int p2), .val (.int p3), .val (.int p4), .val (.int x1), .val (.int x2), .val (.int x3), .val (.int x4), .val (.ref b9), .val (.int r1), .val (.int r2), .val (.int r3), .val (.int r4), .val (.int o5), .val (.long (100000 : Int64)), .second, .val (.long s1), .second, .val (.long s2), .second, .val (.long s3), .second, .val (.long s4), .second, .val (.int e1), .unset, .unset, .unset, .unset, .unset, .unset]) rfl ?_
    show Steps p.tables e below (T15.setTop (mkF m 125 #[.val (.int p1), .val (.int p2), .val (.int p3), .val (.int p4), .val (.int x1), .val (.int x2), .val (.int x3), .val (.int x4), .val (.ref b9), .val (.int r1), .val (.int r2), .val (.int r3), .val (.int r4), .val (.int o5), .val (.long (100000 : Int64)), .second, .val (.long s1), .second, .val (.long s2), .second, .val (.long s3), .second, .val (.long s4), .second, .val (.int e1), .unset, .unset, .unset, .unset, .unset, .unset] [])) _
    refine g125 X15 hx hby he2 ?_
    show Steps p.tables e below (T15.setTop (mkF m 156 #[.val (.int p1), .val (.int p2), .val (.int p3), .val (.int p4), .val (.int x1), .val (.int x2), .val (.int x3), .val (.int x4), .val (.ref b9), .val (.int r1), .val (.int r2), .val (.int r3), .val (.int r4), .val (.int o5), .val (.long (100000 : Int64)), .second, .val (.long s1), .second, .val (.long s2), .second, .val (.long s3), .second, .val (.long s4), .second, .val (.int e1), .unset, .unset, .unset, .unset, .unset, .unset] [(.int e2)])) _
    refine XS.istore X15.here hx rfl (hb hby at_156) rfl (l' := #[.val (.int p1), .val (.int p2), .val (.int p3), .val (.int p4), .val (.int x1), .val (.int x2), .val (.int x3), .val (.int x4), .val (.ref b9), .val (.int r1), .val (.int r2), .val (.int r3), .val (.int r4), .val (.int o5), .val (.long (100000 : Int64)), .second, .val (.long s1), .second, .val (.long s2), .second, .val (.long s3), .second, .val (.long s4), .second, .val (.int e1), .val (.int e2), .unset, .unset, .unset, .unset, .unset]) rfl ?_
    show Steps p.tables e below (T15.setTop (mkF m 158 #[.val (.int p1), .val (.int p2), .val (.int p3), .val (.int p4), .val (.int x1), .val (.int x2), .val (.int x3), .val (.int x4), .val (.ref b9), .val (.int r1), .val (.int r2), .val (.int r3), .val (.int r4), .val (.int o5), .val (.long (100000 : Int64)), .second, .val (.long s1), .second, .val (.long s2), .second, .val (.long s3), .second, .val (.long s4), .second, .val (.int e1), .val (.int e2), .unset, .unset, .unset, .unset, .unset] [])) _
    refine g158 X15 hx hby hk2 ?_
    show Steps p.tables e below (T15.setTop (mkF m 173 #[.val (.int p1), .val (.int p2), .val (.int p3), .val (.int p4), .val (.int x1), .val (.int x2), .val (.int x3), .val (.int x4), .val (.ref b9), .val (.int r1), .val (.int r2), .val (.int r3), .val (.int r4), .val (.int o5), .val (.long (100000 : Int64)), .second, .val (.long s1), .second, .val (.long s2), .second, .val (.long s3), .second, .val (.long s4), .second, .val (.int e1), .val (.int e2), .unset, .unset, .unset, .unset, .unset] [(.int k2)])) _
    refine XS.istore X15.here hx rfl (hb hby at_173) rfl (l' := #[.val (.int p1), .val (.int p2), .val (.int p3), .val (.int p4), .val (.int x1), .val (.int x2), .val (.int x3), .val (.int x4), .val (.ref b9), .val (.int r1), .val (.int r2), .val (.int r3), .val (.int r4), .val (.int o5), .val (.long (100000 : Int64)), .second, .val (.long s1), .second, .val (.long s2), .second, .val (.long s3), .second, .val (.long s4), .second, .val (.int e1), .val (.int e2), .val (.int k2), .unset, .unset, .unset, .unset]) rfl ?_
    show Steps p.tables e below (T15.setTop (mkF m 175 #[.val (.int p1), .val (.int p2), .val (.int p3), .val (.int p4), .val (.int x1), .val (.int x2), .val (.int x3), .val (.int x4), .val (.ref b9), .val (.int r1), .val (.int r2), .val (.int r3), .val (.int r4), .val (.int o5), .val (.long (100000 : Int64)), .second, .val (.long s1), .second, .val (.long s2), .second, .val (.long s3), .second, .val (.long s4), .second, .val (.int e1), .val (.int e2), .val (.int k2), .unset, .unset, .unset, .unset] [])) _
    refine g175 X15 hx hby he3 ?_
    show Steps p.tables e below (T15.setTop (mkF m 206 #[.val (.int p1), .val (.int p2), .val (.int p3), .val (.int p4), .val (.int x1), .val (.int x2), .val (.int x3), .val (.int x4), .val (.ref b9), .val (.int r1), .val (.int r2), .val (.int r3), .val (.int r4), .val (.int o5), .val (.long (100000 : Int64)), .second, .val (.long s1), .second, .val (.long s2), .second, .val (.long s3), .second, .val (.long s4), .second, .val (.int e1), .val (.int e2), .val (.int k2), .unset, .unset, .unset, .unset] [(.int e3)])) _
    refine XS.istore X15.here hx rfl (hb hby at_206) rfl (l' := #[.val (.int p1), .val (.int p2), .val (.int p3), .val (.int p4), .val (.int x1), .val (.int x2), .val (.int x3), .val (.int x4), .val (.ref b9), .val (.int r1), .val (.int r2), .val (.int r3), .val (.int r4), .val (.int o5), .val (.long (100000 : Int64)), .second, .val (.long s1), .second, .val (.long s2), .second, .val (.long s3), .second, .val (.long s4), .second, .val (.int e1), .val (.int e2), .val (.int k2), .val (.int e3), .unset, .unset, .unset]) rfl ?_
    show Steps p.tables e below (T15.setTop (mkF m 208 #[.val (.int p1), .val (.int p2), .val (.int p3), .val (.int p4), .val (.int x1), .val (.int x2), .val (.int x3), .val (.int x4), .val (.ref b9), .val (.int r1), .val (.int r2), .val (.int r3), .val (.int r4), .val (.int o5), .val (.long (100000 : Int64)), .second, .val (.long s1), .second, .val (.long s2), .second, .val (.long s3), .second, .val (.long s4), .second, .val (.int e1), .val (.int e2), .val (.int k2), .val (.int e3), .unset, .unset, .unset] [])) _
    refine g208 X15 hx hby hk3 ?_
    show Steps p.tables e below (T15.setTop (mkF m 223 #[.val (.int p1), .val (.int p2), .val (.int p3), .val (.int p4), .val (.int x1), .val (.int x2), .val (.int x3), .val (.int x4), .val (.ref b9), .val (.int r1), .val (.int r2), .val (.int r3), .val (.int r4), .val (.int o5), .val (.long (100000 : Int64)), .second, .val (.long s1), .second, .val (.long s2), .second, .val (.long s3), .second, .val (.long s4), .second, .val (.int e1), .val (.int e2), .val (.int k2), .val (.int e3), .unset, .unset, .unset] [(.int k3)])) _
    refine XS.istore X15.here hx rfl (hb hby at_223) rfl (l' := #[.val (.int p1), .val (.int p2), .val (.int p3), .val (.int p4), .val (.int x1), .val (.int x2), .val (.int x3), .val (.int x4), .val (.ref b9), .val (.int r1), .val (.int r2), .val (.int r3), .val (.int r4), .val (.int o5), .val (.long (100000 : Int64)), .second, .val (.long s1), .second, .val (.long s2), .second, .val (.long s3), .second, .val (.long s4), .second, .val (.int e1), .val (.int e2), .val (.int k2), .val (.int e3), .val (.int k3), .unset, .unset]) rfl ?_
    show Steps p.tables e below (T15.setTop (mkF m 225 #[.val (.int p1), .val (.int p2), .val (.int p3), .val (.int p4), .val (.int x1), .val (.int x2), .val (.int x3), .val (.int x4), .val (.ref b9), .val (.int r1), .val (.int r2), .val (.int r3), .val (.int r4), .val (.int o5), .val (.long (100000 : Int64)), .second, .val (.long s1), .second, .val (.long s2), .second, .val (.long s3), .second, .val (.long s4), .second, .val (.int e1), .val (.int e2), .val (.int k2), .val (.int e3), .val (.int k3), .unset, .unset] [])) _
    refine g225 X15 hx hby he4 ?_
    show Steps p.tables e below (T15.setTop (mkF m 256 #[.val (.int p1), .val (.int p2), .val (.int p3), .val (.int p4), .val (.int x1), .val (.int x2), .val (.int x3), .val (.int x4), .val (.ref b9), .val (.int r1), .val (.int r2), .val (.int r3), .val (.int r4), .val (.int o5), .val (.long (100000 : Int64)), .second, .val (.long s1), .second, .val (.long s2), .second, .val (.long s3), .second, .val (.long s4), .second, .val (.int e1), .val (.int e2), .val (.int k2), .val (.int e3), .val (.int k3), .unset, .unset] [(.int e4)])) _
    refine XS.istore X15.here hx rfl (hb hby at_256) rfl (l' := #[.val (.int p1), .val (.int p2), .val (.int p3), .val (.int p4), .val (.int x1), .val (.int x2), .val (.int x3), .val (.int x4), .val (.ref b9), .val (.int r1), .val (.int r2), .val (.int r3), .val (.int r4), .val (.int o5), .val (.long (100000 : Int64)), .second, .val (.long s1), .second, .val (.long s2), .second, .val (.long s3), .second, .val (.long s4), .second, .val (.int e1), .val (.int e2), .val (.int k2), .val (.int e3), .val (.int k3), .val (.int e4), .unset]) rfl ?_
    show Steps p.tables e below (T15.setTop (mkF m 258 #[.val (.int p1), .val (.int p2), .val (.int p3), .val (.int p4), .val (.int x1), .val (.int x2), .val (.int x3), .val (.int x4), .val (.ref b9), .val (.int r1), .val (.int r2), .val (.int r3), .val (.int r4), .val (.int o5), .val (.long (100000 : Int64)), .second, .val (.long s1), .second, .val (.long s2), .second, .val (.long s3), .second, .val (.long s4), .second, .val (.int e1), .val (.int e2), .val (.int k2), .val (.int e3), .val (.int k3), .val (.int e4), .unset] [])) _
    refine g258 X15 hx hby hk4 ?_
    show Steps p.tables e below (T15.setTop (mkF m 273 #[.val (.int p1), .val (.int p2), .val (.int p3), .val (.int p4), .val (.int x1), .val (.int x2), .val (.int x3), .val (.int x4), .val (.ref b9), .val (.int r1), .val (.int r2), .val (.int r3), .val (.int r4), .val (.int o5), .val (.long (100000 : Int64)), .second, .val (.long s1), .second, .val (.long s2), .second, .val (.long s3), .second, .val (.long s4), .second, .val (.int e1), .val (.int e2), .val (.int k2), .val (.int e3), .val (.int k3), .val (.int e4), .unset] [(.int k4)])) _
    refine XS.istore X15.here hx rfl (hb hby at_273) rfl (l' := #[.val (.int p1), .val (.int p2), .val (.int p3), .val (.int p4), .val (.int x1), .val (.int x2), .val (.int x3), .val (.int x4), .val (.ref b9), .val (.int r1), .val (.int r2), .val (.int r3), .val (.int r4), .val (.int o5), .val (.long (100000 : Int64)), .second, .val (.long s1), .second, .val (.long s2), .second, .val (.long s3), .second, .val (.long s4), .second, .val (.int e1), .val (.int e2), .val (.int k2), .val (.int e3), .val (.int k3), .val (.int e4), .val (.int k4)]) rfl ?_
    show Steps p.tables e below (T15.setTop (mkF m 275 #[.val (.int p1), .val (.int p2), .val (.int p3), .val (.int p4), .val (.int x1), .val (.int x2), .val (.int x3), .val (.int x4), .val (.ref b9), .val (.int r1), .val (.int r2), .val (.int r3), .val (.int r4), .val (.int o5), .val (.long (100000 : Int64)), .second, .val (.long s1), .second, .val (.long s2), .second, .val (.long s3), .second, .val (.long s4), .second, .val (.int e1), .val (.int e2), .val (.int k2), .val (.int e3), .val (.int k3), .val (.int e4), .val (.int k4)] [])) _
    refine XS.iload X15.here hx rfl (hb hby at_275) rfl ?_
    show Steps p.tables e below (T15.setTop (mkF m 277 #[.val (.int p1), .val (.int p2), .val (.int p3), .val (.int p4), .val (.int x1), .val (.int x2), .val (.int x3), .val (.int x4), .val (.ref b9), .val (.int r1), .val (.int r2), .val (.int r3), .val (.int r4), .val (.int o5), .val (.long (100000 : Int64)), .second, .val (.long s1), .second, .val (.long s2), .second, .val (.long s3), .second, .val (.long s4), .second, .val (.int e1), .val (.int e2), .val (.int k2), .val (.int e3), .val (.int k3), .val (.int e4), .val (.int k4)] [(.int r1)])) _
    refine XS.iload X15.here hx rfl (hb hby at_277) rfl ?_
    show Steps p.tables e below (T15.setTop (mkF m 279 #[.val (.int p1), .val (.int p2), .val (.int p3), .val (.int p4), .val (.int x1), .val (.int x2), .val (.int x3), .val (.int x4), .val (.ref b9), .val (.int r1), .val (.int r2), .val (.int r3), .val (.int r4), .val (.int o5), .val (.long (100000 : Int64)), .second, .val (.long s1), .second, .val (.long s2), .second, .val (.long s3), .second, .val (.long s4), .second, .val (.int e1), .val (.int e2), .val (.int k2), .val (.int e3), .val (.int k3), .val (.int e4), .val (.int k4)] [(.int e1), (.int r1)])) _
    refine XS.icmpNo X15.here hx rfl (hb hby at_279) rfl (teq q1).2 ?_
    show Steps p.tables e below (T15.setTop (mkF m 282 #[.val (.int p1), .val (.int p2), .val (.int p3), .val (.int p4), .val (.int x1), .val (.int x2), .val (.int x3), .val (.int x4), .val (.ref b9), .val (.int r1), .val (.int r2), .val (.int r3), .val (.int r4), .val (.int o5), .val (.long (100000 : Int64)), .second, .val (.long s1), .second, .val (.long s2), .second, .val (.long s3), .second, .val (.long s4), .second, .val (.int e1), .val (.int e2), .val (.int k2), .val (.int e3), .val (.int k3), .val (.int e4), .val (.int k4)] [])) _
    refine XS.iload X15.here hx rfl (hb hby at_282) rfl ?_
    show Steps p.tables e below (T15.setTop (mkF m 284 #[.val (.int p1), .val (.int p2), .val (.int p3), .val (.int p4), .val (.int x1), .val (.int x2), .val (.int x3), .val (.int x4), .val (.ref b9), .val (.int r1), .val (.int r2), .val (.int r3), .val (.int r4), .val (.int o5), .val (.long (100000 : Int64)), .second, .val (.long s1), .second, .val (.long s2), .second, .val (.long s3), .second, .val (.long s4), .second, .val (.int e1), .val (.int e2), .val (.int k2), .val (.int e3), .val (.int k3), .val (.int e4), .val (.int k4)] [(.int r2)])) _
    refine XS.iload X15.here hx rfl (hb hby at_284) rfl ?_
    show Steps p.tables e below (T15.setTop (mkF m 286 #[.val (.int p1), .val (.int p2), .val (.int p3), .val (.int p4), .val (.int x1), .val (.int x2), .val (.int x3), .val (.int x4), .val (.ref b9), .val (.int r1), .val (.int r2), .val (.int r3), .val (.int r4), .val (.int o5), .val (.long (100000 : Int64)), .second, .val (.long s1), .second, .val (.long s2), .second, .val (.long s3), .second, .val (.long s4), .second, .val (.int e1), .val (.int e2), .val (.int k2), .val (.int e3), .val (.int k3), .val (.int e4), .val (.int k4)] [(.int e2), (.int r2)])) _
    refine XS.icmpNo X15.here hx rfl (hb hby at_286) rfl (teq q2).2 ?_
    show Steps p.tables e below (T15.setTop (mkF m 289 #[.val (.int p1), .val (.int p2), .val (.int p3), .val (.int p4), .val (.int x1), .val (.int x2), .val (.int x3), .val (.int x4), .val (.ref b9), .val (.int r1), .val (.int r2), .val (.int r3), .val (.int r4), .val (.int o5), .val (.long (100000 : Int64)), .second, .val (.long s1), .second, .val (.long s2), .second, .val (.long s3), .second, .val (.long s4), .second, .val (.int e1), .val (.int e2), .val (.int k2), .val (.int e3), .val (.int k3), .val (.int e4), .val (.int k4)] [])) _
    refine XS.iload X15.here hx rfl (hb hby at_289) rfl ?_
    show Steps p.tables e below (T15.setTop (mkF m 291 #[.val (.int p1), .val (.int p2), .val (.int p3), .val (.int p4), .val (.int x1), .val (.int x2), .val (.int x3), .val (.int x4), .val (.ref b9), .val (.int r1), .val (.int r2), .val (.int r3), .val (.int r4), .val (.int o5), .val (.long (100000 : Int64)), .second, .val (.long s1), .second, .val (.long s2), .second, .val (.long s3), .second, .val (.long s4), .second, .val (.int e1), .val (.int e2), .val (.int k2), .val (.int e3), .val (.int k3), .val (.int e4), .val (.int k4)] [(.int r3)])) _
    refine XS.iload X15.here hx rfl (hb hby at_291) rfl ?_
    show Steps p.tables e below (T15.setTop (mkF m 293 #[.val (.int p1), .val (.int p2), .val (.int p3), .val (.int p4), .val (.int x1), .val (.int x2), .val (.int x3), .val (.int x4), .val (.ref b9), .val (.int r1), .val (.int r2), .val (.int r3), .val (.int r4), .val (.int o5), .val (.long (100000 : Int64)), .second, .val (.long s1), .second, .val (.long s2), .second, .val (.long s3), .second, .val (.long s4), .second, .val (.int e1), .val (.int e2), .val (.int k2), .val (.int e3), .val (.int k3), .val (.int e4), .val (.int k4)] [(.int e3), (.int r3)])) _
    refine XS.icmpNo X15.here hx rfl (hb hby at_293) rfl (teq q3).2 ?_
    show Steps p.tables e below (T15.setTop (mkF m 296 #[.val (.int p1), .val (.int p2), .val (.int p3), .val (.int p4), .val (.int x1), .val (.int x2), .val (.int x3), .val (.int x4), .val (.ref b9), .val (.int r1), .val (.int r2), .val (.int r3), .val (.int r4), .val (.int o5), .val (.long (100000 : Int64)), .second, .val (.long s1), .second, .val (.long s2), .second, .val (.long s3), .second, .val (.long s4), .second, .val (.int e1), .val (.int e2), .val (.int k2), .val (.int e3), .val (.int k3), .val (.int e4), .val (.int k4)] [])) _
    refine XS.iload X15.here hx rfl (hb hby at_296) rfl ?_
    show Steps p.tables e below (T15.setTop (mkF m 298 #[.val (.int p1), .val (.int p2), .val (.int p3), .val (.int p4), .val (.int x1), .val (.int x2), .val (.int x3), .val (.int x4), .val (.ref b9), .val (.int r1), .val (.int r2), .val (.int r3), .val (.int r4), .val (.int o5), .val (.long (100000 : Int64)), .second, .val (.long s1), .second, .val (.long s2), .second, .val (.long s3), .second, .val (.long s4), .second, .val (.int e1), .val (.int e2), .val (.int k2), .val (.int e3), .val (.int k3), .val (.int e4), .val (.int k4)] [(.int r4)])) _
    refine XS.iload X15.here hx rfl (hb hby at_298) rfl ?_
    show Steps p.tables e below (T15.setTop (mkF m 300 #[.val (.int p1), .val (.int p2), .val (.int p3), .val (.int p4), .val (.int x1), .val (.int x2), .val (.int x3), .val (.int x4), .val (.ref b9), .val (.int r1), .val (.int r2), .val (.int r3), .val (.int r4), .val (.int o5), .val (.long (100000 : Int64)), .second, .val (.long s1), .second, .val (.long s2), .second, .val (.long s3), .second, .val (.long s4), .second, .val (.int e1), .val (.int e2), .val (.int k2), .val (.int e3), .val (.int k3), .val (.int e4), .val (.int k4)] [(.int e4), (.int r4)])) _
    refine XS.icmpNo X15.here hx rfl (hb hby at_300) rfl (teq q4).2 ?_
    show Steps p.tables e below (T15.setTop (mkF m 303 #[.val (.int p1), .val (.int p2), .val (.int p3), .val (.int p4), .val (.int x1), .val (.int x2), .val (.int x3), .val (.int x4), .val (.ref b9), .val (.int r1), .val (.int r2), .val (.int r3), .val (.int r4), .val (.int o5), .val (.long (100000 : Int64)), .second, .val (.long s1), .second, .val (.long s2), .second, .val (.long s3), .second, .val (.long s4), .second, .val (.int e1), .val (.int e2), .val (.int k2), .val (.int e3), .val (.int k3), .val (.int e4), .val (.int k4)] [])) _
    refine XS.iload X15.here hx rfl (hb hby at_303) rfl ?_
    show Steps p.tables e below (T15.setTop (mkF m 305 #[.val (.int p1), .val (.int p2), .val (.int p3), .val (.int p4), .val (.int x1), .val (.int x2), .val (.int x3), .val (.int x4), .val (.ref b9), .val (.int r1), .val (.int r2), .val (.int r3), .val (.int r4), .val (.int o5), .val (.long (100000 : Int64)), .second, .val (.long s1), .second, .val (.long s2), .second, .val (.long s3), .second, .val (.long s4), .second, .val (.int e1), .val (.int e2), .val (.int k2), .val (.int e3), .val (.int k3), .val (.int e4), .val (.int k4)] [(.int o5)])) _
    refine g305 X15 hx hby hn4 ?_
    show Steps p.tables e below (T15.setTop (mkF m 315 #[.val (.int p1), .val (.int p2), .val (.int p3), .val (.int p4), .val (.int x1), .val (.int x2), .val (.int x3), .val (.int x4), .val (.ref b9), .val (.int r1), .val (.int r2), .val (.int r3), .val (.int r4), .val (.int o5), .val (.long (100000 : Int64)), .second, .val (.long s1), .second, .val (.long s2), .second, .val (.long s3), .second, .val (.long s4), .second, .val (.int e1), .val (.int e2), .val (.int k2), .val (.int e3), .val (.int k3), .val (.int e4), .val (.int k4)] [(.int n4), (.int o5)])) _
    refine XS.icmpNo X15.here hx rfl (hb hby at_315) rfl (teq q5).2 ?_
    show Steps p.tables e below (T15.setTop (mkF m 318 #[.val (.int p1), .val (.int p2), .val (.int p3), .val (.int p4), .val (.int x1), .val (.int x2), .val (.int x3), .val (.int x4), .val (.ref b9), .val (.int r1), .val (.int r2), .val (.int r3), .val (.int r4), .val (.int o5), .val (.long (100000 : Int64)), .second, .val (.long s1), .second, .val (.long s2), .second, .val (.long s3), .second, .val (.long s4), .second, .val (.int e1), .val (.int e2), .val (.int k2), .val (.int e3), .val (.int k3), .val (.int e4), .val (.int k4)] [])) _
    refine XS.iconst X15.here hx rfl (hb hby at_318) ?_
    show Steps p.tables e below (T15.setTop (mkF m 319 #[.val (.int p1), .val (.int p2), .val (.int p3), .val (.int p4), .val (.int x1), .val (.int x2), .val (.int x3), .val (.int x4), .val (.ref b9), .val (.int r1), .val (.int r2), .val (.int r3), .val (.int r4), .val (.int o5), .val (.long (100000 : Int64)), .second, .val (.long s1), .second, .val (.long s2), .second, .val (.long s3), .second, .val (.long s4), .second, .val (.int e1), .val (.int e2), .val (.int k2), .val (.int e3), .val (.int k3), .val (.int e4), .val (.int k4)] [(.int (1 : Int32))])) _
    refine XS.goto X15.here hx rfl (pc0 := 319) (pc' := 323) rfl (hb hby at_319) (by decide) (by decide) ?_
    show Steps p.tables e below (T15.setTop (mkF m 323 #[.val (.int p1), .val (.int p2), .val (.int p3), .val (.int p4), .val (.int x1), .val (.int x2), .val (.int x3), .val (.int x4), .val (.ref b9), .val (.int r1), .val (.int r2), .val (.int r3), .val (.int r4), .val (.int o5), .val (.long (100000 : Int64)), .second, .val (.long s1), .second, .val (.long s2), .second, .val (.long s3), .second, .val (.long s4), .second, .val (.int e1), .val (.int e2), .val (.int k2), .val (.int e3), .val (.int k3), .val (.int e4), .val (.int k4)] [(.int (1 : Int32))])) _
    exact retN X15 hx (t := .boolean) Bd.returns (by simp) (hb hby at_323) hr
  · show Q0 Z p1 p2 p3 p4 h0 n0 _ T15.heap _
    exact ⟨rfl, N15⟩
set_option maxRecDepth 65536 in
set_option maxHeartbeats 40000000 in
theorem comes_1 {Post : Tables → Env → Array Value → State → Outcome → State → Prop} (hpost : ∀ tb e args s v u, (limb_1_1.after args s (.returned v) u = true ∧ limb_1_2.after args s (.returned v) u = true ∧ True) → FrameEnd s (.returned v) u (Jvm.fieldLocs frame_1_writes args s ++ Jvm.arrayLocs frame_1_arrays args s ++ Jvm.staticLocs frame_1_statics s) 16 128 → Post tb e args s (.returned v) u) :
    ArmFor flags0 classFile x code maxLocals ret World_1 tables_1 room_1 Calls_1 rest_1 Pre_1 Post := by
  intro l hfl _ _ p e ha hc hk s m args below hf hA hF happ hP
  obtain ⟨hcalls, hrest, hpre⟩ := hP
  obtain ⟨-, -, -, hnamed, -, -, -, hat⟩ := (Spec.applies_iff hf).mp happ
  obtain ⟨hg, hn⟩ := and_e (Cond.before_iff.mp (show (Jvm.Cond.and given_1 narrow_1).before args s = true from hpre))
  obtain ⟨g16, g17⟩ := and_e hg
  obtain ⟨g18, g19⟩ := and_e g17
  obtain ⟨g20, g21⟩ := and_e g19
  obtain ⟨g22, g23⟩ := and_e g21
  obtain ⟨w0, w1, w2, w3, rfl⟩ : ∃ w0 w1 w2 w3 : Value, args = #[w0, w1, w2, w3] := by
    have hs : args.size = 4 := by simpa [Cond.value, given_1] using g16
    obtain ⟨L⟩ := args
    match L, hs with
    | [w0, w1, w2, w3], _ => exact ⟨w0, w1, w2, w3, rfl⟩
  have hw := fun d (hd : d ∈ tables_1) => atoms_spec (ws := Jvm.Cond.code x code maxLocals ret :: tables_1) hat d (List.mem_cons_of_mem _ hd)
  have hfit : Fit s := fun {y c} hc i hi => by
    obtain ⟨ha, rfl⟩ := Array.getElem?_eq_some_iff.mp hc
    have q := List.all_eq_true.mp ((Array.all_eq_true_iff_forall_mem.mp hF) _ (Array.getElem_mem ha)) i (List.mem_range.mpr hi)
    simpa [Array.getElem?_eq_getElem hi] using q
  obtain ⟨i0, ei0⟩ := is_v g18
  obtain rfl : w0 = (.int i0) := Option.some.inj ei0
  obtain ⟨i1, ei1⟩ := is_v g20
  obtain rfl : w1 = (.int i1) := Option.some.inj ei1
  obtain ⟨i2, ei2⟩ := is_v g22
  obtain rfl : w2 = (.int i2) := Option.some.inj ei2
  obtain ⟨i3, ei3⟩ := is_v g23
  obtain rfl : w3 = (.int i3) := Option.some.inj ei3
  obtain ⟨n, o, h1, h2, h3, _, L, rfl, ⟨rfl, N⟩, hq⟩ := rm0 l s _ hw tables_1 i0 i1 i2 i3 s.heap s.heap.size (Nat.le_refl _) p e ha hc hk s m _ below hf ((Spec.applies_iff_loose hf).mp happ).1 ⟨rfl, State.Warmed39.refl s, rfl⟩ trivial
  refine ⟨n, _, h1, h2, h3, hpost _ _ _ _ _ _ ⟨Cond.after_iff.mpr rfl, Cond.after_iff.mpr (eq_i res_at (Term.int_eval (1)) rfl), trivial⟩ ⟨hq.1, hq.2.1, (hq.2.2.sift fun y hy => Or.inr (N y hy)).mono (by decide) (by decide)⟩⟩
theorem main_1_1 : Claimed_1_1 := comes_1 fun _ _ _ _ _ _ h hF => ⟨h.1, hF⟩
theorem main_1_2 : Claimed_1_2 := comes_1 fun _ _ _ _ _ _ h hF => ⟨h.2.1, hF⟩

end Jvm.Pilot.@@N@@
namespace Jvm.Pilot.@@N@@
open Jvm Jvm.ClassFile Sem Op Lib Jvm.Free Jvm.Stand Jvm.Pilot.@@N@@.Jvm.D
/-! MADE BY PROGRAM (witnessworld.py) out of the Statement's table words and the real class files: 7 classes; the members and pool entries that the words name. The judged class is class 1, her method 2. -/
namespace start1
open Jvm.ClassFile
def u (s : String) : CpInfo := .utf8 (stringToUtf16 s)
/-- a pool by its gaps: so many unusable entries, then the entry; so many at the end -/
def gap : Nat → List CpInfo → List CpInfo
  | 0, r => r
  | n + 1, r => .unusable :: gap n r
def poolList (es : List (Nat × CpInfo)) (last : Nat) : List CpInfo := es.foldr (fun e r => gap e.1 (e.2 :: r)) (gap last [])
def pool (es : List (Nat × CpInfo)) (last : Nat) : Array CpInfo := ⟨poolList es last⟩
def fileOf (pool : Array CpInfo) (this : Nat) (attrs : Array Attribute := #[]) (ms : Array MethodInfo := #[]) (fl : Nat := 33) (sup : Nat := 0) (ifs : Array Nat := #[]) (fds : Array FieldInfo := #[]) : ClassFile where
  minorVersion := 0
  majorVersion := 65
  constantPool := pool
  accessFlags := fl
  thisClass := this
  superClass := sup
  interfaces := ifs
  fields := fds
  methods := ms
  attributes := attrs
def plain (name : String) (sup : Option ClassId) : Class where
  name := name
  kind := .ordinary
  loader := none
  accessFlags := 33
  super := sup
  interfaces := #[]
  cf := none
  fields := #[]
  methods := #[]
  instanceTypes := #[]
  staticTypes := #[]
  resolved := #[]
  callSites := []
  init := .initialized
  statics := none
  mirror := none

def pool0 : Array CpInfo := pool [(5, u "<init>"), (0, u "()V"), (1, .class_ 10), (1, u "java/lang/Object")] 113

def k0c0 : Code := { maxStack := 0, maxLocals := 1, code := object_method_1_code, exceptionTable := #[], attributes := #[] }
def k0m0 : Method := { name := "<init>", desc := "()V", sig := { parameters := [], returnType := none }, accessFlags := 1, code := some k0c0 }
/-- java/lang/Object -/
def k0 : Class := { plain "java/lang/Object" none with
  accessFlags := 33
  interfaces := #[]
  cf := some (fileOf pool0 8 #[] #[{ accessFlags := 1, nameIndex := 5, descriptorIndex := 6, attributes := #[] }] 33 0 #[] #[])
  fields := #[]
  methods := #[k0m0]
  instanceTypes := #[]
  staticTypes := #[]
  resolved := Array.replicate 124 none
  statics := none }

def pool1 : Array CpInfo := pool [(2, .class_ 4), (0, .nameAndType 5 6), (0, u "java/lang/Object"), (0, u "<init>"), (0, u "()V"), (0, .integer 200001), (0, .methodref 9 10), (0, .class_ 11), (0, .nameAndType 12 13), (0, u "com/example/tasks_to_gates/taskstogates/check/CallBudgetTakePinLaw"), (0, u "amount"), (0, u "(I)I"), (0, .class_ 15), (0, u "com/example/tasks_to_gates/taskstogates/check/CallBudget"), (0, .methodref 14 3), (0, .methodref 14 18), (0, .nameAndType 19 20), (0, u "take"), (0, u "(I)Z"), (0, .methodref 14 22), (0, .nameAndType 23 24), (0, u "isOverrun"), (0, u "()Z"), (0, .long 100000), (4, u "law"), (0, u "(IIII)Z")] 2

def k1m0 : Method := { name := "<init>", desc := "()V", sig := { parameters := [], returnType := none }, accessFlags := 1, code := none }
def k1c1 : Code := { maxStack := 2, maxLocals := 1, code := method_2_code, exceptionTable := #[], attributes := #[] }
def k1m1 : Method := { name := "amount", desc := "(I)I", sig := { parameters := [.int], returnType := some .int }, accessFlags := 10, code := some k1c1 }
def k1c2 : Code := { maxStack := 4, maxLocals := 31, code := code, exceptionTable := #[], attributes := #[] }
def k1m2 : Method := { name := "law", desc := "(IIII)Z", sig := { parameters := [.int, .int, .int, .int], returnType := some .boolean }, accessFlags := 9, code := some k1c2 }
/-- com/example/tasks_to_gates/taskstogates/check/CallBudgetTakePinLaw -/
def k1 : Class := { plain "com/example/tasks_to_gates/taskstogates/check/CallBudgetTakePinLaw" (some 0) with
  accessFlags := 49
  interfaces := #[]
  cf := some (fileOf pool1 9 #[] #[{ accessFlags := 1, nameIndex := 5, descriptorIndex := 6, attributes := #[] }, { accessFlags := 10, nameIndex := 12, descriptorIndex := 13, attributes := #[] }, { accessFlags := 9, nameIndex := 30, descriptorIndex := 31, attributes := #[] }] 49 2 #[] #[])
  fields := #[]
  methods := #[k1m0, k1m1, k1m2]
  instanceTypes := #[]
  staticTypes := #[]
  resolved := Array.replicate 34 none
  statics := none }

def pool2 : Array CpInfo := pool [(1, .methodref 2 3), (0, .class_ 4), (0, .nameAndType 5 6), (0, u "java/lang/Object"), (0, u "<init>"), (0, u "()V"), (0, .class_ 8), (0, u "com/example/tasks_to_gates/taskstogates/check/CallBudget"), (0, .integer 100000), (0, .fieldref 7 11), (0, .nameAndType 12 13), (0, u "left"), (0, u "I"), (0, .fieldref 7 15), (0, .nameAndType 16 17), (0, u "overrun"), (0, u "Z"), (0, u "MAX_ACTIONS"), (3, u "take"), (0, u "(I)Z"), (1, u "isOverrun"), (0, u "()Z")] 2

def k2c0 : Code := { maxStack := 2, maxLocals := 1, code := prog_12_method_1_code, exceptionTable := #[], attributes := #[] }
def k2m0 : Method := { name := "<init>", desc := "()V", sig := { parameters := [], returnType := none }, accessFlags := 0, code := some k2c0 }
def k2c1 : Code := { maxStack := 3, maxLocals := 3, code := prog_12_method_2_code, exceptionTable := #[], attributes := #[] }
def k2m1 : Method := { name := "take", desc := "(I)Z", sig := { parameters := [.int], returnType := some .boolean }, accessFlags := 0, code := some k2c1 }
def k2c2 : Code := { maxStack := 1, maxLocals := 1, code := prog_12_method_3_code, exceptionTable := #[], attributes := #[] }
def k2m2 : Method := { name := "isOverrun", desc := "()Z", sig := { parameters := [], returnType := some .boolean }, accessFlags := 0, code := some k2c2 }
/-- com/example/tasks_to_gates/taskstogates/check/CallBudget -/
def k2 : Class := { plain "com/example/tasks_to_gates/taskstogates/check/CallBudget" (some 0) with
  accessFlags := 32
  interfaces := #[]
  cf := some (fileOf pool2 7 #[] #[{ accessFlags := 0, nameIndex := 5, descriptorIndex := 6, attributes := #[] }, { accessFlags := 0, nameIndex := 22, descriptorIndex := 23, attributes := #[] }, { accessFlags := 0, nameIndex := 25, descriptorIndex := 26, attributes := #[] }] 32 2 #[] #[{ accessFlags := 24, nameIndex := 18, descriptorIndex := 13, attributes := #[] }, { accessFlags := 2, nameIndex := 12, descriptorIndex := 13, attributes := #[] }, { accessFlags := 2, nameIndex := 16, descriptorIndex := 17, attributes := #[] }])
  fields := #[{ name := "MAX_ACTIONS", type := .int, accessFlags := 24, slot := 0, constantValue := 0 }, { name := "left", type := .int, accessFlags := 2, slot := 0, constantValue := 0 }, { name := "overrun", type := .boolean, accessFlags := 2, slot := 1, constantValue := 0 }]
  methods := #[k2m0, k2m1, k2m2]
  instanceTypes := #[.int, .boolean]
  staticTypes := #[.int]
  resolved := Array.replicate 29 none
  statics := none }

def pool3 : Array CpInfo := pool [(1, u "java/lang/Cloneable"), (0, .class_ 1), (0, u "java/lang/Object"), (0, .class_ 3)] 3

/-- java/lang/Cloneable -/
def k3 : Class := { plain "java/lang/Cloneable" (some 0) with
  accessFlags := 1537
  interfaces := #[]
  cf := some (fileOf pool3 2 #[] #[] 1537 4 #[] #[])
  fields := #[]
  methods := #[]
  instanceTypes := #[]
  staticTypes := #[]
  resolved := Array.replicate 8 none
  statics := none }

def pool4 : Array CpInfo := pool [(1, u "java/io/Serializable"), (0, .class_ 1), (0, u "java/lang/Object"), (0, .class_ 3)] 3

/-- java/io/Serializable -/
def k4 : Class := { plain "java/io/Serializable" (some 0) with
  accessFlags := 1537
  interfaces := #[]
  cf := some (fileOf pool4 2 #[] #[] 1537 4 #[] #[])
  fields := #[]
  methods := #[]
  instanceTypes := #[]
  staticTypes := #[]
  resolved := Array.replicate 8 none
  statics := none }

/-- the primitive byte -/
def k5 : Class := { plain "byte" none with kind := .primitive 'B', accessFlags := 0x411 }
/-- [B -/
def k6 : Class := { plain "[B" (some 0) with kind := .array 5 .byte, interfaces := #[3, 4], accessFlags := 1041 }

def heap : Heap := #[]
def classes : Array Class := #[k0, k1, k2, k3, k4, k5, k6]
def interned : List (Array UInt16 × Addr) := []
def slotsUsed : Nat := 0
def theMethod : MethodId := ⟨1, 2⟩
def args0 : Array Value := #[.int 5, .int 7, .int 9, .int 11]
def aboutOver (below : List Frame) : State where
  vm := { classes := classes, interned := interned.toArray }
  heap := heap
  slotsUsed := slotsUsed
  threads := #[{ frames := .invoking theMethod args0 :: below }]
def below0 : List Frame := [.native { method := ⟨0, 0⟩, args := #[] }]
def about1 : State := aboutOver below0
def p0 : Program := .bare "" "" ""
def e0 : Env := launch0.env 0 0 0
theorem w_frames : about1.frames = Frame.invoking theMethod args0 :: below0 := rfl
set_option maxRecDepth 65536 in
theorem w_args : argsFit about1.vm theMethod args0 = true := by decide +kernel
set_option maxRecDepth 65536 in
theorem w_heap : heapFits about1 = true := by decide +kernel
set_option maxRecDepth 65536 in
theorem w_runnable : about1.curStatus? = some .runnable := by decide +kernel
set_option maxRecDepth 65536 in
theorem w_alone : about1.alone = true := by decide +kernel
set_option maxRecDepth 65536 in
theorem w_named : about1.methodNamed? x = some theMethod := by decide +kernel
set_option maxRecDepth 65536 in
theorem w_hears : about1.hears theMethod below0 = true := by decide +kernel
set_option maxRecDepth 65536 in
theorem w_ripe : about1.ripe theMethod args0 below0 = true := by decide +kernel
theorem w_running : about1.status = .running := rfl
set_option maxRecDepth 65536 in
theorem w_room : about1.hasRoom e0.platform room_1 = true :=
  launch0.hasRoom_least _ room_1 (by decide +kernel) (by decide +kernel) (by decide +kernel) (by decide +kernel) (by decide +kernel) (by decide +kernel)
theorem allAtoms_all (ts : List Jvm.Cond) (a : Array Jvm.Value) (st : Jvm.State) : (allAtoms ts).before a st = ts.all (fun c => c.before a st) := by
  induction ts with
  | nil => rfl
  | cons c t ih =>
    show (Jvm.Cond.and c (allAtoms t)).before a st = _
    rw [Jvm.Cond.before_and, ih, List.all_cons]
def words1 : List Jvm.Cond := Jvm.Cond.code x code maxLocals ret :: tables_1
/-- a 'code' word, met by the world's own term for the bytes: nothing is compared byte by byte -/
theorem code_word {y : MethodName} {bytes : ByteArray} {mx : Nat} {rt : Option FieldType} {a : Array Value} {s : State} {m : MethodId} {meth : Method} {c : Code} (h1 : s.methodNamed? y = some m) (h2 : s.vm.method? m = some meth) (h3 : meth.code = some c) (h4 : c.code = bytes)
    (h5 : (c.maxLocals == mx && c.exceptionTable.isEmpty && decide (c.maxStack ≤ mostOperands) && decide (meth.sig.returnType = rt) && !meth.locks && decide (parseMethodDescriptor y.desc = some meth.sig)) = true) : (Jvm.Cond.code y bytes mx rt).before a s = true := by
  simp only [Bool.and_eq_true, beq_iff_eq, Bool.not_eq_true', decide_eq_true_eq] at h5
  obtain ⟨⟨⟨⟨⟨g1, g2⟩, g3⟩, g4⟩, g5⟩, g6⟩ := h5
  simp [Cond.before, Cond.holds, Cond.value, h1, h2, h3, h4, g1, g2, g3, g4, g5, g6]
def isCode : Jvm.Cond → Bool
  | .code _ _ _ _ => true
  | _ => false
theorem all_split {L : List Jvm.Cond} {P : Jvm.Cond → Bool} (h1 : L.all (fun c => isCode c || P c) = true) (h2 : ∀ c ∈ L.filter isCode, P c = true) : L.all P = true := by
  refine List.all_eq_true.mpr fun c hc => ?_
  have h := List.all_eq_true.mp h1 c hc
  rcases Bool.eq_false_or_eq_true (isCode c) with hi | hi
  · exact h2 c (List.mem_filter.mpr ⟨hc, hi⟩)
  · simpa [hi] using h
set_option maxRecDepth 65536 in
theorem w_c0 : (Jvm.Cond.code x code maxLocals ret).before args0 about1 = true := code_word (m := ⟨1, 2⟩) (meth := k1m2) (c := k1c2) (by decide +kernel) rfl rfl rfl (by decide +kernel)
set_option maxRecDepth 65536 in
theorem w_c1 : (Jvm.Cond.code ({ cls := "com/example/tasks_to_gates/taskstogates/check/CallBudgetTakePinLaw", name := "amount", desc := "(I)I" } : Jvm.MethodName) method_2_code (1 : Nat) (Option.some Jvm.ClassFile.FieldType.int)).before args0 about1 = true := code_word (m := ⟨1, 1⟩) (meth := k1m1) (c := k1c1) (by decide +kernel) rfl rfl rfl (by decide +kernel)
set_option maxRecDepth 65536 in
theorem w_c2 : (Jvm.Cond.code ({ cls := "com/example/tasks_to_gates/taskstogates/check/CallBudget", name := "<init>", desc := "()V" } : Jvm.MethodName) prog_12_method_1_code (1 : Nat) (Option.none : Option Jvm.ClassFile.FieldType)).before args0 about1 = true := code_word (m := ⟨2, 0⟩) (meth := k2m0) (c := k2c0) (by decide +kernel) rfl rfl rfl (by decide +kernel)
set_option maxRecDepth 65536 in
theorem w_c3 : (Jvm.Cond.code ({ cls := "java/lang/Object", name := "<init>", desc := "()V" } : Jvm.MethodName) object_method_1_code (1 : Nat) (Option.none : Option Jvm.ClassFile.FieldType)).before args0 about1 = true := code_word (m := ⟨0, 0⟩) (meth := k0m0) (c := k0c0) (by decide +kernel) rfl rfl rfl (by decide +kernel)
set_option maxRecDepth 65536 in
theorem w_c4 : (Jvm.Cond.code ({ cls := "com/example/tasks_to_gates/taskstogates/check/CallBudget", name := "take", desc := "(I)Z" } : Jvm.MethodName) prog_12_method_2_code (3 : Nat) (Option.some Jvm.ClassFile.FieldType.boolean)).before args0 about1 = true := code_word (m := ⟨2, 1⟩) (meth := k2m1) (c := k2c1) (by decide +kernel) rfl rfl rfl (by decide +kernel)
set_option maxRecDepth 65536 in
theorem w_c5 : (Jvm.Cond.code ({ cls := "com/example/tasks_to_gates/taskstogates/check/CallBudget", name := "isOverrun", desc := "()Z" } : Jvm.MethodName) prog_12_method_3_code (1 : Nat) (Option.some Jvm.ClassFile.FieldType.boolean)).before args0 about1 = true := code_word (m := ⟨2, 2⟩) (meth := k2m2) (c := k2c2) (by decide +kernel) rfl rfl rfl (by decide +kernel)
def codes1 : List Jvm.Cond := [Jvm.Cond.code x code maxLocals ret, Jvm.Cond.code ({ cls := "com/example/tasks_to_gates/taskstogates/check/CallBudgetTakePinLaw", name := "amount", desc := "(I)I" } : Jvm.MethodName) method_2_code (1 : Nat) (Option.some Jvm.ClassFile.FieldType.int), Jvm.Cond.code ({ cls := "com/example/tasks_to_gates/taskstogates/check/CallBudget", name := "<init>", desc := "()V" } : Jvm.MethodName) prog_12_method_1_code (1 : Nat) (Option.none : Option Jvm.ClassFile.FieldType), Jvm.Cond.code ({ cls := "java/lang/Object", name := "<init>", desc := "()V" } : Jvm.MethodName) object_method_1_code (1 : Nat) (Option.none : Option Jvm.ClassFile.FieldType), Jvm.Cond.code ({ cls := "com/example/tasks_to_gates/taskstogates/check/CallBudget", name := "take", desc := "(I)Z" } : Jvm.MethodName) prog_12_method_2_code (3 : Nat) (Option.some Jvm.ClassFile.FieldType.boolean), Jvm.Cond.code ({ cls := "com/example/tasks_to_gates/taskstogates/check/CallBudget", name := "isOverrun", desc := "()Z" } : Jvm.MethodName) prog_12_method_3_code (1 : Nat) (Option.some Jvm.ClassFile.FieldType.boolean)]
set_option maxRecDepth 65536 in
theorem codes_eq : words1.filter isCode = codes1 := rfl
theorem w_codes : ∀ c ∈ words1.filter isCode, c.before args0 about1 = true := by
  rw [codes_eq]
  intro c hc
  simp only [codes1, List.mem_cons, List.not_mem_nil, or_false] at hc
  rcases hc with rfl | rfl | rfl | rfl | rfl | rfl
  · exact w_c0
  · exact w_c1
  · exact w_c2
  · exact w_c3
  · exact w_c4
  · exact w_c5
set_option maxRecDepth 65536 in
theorem w_t1 : (words1.take 24).all (fun c => isCode c || c.before args0 about1) = true := by decide +kernel
set_option maxRecDepth 65536 in
theorem w_t2 : (words1.drop 24).all (fun c => isCode c || c.before args0 about1) = true := by decide +kernel
theorem w_tables : (allAtoms (Jvm.Cond.code x code maxLocals ret :: tables_1)).before args0 about1 = true := by
  rw [allAtoms_all]
  show words1.all (fun c => c.before args0 about1) = true
  refine all_split ?_ w_codes
  rw [← List.take_append_drop 24 words1, List.all_append, w_t1, w_t2]
  rfl
set_option maxRecDepth 65536 in
theorem w_case : (Jvm.Cond.and given_1 narrow_1).before args0 about1 = true := by decide +kernel
theorem w_applies : (headSpec (Jvm.Cond.code x code maxLocals ret :: tables_1) room_1).applies x e0.platform about1 = true :=
  (Spec.applies_iff w_frames).mpr ⟨w_running, w_runnable, w_alone, w_named, w_hears, w_ripe, w_room, w_tables⟩
theorem atStart : AtStart classFile x code maxLocals ret World_1 tables_1 room_1 Calls_1 rest_1 Pre_1 launch0 p0 e0 about1 theMethod args0 below0 :=
  ⟨lists_1, trivial, launch0.admits_env _ _ _, launch0.least_env, fairChoices_fair.cas, fairChoices_fair.clock, w_frames, w_args, w_heap, w_applies, trivial, trivial, w_case⟩
end start1
theorem witness_1 : WitnessClaimed_1 := ⟨start1.p0, start1.e0, start1.about1, start1.theMethod, start1.args0, start1.below0, start1.atStart⟩
end Jvm.Pilot.@@N@@
