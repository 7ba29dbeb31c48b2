import JvmDerived
import JvmDerived.Pilot.@@N@@Statement
import JvmDerived.Pilot.@@N@@Code
set_option linter.unusedVariables false
set_option linter.unusedSimpArgs false
@@BLOCK:HandJ.lean.txt@@
@@BLOCK:HandW.lean.txt@@
@@BLOCK:HandBits.lean.txt@@
@@BLOCK:SymRun.lean.txt@@
@@BLOCK:RowBasics.lean.txt@@
@@BLOCK:Bridge.lean.txt@@
@@BLOCK:SymKit.lean.txt@@
@@BLOCK:NumsL.lean.txt@@
namespace Jvm.Pilot.@@N@@
open Jvm Jvm.ClassFile Sem Op Jvm.Sym Jvm.Pilot.@@N@@.Jvm.D
/-! own layer 1: sorts of pure terms; needs that hold whatever way the guards go -/
def own_k2 : Binary → VKind → VKind → Option VKind
  | .iand, .int, .int | .ior, .int, .int | .ixor, .int, .int | .ishl, .int, .int | .ishr, .int, .int | .iushr, .int, .int => some .int
  | .ladd, .long, .long | .lsub, .long, .long | .lmul, .long, .long | .land, .long, .long | .lor, .long, .long | .lxor, .long, .long => some .long
  | .lcmp, .long, .long => some .int
  | .lshl, .long, .int | .lshr, .long, .int | .lushr, .long, .int => some .long
  | _, _, _ => none
def own_k1 : Unary → VKind → Option VKind
  | .ineg, .int | .i2b, .int | .i2c, .int | .i2s, .int => some .int
  | .i2l, .int => some .long
  | .l2i, .long => some .int
  | .lneg, .long => some .long
  | _, _ => none
def own_kind (ks : List VKind) : Term → Option VKind
  | .arg i => ks[i]?
  | .int _ => some .int
  | .long _ => some .long
  | .old t => own_kind ks t
  | .add a b => if own_kind ks a = some .int ∧ own_kind ks b = some .int then some .int else none
  | .sub a b => if own_kind ks a = some .int ∧ own_kind ks b = some .int then some .int else none
  | .mul a b => if own_kind ks a = some .int ∧ own_kind ks b = some .int then some .int else none
  | .op2 o a b => match own_kind ks a, own_kind ks b with
    | some x, some y => own_k2 o x y
    | _, _ => none
  | .op1 o a => match own_kind ks a with
    | some x => own_k1 o x
    | none => none
  | _ => none
def own_fits (ks : List VKind) (A : Array Value) : Prop := ∀ (i : Nat) (k : VKind), ks[i]? = some k → ∃ v, A[i]? = some v ∧ k.ok v = true
theorem own_int {v : Value} (h : VKind.ok .int v = true) : ∃ x, v = .int x := by
  cases v <;> first | exact ⟨_, rfl⟩ | (simp [VKind.ok] at h)
theorem own_long {v : Value} (h : VKind.ok .long v = true) : ∃ x, v = .long x := by
  cases v <;> first | exact ⟨_, rfl⟩ | (simp [VKind.ok] at h)
theorem own_k2_ok {o : Binary} {x y z : VKind} {v w : Value} (h : own_k2 o x y = some z) (hv : x.ok v = true) (hw : y.ok w = true) : ∃ r, o.apply v w = some r ∧ z.ok r = true := by
  cases x <;> cases y
  case int.int =>
    obtain ⟨a, rfl⟩ := own_int hv; obtain ⟨b, rfl⟩ := own_int hw
    cases o <;> first | (cases h; exact ⟨_, rfl, rfl⟩) | (cases h)
  case long.int =>
    obtain ⟨a, rfl⟩ := own_long hv; obtain ⟨b, rfl⟩ := own_int hw
    cases o <;> first | (cases h; exact ⟨_, rfl, rfl⟩) | (cases h)
  case long.long =>
    obtain ⟨a, rfl⟩ := own_long hv; obtain ⟨b, rfl⟩ := own_long hw
    cases o <;> first | (cases h; exact ⟨_, rfl, rfl⟩) | (cases h)
  all_goals (cases o <;> cases h)
theorem own_k1_ok {o : Unary} {x z : VKind} {v : Value} (h : own_k1 o x = some z) (hv : x.ok v = true) : ∃ r, o.apply v = some r ∧ z.ok r = true := by
  cases x
  case int =>
    obtain ⟨a, rfl⟩ := own_int hv
    cases o <;> first | (cases h; exact ⟨_, rfl, rfl⟩) | (cases h)
  case long =>
    obtain ⟨a, rfl⟩ := own_long hv
    cases o <;> first | (cases h; exact ⟨_, rfl, rfl⟩) | (cases h)
  all_goals (cases o <;> cases h)
theorem own_kind_ok {ks : List VKind} {A : Array Value} (hA : own_fits ks A) : ∀ (t : Term) (k : VKind), own_kind ks t = some k → ∀ first s : State, ∃ v, t.eval A first none [] s = some v ∧ k.ok v = true := by
  intro t
  induction t with
  | arg i => intro b h first s; exact hA i b h
  | int v => intro b h first s; cases h; exact ⟨_, rfl, rfl⟩
  | long v => intro b h first s; cases h; exact ⟨_, rfl, rfl⟩
  | old t ih => intro b h first s; exact ih b h first first
  | add a b iha ihb =>
    intro z h first s
    simp only [own_kind] at h
    split at h
    · rename_i hc
      cases h
      obtain ⟨v, e1, k1⟩ := iha _ hc.1 first s
      obtain ⟨w, e2, k2⟩ := ihb _ hc.2 first s
      obtain ⟨x, rfl⟩ := own_int k1; obtain ⟨y, rfl⟩ := own_int k2
      exact ⟨.int (x + y), by simp [Term.eval, e1, e2], rfl⟩
    · cases h
  | sub a b iha ihb =>
    intro z h first s
    simp only [own_kind] at h
    split at h
    · rename_i hc
      cases h
      obtain ⟨v, e1, k1⟩ := iha _ hc.1 first s
      obtain ⟨w, e2, k2⟩ := ihb _ hc.2 first s
      obtain ⟨x, rfl⟩ := own_int k1; obtain ⟨y, rfl⟩ := own_int k2
      exact ⟨.int (x - y), by simp [Term.eval, e1, e2], rfl⟩
    · cases h
  | mul a b iha ihb =>
    intro z h first s
    simp only [own_kind] at h
    split at h
    · rename_i hc
      cases h
      obtain ⟨v, e1, k1⟩ := iha _ hc.1 first s
      obtain ⟨w, e2, k2⟩ := ihb _ hc.2 first s
      obtain ⟨x, rfl⟩ := own_int k1; obtain ⟨y, rfl⟩ := own_int k2
      exact ⟨.int (x * y), by simp [Term.eval, e1, e2], rfl⟩
    · cases h
  | op2 f a b iha ihb =>
    intro z h first s
    simp only [own_kind] at h
    split at h
    · rename_i x y ha hb
      obtain ⟨v, e1, k1⟩ := iha x ha first s
      obtain ⟨w, e2, k2⟩ := ihb y hb first s
      obtain ⟨r, e3, k3⟩ := own_k2_ok h k1 k2
      exact ⟨r, by simp [Term.eval, e1, e2, e3], k3⟩
    · cases h
  | op1 f a iha =>
    intro z h first s
    simp only [own_kind] at h
    split at h
    · rename_i x ha
      obtain ⟨v, e1, k1⟩ := iha x ha first s
      obtain ⟨r, e3, k3⟩ := own_k1_ok h k1
      exact ⟨r, by simp [Term.eval, e1, e3], k3⟩
    · cases h
  | _ => intro b h; cases h
def own_same : Option VKind → Option VKind → Bool
  | some .int, some .int => true
  | some .long, some .long => true
  | _, _ => false
theorem own_same_cases {a b : Option VKind} (h : own_same a b = true) : (a = some .int ∧ b = some .int) ∨ (a = some .long ∧ b = some .long) := by
  unfold own_same at h
  split at h
  · exact Or.inl ⟨rfl, rfl⟩
  · exact Or.inr ⟨rfl, rfl⟩
  · cases h
def own_def (ks : List VKind) : Cond → Bool
  | .tt => true
  | .eq a b => own_same (own_kind ks a) (own_kind ks b)
  | .lt a b => own_same (own_kind ks a) (own_kind ks b)
  | .le a b => own_same (own_kind ks a) (own_kind ks b)
  | .not c => own_def ks c
  | .and a b => own_def ks a && own_def ks b
  | .or a b => own_def ks a && own_def ks b
  | _ => false
theorem own_pair {ks : List VKind} {A : Array Value} (hA : own_fits ks A) {a b : Term} (h : own_same (own_kind ks a) (own_kind ks b) = true) (first s : State) :
    (∃ x y, a.eval A first none [] s = some (.int x) ∧ b.eval A first none [] s = some (.int y)) ∨ (∃ x y, a.eval A first none [] s = some (.long x) ∧ b.eval A first none [] s = some (.long y)) := by
  rcases own_same_cases h with ⟨h1, h2⟩ | ⟨h1, h2⟩
  · obtain ⟨v, e1, k1⟩ := own_kind_ok hA a _ h1 first s
    obtain ⟨w, e2, k2⟩ := own_kind_ok hA b _ h2 first s
    obtain ⟨x, rfl⟩ := own_int k1; obtain ⟨y, rfl⟩ := own_int k2
    exact Or.inl ⟨x, y, e1, e2⟩
  · obtain ⟨v, e1, k1⟩ := own_kind_ok hA a _ h1 first s
    obtain ⟨w, e2, k2⟩ := own_kind_ok hA b _ h2 first s
    obtain ⟨x, rfl⟩ := own_long k1; obtain ⟨y, rfl⟩ := own_long k2
    exact Or.inr ⟨x, y, e1, e2⟩
theorem own_def_ok {ks : List VKind} {A : Array Value} (hA : own_fits ks A) (first s : State) : ∀ c : Cond, own_def ks c = true → ∃ b, c.value A first none s [] = some b := by
  intro c
  induction c with
  | tt => intro _; exact ⟨true, rfl⟩
  | eq a b =>
    intro h
    rcases own_pair hA h first s with ⟨x, y, e1, e2⟩ | ⟨x, y, e1, e2⟩
    · exact ⟨decide (x = y), by simp only [Cond.value, e1, e2]⟩
    · exact ⟨decide (x = y), by simp only [Cond.value, e1, e2]⟩
  | lt a b =>
    intro h
    rcases own_pair hA h first s with ⟨x, y, e1, e2⟩ | ⟨x, y, e1, e2⟩
    · exact ⟨decide (x < y), by simp only [Cond.value, e1, e2]⟩
    · exact ⟨decide (x < y), by simp only [Cond.value, e1, e2]⟩
  | le a b =>
    intro h
    rcases own_pair hA h first s with ⟨x, y, e1, e2⟩ | ⟨x, y, e1, e2⟩
    · exact ⟨decide (x ≤ y), by simp only [Cond.value, e1, e2]⟩
    · exact ⟨decide (x ≤ y), by simp only [Cond.value, e1, e2]⟩
  | not c ih =>
    intro h
    obtain ⟨b, hb⟩ := ih h
    exact ⟨!b, by simp only [Cond.value, hb, Option.map_some]⟩
  | and a c iha ihc =>
    intro h
    simp only [own_def, Bool.and_eq_true] at h
    obtain ⟨b1, h1⟩ := iha h.1
    obtain ⟨b2, h2⟩ := ihc h.2
    cases b1
    · exact ⟨false, by simp only [Cond.value, h1]⟩
    · exact ⟨b2, by simp only [Cond.value, h1, h2]⟩
  | or a c iha ihc =>
    intro h
    simp only [own_def, Bool.and_eq_true] at h
    obtain ⟨b1, h1⟩ := iha h.1
    obtain ⟨b2, h2⟩ := ihc h.2
    cases b1
    · exact ⟨b2, by simp only [Cond.value, h1, h2]⟩
    · exact ⟨true, by simp only [Cond.value, h1]⟩
  | _ => intro h; cases h
def own_sure (ks : List VKind) (T : List Cond) : Cond → Bool
  | .tt => true
  | .isInt t => decide (own_kind ks t = some .int)
  | .isLong t => decide (own_kind ks t = some .long)
  | .and a b => own_sure ks T a && own_sure ks T b
  | .or a b => own_sure ks T a || (own_def ks a && own_sure ks T b)
  | c => T.contains c
theorem own_sure_ok {ks : List VKind} {A : Array Value} (hA : own_fits ks A) {T : List Cond} {s : State} (hT : ∀ c ∈ T, c.value A s none s [] = some true) : ∀ c : Cond, own_sure ks T c = true → c.value A s none s [] = some true := by
  intro c
  induction c with
  | tt => intro _; rfl
  | isInt t =>
    intro h
    obtain ⟨v, e1, k1⟩ := own_kind_ok hA t _ (of_decide_eq_true h) s s
    obtain ⟨x, rfl⟩ := own_int k1
    simp only [Cond.value, e1, Option.map_some]
  | isLong t =>
    intro h
    obtain ⟨v, e1, k1⟩ := own_kind_ok hA t _ (of_decide_eq_true h) s s
    obtain ⟨x, rfl⟩ := own_long k1
    simp only [Cond.value, e1, Option.map_some]
  | and a c iha ihc =>
    intro h
    simp only [own_sure, Bool.and_eq_true] at h
    simp only [Cond.value, iha h.1, ihc h.2]
  | or a c iha ihc =>
    intro h
    simp only [own_sure, Bool.or_eq_true, Bool.and_eq_true] at h
    rcases h with h | ⟨h1, h2⟩
    · simp only [Cond.value, iha h]
    · obtain ⟨b, hb⟩ := own_def_ok hA s s a h1
      cases b
      · simp only [Cond.value, hb, ihc h2]
      · simp only [Cond.value, hb]
  | _ => intro h; exact hT _ (List.contains_iff_mem.mp h)
theorem own_needs {ks : List VKind} {A : Array Value} (hA : own_fits ks A) {T : List Cond} {s : State} (hT : ∀ c ∈ T, c.value A s none s [] = some true) {L : List Cond} (h : L.all (own_sure ks T) = true) : ∀ q ∈ L, q.before A s = true :=
  fun q hq => before_of_value (own_sure_ok hA hT q (List.all_eq_true.mp h q hq))
def own_on (f : STree → List Cond → List Cond → Bool) : Option (STree × List Cond × List Cond) → Bool
  | some q => f q.1 q.2.1 q.2.2
  | none => false
theorem own_split {f : STree → List Cond → List Cond → Bool} {o : Option (STree × List Cond × List Cond)} (h : own_on f o = true) : ∃ t a b, o = some (t, a, b) ∧ f t a b = true := by
  cases o with
  | none => cases h
  | some q => exact ⟨q.1, q.2.1, q.2.2, rfl, h⟩
theorem own_sorts {ks : List VKind} {A : Array Value} {s : State} (hA : own_fits ks A) : ∀ (n : Nat) (ks' : List VKind), (∀ (i : Nat) (k : VKind), ks'[i]? = some k → ks[n + i]? = some k) → ∀ q ∈ Sym.sorts n ks', q.before A s = true
  | n, [], _, q, hq => by cases hq
  | n, k :: ks', h, q, hq => by
    rcases List.mem_cons.mp hq with rfl | hq
    · obtain ⟨v, e, hk⟩ := hA n k (h 0 k rfl)
      apply before_of_value
      cases k <;> cases v <;> first | (cases hk; done) | (simp [isK, Cond.value, Term.eval, e])
    · exact own_sorts hA (n + 1) ks' (fun i k' hi => by have := h (i + 1) k' hi; rwa [show n + 1 + i = n + (i + 1) by omega]) q hq
/-! own layer 2: a tree in one unknown int, decided by intervals -/
def own_i2 (f : Int32 → Int32 → Int32) : Option Value → Option Value → Option Value
  | some (.int x), some (.int y) => some (.int (f x y))
  | _, _ => none
def own_evk (V : List Term) (k : Int32) : Term → Option Value
  | .int v => some (.int v)
  | .long v => some (.long v)
  | .old t => own_evk V k t
  | .arg i => if V.contains (.arg i) then some (.int k) else none
  | .add a b => if V.contains (.add a b) then some (.int k) else own_i2 (· + ·) (own_evk V k a) (own_evk V k b)
  | .sub a b => if V.contains (.sub a b) then some (.int k) else own_i2 (· - ·) (own_evk V k a) (own_evk V k b)
  | .mul a b => if V.contains (.mul a b) then some (.int k) else own_i2 (· * ·) (own_evk V k a) (own_evk V k b)
  | .op2 o a b => if V.contains (.op2 o a b) then some (.int k) else (own_evk V k a).bind fun x => (own_evk V k b).bind fun y => o.apply x y
  | .op1 o a => if V.contains (.op1 o a) then some (.int k) else (own_evk V k a).bind fun x => o.apply x
  | _ => none
def own_holds (V : List Term) (k : Int32) (A : Array Value) : Prop := ∀ v ∈ V, ∀ first s : State, v.eval A first none [] s = some (.int k)
theorem own_i2_ok {f : Int32 → Int32 → Int32} {a b : Option Value} {v : Value} (h : own_i2 f a b = some v) : ∃ x y, a = some (.int x) ∧ b = some (.int y) ∧ v = .int (f x y) := by
  unfold own_i2 at h
  split at h
  · cases h; exact ⟨_, _, rfl, rfl, rfl⟩
  · cases h
theorem own_evk_ok {V : List Term} {k : Int32} {A : Array Value} (hV : own_holds V k A) : ∀ (t : Term) (v : Value), own_evk V k t = some v → ∀ first s : State, t.eval A first none [] s = some v := by
  intro t
  induction t with
  | int x => intro v h first s; cases h; rfl
  | long x => intro v h first s; cases h; rfl
  | old t ih => intro v h first s; exact ih v h first first
  | arg i =>
    intro v h first s
    simp only [own_evk] at h
    split at h
    · rename_i hc; cases h; exact hV _ (List.contains_iff_mem.mp hc) first s
    · cases h
  | add a b iha ihb =>
    intro v h first s
    simp only [own_evk] at h
    split at h
    · rename_i hc; cases h; exact hV _ (List.contains_iff_mem.mp hc) first s
    · obtain ⟨x, y, e1, e2, rfl⟩ := own_i2_ok h
      simp [Term.eval, iha _ e1 first s, ihb _ e2 first s]
  | sub a b iha ihb =>
    intro v h first s
    simp only [own_evk] at h
    split at h
    · rename_i hc; cases h; exact hV _ (List.contains_iff_mem.mp hc) first s
    · obtain ⟨x, y, e1, e2, rfl⟩ := own_i2_ok h
      simp [Term.eval, iha _ e1 first s, ihb _ e2 first s]
  | mul a b iha ihb =>
    intro v h first s
    simp only [own_evk] at h
    split at h
    · rename_i hc; cases h; exact hV _ (List.contains_iff_mem.mp hc) first s
    · obtain ⟨x, y, e1, e2, rfl⟩ := own_i2_ok h
      simp [Term.eval, iha _ e1 first s, ihb _ e2 first s]
  | op2 f a b iha ihb =>
    intro v h first s
    simp only [own_evk] at h
    split at h
    · rename_i hc; cases h; exact hV _ (List.contains_iff_mem.mp hc) first s
    · obtain ⟨x, e1, h⟩ := Option.bind_eq_some_iff.mp h
      obtain ⟨y, e2, h⟩ := Option.bind_eq_some_iff.mp h
      simp [Term.eval, iha _ e1 first s, ihb _ e2 first s, h]
  | op1 f a iha =>
    intro v h first s
    simp only [own_evk] at h
    split at h
    · rename_i hc; cases h; exact hV _ (List.contains_iff_mem.mp hc) first s
    · obtain ⟨x, e1, h⟩ := Option.bind_eq_some_iff.mp h
      simp [Term.eval, iha _ e1 first s, h]
  | _ => intro v h; cases h
def own_ck (V : List Term) (k : Int32) : Cond → Option Bool
  | .eq a b => match own_evk V k a, own_evk V k b with
    | some (.int x), some (.int y) => some (decide (x = y))
    | some (.long x), some (.long y) => some (decide (x = y))
    | _, _ => none
  | .lt a b => match own_evk V k a, own_evk V k b with
    | some (.int x), some (.int y) => some (decide (x < y))
    | some (.long x), some (.long y) => some (decide (x < y))
    | _, _ => none
  | .le a b => match own_evk V k a, own_evk V k b with
    | some (.int x), some (.int y) => some (decide (x ≤ y))
    | some (.long x), some (.long y) => some (decide (x ≤ y))
    | _, _ => none
  | .not c => (own_ck V k c).map (!·)
  | _ => none
theorem own_ck_ok {V : List Term} {k : Int32} {A : Array Value} (hV : own_holds V k A) (s : State) : ∀ (c : Cond) (b : Bool), own_ck V k c = some b → c.value A s none s [] = some b := by
  intro c
  induction c with
  | eq a b =>
    intro z h
    simp only [own_ck] at h
    split at h
    · rename_i e1 e2; cases h; simp only [Cond.value, own_evk_ok hV _ _ e1 s s, own_evk_ok hV _ _ e2 s s]
    · rename_i e1 e2; cases h; simp only [Cond.value, own_evk_ok hV _ _ e1 s s, own_evk_ok hV _ _ e2 s s]
    · cases h
  | lt a b =>
    intro z h
    simp only [own_ck] at h
    split at h
    · rename_i e1 e2; cases h; simp only [Cond.value, own_evk_ok hV _ _ e1 s s, own_evk_ok hV _ _ e2 s s]
    · rename_i e1 e2; cases h; simp only [Cond.value, own_evk_ok hV _ _ e1 s s, own_evk_ok hV _ _ e2 s s]
    · cases h
  | le a b =>
    intro z h
    simp only [own_ck] at h
    split at h
    · rename_i e1 e2; cases h; simp only [Cond.value, own_evk_ok hV _ _ e1 s s, own_evk_ok hV _ _ e2 s s]
    · rename_i e1 e2; cases h; simp only [Cond.value, own_evk_ok hV _ _ e1 s s, own_evk_ok hV _ _ e2 s s]
    · cases h
  | not c ih =>
    intro z h
    simp only [own_ck] at h
    cases hc : own_ck V k c with
    | none => rw [hc] at h; cases h
    | some v => rw [hc] at h; cases h; simp only [Cond.value, ih v hc, Option.map_some]
  | _ => intro z h; cases h
def own_runk (V : List Term) (k : Int32) : STree → Bool
  | .ret (some v) [] => decide (own_evk V k v.t = some (.int 1))
  | .ret _ _ => false
  | .cut _ => false
  | .fork G a b => match own_ck V k G with
    | some true => own_runk V k a
    | some false => own_runk V k b
    | none => false
theorem own_runk_ok {V : List Term} {k : Int32} {A : Array Value} (hV : own_holds V k A) (s : State) : ∀ t : STree, own_runk V k t = true → Kit.valueOf A s t = some (.int 1)
  | .ret (some v) [], h => own_evk_ok hV _ _ (of_decide_eq_true h) s s
  | .ret (some _) (_ :: _), h => by cases h
  | .ret none _, h => by cases h
  | .cut _, h => by cases h
  | .fork G a b, h => by
    simp only [own_runk] at h
    split at h
    · rename_i hc; simp only [Kit.valueOf, own_ck_ok hV s G _ hc]; exact own_runk_ok hV s a h
    · rename_i hc; simp only [Kit.valueOf, own_ck_ok hV s G _ hc]; exact own_runk_ok hV s b h
    · cases h
def own_isv (V : List Term) : Term → Bool
  | .old t => own_isv V t
  | t => V.contains t
theorem own_isv_ok {V : List Term} {k : Int32} {A : Array Value} (hV : own_holds V k A) : ∀ t : Term, own_isv V t = true → ∀ first s : State, t.eval A first none [] s = some (.int k) := by
  intro t
  induction t with
  | old t ih => intro h first s; exact ih h first first
  | _ => intro h first s; exact hV _ (List.contains_iff_mem.mp h) first s
def own_lit : Term → Option Int32
  | .int v => some v
  | .old t => own_lit t
  | _ => none
theorem own_lit_ok {A : Array Value} : ∀ (t : Term) (v : Int32), own_lit t = some v → ∀ first s : State, t.eval A first none [] s = some (.int v) := by
  intro t
  induction t with
  | old t ih => intro v h first s; exact ih v h first first
  | int x => intro v h first s; cases h; rfl
  | _ => intro v h; cases h
/-- an order guard on the unknown: (p, m): the guard is worth 'x < m' (p) or its contrary -/
def own_cmp (V : List Term) : Cond → Option (Bool × Int)
  | .lt a b => match own_lit b with
    | some k => if own_isv V a then some (true, k.toInt) else none
    | none => match own_lit a with
      | some k => if own_isv V b then some (false, k.toInt + 1) else none
      | none => none
  | .le a b => match own_lit b with
    | some k => if own_isv V a then some (true, k.toInt + 1) else none
    | none => match own_lit a with
      | some k => if own_isv V b then some (false, k.toInt) else none
      | none => none
  | .not c => (own_cmp V c).map fun q => (!q.1, q.2)
  | _ => none
theorem own_cmp_ok {V : List Term} {x : Int32} {A : Array Value} (hV : own_holds V x A) (s : State) : ∀ (c : Cond) (p : Bool) (m : Int), own_cmp V c = some (p, m) → c.value A s none s [] = some (p == decide (x.toInt < m)) := by
  intro c
  induction c with
  | lt a b =>
    intro p m h
    simp only [own_cmp] at h
    split at h
    · rename_i k hk
      split at h
      · rename_i hv
        cases h
        rw [Cond.lt_ints (own_isv_ok hV a hv s s) (own_lit_ok b k hk s s)]
        simp [Int32.lt_iff_toInt_lt]
      · cases h
    · split at h
      · rename_i k hk
        split at h
        · rename_i hv
          cases h
          rw [Cond.lt_ints (own_lit_ok a k hk s s) (own_isv_ok hV b hv s s)]
          by_cases hc : k.toInt < x.toInt
          · have h2 : ¬ x.toInt < k.toInt + 1 := by omega
            simp [Int32.lt_iff_toInt_lt, hc, h2]
          · have h2 : x.toInt < k.toInt + 1 := by omega
            simp [Int32.lt_iff_toInt_lt, hc, h2]
        · cases h
      · cases h
  | le a b =>
    intro p m h
    simp only [own_cmp] at h
    split at h
    · rename_i k hk
      split at h
      · rename_i hv
        cases h
        rw [Cond.le_ints (own_isv_ok hV a hv s s) (own_lit_ok b k hk s s)]
        by_cases hc : x.toInt ≤ k.toInt
        · have h2 : x.toInt < k.toInt + 1 := by omega
          simp [Int32.le_iff_toInt_le, hc, h2]
        · have h2 : ¬ x.toInt < k.toInt + 1 := by omega
          simp [Int32.le_iff_toInt_le, hc, h2]
      · cases h
    · split at h
      · rename_i k hk
        split at h
        · rename_i hv
          cases h
          rw [Cond.le_ints (own_lit_ok a k hk s s) (own_isv_ok hV b hv s s)]
          by_cases hc : k.toInt ≤ x.toInt
          · have h2 : ¬ x.toInt < k.toInt := by omega
            simp [Int32.le_iff_toInt_le, hc, h2]
          · have h2 : x.toInt < k.toInt := by omega
            simp [Int32.le_iff_toInt_le, hc, h2]
        · cases h
      · cases h
  | not c ih =>
    intro p m h
    simp only [own_cmp] at h
    cases hc : own_cmp V c with
    | none => rw [hc] at h; cases h
    | some q =>
      obtain ⟨p', m'⟩ := q
      rw [hc] at h
      cases h
      simp only [Cond.value, ih p' m' hc, Option.map_some]
      cases p' <;> simp
  | _ => intro p m h; cases h
/-- an equality guard on the unknown -/
def own_eqk (V : List Term) : Cond → Option (Bool × Int)
  | .eq a b => match own_lit b with
    | some k => if own_isv V a then some (true, k.toInt) else none
    | none => match own_lit a with
      | some k => if own_isv V b then some (true, k.toInt) else none
      | none => none
  | .not c => (own_eqk V c).map fun q => (!q.1, q.2)
  | _ => none
theorem own_eqk_ok {V : List Term} {x : Int32} {A : Array Value} (hV : own_holds V x A) (s : State) : ∀ (c : Cond) (p : Bool) (m : Int), own_eqk V c = some (p, m) → c.value A s none s [] = some (p == decide (x.toInt = m)) := by
  intro c
  induction c with
  | eq a b =>
    intro p m h
    simp only [own_eqk] at h
    split at h
    · rename_i k hk
      split at h
      · rename_i hv
        cases h
        rw [Cond.eq_ints (own_isv_ok hV a hv s s) (own_lit_ok b k hk s s)]
        simp [Int32.toInt_inj]
      · cases h
    · split at h
      · rename_i k hk
        split at h
        · rename_i hv
          cases h
          rw [Cond.eq_ints (own_lit_ok a k hk s s) (own_isv_ok hV b hv s s)]
          simp [Int32.toInt_inj, eq_comm]
        · cases h
      · cases h
  | not c ih =>
    intro p m h
    simp only [own_eqk] at h
    cases hc : own_eqk V c with
    | none => rw [hc] at h; cases h
    | some q =>
      obtain ⟨p', m'⟩ := q
      rw [hc] at h
      cases h
      simp only [Cond.value, ih p' m' hc, Option.map_some]
      cases p' <;> simp
  | _ => intro p m h; cases h
/-- every point from lo on, n of them, stands in ex -/
def own_out (ex : List Int) (lo : Int) : Nat → Bool
  | 0 => true
  | n + 1 => ex.contains lo && own_out ex (lo + 1) n
theorem own_out_ok {ex : List Int} {x : Int} : ∀ (n : Nat) (lo : Int), own_out ex lo n = true → lo ≤ x → x < lo + n → x ∈ ex
  | 0, lo, _, h1, h2 => by omega
  | n + 1, lo, h, h1, h2 => by
    simp only [own_out, Bool.and_eq_true] at h
    by_cases hx : x = lo
    · subst hx; exact List.contains_iff_mem.mp h.1
    · exact own_out_ok n (lo + 1) h.2 (by omega) (by omega)
/-- the tree at every point from lo on, n of them, but those in ex -/
def own_points (V : List Term) (t : STree) (ex : List Int) (lo : Int) : Nat → Bool
  | 0 => true
  | n + 1 => (ex.contains lo || own_runk V (Int32.ofInt lo) t) && own_points V t ex (lo + 1) n
theorem own_points_ok {V : List Term} {t : STree} {ex : List Int} {x : Int32} : ∀ (n : Nat) (lo : Int), own_points V t ex lo n = true → lo ≤ x.toInt → x.toInt < lo + n → x.toInt ∉ ex → own_runk V x t = true
  | 0, lo, _, h1, h2, _ => by omega
  | n + 1, lo, h, h1, h2, h3 => by
    simp only [own_points, Bool.and_eq_true, Bool.or_eq_true] at h
    by_cases hx : x.toInt = lo
    · rcases h.1 with h4 | h4
      · exact absurd (List.contains_iff_mem.mp (hx ▸ h4)) h3
      · rw [← hx, Int32.ofInt_toInt] at h4; exact h4
    · exact own_points_ok n (lo + 1) h.2 (by omega) (by omega) h3
def own_good (V : List Term) : STree → Int → Int → List Int → Bool
  | .ret v W, lo, hi, ex => own_runk [] 0 (.ret v W) || (decide (hi - lo < 100) && own_out ex lo (hi - lo + 1).toNat)
  | .cut _, _, _, _ => false
  | .fork G a b, lo, hi, ex => match own_ck [] 0 G with
    | some true => own_good V a lo hi ex
    | some false => own_good V b lo hi ex
    | none => match own_cmp V G with
      | some (true, m) => (decide (m ≤ lo) || own_good V a lo (min hi (m - 1)) ex) && (decide (hi < m) || own_good V b (max lo m) hi ex)
      | some (false, m) => (decide (m ≤ lo) || own_good V b lo (min hi (m - 1)) ex) && (decide (hi < m) || own_good V a (max lo m) hi ex)
      | none => match own_eqk V G with
        | some (true, m) => (decide (m < lo) || decide (hi < m) || ex.contains m || own_good V a m m []) && own_good V b lo hi (m :: ex)
        | some (false, m) => (decide (m < lo) || decide (hi < m) || ex.contains m || own_good V b m m []) && own_good V a lo hi (m :: ex)
        | none => decide (hi - lo < 300) && own_points V (.fork G a b) ex lo (hi - lo + 1).toNat
theorem own_none {A : Array Value} {k : Int32} : own_holds [] k A := fun v hv => by cases hv
theorem own_good_ok {V : List Term} {x : Int32} {A : Array Value} (hV : own_holds V x A) (s : State) : ∀ (t : STree) (lo hi : Int) (ex : List Int), own_good V t lo hi ex = true → lo ≤ x.toInt → x.toInt ≤ hi → x.toInt ∉ ex → Kit.valueOf A s t = some (.int 1) := by
  intro t
  induction t with
  | ret v W =>
    intro lo hi ex h h1 h2 h3
    simp only [own_good, Bool.or_eq_true, Bool.and_eq_true] at h
    rcases h with h | ⟨-, h⟩
    · exact own_runk_ok own_none s _ h
    · exact absurd (own_out_ok _ lo h h1 (by omega)) h3
  | cut σ => intro lo hi ex h; cases h
  | fork G a b iha ihb =>
    intro lo hi ex h h1 h2 h3
    simp only [own_good] at h
    split at h
    · rename_i hc
      simp only [Kit.valueOf, own_ck_ok own_none s G _ hc]
      exact iha lo hi ex h h1 h2 h3
    · rename_i hc
      simp only [Kit.valueOf, own_ck_ok own_none s G _ hc]
      exact ihb lo hi ex h h1 h2 h3
    · split at h
      · rename_i m hc
        simp only [Bool.and_eq_true, Bool.or_eq_true, decide_eq_true_eq] at h
        simp only [Kit.valueOf, own_cmp_ok hV s G _ _ hc]
        by_cases hx : x.toInt < m
        · simp only [hx, decide_true]
          rcases h.1 with h | h
          · omega
          · exact iha lo _ ex h h1 (by omega) h3
        · simp only [hx, decide_false]
          rcases h.2 with h | h
          · omega
          · exact ihb _ hi ex h (by omega) h2 h3
      · rename_i m hc
        simp only [Bool.and_eq_true, Bool.or_eq_true, decide_eq_true_eq] at h
        simp only [Kit.valueOf, own_cmp_ok hV s G _ _ hc]
        by_cases hx : x.toInt < m
        · simp only [hx, decide_true]
          rcases h.1 with h | h
          · omega
          · exact ihb lo _ ex h h1 (by omega) h3
        · simp only [hx, decide_false]
          rcases h.2 with h | h
          · omega
          · exact iha _ hi ex h (by omega) h2 h3
      · split at h
        · rename_i m hc
          simp only [Bool.and_eq_true, Bool.or_eq_true, decide_eq_true_eq] at h
          simp only [Kit.valueOf, own_eqk_ok hV s G _ _ hc]
          by_cases hx : x.toInt = m
          · simp only [hx, decide_true]
            rcases h.1 with ((h | h) | h) | h
            · omega
            · omega
            · exact absurd (List.contains_iff_mem.mp (hx ▸ h)) h3
            · exact iha m m [] h (by omega) (by omega) (by simp)
          · simp only [hx, decide_false]
            exact ihb lo hi (m :: ex) h.2 h1 h2 (by simp [hx, h3])
        · rename_i m hc
          simp only [Bool.and_eq_true, Bool.or_eq_true, decide_eq_true_eq] at h
          simp only [Kit.valueOf, own_eqk_ok hV s G _ _ hc]
          by_cases hx : x.toInt = m
          · simp only [hx, decide_true]
            rcases h.1 with ((h | h) | h) | h
            · omega
            · omega
            · exact absurd (List.contains_iff_mem.mp (hx ▸ h)) h3
            · exact ihb m m [] h (by omega) (by omega) (by simp)
          · simp only [hx, decide_false]
            exact iha lo hi (m :: ex) h.2 h1 h2 (by simp [hx, h3])
        · simp only [Bool.and_eq_true, decide_eq_true_eq] at h
          exact own_runk_ok hV s _ (own_points_ok _ lo h.2 h1 (by omega) h3)
/-- free guards above, one unknown below: any of the lists of unknowns serves -/
def own_top (ks : List VKind) (Vs : List (List Term × Int × Int)) : STree → Bool
  | .ret v W => Vs.any fun q => own_good q.1 (.ret v W) q.2.1 q.2.2 []
  | .cut _ => false
  | .fork G a b => (Vs.any fun q => own_good q.1 (.fork G a b) q.2.1 q.2.2 []) || (own_def ks G && own_top ks Vs a && own_top ks Vs b)
theorem own_top_ok {ks : List VKind} {A : Array Value} (hA : own_fits ks A) {Vs : List (List Term × Int × Int)} (hVs : ∀ q ∈ Vs, ∃ x, own_holds q.1 x A ∧ q.2.1 ≤ x.toInt ∧ x.toInt ≤ q.2.2) (s : State) : ∀ t : STree, own_top ks Vs t = true → Kit.valueOf A s t = some (.int 1) := by
  have key : ∀ t : STree, (Vs.any fun q => own_good q.1 t q.2.1 q.2.2 []) = true → Kit.valueOf A s t = some (.int 1) := by
    intro t h
    obtain ⟨q, hq, h⟩ := List.any_eq_true.mp h
    obtain ⟨x, h1, h2, h3⟩ := hVs q hq
    exact own_good_ok h1 s t _ _ [] h h2 h3 (by simp)
  intro t
  induction t with
  | ret v W => intro h; exact key _ h
  | cut σ => intro h; cases h
  | fork G a b iha ihb =>
    intro h
    simp only [own_top, Bool.or_eq_true, Bool.and_eq_true] at h
    rcases h with h | ⟨⟨h1, h2⟩, h3⟩
    · exact key _ (by simpa using h)
    · obtain ⟨z, hz⟩ := own_def_ok hA s s G h1
      cases z
      · simp only [Kit.valueOf, hz]; exact ihb h3
      · simp only [Kit.valueOf, hz]; exact iha h2
/-! own layer 3: a tree whose guards are a few named ones, decided by their worths -/
def own_strip : Term → Term
  | .old t => own_strip t
  | .add a b => .add (own_strip a) (own_strip b)
  | .sub a b => .sub (own_strip a) (own_strip b)
  | .mul a b => .mul (own_strip a) (own_strip b)
  | .op2 o a b => .op2 o (own_strip a) (own_strip b)
  | .op1 o a => .op1 o (own_strip a)
  | t => t
theorem own_strip_ok (A : Array Value) (s : State) : ∀ t : Term, (own_strip t).eval A s none [] s = t.eval A s none [] s := by
  intro t
  induction t with
  | old t ih => exact ih
  | add a b iha ihb => simp only [own_strip, Term.eval, iha, ihb]
  | sub a b iha ihb => simp only [own_strip, Term.eval, iha, ihb]
  | mul a b iha ihb => simp only [own_strip, Term.eval, iha, ihb]
  | op2 o a b iha ihb => simp only [own_strip, Term.eval, iha, ihb]
  | op1 o a iha => simp only [own_strip, Term.eval, iha]
  | _ => rfl
def own_look (K : List (Cond × Bool)) : Cond → Option Bool
  | .not c => (own_look K c).map (!·)
  | .eq a b => K.lookup (.eq (own_strip a) (own_strip b))
  | .lt a b => K.lookup (.lt (own_strip a) (own_strip b))
  | .le a b => K.lookup (.le (own_strip a) (own_strip b))
  | _ => none
theorem own_lookup_mem : ∀ {K : List (Cond × Bool)} {c : Cond} {b : Bool}, K.lookup c = some b → (c, b) ∈ K
  | [], _, _, h => by cases h
  | (d, z) :: K, c, b, h => by
    simp only [List.lookup] at h
    split at h
    · rename_i hcd
      cases h
      rw [beq_iff_eq.mp hcd]; exact List.mem_cons_self
    · exact List.mem_cons_of_mem _ (own_lookup_mem h)
theorem own_look_ok {K : List (Cond × Bool)} {A : Array Value} {s : State} (hK : ∀ q ∈ K, q.1.value A s none s [] = some q.2) : ∀ (c : Cond) (b : Bool), own_look K c = some b → c.value A s none s [] = some b := by
  intro c
  induction c with
  | not c ih =>
    intro b h
    simp only [own_look] at h
    cases hc : own_look K c with
    | none => rw [hc] at h; cases h
    | some v => rw [hc] at h; cases h; simp only [Cond.value, ih v hc, Option.map_some]
  | eq a b => intro z h; have := hK _ (own_lookup_mem h); simpa only [Cond.value, own_strip_ok] using this
  | lt a b => intro z h; have := hK _ (own_lookup_mem h); simpa only [Cond.value, own_strip_ok] using this
  | le a b => intro z h; have := hK _ (own_lookup_mem h); simpa only [Cond.value, own_strip_ok] using this
  | _ => intro b h; cases h
def own_follow (K : List (Cond × Bool)) : STree → Bool
  | .ret v W => own_runk [] 0 (.ret v W)
  | .cut _ => false
  | .fork G a b => match own_ck [] 0 G with
    | some true => own_follow K a
    | some false => own_follow K b
    | none => match own_look K G with
      | some true => own_follow K a
      | some false => own_follow K b
      | none => false
theorem own_follow_ok {K : List (Cond × Bool)} {A : Array Value} {s : State} (hK : ∀ q ∈ K, q.1.value A s none s [] = some q.2) : ∀ t : STree, own_follow K t = true → Kit.valueOf A s t = some (.int 1) := by
  intro t
  induction t with
  | ret v W => intro h; exact own_runk_ok own_none s _ h
  | cut σ => intro h; cases h
  | fork G a b iha ihb =>
    intro h
    simp only [own_follow] at h
    split at h
    · rename_i hc; simp only [Kit.valueOf, own_ck_ok own_none s G _ hc]; exact iha h
    · rename_i hc; simp only [Kit.valueOf, own_ck_ok own_none s G _ hc]; exact ihb h
    · split at h
      · rename_i hc; simp only [Kit.valueOf, own_look_ok hK G _ hc]; exact iha h
      · rename_i hc; simp only [Kit.valueOf, own_look_ok hK G _ hc]; exact ihb h
      · cases h
theorem own_ball {f : Bool → Bool} (h : [false, true].all f = true) (b : Bool) : f b = true := by
  simp only [List.all_cons, List.all_nil, Bool.and_true, Bool.and_eq_true] at h
  cases b
  · exact h.1
  · exact h.2
/-! the callees, the walk -/
def y1 : MethodName := ⟨"com/example/nodefold/nodefold/fold/Mixer", "mix", "(J)J"⟩
def y1code : ByteArray := @@{@code:com/example/nodefold/nodefold/fold/Mixer.mix:(J)J}@@
def y1I : Info := { own := "com/example/nodefold/nodefold/fold/Mixer", ret := some .long, longs := [(7, -7046029254386353131), (9, -4658895280553007687), (11, -7723592293110705685)] }
def y1out : Option (Cond × List Cond × List Cond) := walk y1I y1code 400 (entry [.long] 4)
theorem y1walks : y1out.isSome = true := by decide +kernel
def y1got : Cond × List Cond × List Cond := y1out.get y1walks
def y1spec : Spec := specOf y1 y1code 4 (some .long) [.long] y1got.1 y1got.2.1 y1got.2.2
theorem y1meets (l : Launch) : MeetsLoose l y1 y1spec :=
  walk_meets (n := 400) (I := y1I) (by decide) rfl rfl (show walk y1I y1code 400 (entry [.long] 4) = some (y1got.1, y1got.2.1, y1got.2.2) from (Option.some_get y1walks).symm)
theorem y1cold : y1spec.Cold := Spec.cold_of_keeps (by decide +kernel)
def callee1 : Callee := { y := y1, S := y1spec, bytes := y1code, maxL := 4, ret := some .long, static := true, params := 1, res := some .long }
def y2 : MethodName := ⟨"com/example/nodefold/nodefold/fold/MixerMixPinLaw", "inverseOdd", "(J)J"⟩
def y2code : ByteArray := @@{@code:com/example/nodefold/nodefold/fold/MixerMixPinLaw.inverseOdd:(J)J}@@
def y2I : Info := { own := "com/example/nodefold/nodefold/fold/MixerMixPinLaw", ret := some .long, longs := [(7, 2)] }
def y2out : Option (Cond × List Cond × List Cond) := walk y2I y2code 400 (entry [.long] 4)
theorem y2walks : y2out.isSome = true := by decide +kernel
def y2got : Cond × List Cond × List Cond := y2out.get y2walks
def y2spec : Spec := specOf y2 y2code 4 (some .long) [.long] y2got.1 y2got.2.1 y2got.2.2
theorem y2meets (l : Launch) : MeetsLoose l y2 y2spec :=
  walk_meets (n := 400) (I := y2I) (by decide) rfl rfl (show walk y2I y2code 400 (entry [.long] 4) = some (y2got.1, y2got.2.1, y2got.2.2) from (Option.some_get y2walks).symm)
theorem y2cold : y2spec.Cold := Spec.cold_of_keeps (by decide +kernel)
def callee2 : Callee := { y := y2, S := y2spec, bytes := y2code, maxL := 4, ret := some .long, static := true, params := 1, res := some .long }
def y3 : MethodName := ⟨"com/example/nodefold/nodefold/fold/MixerMixPinLaw", "unmix", "(J)J"⟩
def y3code : ByteArray := @@{@code:com/example/nodefold/nodefold/fold/MixerMixPinLaw.unmix:(J)J}@@
def y3room : Room := { frames := 1, cells := 0, slots := 0, locals := 17 }
def y3I : Info := { own := "com/example/nodefold/nodefold/fold/MixerMixPinLaw", ret := some .long, longs := [(9, -7723592293110705685), (17, -4658895280553007687), (19, -7046029254386353131)], calls := [(11, callee2)], maxLocals := 4, room := y3room }
def y3out : Option (Cond × List Cond × List Cond) := walk y3I y3code 400 (entry [.long] 4)
theorem y3walks : y3out.isSome = true := by decide +kernel
def y3got : Cond × List Cond × List Cond := y3out.get y3walks
def y3spec : Spec := specOf y3 y3code 4 (some .long) [.long] y3got.1 y3got.2.1 y3got.2.2 y3room
theorem y3meets (l : Launch) : MeetsLoose l y3 y3spec :=
  walk_meets (n := 400) (I := y3I) (by decide) rfl rfl (show walk y3I y3code 400 (entry [.long] 4) = some (y3got.1, y3got.2.1, y3got.2.2) from (Option.some_get y3walks).symm)
    (fun q hq => by
      simp only [y3I, List.mem_cons, List.not_mem_nil, or_false] at hq
      subst hq; exact ⟨rfl, rfl, y2meets l, y2cold⟩)
theorem y3cold : y3spec.Cold := Spec.cold_of_keeps (by decide +kernel)
def callee3 : Callee := { y := y3, S := y3spec, bytes := y3code, maxL := 4, ret := some .long, static := true, params := 1, res := some .long }
def I : Info := { own := x.cls, ret := ret, calls := [(@@{@midx:com/example/nodefold/nodefold/fold/Mixer.mix:(J)J}@@, callee1), (@@{@midx:com/example/nodefold/nodefold/fold/MixerMixPinLaw.unmix:(J)J}@@, callee3)], maxLocals := maxLocals, room := room_1 }
theorem callsOk (l : Launch) : CallsOk l I maxLocals room_1 := fun q hq => by
  simp only [I, List.mem_cons, List.not_mem_nil, or_false] at hq
  rcases hq with rfl | rfl
  · exact ⟨rfl, rfl, y1meets l, y1cold⟩
  · exact ⟨rfl, rfl, y3meets l, y3cold⟩
theorem own_fit (a : Int64) : own_fits [.long] #[.long a] := by
  intro i k h
  match i, h with
  | 0, h => cases h; exact ⟨_, rfl, rfl⟩
  | i + 1, h => simp at h
/-! the arithmetic, no program in sight -/
def cA : Int64 := -7046029254386353131
def cB : Int64 := -4658895280553007687
def cC : Int64 := -7723592293110705685
def vSh (k : Int32) (z : Int64) : Int64 := (z.toUInt64 >>> (k &&& 0x3f).toInt64.toUInt64).toInt64
def vX (k : Int32) (z : Int64) : Int64 := z ^^^ vSh k z
def vXX (k k2 : Int32) (z : Int64) : Int64 := z ^^^ vSh k z ^^^ vSh k2 z
def vI (c i : Int64) : Int64 := i * (2 - c * i)
def vInv (c : Int64) : Int64 := vI c (vI c (vI c (vI c (vI c c))))
def vMix (z : Int64) : Int64 := vX 31 (vX 27 (vX 30 (z + cA) * cB) * cC)
def vUnmix (z : Int64) : Int64 := vXX 30 60 (vXX 27 54 (vXX 31 62 z * vInv cC) * vInv cB) - cA
theorem own_sh (z : Int64) (k : Int32) {n : Nat} (hn : ((k &&& 0x3f).toInt64.toUInt64).toNat = n) (hk : n < 64) : (vSh k z).toBitVec = z.toBitVec >>> n := by
  apply BitVec.eq_of_toNat_eq
  unfold vSh
  generalize (k &&& 0x3f).toInt64.toUInt64 = d at hn
  simp only [UInt64.toBitVec_toInt64, UInt64.toBitVec_shiftRight, Int64.toBitVec_toUInt64]
  simp [BitVec.toNat_ushiftRight, hn, Nat.mod_eq_of_lt hk]
theorem own_bv (z : BitVec 64) (n : Nat) (h : 64 ≤ 3 * n) : (z ^^^ (z >>> n)) ^^^ ((z ^^^ (z >>> n)) >>> n) ^^^ ((z ^^^ (z >>> n)) >>> (2 * n)) = z := by
  apply BitVec.eq_of_getLsbD_eq
  intro i hi
  have h3 : z.getLsbD (n + (2 * n + i)) = false := BitVec.getLsbD_of_ge _ _ (by omega)
  have e : n + (n + i) = 2 * n + i := by omega
  simp only [BitVec.getLsbD_xor, BitVec.getLsbD_ushiftRight, e, h3]
  generalize z.getLsbD i = b1
  generalize z.getLsbD (n + i) = b2
  generalize z.getLsbD (2 * n + i) = b3
  cases b1 <;> cases b2 <;> cases b3 <;> rfl
theorem own_undo (z : Int64) (k k2 : Int32) {n : Nat} (hn : ((k &&& 0x3f).toInt64.toUInt64).toNat = n) (hn2 : ((k2 &&& 0x3f).toInt64.toUInt64).toNat = 2 * n) (hk : 2 * n < 64) (h : 64 ≤ 3 * n) : vXX k k2 (vX k z) = z := by
  apply Int64.toBitVec_inj.mp
  simp only [vXX, vX, Int64.toBitVec_xor, own_sh _ k hn (by omega), own_sh _ k2 hn2 hk]
  exact own_bv z.toBitVec n h
theorem own_invB : cB * vInv cB = 1 := by decide +kernel
theorem own_invC : cC * vInv cC = 1 := by decide +kernel
theorem own_back (z : Int64) : vUnmix (vMix z) = z := by
  unfold vUnmix vMix
  rw [own_undo _ 31 62 (n := 31) (by decide) (by decide) (by decide) (by decide), Int64.mul_assoc, own_invC, Int64.mul_one,
    own_undo _ 27 54 (n := 27) (by decide) (by decide) (by decide) (by decide), Int64.mul_assoc, own_invB, Int64.mul_one,
    own_undo _ 30 60 (n := 30) (by decide) (by decide) (by decide) (by decide), Int64.add_sub_cancel]
/-! the terms -/
def tX (k : Int32) (t : Term) : Term := .op2 .lxor t (.op2 .lushr t (.int k))
def tXX (k k2 : Int32) (t : Term) : Term := .op2 .lxor (.op2 .lxor t (.op2 .lushr t (.int k))) (.op2 .lushr t (.int k2))
def tI (c : Int64) (i : Term) : Term := .op2 .lmul i (.op2 .lsub (.long 2) (.op2 .lmul (.long c) i))
def tInv (c : Int64) : Term := tI c (tI c (tI c (tI c (tI c (.long c)))))
def tMix (t : Term) : Term := tX 31 (.op2 .lmul (tX 27 (.op2 .lmul (tX 30 (.op2 .ladd t (.long cA))) (.long cB))) (.long cC))
def tUnmix (t : Term) : Term := .op2 .lsub (tXX 30 60 (.op2 .lmul (tXX 27 54 (.op2 .lmul (tXX 31 62 t) (tInv cC))) (tInv cB))) (.long cA)
section Terms
variable {A : Array Value} {s : State}
theorem eX {t : Term} {z : Int64} (k : Int32) (h : t.eval A s none [] s = some (.long z)) : (tX k t).eval A s none [] s = some (.long (vX k z)) := by
  simp only [tX, Term.eval, h, Option.bind_eq_bind, Option.bind_some, Binary.apply]; rfl
theorem eXX {t : Term} {z : Int64} (k k2 : Int32) (h : t.eval A s none [] s = some (.long z)) : (tXX k k2 t).eval A s none [] s = some (.long (vXX k k2 z)) := by
  simp only [tXX, Term.eval, h, Option.bind_eq_bind, Option.bind_some, Binary.apply]; rfl
theorem eI {t : Term} {z : Int64} (c : Int64) (h : t.eval A s none [] s = some (.long z)) : (tI c t).eval A s none [] s = some (.long (vI c z)) := by
  simp only [tI, Term.eval, h, Option.bind_eq_bind, Option.bind_some, Binary.apply]; rfl
theorem eInv (c : Int64) : (tInv c).eval A s none [] s = some (.long (vInv c)) := eI c (eI c (eI c (eI c (eI c rfl))))
theorem eOp {t u : Term} {z w r : Int64} {o : Binary} (h : t.eval A s none [] s = some (.long z)) (h2 : u.eval A s none [] s = some (.long w)) (ho : o.apply (.long z) (.long w) = some (.long r)) : (Term.op2 o t u).eval A s none [] s = some (.long r) := by
  simp only [Term.eval, h, h2, Option.bind_eq_bind, Option.bind_some, ho]
theorem eMix {t : Term} {z : Int64} (h : t.eval A s none [] s = some (.long z)) : (tMix t).eval A s none [] s = some (.long (vMix z)) :=
  eX 31 (eOp (eX 27 (eOp (eX 30 (eOp h rfl rfl)) rfl rfl)) rfl rfl)
theorem eUnmix {t : Term} {z : Int64} (h : t.eval A s none [] s = some (.long z)) : (tUnmix t).eval A s none [] s = some (.long (vUnmix z)) :=
  eOp (eXX 30 60 (eOp (eXX 27 54 (eOp (eXX 31 62 h) (eInv cC) rfl)) (eInv cB) rfl)) rfl rfl
end Terms
def G1 : Cond := .eq (.op2 .lcmp (tUnmix (tMix (.arg 0))) (.arg 0)) (.int 0)
theorem own_G1 (a : Int64) (s : State) : ∀ q ∈ [(G1, true)], q.1.value #[.long a] s none s [] = some q.2 := by
  intro q hq
  simp only [List.mem_cons, List.not_mem_nil, or_false] at hq
  subst hq
  have h0 : (Term.arg 0).eval #[.long a] s none [] s = some (.long a) := rfl
  have h1 : (tUnmix (tMix (.arg 0))).eval #[.long a] s none [] s = some (.long a) := by rw [eUnmix (eMix h0), own_back]
  have h2 : (Term.op2 .lcmp (tUnmix (tMix (.arg 0))) (.arg 0)).eval #[.long a] s none [] s = some (.int 0) := by
    have hc : Binary.lcmp.apply (.long a) (.long a) = some (.int (if a > a then 1 else if a == a then 0 else -1)) := rfl
    have hl : ¬ a > a := by show ¬ a < a; rw [Int64.lt_iff_toInt_lt]; omega
    simp only [Term.eval, h1, Option.bind_eq_bind, Option.bind_some]
    have h0' : (#[Value.long a] : Array Value)[0]? = some (.long a) := rfl
    rw [h0']
    simp only [Option.bind_some, hc, hl, if_false, beq_self_eq_true, if_true]
  show G1.value _ s none s [] = _
  refine (Cond.eq_ints (x := 0) (y := 0) h2 rfl).trans ?_
  simp
def own_ks : List VKind := [.long]
def own_check (t : STree) (tabs needs : List Cond) : Bool := Kit.pureVal t && own_follow [(G1, true)] t && (tabs.all fun q => (Cond.code x code maxLocals ret :: tables_1).contains q) && needs.all (own_sure own_ks (Cond.code x code maxLocals ret :: tables_1))
set_option maxRecDepth 65536 in
theorem own_all : own_on own_check (walkTo I code [] 600 true (entry own_ks maxLocals)) = true := by decide +kernel
def post_1 : Cond := .and limb_1_1 limb_1_2
theorem met_1 (l : Launch) : MeetsLoose l x (armSpec x code maxLocals ret tables_1 room_1 .tt (.and given_1 narrow_1) post_1 frame_1_writes frame_1_arrays frame_1_statics) := by
  obtain ⟨t, tabs, needs, hw, hall⟩ := own_split own_all
  simp only [own_check, Bool.and_eq_true] at hall
  obtain ⟨⟨⟨hp, hv⟩, ht⟩, hn⟩ := hall
  refine loops_meets (I := I) (ks0 := own_ks) (cuts := []) (by decide) rfl rfl rfl rfl rfl (fun args s h => ?_) hw (fun _ => none) (fun _ _ _ _ _ => False) (fun _ _ _ => 0) (fun args s h => ?_) (fun args s _ h ks hks => by cases hks) (callsOk l)
  · simp only [armSpec, allAtoms, List.foldr_cons, Cond.before_and, Bool.and_eq_true] at h; exact h.1.1
  · have hts : (allAtoms (Cond.code x code maxLocals ret :: tables_1)).before args s = true := by simp only [armSpec, Cond.before_and, Bool.and_eq_true] at h; exact h.1
    simp only [armSpec, given_1, Cond.before_and, Bool.and_eq_true] at h
    obtain ⟨-, -, ⟨hc, h0⟩, -⟩ := h
    obtain ⟨a, ha⟩ := Cond.isLong_spec h0
    obtain rfl := args1'' (by simpa [Cond.before, Cond.holds, Cond.value] using hc) (show args[0]? = some (.long a) from ha)
    have hT : ∀ cd ∈ (Cond.code x code maxLocals ret :: tables_1), cd.value #[.long a] s none s [] = some true := fun cd hcd => value_of_before (atoms_spec hts cd hcd)
    refine ⟨rfl, own_sorts (own_fit a) 0 own_ks (fun i k h => by rw [Nat.zero_add]; exact h), tabs_of_sub hts ht, own_needs (own_fit a) hT hn, Kit.vc_of_value (w₀ := .int 1) (fun E => ?_) t hp (own_follow_ok (own_G1 a s) t hv)⟩
    simp [armSpec, post_1, limb_1_1, limb_1_2, Cond.after, Cond.holds, Cond.value, Term.eval]
theorem main_1_1 : Claimed_1_1 := armFor_of_meets0 (fun l => (met_1 l).meets) (fun _ _ _ _ h => by simp only [post_1, Cond.after_and, Bool.and_eq_true] at h; exact h.1)
theorem main_1_2 : Claimed_1_2 := armFor_of_meets0 (fun l => (met_1 l).meets) (fun _ _ _ _ h => by simp only [post_1, Cond.after_and, Bool.and_eq_true] at h; exact h.2)
end Jvm.Pilot.@@N@@
namespace Jvm.Pilot.@@N@@
open Jvm Jvm.ClassFile Sem Op Lib Jvm.Free Jvm.Stand Jvm.Pilot.@@N@@.Jvm.D
/-! MADE BY PROGRAM (witnessworld.py) out of the Statement's table words and the real class files: 7 classes; the members and pool entries that the words name. The judged class is class 1, her method 3. -/
namespace start1
open Jvm.ClassFile
def u (s : String) : CpInfo := .utf8 (stringToUtf16 s)
/-- a pool by its gaps: so many unusable entries, then the entry; so many at the end -/
def gap : Nat → List CpInfo → List CpInfo
  | 0, r => r
  | n + 1, r => .unusable :: gap n r
def poolList (es : List (Nat × CpInfo)) (last : Nat) : List CpInfo := es.foldr (fun e r => gap e.1 (e.2 :: r)) (gap last [])
def pool (es : List (Nat × CpInfo)) (last : Nat) : Array CpInfo := ⟨poolList es last⟩
def fileOf (pool : Array CpInfo) (this : Nat) (attrs : Array Attribute := #[]) (ms : Array MethodInfo := #[]) (fl : Nat := 33) (sup : Nat := 0) (ifs : Array Nat := #[]) (fds : Array FieldInfo := #[]) : ClassFile where
  minorVersion := 0
  majorVersion := 65
  constantPool := pool
  accessFlags := fl
  thisClass := this
  superClass := sup
  interfaces := ifs
  fields := fds
  methods := ms
  attributes := attrs
def plain (name : String) (sup : Option ClassId) : Class where
  name := name
  kind := .ordinary
  loader := none
  accessFlags := 33
  super := sup
  interfaces := #[]
  cf := none
  fields := #[]
  methods := #[]
  instanceTypes := #[]
  staticTypes := #[]
  resolved := #[]
  callSites := []
  init := .initialized
  statics := none
  mirror := none

def pool0 : Array CpInfo := pool [(5, u "<init>"), (0, u "()V"), (1, .class_ 10), (1, u "java/lang/Object")] 113

def k0m0 : Method := { name := "<init>", desc := "()V", sig := { parameters := [], returnType := none }, accessFlags := 1, code := none }
/-- java/lang/Object -/
def k0 : Class := { plain "java/lang/Object" none with
  accessFlags := 33
  interfaces := #[]
  cf := some (fileOf pool0 8 #[] #[{ accessFlags := 1, nameIndex := 5, descriptorIndex := 6, attributes := #[] }] 33 0 #[] #[])
  fields := #[]
  methods := #[k0m0]
  instanceTypes := #[]
  staticTypes := #[]
  resolved := Array.replicate 124 none
  statics := none }

def pool1 : Array CpInfo := pool [(2, .class_ 4), (1, u "java/lang/Object"), (0, u "<init>"), (0, u "()V"), (0, .long 2), (1, .long 10723151780598845931), (1, .methodref 12 13), (0, .class_ 14), (0, .nameAndType 15 16), (0, u "com/example/nodefold/nodefold/fold/MixerMixPinLaw"), (0, u "inverseOdd"), (0, u "(J)J"), (0, .long 13787848793156543929), (1, .long 11400714819323198485), (1, .methodref 22 23), (0, .class_ 24), (0, .nameAndType 25 16), (0, u "com/example/nodefold/nodefold/fold/Mixer"), (0, u "mix"), (0, .methodref 12 27), (0, .nameAndType 28 16), (0, u "unmix"), (2, u "law"), (0, u "(J)Z")] 3

def k1m0 : Method := { name := "<init>", desc := "()V", sig := { parameters := [], returnType := none }, accessFlags := 2, code := none }
def k1c1 : Code := { maxStack := 8, maxLocals := 4, code := method_2_code, exceptionTable := #[], attributes := #[] }
def k1m1 : Method := { name := "inverseOdd", desc := "(J)J", sig := { parameters := [.long], returnType := some .long }, accessFlags := 10, code := some k1c1 }
def k1c2 : Code := { maxStack := 5, maxLocals := 4, code := method_3_code, exceptionTable := #[], attributes := #[] }
def k1m2 : Method := { name := "unmix", desc := "(J)J", sig := { parameters := [.long], returnType := some .long }, accessFlags := 10, code := some k1c2 }
def k1c3 : Code := { maxStack := 4, maxLocals := 4, code := code, exceptionTable := #[], attributes := #[] }
def k1m3 : Method := { name := "law", desc := "(J)Z", sig := { parameters := [.long], returnType := some .boolean }, accessFlags := 9, code := some k1c3 }
/-- com/example/nodefold/nodefold/fold/MixerMixPinLaw -/
def k1 : Class := { plain "com/example/nodefold/nodefold/fold/MixerMixPinLaw" (some 0) with
  accessFlags := 49
  interfaces := #[]
  cf := some (fileOf pool1 12 #[] #[{ accessFlags := 2, nameIndex := 5, descriptorIndex := 6, attributes := #[] }, { accessFlags := 10, nameIndex := 15, descriptorIndex := 16, attributes := #[] }, { accessFlags := 10, nameIndex := 28, descriptorIndex := 16, attributes := #[] }, { accessFlags := 9, nameIndex := 31, descriptorIndex := 32, attributes := #[] }] 49 2 #[] #[])
  fields := #[]
  methods := #[k1m0, k1m1, k1m2, k1m3]
  instanceTypes := #[]
  staticTypes := #[]
  resolved := Array.replicate 36 none
  statics := none }

def pool2 : Array CpInfo := pool [(2, .class_ 4), (1, u "java/lang/Object"), (0, u "<init>"), (0, u "()V"), (0, .long 11400714819323198485), (1, .long 13787848793156543929), (1, .long 10723151780598845931), (1, .class_ 14), (0, u "com/example/nodefold/nodefold/fold/Mixer"), (2, u "mix"), (0, u "(J)J")] 2

def k2m0 : Method := { name := "<init>", desc := "()V", sig := { parameters := [], returnType := none }, accessFlags := 2, code := none }
def k2c1 : Code := { maxStack := 5, maxLocals := 4, code := prog_51_method_2_code, exceptionTable := #[], attributes := #[] }
def k2m1 : Method := { name := "mix", desc := "(J)J", sig := { parameters := [.long], returnType := some .long }, accessFlags := 8, code := some k2c1 }
/-- com/example/nodefold/nodefold/fold/Mixer -/
def k2 : Class := { plain "com/example/nodefold/nodefold/fold/Mixer" (some 0) with
  accessFlags := 48
  interfaces := #[]
  cf := some (fileOf pool2 13 #[] #[{ accessFlags := 2, nameIndex := 5, descriptorIndex := 6, attributes := #[] }, { accessFlags := 8, nameIndex := 17, descriptorIndex := 18, attributes := #[] }] 48 2 #[] #[])
  fields := #[]
  methods := #[k2m0, k2m1]
  instanceTypes := #[]
  staticTypes := #[]
  resolved := Array.replicate 21 none
  statics := none }

def pool3 : Array CpInfo := pool [(1, u "java/lang/Cloneable"), (0, .class_ 1), (0, u "java/lang/Object"), (0, .class_ 3)] 3

/-- java/lang/Cloneable -/
def k3 : Class := { plain "java/lang/Cloneable" (some 0) with
  accessFlags := 1537
  interfaces := #[]
  cf := some (fileOf pool3 2 #[] #[] 1537 4 #[] #[])
  fields := #[]
  methods := #[]
  instanceTypes := #[]
  staticTypes := #[]
  resolved := Array.replicate 8 none
  statics := none }

def pool4 : Array CpInfo := pool [(1, u "java/io/Serializable"), (0, .class_ 1), (0, u "java/lang/Object"), (0, .class_ 3)] 3

/-- java/io/Serializable -/
def k4 : Class := { plain "java/io/Serializable" (some 0) with
  accessFlags := 1537
  interfaces := #[]
  cf := some (fileOf pool4 2 #[] #[] 1537 4 #[] #[])
  fields := #[]
  methods := #[]
  instanceTypes := #[]
  staticTypes := #[]
  resolved := Array.replicate 8 none
  statics := none }

/-- the primitive byte -/
def k5 : Class := { plain "byte" none with kind := .primitive 'B', accessFlags := 0x411 }
/-- [B -/
def k6 : Class := { plain "[B" (some 0) with kind := .array 5 .byte, interfaces := #[3, 4], accessFlags := 1041 }

def heap : Heap := #[]
def classes : Array Class := #[k0, k1, k2, k3, k4, k5, k6]
def interned : List (Array UInt16 × Addr) := []
def slotsUsed : Nat := 0
def theMethod : MethodId := ⟨1, 3⟩
def args0 : Array Value := #[.long 5]
def aboutOver (below : List Frame) : State where
  vm := { classes := classes, interned := interned.toArray }
  heap := heap
  slotsUsed := slotsUsed
  threads := #[{ frames := .invoking theMethod args0 :: below }]
def below0 : List Frame := [.native { method := ⟨0, 0⟩, args := #[] }]
def about1 : State := aboutOver below0
def p0 : Program := .bare "" "" ""
def e0 : Env := launch0.env 0 0 0
theorem w_frames : about1.frames = Frame.invoking theMethod args0 :: below0 := rfl
set_option maxRecDepth 65536 in
theorem w_args : argsFit about1.vm theMethod args0 = true := by decide +kernel
set_option maxRecDepth 65536 in
theorem w_heap : heapFits about1 = true := by decide +kernel
set_option maxRecDepth 65536 in
theorem w_runnable : about1.curStatus? = some .runnable := by decide +kernel
set_option maxRecDepth 65536 in
theorem w_alone : about1.alone = true := by decide +kernel
set_option maxRecDepth 65536 in
theorem w_named : about1.methodNamed? x = some theMethod := by decide +kernel
set_option maxRecDepth 65536 in
theorem w_hears : about1.hears theMethod below0 = true := by decide +kernel
set_option maxRecDepth 65536 in
theorem w_ripe : about1.ripe theMethod args0 below0 = true := by decide +kernel
theorem w_running : about1.status = .running := rfl
set_option maxRecDepth 65536 in
theorem w_room : about1.hasRoom e0.platform room_1 = true :=
  launch0.hasRoom_least _ room_1 (by decide +kernel) (by decide +kernel) (by decide +kernel) (by decide +kernel) (by decide +kernel) (by decide +kernel)
theorem allAtoms_all (ts : List Jvm.Cond) (a : Array Jvm.Value) (st : Jvm.State) : (allAtoms ts).before a st = ts.all (fun c => c.before a st) := by
  induction ts with
  | nil => rfl
  | cons c t ih =>
    show (Jvm.Cond.and c (allAtoms t)).before a st = _
    rw [Jvm.Cond.before_and, ih, List.all_cons]
def words1 : List Jvm.Cond := Jvm.Cond.code x code maxLocals ret :: tables_1
/-- a 'code' word, met by the world's own term for the bytes: nothing is compared byte by byte -/
theorem code_word {y : MethodName} {bytes : ByteArray} {mx : Nat} {rt : Option FieldType} {a : Array Value} {s : State} {m : MethodId} {meth : Method} {c : Code} (h1 : s.methodNamed? y = some m) (h2 : s.vm.method? m = some meth) (h3 : meth.code = some c) (h4 : c.code = bytes)
    (h5 : (c.maxLocals == mx && c.exceptionTable.isEmpty && decide (c.maxStack ≤ mostOperands) && decide (meth.sig.returnType = rt) && !meth.locks && decide (parseMethodDescriptor y.desc = some meth.sig)) = true) : (Jvm.Cond.code y bytes mx rt).before a s = true := by
  simp only [Bool.and_eq_true, beq_iff_eq, Bool.not_eq_true', decide_eq_true_eq] at h5
  obtain ⟨⟨⟨⟨⟨g1, g2⟩, g3⟩, g4⟩, g5⟩, g6⟩ := h5
  simp [Cond.before, Cond.holds, Cond.value, h1, h2, h3, h4, g1, g2, g3, g4, g5, g6]
def isCode : Jvm.Cond → Bool
  | .code _ _ _ _ => true
  | _ => false
theorem all_split {L : List Jvm.Cond} {P : Jvm.Cond → Bool} (h1 : L.all (fun c => isCode c || P c) = true) (h2 : ∀ c ∈ L.filter isCode, P c = true) : L.all P = true := by
  refine List.all_eq_true.mpr fun c hc => ?_
  have h := List.all_eq_true.mp h1 c hc
  rcases Bool.eq_false_or_eq_true (isCode c) with hi | hi
  · exact h2 c (List.mem_filter.mpr ⟨hc, hi⟩)
  · simpa [hi] using h
set_option maxRecDepth 65536 in
theorem w_c0 : (Jvm.Cond.code x code maxLocals ret).before args0 about1 = true := code_word (m := ⟨1, 3⟩) (meth := k1m3) (c := k1c3) (by decide +kernel) rfl rfl rfl (by decide +kernel)
set_option maxRecDepth 65536 in
theorem w_c1 : (Jvm.Cond.code ({ cls := "com/example/nodefold/nodefold/fold/Mixer", name := "mix", desc := "(J)J" } : Jvm.MethodName) prog_51_method_2_code (4 : Nat) (Option.some Jvm.ClassFile.FieldType.long)).before args0 about1 = true := code_word (m := ⟨2, 1⟩) (meth := k2m1) (c := k2c1) (by decide +kernel) rfl rfl rfl (by decide +kernel)
set_option maxRecDepth 65536 in
theorem w_c2 : (Jvm.Cond.code ({ cls := "com/example/nodefold/nodefold/fold/MixerMixPinLaw", name := "unmix", desc := "(J)J" } : Jvm.MethodName) method_3_code (4 : Nat) (Option.some Jvm.ClassFile.FieldType.long)).before args0 about1 = true := code_word (m := ⟨1, 2⟩) (meth := k1m2) (c := k1c2) (by decide +kernel) rfl rfl rfl (by decide +kernel)
set_option maxRecDepth 65536 in
theorem w_c3 : (Jvm.Cond.code ({ cls := "com/example/nodefold/nodefold/fold/MixerMixPinLaw", name := "inverseOdd", desc := "(J)J" } : Jvm.MethodName) method_2_code (4 : Nat) (Option.some Jvm.ClassFile.FieldType.long)).before args0 about1 = true := code_word (m := ⟨1, 1⟩) (meth := k1m1) (c := k1c1) (by decide +kernel) rfl rfl rfl (by decide +kernel)
def codes1 : List Jvm.Cond := [Jvm.Cond.code x code maxLocals ret, Jvm.Cond.code ({ cls := "com/example/nodefold/nodefold/fold/Mixer", name := "mix", desc := "(J)J" } : Jvm.MethodName) prog_51_method_2_code (4 : Nat) (Option.some Jvm.ClassFile.FieldType.long), Jvm.Cond.code ({ cls := "com/example/nodefold/nodefold/fold/MixerMixPinLaw", name := "unmix", desc := "(J)J" } : Jvm.MethodName) method_3_code (4 : Nat) (Option.some Jvm.ClassFile.FieldType.long), Jvm.Cond.code ({ cls := "com/example/nodefold/nodefold/fold/MixerMixPinLaw", name := "inverseOdd", desc := "(J)J" } : Jvm.MethodName) method_2_code (4 : Nat) (Option.some Jvm.ClassFile.FieldType.long)]
set_option maxRecDepth 65536 in
theorem codes_eq : words1.filter isCode = codes1 := rfl
theorem w_codes : ∀ c ∈ words1.filter isCode, c.before args0 about1 = true := by
  rw [codes_eq]
  intro c hc
  simp only [codes1, List.mem_cons, List.not_mem_nil, or_false] at hc
  rcases hc with rfl | rfl | rfl | rfl
  · exact w_c0
  · exact w_c1
  · exact w_c2
  · exact w_c3
set_option maxRecDepth 65536 in
theorem w_t1 : words1.all (fun c => isCode c || c.before args0 about1) = true := by decide +kernel
theorem w_tables : (allAtoms (Jvm.Cond.code x code maxLocals ret :: tables_1)).before args0 about1 = true := by
  rw [allAtoms_all]
  show words1.all (fun c => c.before args0 about1) = true
  refine all_split ?_ w_codes
  rw [w_t1]
set_option maxRecDepth 65536 in
theorem w_case : (Jvm.Cond.and given_1 narrow_1).before args0 about1 = true := by decide +kernel
theorem w_applies : (headSpec (Jvm.Cond.code x code maxLocals ret :: tables_1) room_1).applies x e0.platform about1 = true :=
  (Spec.applies_iff w_frames).mpr ⟨w_running, w_runnable, w_alone, w_named, w_hears, w_ripe, w_room, w_tables⟩
theorem atStart : AtStart classFile x code maxLocals ret World_1 tables_1 room_1 Calls_1 rest_1 Pre_1 launch0 p0 e0 about1 theMethod args0 below0 :=
  ⟨lists_1, trivial, launch0.admits_env _ _ _, launch0.least_env, fairChoices_fair.cas, fairChoices_fair.clock, w_frames, w_args, w_heap, w_applies, trivial, trivial, w_case⟩
end start1
theorem witness_1 : WitnessClaimed_1 := ⟨start1.p0, start1.e0, start1.about1, start1.theMethod, start1.args0, start1.below0, start1.atStart⟩
end Jvm.Pilot.@@N@@
