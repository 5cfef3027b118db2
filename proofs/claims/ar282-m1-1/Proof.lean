import JvmDerived
import JvmDerived.Pilot.@@N@@Statement
import JvmDerived.Pilot.@@N@@Code
set_option linter.unusedVariables false
set_option linter.unusedSimpArgs false
@@BLOCK:HandJ.lean.txt@@
@@BLOCK:HandW.lean.txt@@
@@BLOCK:HandBits.lean.txt@@
@@BLOCK:SymRun.lean.txt@@
@@BLOCK:RowBasics.lean.txt@@
@@BLOCK:Bridge.lean.txt@@
@@BLOCK:SymKit.lean.txt@@
@@BLOCK:NumsL.lean.txt@@
@@BLOCK:Masks.lean.txt@@
namespace Jvm.Pilot.@@N@@
open Jvm Jvm.ClassFile Sem Op Jvm.Sym Jvm.Pilot.@@N@@.Jvm.D
/-! own_: PURE TREES (no heap, no state): which terms are ints or longs whatever the arguments hold, which guards are worth something, which needs hold for sure. It stands behind kit/SymKit. -/
def own_op2 : Binary → VKind → VKind → Option VKind
  | .iand, .int, .int => some .int
  | .ior, .int, .int => some .int
  | .ixor, .int, .int => some .int
  | .ishl, .int, .int => some .int
  | .ishr, .int, .int => some .int
  | .iushr, .int, .int => some .int
  | .ladd, .long, .long => some .long
  | .lsub, .long, .long => some .long
  | .lmul, .long, .long => some .long
  | .land, .long, .long => some .long
  | .lor, .long, .long => some .long
  | .lxor, .long, .long => some .long
  | .lcmp, .long, .long => some .int
  | .lshl, .long, .int => some .long
  | .lshr, .long, .int => some .long
  | .lushr, .long, .int => some .long
  | _, _, _ => none
theorem own_op2_ok {o : Binary} {ka kb k : VKind} {v w : Value} (h : own_op2 o ka kb = some k) (hv : ka.ok v = true) (hw : kb.ok w = true) : ∃ z, o.apply v w = some z ∧ k.ok z = true := by
  cases ka <;> cases v <;> simp [VKind.ok] at hv <;> cases kb <;> cases w <;> simp [VKind.ok] at hw <;> cases o <;> simp [own_op2] at h <;> subst h <;> exact ⟨_, rfl, rfl⟩
def own_op1 : Unary → VKind → Option VKind
  | .ineg, .int => some .int
  | .i2b, .int => some .int
  | .i2c, .int => some .int
  | .i2s, .int => some .int
  | .i2l, .int => some .long
  | .l2i, .long => some .int
  | .lneg, .long => some .long
  | _, _ => none
theorem own_op1_ok {o : Unary} {ka k : VKind} {v : Value} (h : own_op1 o ka = some k) (hv : ka.ok v = true) : ∃ z, o.apply v = some z ∧ k.ok z = true := by
  cases ka <;> cases v <;> simp [VKind.ok] at hv <;> cases o <;> simp [own_op1] at h <;> subst h <;> exact ⟨_, rfl, rfl⟩
def own_ii : Option VKind → Option VKind → Option VKind
  | some .int, some .int => some .int
  | _, _ => none
theorem own_ii_spec {a b : Option VKind} {k : VKind} (h : own_ii a b = some k) : a = some .int ∧ b = some .int ∧ k = .int := by
  rcases a with _ | a
  · simp [own_ii] at h
  · rcases b with _ | b
    · cases a <;> simp [own_ii] at h
    · cases a <;> cases b <;> simp [own_ii] at h
      exact ⟨rfl, rfl, h.symm⟩
def own_nz : Term → Bool
  | .int z => decide (z ≠ 0)
  | _ => false
def own_kind (ks : List VKind) : Term → Option VKind
  | .arg i => ks[i]?
  | .int _ => some .int
  | .long _ => some .long
  | .old t => own_kind ks t
  | .add a b => own_ii (own_kind ks a) (own_kind ks b)
  | .sub a b => own_ii (own_kind ks a) (own_kind ks b)
  | .mul a b => own_ii (own_kind ks a) (own_kind ks b)
  | .rem a b => if own_nz b = true then own_ii (own_kind ks a) (own_kind ks b) else none
  | .op2 o a b => (own_kind ks a).bind fun x => (own_kind ks b).bind fun y => own_op2 o x y
  | .op1 o a => (own_kind ks a).bind fun x => own_op1 o x
  | _ => none
theorem own_int_of {v : Value} (h : VKind.int.ok v = true) : ∃ z, v = .int z := by
  cases v <;> simp [VKind.ok] at h
  exact ⟨_, rfl⟩
theorem own_long_of {v : Value} (h : VKind.long.ok v = true) : ∃ z, v = .long z := by
  cases v <;> simp [VKind.ok] at h
  exact ⟨_, rfl⟩
def own_Args (ks : List VKind) (A : Array Value) : Prop := ∀ (i : Nat) (k : VKind), ks[i]? = some k → ∃ v, A[i]? = some v ∧ k.ok v = true
theorem own_kind_ok {ks : List VKind} {A : Array Value} {s : State} (hA : own_Args ks A) : ∀ (t : Term) (k : VKind), own_kind ks t = some k → ∃ v, t.eval A s none [] s = some v ∧ k.ok v = true := by
  intro t
  induction t with
  | arg i => intro k h; exact hA i k h
  | int z => intro k h; cases h; exact ⟨_, rfl, rfl⟩
  | long z => intro k h; cases h; exact ⟨_, rfl, rfl⟩
  | old t ih => intro k h; exact ih k h
  | add a b iha ihb =>
    intro k h
    obtain ⟨h1, h2, rfl⟩ := own_ii_spec (show own_ii (own_kind ks a) (own_kind ks b) = some k from h)
    obtain ⟨v, e1, o1⟩ := iha _ h1
    obtain ⟨w, e2, o2⟩ := ihb _ h2
    obtain ⟨y, rfl⟩ := own_int_of o1
    obtain ⟨z, rfl⟩ := own_int_of o2
    exact ⟨.int (y + z), by simp [Term.eval, e1, e2], rfl⟩
  | sub a b iha ihb =>
    intro k h
    obtain ⟨h1, h2, rfl⟩ := own_ii_spec (show own_ii (own_kind ks a) (own_kind ks b) = some k from h)
    obtain ⟨v, e1, o1⟩ := iha _ h1
    obtain ⟨w, e2, o2⟩ := ihb _ h2
    obtain ⟨y, rfl⟩ := own_int_of o1
    obtain ⟨z, rfl⟩ := own_int_of o2
    exact ⟨.int (y - z), by simp [Term.eval, e1, e2], rfl⟩
  | mul a b iha ihb =>
    intro k h
    obtain ⟨h1, h2, rfl⟩ := own_ii_spec (show own_ii (own_kind ks a) (own_kind ks b) = some k from h)
    obtain ⟨v, e1, o1⟩ := iha _ h1
    obtain ⟨w, e2, o2⟩ := ihb _ h2
    obtain ⟨y, rfl⟩ := own_int_of o1
    obtain ⟨z, rfl⟩ := own_int_of o2
    exact ⟨.int (y * z), by simp [Term.eval, e1, e2], rfl⟩
  | rem a b iha ihb =>
    intro k h
    have h' : (if own_nz b = true then own_ii (own_kind ks a) (own_kind ks b) else none) = some k := h
    by_cases hz : own_nz b = true
    · rw [if_pos hz] at h'
      obtain ⟨h1, h2, rfl⟩ := own_ii_spec h'
      obtain ⟨v, e1, o1⟩ := iha _ h1
      obtain ⟨y, rfl⟩ := own_int_of o1
      cases b <;> simp [own_nz] at hz
      rename_i z
      exact ⟨.int (y % z), by simp [Term.eval, e1, hz], rfl⟩
    · rw [if_neg hz] at h'; cases h'
  | op2 o a b iha ihb =>
    intro k h
    obtain ⟨x, h1, h⟩ := Option.bind_eq_some_iff.mp (show (own_kind ks a).bind (fun x => (own_kind ks b).bind fun y => own_op2 o x y) = some k from h)
    obtain ⟨y, h2, h⟩ := Option.bind_eq_some_iff.mp h
    obtain ⟨v, e1, o1⟩ := iha _ h1
    obtain ⟨w, e2, o2⟩ := ihb _ h2
    obtain ⟨z, e3, o3⟩ := own_op2_ok h o1 o2
    exact ⟨z, by simp [Term.eval, e1, e2, e3], o3⟩
  | op1 o a iha =>
    intro k h
    obtain ⟨x, h1, h⟩ := Option.bind_eq_some_iff.mp (show (own_kind ks a).bind (fun x => own_op1 o x) = some k from h)
    obtain ⟨v, e1, o1⟩ := iha _ h1
    obtain ⟨z, e3, o3⟩ := own_op1_ok h o1
    exact ⟨z, by simp [Term.eval, e1, e3], o3⟩
  | _ => intro k h; exact absurd h (by simp [own_kind])
def own_cmp : Option VKind → Option VKind → Bool
  | some .int, some .int => true
  | some .long, some .long => true
  | _, _ => false
theorem own_cmp_spec {a b : Option VKind} (h : own_cmp a b = true) : (a = some .int ∧ b = some .int) ∨ (a = some .long ∧ b = some .long) := by
  rcases a with _ | a
  · simp [own_cmp] at h
  · rcases b with _ | b
    · cases a <;> simp [own_cmp] at h
    · cases a <;> cases b <;> simp [own_cmp] at h <;> simp
/-- the condition is worth something, whatever the arguments hold -/
def own_dfn (ks : List VKind) : Jvm.Cond → Bool
  | .tt => true
  | .eq a b => own_cmp (own_kind ks a) (own_kind ks b)
  | .lt a b => own_cmp (own_kind ks a) (own_kind ks b)
  | .le a b => own_cmp (own_kind ks a) (own_kind ks b)
  | .isInt t => (own_kind ks t).isSome
  | .isLong t => (own_kind ks t).isSome
  | .not c => own_dfn ks c
  | .and a b => own_dfn ks a && own_dfn ks b
  | .or a b => own_dfn ks a && own_dfn ks b
  | _ => false
theorem own_cmp_two {ks : List VKind} {A : Array Value} {s : State} (hA : own_Args ks A) {a b : Term} (h : own_cmp (own_kind ks a) (own_kind ks b) = true) :
    (∃ x y, a.eval A s none [] s = some (.int x) ∧ b.eval A s none [] s = some (.int y)) ∨ (∃ x y, a.eval A s none [] s = some (.long x) ∧ b.eval A s none [] s = some (.long y)) := by
  rcases own_cmp_spec h with ⟨h1, h2⟩ | ⟨h1, h2⟩
  · obtain ⟨v, e1, o1⟩ := own_kind_ok (s := s) hA _ _ h1
    obtain ⟨w, e2, o2⟩ := own_kind_ok (s := s) hA _ _ h2
    obtain ⟨y, rfl⟩ := own_int_of o1
    obtain ⟨z, rfl⟩ := own_int_of o2
    exact Or.inl ⟨y, z, e1, e2⟩
  · obtain ⟨v, e1, o1⟩ := own_kind_ok (s := s) hA _ _ h1
    obtain ⟨w, e2, o2⟩ := own_kind_ok (s := s) hA _ _ h2
    obtain ⟨y, rfl⟩ := own_long_of o1
    obtain ⟨z, rfl⟩ := own_long_of o2
    exact Or.inr ⟨y, z, e1, e2⟩
theorem own_dfn_ok {ks : List VKind} {A : Array Value} {s : State} (hA : own_Args ks A) : ∀ q : Jvm.Cond, own_dfn ks q = true → ∃ b, q.value A s none s [] = some b := by
  intro q
  induction q with
  | tt => intro _; exact ⟨true, rfl⟩
  | eq a b =>
    intro h
    rcases own_cmp_two (s := s) hA h with ⟨y, z, e1, e2⟩ | ⟨y, z, e1, e2⟩
    · exact ⟨_, Cond.eq_ints e1 e2⟩
    · exact ⟨decide (y = z), by simp [Cond.value, e1, e2]⟩
  | lt a b =>
    intro h
    rcases own_cmp_two (s := s) hA h with ⟨y, z, e1, e2⟩ | ⟨y, z, e1, e2⟩
    · exact ⟨_, Cond.lt_ints e1 e2⟩
    · exact ⟨decide (y < z), by simp [Cond.value, e1, e2]⟩
  | le a b =>
    intro h
    rcases own_cmp_two (s := s) hA h with ⟨y, z, e1, e2⟩ | ⟨y, z, e1, e2⟩
    · exact ⟨_, Cond.le_ints e1 e2⟩
    · exact ⟨decide (y ≤ z), by simp [Cond.value, e1, e2]⟩
  | isInt t =>
    intro h
    obtain ⟨k, hk⟩ := Option.isSome_iff_exists.mp (show (own_kind ks t).isSome = true from h)
    obtain ⟨v, e1, -⟩ := own_kind_ok (s := s) hA _ _ hk
    show ∃ b, Option.map _ (t.eval A s none [] s) = some b
    rw [e1]
    exact ⟨_, rfl⟩
  | isLong t =>
    intro h
    obtain ⟨k, hk⟩ := Option.isSome_iff_exists.mp (show (own_kind ks t).isSome = true from h)
    obtain ⟨v, e1, -⟩ := own_kind_ok (s := s) hA _ _ hk
    show ∃ b, Option.map _ (t.eval A s none [] s) = some b
    rw [e1]
    exact ⟨_, rfl⟩
  | not c ih =>
    intro h
    obtain ⟨b, hb⟩ := ih h
    exact ⟨!b, by simp [Cond.value, hb]⟩
  | and a c iha ihc =>
    intro h
    obtain ⟨h1, h2⟩ := (Bool.and_eq_true _ _).mp (show (own_dfn ks a && own_dfn ks c) = true from h)
    obtain ⟨b, hb⟩ := iha h1
    obtain ⟨d, hd⟩ := ihc h2
    cases b
    · exact ⟨false, by simp [Cond.value, hb]⟩
    · exact ⟨d, by simp [Cond.value, hb, hd]⟩
  | or a c iha ihc =>
    intro h
    obtain ⟨h1, h2⟩ := (Bool.and_eq_true _ _).mp (show (own_dfn ks a && own_dfn ks c) = true from h)
    obtain ⟨b, hb⟩ := iha h1
    obtain ⟨d, hd⟩ := ihc h2
    cases b
    · exact ⟨d, by simp [Cond.value, hb, hd]⟩
    · exact ⟨true, by simp [Cond.value, hb]⟩
  | _ => intro h; exact absurd h (by simp [own_dfn])
/-- the condition holds for sure: by its sorts, or by what is known (T true, F false) -/
def own_sure (ks : List VKind) (T F : List Jvm.Cond) : Jvm.Cond → Bool
  | .or a b => (own_dfn ks a && own_sure ks T F b) || (tv T F (.or a b) == some true)
  | .and a b => own_sure ks T F a && own_sure ks T F b
  | .isInt t => (own_kind ks t == some .int) || (tv T F (.isInt t) == some true)
  | .isLong t => (own_kind ks t == some .long) || (tv T F (.isLong t) == some true)
  | q => tv T F q == some true
theorem own_sure_ok {ks : List VKind} {T F : List Jvm.Cond} {A : Array Value} {s : State} (hA : own_Args ks A) (hT : ∀ c ∈ T, c.value A s none s [] = some true) (hF : ∀ c ∈ F, c.value A s none s [] = some false) :
    ∀ q : Jvm.Cond, own_sure ks T F q = true → q.value A s none s [] = some true := by
  have key : ∀ q : Jvm.Cond, (tv T F q == some true) = true → q.value A s none s [] = some true := fun q h => tv_sound hT hF q true (by simpa using h)
  intro q
  induction q with
  | or a c iha ihc =>
    intro h
    rcases (Bool.or_eq_true _ _).mp (show ((own_dfn ks a && own_sure ks T F c) || (tv T F (.or a c) == some true)) = true from h) with h | h
    · obtain ⟨h1, h2⟩ := (Bool.and_eq_true _ _).mp h
      obtain ⟨b, hb⟩ := own_dfn_ok (s := s) hA a h1
      have hd := ihc h2
      cases b
      · simp [Cond.value, hb, hd]
      · simp [Cond.value, hb]
    · exact key _ h
  | and a c iha ihc =>
    intro h
    obtain ⟨h1, h2⟩ := (Bool.and_eq_true _ _).mp (show (own_sure ks T F a && own_sure ks T F c) = true from h)
    simp [Cond.value, iha h1, ihc h2]
  | isInt t =>
    intro h
    rcases (Bool.or_eq_true _ _).mp (show ((own_kind ks t == some .int) || (tv T F (.isInt t) == some true)) = true from h) with h | h
    · obtain ⟨v, e1, o1⟩ := own_kind_ok (s := s) hA t .int (by simpa using h)
      obtain ⟨y, rfl⟩ := own_int_of o1
      simp [Cond.value, e1]
    · exact key _ h
  | isLong t =>
    intro h
    rcases (Bool.or_eq_true _ _).mp (show ((own_kind ks t == some .long) || (tv T F (.isLong t) == some true)) = true from h) with h | h
    · obtain ⟨v, e1, o1⟩ := own_kind_ok (s := s) hA t .long (by simpa using h)
      obtain ⟨y, rfl⟩ := own_long_of o1
      simp [Cond.value, e1]
    · exact key _ h
  | _ => intro h; exact key _ h
theorem own_needs {ks : List VKind} {T F L : List Jvm.Cond} {A : Array Value} {s : State} (hA : own_Args ks A) (hT : ∀ c ∈ T, c.value A s none s [] = some true) (hF : ∀ c ∈ F, c.value A s none s [] = some false)
    (h : L.all (own_sure ks T F) = true) : ∀ q ∈ L, q.before A s = true := fun q hq => before_of_value (own_sure_ok hA hT hF q (List.all_eq_true.mp h q hq))
def own_fit : List VKind → List Value → Bool
  | [], [] => true
  | k :: ks, v :: vs => k.ok v && own_fit ks vs
  | _, _ => false
theorem own_fit_ok : ∀ (ks : List VKind) (vs : List Value), own_fit ks vs = true → own_Args ks vs.toArray
  | [], _, _ => fun i k h => by simp at h
  | k :: ks, [], h => by simp [own_fit] at h
  | k :: ks, v :: vs, h => by
    obtain ⟨h1, h2⟩ := (Bool.and_eq_true _ _).mp (show (k.ok v && own_fit ks vs) = true from h)
    intro i k' hk
    cases i with
    | zero => simp at hk; subst hk; exact ⟨v, by simp, h1⟩
    | succ i =>
      obtain ⟨w, e1, o1⟩ := own_fit_ok ks vs h2 i k' (by simpa using hk)
      exact ⟨w, by simpa using e1, o1⟩
/-- what a callee of boolean hands back -/
def own_B (b : Bool) : Term := .op2 .iand (.int (if b then 1 else 0)) (.int 1)
def own_R (k : Int32) : STree := .ret (some ⟨.op2 .iand (.int k) (.int 1), .int⟩) []
theorem own_some {α β γ : Type} {o : Option (α × β × γ)} (h : o.isSome = true) : o = some ((o.get h).1, (o.get h).2.1, (o.get h).2.2) := by
  cases o with
  | none => cases h
  | some v => rfl
/-! 1. the callees, of another class, the innermost first: requireId with its throwing tail (from pc 6) shut; node, which calls it -/
def y1 : MethodName := ⟨"com/example/duplicate_request_guard/duplicaterequestguard/IdGenerator", "requireId", "(J)J"⟩
def y1code : ByteArray := prog_17_method_12_code
def y1I : Info := { own := "com/example/duplicate_request_guard/duplicaterequestguard/IdGenerator", ret := some .long, shut := [6] }
def y1out : Option (Jvm.Cond × List Jvm.Cond × List Jvm.Cond) := walk y1I y1code 200 (entry [.long] 2)
theorem y1walks : y1out.isSome = true := by decide +kernel
def y1got : Jvm.Cond × List Jvm.Cond × List Jvm.Cond := y1out.get y1walks
def y1spec : Spec := specOf y1 y1code 2 (some .long) [.long] y1got.1 y1got.2.1 y1got.2.2
set_option maxRecDepth 65536 in
theorem y1meets (l : Launch) : MeetsLoose l y1 y1spec :=
  walk_meets (n := 200) (I := y1I) (by decide) rfl rfl (show walk y1I y1code 200 (entry [.long] 2) = some (y1got.1, y1got.2.1, y1got.2.2) from own_some y1walks)
theorem y1cold : y1spec.Cold := Spec.cold_of_keeps (by decide +kernel)
def callee1 : Callee := { y := y1, S := y1spec, bytes := y1code, maxL := 2, ret := some .long, static := true, params := 1, res := some .long }
def y2 : MethodName := ⟨"com/example/duplicate_request_guard/duplicaterequestguard/IdGenerator", "node", "(J)I"⟩
def y2code : ByteArray := prog_17_method_8_code
def y2room : Room := { frames := 1, cells := 0, slots := 0, locals := 13 }
def y2I : Info := { own := "com/example/duplicate_request_guard/duplicaterequestguard/IdGenerator", ret := some .int, longs := [(107, 1023)], calls := [(103, callee1)], maxLocals := 2, room := y2room }
def y2out : Option (Jvm.Cond × List Jvm.Cond × List Jvm.Cond) := walk y2I y2code 200 (entry [.long] 2)
theorem y2walks : y2out.isSome = true := by decide +kernel
def y2got : Jvm.Cond × List Jvm.Cond × List Jvm.Cond := y2out.get y2walks
def y2spec : Spec := specOf y2 y2code 2 (some .int) [.long] y2got.1 y2got.2.1 y2got.2.2 y2room
set_option maxRecDepth 65536 in
theorem y2meets (l : Launch) : MeetsLoose l y2 y2spec :=
  walk_meets (n := 200) (I := y2I) (by decide) rfl rfl (show walk y2I y2code 200 (entry [.long] 2) = some (y2got.1, y2got.2.1, y2got.2.2) from own_some y2walks)
    (fun q hq => by
      simp only [y2I, List.mem_cons, List.not_mem_nil, or_false] at hq
      subst hq; exact ⟨rfl, rfl, y1meets l, y1cold⟩)
theorem y2cold : y2spec.Cold := Spec.cold_of_keeps (by decide +kernel)
def callee2 : Callee := { y := y2, S := y2spec, bytes := y2code, maxL := 2, ret := some .int, static := true, params := 1, res := some .int }

/-! 2. the law's own walk -/
def I : Info := { own := x.cls, ret := ret, longs := [(7, 2199023255551)], calls := [(9, callee2)], maxLocals := maxLocals, room := room_1 }
theorem callsOk (l : Launch) : CallsOk l I maxLocals room_1 := fun q hq => by
  obtain rfl : q = (9, callee2) := by simpa [I] using hq
  exact ⟨rfl, rfl, y2meets l, y2cold⟩
def w := walkTo I code [] 400 true (entry [.long, .int, .int] maxLocals)
theorem w_some : w.isSome = true := by decide +kernel
def tM : Term := .op2 .land (.arg 0) (.long 2199023255551)
def tN : Term := .op2 .iand (.arg 1) (.int 1023)
def tS : Term := .op2 .iand (.arg 2) (.int 4095)
def tId : Term := .op2 .lor (.op2 .lor (.op2 .lshl tM (.int 22)) (.op2 .lshl (.op1 .i2l tN) (.int 12))) (.op1 .i2l tS)
def tR : Term := .op1 .l2i (.op2 .land (.op2 .lshr tId (.int 12)) (.long 1023))
def t0 : STree := .fork (.not (.eq (.old tR) (.old tN))) (own_R 0) (own_R 1)
theorem tree : (w.get w_some).1 = t0 := by decide +kernel
set_option maxRecDepth 65536 in
theorem entry_walk : walkTo I code [] 400 true (entry [.long, .int, .int] maxLocals) = some (t0, (w.get w_some).2.1, (w.get w_some).2.2) := by
  rw [← tree]; exact own_some w_some
theorem sorts_ok {a : Int64} {b c : Int32} {s : State} : ∀ q ∈ Sym.sorts 0 [.long, .int, .int], q.before #[.long a, .int b, .int c] s = true := by
  intro q hq
  simp only [Sym.sorts, List.mem_cons, List.not_mem_nil, or_false] at hq
  rcases hq with rfl | rfl | rfl <;> simp [isK, Cond.before, Cond.holds, Cond.value, Term.eval]

/-! 3. the plain law: the three parts of the id don't meet -/
theorem own_nat64 (v : Int64) (h : 0 ≤ v.toInt) : v.toInt = (v.toBitVec.toNat : Int) ∧ v.toBitVec.toNat < 2 ^ 63 := by
  have e : v.toInt = v.toBitVec.toInt := rfl
  have hb := v.toBitVec.isLt
  rw [e, BitVec.toInt_eq_toNat_cond] at h ⊢
  by_cases hc : 2 * v.toBitVec.toNat < 2 ^ 64
  · rw [if_pos hc]; omega
  · rw [if_neg hc] at h; omega
theorem own_of_nat64 (v : Int64) (h : v.toBitVec.toNat < 2 ^ 63) : v.toInt = (v.toBitVec.toNat : Int) := by
  have e : v.toInt = v.toBitVec.toInt := rfl
  rw [e, BitVec.toInt_eq_toNat_cond, if_pos (by omega)]
theorem own_or64 {u v : Int64} {k q : Nat} (hu : u.toInt = ((q * 2 ^ k : Nat) : Int)) (hv0 : 0 ≤ v.toInt) (hv : v.toInt < ((2 ^ k : Nat) : Int)) (hs : u.toInt + v.toInt < 2 ^ 63) : (u ||| v).toInt = u.toInt + v.toInt := by
  obtain ⟨u1, u2⟩ := own_nat64 u (by rw [hu]; exact Int.natCast_nonneg _)
  obtain ⟨v1, v2⟩ := own_nat64 v hv0
  have en : u.toBitVec.toNat = q * 2 ^ k := Int.ofNat_inj.mp (u1.symm.trans hu)
  have em : v.toBitVec.toNat < 2 ^ k := Int.ofNat_lt.mp (by rw [← v1]; exact hv)
  have eo : (u ||| v).toBitVec.toNat = u.toBitVec.toNat + v.toBitVec.toNat := by
    show (u.toBitVec ||| v.toBitVec).toNat = _
    rw [BitVec.toNat_or, en, ← Nat.shiftLeft_eq, ← Nat.shiftLeft_add_eq_or_of_lt em]
  have e3 : (u ||| v).toInt = ((u ||| v).toBitVec.toNat : Int) := own_of_nat64 _ (by rw [eo]; omega)
  rw [e3, eo, u1, v1]; exact Int.natCast_add _ _
def pId (a : Int64) (b c : Int32) : Int64 := ((a &&& 2199023255551) <<< ((22 : Int32) &&& 0x3f).toInt64) ||| ((b &&& 1023).toInt64 <<< ((12 : Int32) &&& 0x3f).toInt64) ||| (c &&& 4095).toInt64
theorem own_pId (a : Int64) (b c : Int32) : (pId a b c).toInt = (a.toInt % 2 ^ 41) * 2 ^ 22 + (b.toInt % 2 ^ 10) * 2 ^ 12 + c.toInt % 2 ^ 12 := by
  have a0 : 0 ≤ a.toInt % 2 ^ 41 := Int.emod_nonneg _ (by decide)
  have a1 : a.toInt % 2 ^ 41 < 2 ^ 41 := Int.emod_lt_of_pos _ (by decide)
  have b0 : 0 ≤ b.toInt % 2 ^ 10 := Int.emod_nonneg _ (by decide)
  have b1 : b.toInt % 2 ^ 10 < 2 ^ 10 := Int.emod_lt_of_pos _ (by decide)
  have c0 : 0 ≤ c.toInt % 2 ^ 12 := Int.emod_nonneg _ (by decide)
  have c1 : c.toInt % 2 ^ 12 < 2 ^ 12 := Int.emod_lt_of_pos _ (by decide)
  have e1 : (a &&& 2199023255551).toInt = a.toInt % 2 ^ 41 := Jvm.Kit.i64_mask a 2199023255551 (k := 41) (by decide) (by decide)
  have e3 : (b &&& 1023).toInt = b.toInt % 2 ^ 10 := Jvm.Kit.i32_mask b 1023 (k := 10) (by decide) (by decide)
  have e4 : (b &&& 1023).toInt64.toInt = b.toInt % 2 ^ 10 := by rw [Jvm.Kit.i64_of_i32, e3]
  have e6 : (c &&& 4095).toInt64.toInt = c.toInt % 2 ^ 12 := by rw [Jvm.Kit.i64_of_i32]; exact Jvm.Kit.i32_mask c 4095 (k := 12) (by decide) (by decide)
  have e2 : ((a &&& 2199023255551) <<< ((22 : Int32) &&& 0x3f).toInt64).toInt = (a.toInt % 2 ^ 41) * 2 ^ 22 := by
    rw [Jvm.Kit.i64_shl _ _ (k := 22) (by decide) (by rw [e1]; omega) (by rw [e1]; omega), e1]
  have e5 : ((b &&& 1023).toInt64 <<< ((12 : Int32) &&& 0x3f).toInt64).toInt = (b.toInt % 2 ^ 10) * 2 ^ 12 := by
    rw [Jvm.Kit.i64_shl _ _ (k := 12) (by decide) (by rw [e4]; omega) (by rw [e4]; omega), e4]
  have o1 : (((a &&& 2199023255551) <<< ((22 : Int32) &&& 0x3f).toInt64) ||| ((b &&& 1023).toInt64 <<< ((12 : Int32) &&& 0x3f).toInt64)).toInt = (a.toInt % 2 ^ 41) * 2 ^ 22 + (b.toInt % 2 ^ 10) * 2 ^ 12 := by
    rw [own_or64 (k := 22) (q := (a.toInt % 2 ^ 41).toNat) (by rw [e2]; omega) (by rw [e5]; omega) (by rw [e5]; omega) (by rw [e2, e5]; omega), e2, e5]
  have o2 : (pId a b c).toInt = ((a.toInt % 2 ^ 41) * 2 ^ 22 + (b.toInt % 2 ^ 10) * 2 ^ 12) + c.toInt % 2 ^ 12 := by
    unfold pId
    rw [own_or64 (k := 12) (q := ((a.toInt % 2 ^ 41) * 2 ^ 10 + (b.toInt % 2 ^ 10)).toNat) (by rw [o1]; omega) (by rw [e6]; omega) (by rw [e6]; omega) (by rw [o1, e6]; omega), o1, e6]
  rw [o2]
theorem own_nonneg (a : Int64) (b c : Int32) : 0 ≤ (pId a b c).toInt := by
  have a0 : 0 ≤ a.toInt % 2 ^ 41 := Int.emod_nonneg _ (by decide)
  have b0 : 0 ≤ b.toInt % 2 ^ 10 := Int.emod_nonneg _ (by decide)
  have c0 : 0 ≤ c.toInt % 2 ^ 12 := Int.emod_nonneg _ (by decide)
  rw [own_pId]; omega
set_option maxHeartbeats 4000000 in
theorem own_plain (a : Int64) (b c : Int32) : (((pId a b c) >>> ((12 : Int32) &&& 0x3f).toInt64) &&& 1023).toInt32 = b &&& 1023 := by
  have a0 : 0 ≤ a.toInt % 2 ^ 41 := Int.emod_nonneg _ (by decide)
  have b0 : 0 ≤ b.toInt % 2 ^ 10 := Int.emod_nonneg _ (by decide)
  have b1 : b.toInt % 2 ^ 10 < 2 ^ 10 := Int.emod_lt_of_pos _ (by decide)
  have c0 : 0 ≤ c.toInt % 2 ^ 12 := Int.emod_nonneg _ (by decide)
  have c1 : c.toInt % 2 ^ 12 < 2 ^ 12 := Int.emod_lt_of_pos _ (by decide)
  have e3 : (b &&& 1023).toInt = b.toInt % 2 ^ 10 := Jvm.Kit.i32_mask b 1023 (k := 10) (by decide) (by decide)
  have h1 : ((pId a b c) >>> ((12 : Int32) &&& 0x3f).toInt64).toInt = (pId a b c).toInt / 2 ^ 12 := Jvm.Kit.i64_shr _ _ (by decide)
  have h2 : (((pId a b c) >>> ((12 : Int32) &&& 0x3f).toInt64) &&& 1023).toInt = ((pId a b c) >>> ((12 : Int32) &&& 0x3f).toInt64).toInt % 2 ^ 10 := Jvm.Kit.i64_mask _ 1023 (k := 10) (by decide) (by decide)
  apply Int32.toInt_inj.mp
  rw [Jvm.Kit.i32_of_i64 (by rw [h2]; omega) (by rw [h2]; omega), h2, h1, own_pId, e3]
  omega
theorem own_g1 (a : Int64) (b c : Int32) (s : State) : (Jvm.Cond.le (.int 0) (.old (.op2 .lcmp tId (.long 0)))).value #[.long a, .int b, .int c] s none s [] = some true := by
  have h : (Jvm.Cond.le (.int 0) (.old (.op2 .lcmp tId (.long 0)))).value #[.long a, .int b, .int c] s none s [] = some (decide ((0 : Int32) ≤ (if pId a b c > 0 then 1 else if pId a b c == 0 then 0 else -1))) := Cond.le_ints rfl rfl
  rw [h]
  have h0 : ¬ pId a b c < 0 := by
    rw [Int64.lt_iff_toInt_lt]
    have := own_nonneg a b c
    have e0 : (0 : Int64).toInt = 0 := rfl
    omega
  by_cases h1 : pId a b c > 0
  · rw [if_pos h1]; rfl
  · rw [if_neg h1]
    have h2 : pId a b c = 0 := by
      apply Int64.toInt_inj.mp
      have h1' : ¬ (0 : Int64) < pId a b c := h1
      rw [Int64.lt_iff_toInt_lt] at h0 h1'
      omega
    rw [if_pos (by rw [h2]; rfl)]; rfl
theorem value_eq (a : Int64) (b c : Int32) (s : State) : Kit.valueOf #[.long a, .int b, .int c] s t0 = some (.int 1) := by
  have r1 : (Term.op2 .iand (.int 1) (.int 1)).eval #[.long a, .int b, .int c] s none [] s = some (.int 1) := rfl
  have g0 : (Jvm.Cond.eq (.old tR) (.old tN)).value #[.long a, .int b, .int c] s none s [] = some (decide ((((pId a b c) >>> ((12 : Int32) &&& 0x3f).toInt64) &&& 1023).toInt32 = (b &&& 1023))) := Cond.eq_ints rfl rfl
  have g : (Jvm.Cond.not (.eq (.old tR) (.old tN))).value #[.long a, .int b, .int c] s none s [] = some false := by
    show ((Jvm.Cond.eq (.old tR) (.old tN)).value #[.long a, .int b, .int c] s none s []).map (!·) = _
    rw [g0, own_plain]; simp
  simp only [t0, own_R, Kit.valueOf, g, r1]

/-! 4. the contract, the limbs -/
theorem own_args3 {args : Array Value} {u v t : Value} (h : args.size = 3) (h0 : args[0]? = some u) (h1 : args[1]? = some v) (h2 : args[2]? = some t) : args = #[u, v, t] := by
  obtain ⟨L⟩ := args
  match L, h with
  | [p, q, r], _ =>
    simp at h0 h1 h2
    subst h0 h1 h2
    rfl
def post_1 : Jvm.Cond := .and limb_1_1 limb_1_2
theorem met_1 (l : Launch) : MeetsLoose l x (armSpec x code maxLocals ret tables_1 room_1 .tt (.and given_1 narrow_1) post_1 frame_1_writes frame_1_arrays frame_1_statics) := by
  refine loops_meets (I := I) (ks0 := [.long, .int, .int]) (cuts := []) (by decide) rfl rfl rfl rfl rfl (fun args s h => ?_) entry_walk (fun _ => none) (fun _ _ _ _ _ => False) (fun _ _ _ => 0) (fun args s h => ?_) (fun args s _ h ks hks => by cases hks) (callsOk l)
  · simp only [armSpec, allAtoms, List.foldr_cons, Cond.before_and, Bool.and_eq_true] at h; exact h.1.1
  · have hts : (allAtoms (Cond.code x code maxLocals ret :: tables_1)).before args s = true := by simp only [armSpec, Cond.before_and, Bool.and_eq_true] at h; exact h.1
    have hK : (Cond.and .tt (.and given_1 narrow_1)).before args s = true := by simp only [armSpec, Cond.before_and, Bool.and_eq_true] at h ⊢; exact h.2
    simp only [armSpec, given_1, Cond.before_and, Bool.and_eq_true] at h
    obtain ⟨-, -, ⟨hc, h0, h1, h2⟩, hn⟩ := h
    obtain ⟨a, ha⟩ := Cond.isLong_spec h0
    obtain ⟨b, hb⟩ := Cond.isInt_spec h1
    obtain ⟨c, hc'⟩ := Cond.isInt_spec h2
    obtain rfl := own_args3 (by simpa [Cond.before, Cond.holds, Cond.value] using hc) (show args[0]? = some (.long a) from ha) (show args[1]? = some (.int b) from hb) (show args[2]? = some (.int c) from hc')
    have hT := known3 (Gt := [.le (.int 0) (.old (.op2 .lcmp tId (.long 0)))]) hts hK (by
      intro q hq
      simp only [List.mem_cons, List.not_mem_nil, or_false] at hq
      rcases hq with rfl
      exact own_g1 a b c s)
    have hF : ∀ q ∈ ([] : List Jvm.Cond), q.value #[.long a, .int b, .int c] s none s [] = some false := fun q hq => by cases hq
    refine ⟨rfl, sorts_ok, tabs_of_sub hts (by decide +kernel), own_needs (ks := [.long, .int, .int]) (own_fit_ok [.long, .int, .int] [.long a, .int b, .int c] rfl) hT hF (by decide +kernel), Kit.vc_of_value (w₀ := .int 1) (fun E => ?_) t0 (by decide +kernel) (value_eq a b c s)⟩
    simp [armSpec, post_1, limb_1_1, limb_1_2, Cond.after, Cond.holds, Cond.value, Term.eval]
theorem main_1_1 : Claimed_1_1 := armFor_of_meets0 (fun l => (met_1 l).meets) (fun _ _ _ _ h => by simp only [post_1, Cond.after_and, Bool.and_eq_true] at h; exact h.1)
theorem main_1_2 : Claimed_1_2 := armFor_of_meets0 (fun l => (met_1 l).meets) (fun _ _ _ _ h => by simp only [post_1, Cond.after_and, Bool.and_eq_true] at h; exact h.2)
end Jvm.Pilot.@@N@@
namespace Jvm.Pilot.@@N@@
open Jvm Jvm.ClassFile Sem Op Lib Jvm.Free Jvm.Stand Jvm.Pilot.@@N@@.Jvm.D
/-! MADE BY PROGRAM (witnessworld.py) out of the Statement's table words and the real class files: 9 classes; the members and pool entries that the words name. The judged class is class 1, her method 1. -/
namespace start1
open Jvm.ClassFile
def u (s : String) : CpInfo := .utf8 (stringToUtf16 s)
/-- a pool by its gaps: so many unusable entries, then the entry; so many at the end -/
def gap : Nat → List CpInfo → List CpInfo
  | 0, r => r
  | n + 1, r => .unusable :: gap n r
def poolList (es : List (Nat × CpInfo)) (last : Nat) : List CpInfo := es.foldr (fun e r => gap e.1 (e.2 :: r)) (gap last [])
def pool (es : List (Nat × CpInfo)) (last : Nat) : Array CpInfo := ⟨poolList es last⟩
def fileOf (pool : Array CpInfo) (this : Nat) (attrs : Array Attribute := #[]) (ms : Array MethodInfo := #[]) (fl : Nat := 33) (sup : Nat := 0) (ifs : Array Nat := #[]) (fds : Array FieldInfo := #[]) : ClassFile where
  minorVersion := 0
  majorVersion := 65
  constantPool := pool
  accessFlags := fl
  thisClass := this
  superClass := sup
  interfaces := ifs
  fields := fds
  methods := ms
  attributes := attrs
def plain (name : String) (sup : Option ClassId) : Class where
  name := name
  kind := .ordinary
  loader := none
  accessFlags := 33
  super := sup
  interfaces := #[]
  cf := none
  fields := #[]
  methods := #[]
  instanceTypes := #[]
  staticTypes := #[]
  resolved := #[]
  callSites := []
  init := .initialized
  statics := none
  mirror := none

def pool0 : Array CpInfo := pool [(5, u "<init>"), (0, u "()V"), (1, .class_ 10), (1, u "java/lang/Object")] 113

def k0m0 : Method := { name := "<init>", desc := "()V", sig := { parameters := [], returnType := none }, accessFlags := 1, code := none }
/-- java/lang/Object -/
def k0 : Class := { plain "java/lang/Object" none with
  accessFlags := 33
  interfaces := #[]
  cf := some (fileOf pool0 8 #[] #[{ accessFlags := 1, nameIndex := 5, descriptorIndex := 6, attributes := #[] }] 33 0 #[] #[])
  fields := #[]
  methods := #[k0m0]
  instanceTypes := #[]
  staticTypes := #[]
  resolved := Array.replicate 124 none
  statics := none }

def pool1 : Array CpInfo := pool [(2, .class_ 4), (1, u "java/lang/Object"), (0, u "<init>"), (0, u "()V"), (0, .long 2199023255551), (1, .methodref 10 11), (0, .class_ 12), (0, .nameAndType 13 14), (0, u "com/example/duplicate_request_guard/duplicaterequestguard/IdGenerator"), (0, u "node"), (0, u "(J)I"), (0, .class_ 16), (0, u "com/example/duplicate_request_guard/duplicaterequestguard/IdGeneratorNodePinLaw"), (2, u "law"), (0, u "(JII)Z")] 3

def k1m0 : Method := { name := "<init>", desc := "()V", sig := { parameters := [], returnType := none }, accessFlags := 1, code := none }
def k1c1 : Code := { maxStack := 5, maxLocals := 10, code := code, exceptionTable := #[], attributes := #[] }
def k1m1 : Method := { name := "law", desc := "(JII)Z", sig := { parameters := [.long, .int, .int], returnType := some .boolean }, accessFlags := 9, code := some k1c1 }
/-- com/example/duplicate_request_guard/duplicaterequestguard/IdGeneratorNodePinLaw -/
def k1 : Class := { plain "com/example/duplicate_request_guard/duplicaterequestguard/IdGeneratorNodePinLaw" (some 0) with
  accessFlags := 49
  interfaces := #[]
  cf := some (fileOf pool1 15 #[] #[{ accessFlags := 1, nameIndex := 5, descriptorIndex := 6, attributes := #[] }, { accessFlags := 9, nameIndex := 19, descriptorIndex := 20, attributes := #[] }] 49 2 #[] #[])
  fields := #[]
  methods := #[k1m0, k1m1]
  instanceTypes := #[]
  staticTypes := #[]
  resolved := Array.replicate 24 none
  statics := none }

def pool2 : Array CpInfo := pool [(1, .class_ 2), (0, u "com/example/duplicate_request_guard/duplicaterequestguard/IdGenerator"), (1, .class_ 6), (1, u "java/lang/Object"), (11, u "last"), (0, u "Ljava/util/concurrent/atomic/AtomicLong;"), (2, u "nodeBits"), (0, u "J"), (2, u "clock"), (0, u "Ljava/time/Clock;"), (11, u "node"), (42, u "LAST_INSTANT"), (0, u "Ljava/time/Instant;"), (19, .methodref 1 104), (0, .nameAndType 105 106), (0, u "requireId"), (0, u "(J)J"), (0, .long 1023), (12, u "FIRST_INSTANT"), (14, u "EPOCH_MILLIS"), (1, u "SEQUENCE_BITS"), (0, u "I"), (1, u "NODE_BITS"), (1, u "WORKER_BITS"), (1, u "MILLIS_BITS"), (1, u "MILLIS_SHIFT"), (1, u "MAX_SEQUENCE"), (1, u "MAX_NODE"), (1, u "MAX_WORKER"), (1, u "MAX_DATA_CENTRE"), (0, u "MAX_MILLIS"), (7, u "(J)I")] 25

def k2c0 : Code := { maxStack := 4, maxLocals := 2, code := prog_17_method_8_code, exceptionTable := #[], attributes := #[] }
def k2m0 : Method := { name := "node", desc := "(J)I", sig := { parameters := [.long], returnType := some .int }, accessFlags := 9, code := some k2c0 }
def k2c1 : Code := { maxStack := 4, maxLocals := 2, code := prog_17_method_12_code, exceptionTable := #[], attributes := #[] }
def k2m1 : Method := { name := "requireId", desc := "(J)J", sig := { parameters := [.long], returnType := some .long }, accessFlags := 10, code := some k2c1 }
/-- com/example/duplicate_request_guard/duplicaterequestguard/IdGenerator -/
def k2 : Class := { plain "com/example/duplicate_request_guard/duplicaterequestguard/IdGenerator" (some 0) with
  accessFlags := 33
  interfaces := #[]
  cf := some (fileOf pool2 1 #[] #[{ accessFlags := 9, nameIndex := 39, descriptorIndex := 163, attributes := #[] }, { accessFlags := 10, nameIndex := 105, descriptorIndex := 106, attributes := #[] }] 33 4 #[] #[{ accessFlags := 26, nameIndex := 135, descriptorIndex := 23, attributes := #[] }, { accessFlags := 26, nameIndex := 137, descriptorIndex := 138, attributes := #[] }, { accessFlags := 26, nameIndex := 140, descriptorIndex := 138, attributes := #[] }, { accessFlags := 26, nameIndex := 142, descriptorIndex := 138, attributes := #[] }, { accessFlags := 26, nameIndex := 144, descriptorIndex := 138, attributes := #[] }, { accessFlags := 26, nameIndex := 146, descriptorIndex := 138, attributes := #[] }, { accessFlags := 26, nameIndex := 148, descriptorIndex := 138, attributes := #[] }, { accessFlags := 26, nameIndex := 150, descriptorIndex := 138, attributes := #[] }, { accessFlags := 26, nameIndex := 152, descriptorIndex := 138, attributes := #[] }, { accessFlags := 26, nameIndex := 154, descriptorIndex := 138, attributes := #[] }, { accessFlags := 26, nameIndex := 155, descriptorIndex := 23, attributes := #[] }, { accessFlags := 26, nameIndex := 120, descriptorIndex := 83, attributes := #[] }, { accessFlags := 26, nameIndex := 82, descriptorIndex := 83, attributes := #[] }, { accessFlags := 18, nameIndex := 22, descriptorIndex := 23, attributes := #[] }, { accessFlags := 18, nameIndex := 26, descriptorIndex := 27, attributes := #[] }, { accessFlags := 18, nameIndex := 18, descriptorIndex := 19, attributes := #[] }])
  fields := #[{ name := "EPOCH_MILLIS", type := .long, accessFlags := 26, slot := 0, constantValue := 0 }, { name := "SEQUENCE_BITS", type := .int, accessFlags := 26, slot := 1, constantValue := 0 }, { name := "NODE_BITS", type := .int, accessFlags := 26, slot := 2, constantValue := 0 }, { name := "WORKER_BITS", type := .int, accessFlags := 26, slot := 3, constantValue := 0 }, { name := "MILLIS_BITS", type := .int, accessFlags := 26, slot := 4, constantValue := 0 }, { name := "MILLIS_SHIFT", type := .int, accessFlags := 26, slot := 5, constantValue := 0 }, { name := "MAX_SEQUENCE", type := .int, accessFlags := 26, slot := 6, constantValue := 0 }, { name := "MAX_NODE", type := .int, accessFlags := 26, slot := 7, constantValue := 0 }, { name := "MAX_WORKER", type := .int, accessFlags := 26, slot := 8, constantValue := 0 }, { name := "MAX_DATA_CENTRE", type := .int, accessFlags := 26, slot := 9, constantValue := 0 }, { name := "MAX_MILLIS", type := .long, accessFlags := 26, slot := 10, constantValue := 0 }, { name := "FIRST_INSTANT", type := (.object "java/time/Instant"), accessFlags := 26, slot := 11, constantValue := 0 }, { name := "LAST_INSTANT", type := (.object "java/time/Instant"), accessFlags := 26, slot := 12, constantValue := 0 }, { name := "nodeBits", type := .long, accessFlags := 18, slot := 0, constantValue := 0 }, { name := "clock", type := (.object "java/time/Clock"), accessFlags := 18, slot := 1, constantValue := 0 }, { name := "last", type := (.object "java/util/concurrent/atomic/AtomicLong"), accessFlags := 18, slot := 2, constantValue := 0 }]
  methods := #[k2m0, k2m1]
  instanceTypes := #[.long, (.object "java/time/Clock"), (.object "java/util/concurrent/atomic/AtomicLong")]
  staticTypes := #[.long, .int, .int, .int, .int, .int, .int, .int, .int, .int, .long, (.object "java/time/Instant"), (.object "java/time/Instant")]
  resolved := Array.replicate 189 none
  statics := none }

def pool3 : Array CpInfo := pool [(1, u "java/lang/Cloneable"), (0, .class_ 1), (0, u "java/lang/Object"), (0, .class_ 3)] 3

/-- java/lang/Cloneable -/
def k3 : Class := { plain "java/lang/Cloneable" (some 0) with
  accessFlags := 1537
  interfaces := #[]
  cf := some (fileOf pool3 2 #[] #[] 1537 4 #[] #[])
  fields := #[]
  methods := #[]
  instanceTypes := #[]
  staticTypes := #[]
  resolved := Array.replicate 8 none
  statics := none }

def pool4 : Array CpInfo := pool [(1, u "java/io/Serializable"), (0, .class_ 1), (0, u "java/lang/Object"), (0, .class_ 3)] 3

/-- java/io/Serializable -/
def k4 : Class := { plain "java/io/Serializable" (some 0) with
  accessFlags := 1537
  interfaces := #[]
  cf := some (fileOf pool4 2 #[] #[] 1537 4 #[] #[])
  fields := #[]
  methods := #[]
  instanceTypes := #[]
  staticTypes := #[]
  resolved := Array.replicate 8 none
  statics := none }

/-- the primitive byte -/
def k5 : Class := { plain "byte" none with kind := .primitive 'B', accessFlags := 0x411 }
/-- [B -/
def k6 : Class := { plain "[B" (some 0) with kind := .array 5 .byte, interfaces := #[3, 4], accessFlags := 1041 }

/-- the primitive int -/
def k7 : Class := { plain "int" none with kind := .primitive 'I', accessFlags := 0x411 }
/-- [I -/
def k8 : Class := { plain "[I" (some 0) with kind := .array 7 .int, interfaces := #[3, 4], accessFlags := 1041 }

def heap : Heap := #[]
def classes : Array Class := #[k0, k1, k2, k3, k4, k5, k6, k7, k8]
def interned : List (Array UInt16 × Addr) := []
def slotsUsed : Nat := 0
def theMethod : MethodId := ⟨1, 1⟩
def args0 : Array Value := #[.long 70, .int 2, .int 3]
def aboutOver (below : List Frame) : State where
  vm := { classes := classes, interned := interned.toArray }
  heap := heap
  slotsUsed := slotsUsed
  threads := #[{ frames := .invoking theMethod args0 :: below }]
def below0 : List Frame := [.native { method := ⟨0, 0⟩, args := #[] }]
def about1 : State := aboutOver below0
def p0 : Program := .bare "" "" ""
def e0 : Env := launch0.env 0 0 0
theorem w_frames : about1.frames = Frame.invoking theMethod args0 :: below0 := rfl
set_option maxRecDepth 65536 in
theorem w_args : argsFit about1.vm theMethod args0 = true := by decide +kernel
set_option maxRecDepth 65536 in
theorem w_heap : heapFits about1 = true := by decide +kernel
set_option maxRecDepth 65536 in
theorem w_runnable : about1.curStatus? = some .runnable := by decide +kernel
set_option maxRecDepth 65536 in
theorem w_alone : about1.alone = true := by decide +kernel
set_option maxRecDepth 65536 in
theorem w_named : about1.methodNamed? x = some theMethod := by decide +kernel
set_option maxRecDepth 65536 in
theorem w_hears : about1.hears theMethod below0 = true := by decide +kernel
set_option maxRecDepth 65536 in
theorem w_ripe : about1.ripe theMethod args0 below0 = true := by decide +kernel
theorem w_running : about1.status = .running := rfl
set_option maxRecDepth 65536 in
theorem w_room : about1.hasRoom e0.platform room_1 = true :=
  launch0.hasRoom_least _ room_1 (by decide +kernel) (by decide +kernel) (by decide +kernel) (by decide +kernel) (by decide +kernel) (by decide +kernel)
theorem allAtoms_all (ts : List Jvm.Cond) (a : Array Jvm.Value) (st : Jvm.State) : (allAtoms ts).before a st = ts.all (fun c => c.before a st) := by
  induction ts with
  | nil => rfl
  | cons c t ih =>
    show (Jvm.Cond.and c (allAtoms t)).before a st = _
    rw [Jvm.Cond.before_and, ih, List.all_cons]
def words1 : List Jvm.Cond := Jvm.Cond.code x code maxLocals ret :: tables_1
/-- a 'code' word, met by the world's own term for the bytes: nothing is compared byte by byte -/
theorem code_word {y : MethodName} {bytes : ByteArray} {mx : Nat} {rt : Option FieldType} {a : Array Value} {s : State} {m : MethodId} {meth : Method} {c : Code} (h1 : s.methodNamed? y = some m) (h2 : s.vm.method? m = some meth) (h3 : meth.code = some c) (h4 : c.code = bytes)
    (h5 : (c.maxLocals == mx && c.exceptionTable.isEmpty && decide (c.maxStack ≤ mostOperands) && decide (meth.sig.returnType = rt) && !meth.locks && decide (parseMethodDescriptor y.desc = some meth.sig)) = true) : (Jvm.Cond.code y bytes mx rt).before a s = true := by
  simp only [Bool.and_eq_true, beq_iff_eq, Bool.not_eq_true', decide_eq_true_eq] at h5
  obtain ⟨⟨⟨⟨⟨g1, g2⟩, g3⟩, g4⟩, g5⟩, g6⟩ := h5
  simp [Cond.before, Cond.holds, Cond.value, h1, h2, h3, h4, g1, g2, g3, g4, g5, g6]
def isCode : Jvm.Cond → Bool
  | .code _ _ _ _ => true
  | _ => false
theorem all_split {L : List Jvm.Cond} {P : Jvm.Cond → Bool} (h1 : L.all (fun c => isCode c || P c) = true) (h2 : ∀ c ∈ L.filter isCode, P c = true) : L.all P = true := by
  refine List.all_eq_true.mpr fun c hc => ?_
  have h := List.all_eq_true.mp h1 c hc
  rcases Bool.eq_false_or_eq_true (isCode c) with hi | hi
  · exact h2 c (List.mem_filter.mpr ⟨hc, hi⟩)
  · simpa [hi] using h
set_option maxRecDepth 65536 in
theorem w_c0 : (Jvm.Cond.code x code maxLocals ret).before args0 about1 = true := code_word (m := ⟨1, 1⟩) (meth := k1m1) (c := k1c1) (by decide +kernel) rfl rfl rfl (by decide +kernel)
set_option maxRecDepth 65536 in
theorem w_c1 : (Jvm.Cond.code ({ cls := "com/example/duplicate_request_guard/duplicaterequestguard/IdGenerator", name := "node", desc := "(J)I" } : Jvm.MethodName) prog_17_method_8_code (2 : Nat) (Option.some Jvm.ClassFile.FieldType.int)).before args0 about1 = true := code_word (m := ⟨2, 0⟩) (meth := k2m0) (c := k2c0) (by decide +kernel) rfl rfl rfl (by decide +kernel)
set_option maxRecDepth 65536 in
theorem w_c2 : (Jvm.Cond.code ({ cls := "com/example/duplicate_request_guard/duplicaterequestguard/IdGenerator", name := "requireId", desc := "(J)J" } : Jvm.MethodName) prog_17_method_12_code (2 : Nat) (Option.some Jvm.ClassFile.FieldType.long)).before args0 about1 = true := code_word (m := ⟨2, 1⟩) (meth := k2m1) (c := k2c1) (by decide +kernel) rfl rfl rfl (by decide +kernel)
def codes1 : List Jvm.Cond := [Jvm.Cond.code x code maxLocals ret, Jvm.Cond.code ({ cls := "com/example/duplicate_request_guard/duplicaterequestguard/IdGenerator", name := "node", desc := "(J)I" } : Jvm.MethodName) prog_17_method_8_code (2 : Nat) (Option.some Jvm.ClassFile.FieldType.int), Jvm.Cond.code ({ cls := "com/example/duplicate_request_guard/duplicaterequestguard/IdGenerator", name := "requireId", desc := "(J)J" } : Jvm.MethodName) prog_17_method_12_code (2 : Nat) (Option.some Jvm.ClassFile.FieldType.long)]
set_option maxRecDepth 65536 in
theorem codes_eq : words1.filter isCode = codes1 := rfl
theorem w_codes : ∀ c ∈ words1.filter isCode, c.before args0 about1 = true := by
  rw [codes_eq]
  intro c hc
  simp only [codes1, List.mem_cons, List.not_mem_nil, or_false] at hc
  rcases hc with rfl | rfl | rfl
  · exact w_c0
  · exact w_c1
  · exact w_c2
set_option maxRecDepth 65536 in
theorem w_t1 : words1.all (fun c => isCode c || c.before args0 about1) = true := by decide +kernel
theorem w_tables : (allAtoms (Jvm.Cond.code x code maxLocals ret :: tables_1)).before args0 about1 = true := by
  rw [allAtoms_all]
  show words1.all (fun c => c.before args0 about1) = true
  refine all_split ?_ w_codes
  rw [w_t1]
set_option maxRecDepth 65536 in
theorem w_case : (Jvm.Cond.and given_1 narrow_1).before args0 about1 = true := by decide +kernel
theorem w_applies : (headSpec (Jvm.Cond.code x code maxLocals ret :: tables_1) room_1).applies x e0.platform about1 = true :=
  (Spec.applies_iff w_frames).mpr ⟨w_running, w_runnable, w_alone, w_named, w_hears, w_ripe, w_room, w_tables⟩
theorem atStart : AtStart classFile x code maxLocals ret World_1 tables_1 room_1 Calls_1 rest_1 Pre_1 launch0 p0 e0 about1 theMethod args0 below0 :=
  ⟨lists_1, trivial, launch0.admits_env _ _ _, launch0.least_env, fairChoices_fair.cas, fairChoices_fair.clock, w_frames, w_args, w_heap, w_applies, trivial, trivial, w_case⟩
end start1
theorem witness_1 : WitnessClaimed_1 := ⟨start1.p0, start1.e0, start1.about1, start1.theMethod, start1.args0, start1.below0, start1.atStart⟩
end Jvm.Pilot.@@N@@
