import JvmDerived
import JvmDerived.Pilot.@@N@@Statement
import JvmDerived.Pilot.@@N@@Code
set_option linter.unusedVariables false
set_option linter.unusedSimpArgs false
@@BLOCK:HandJ.lean.txt@@
@@BLOCK:HandW.lean.txt@@
@@BLOCK:HandBits.lean.txt@@
@@BLOCK:SymRun.lean.txt@@
@@BLOCK:RowBasics.lean.txt@@
@@BLOCK:Bridge.lean.txt@@
@@BLOCK:SymKit.lean.txt@@
@@BLOCK:NumsL.lean.txt@@
@@BLOCK:Masks.lean.txt@@
namespace Jvm.Pilot.@@N@@
open Jvm Jvm.ClassFile Sem Op Jvm.Sym Jvm.Pilot.@@N@@.Jvm.D
/-! own_: PURE TREES (no heap, no state): which terms are ints or longs whatever the arguments hold, which guards are worth something, which needs hold for sure. It stands behind kit/SymKit. -/
def own_op2 : Binary → VKind → VKind → Option VKind
  | .iand, .int, .int => some .int
  | .ior, .int, .int => some .int
  | .ixor, .int, .int => some .int
  | .ishl, .int, .int => some .int
  | .ishr, .int, .int => some .int
  | .iushr, .int, .int => some .int
  | .ladd, .long, .long => some .long
  | .lsub, .long, .long => some .long
  | .lmul, .long, .long => some .long
  | .land, .long, .long => some .long
  | .lor, .long, .long => some .long
  | .lxor, .long, .long => some .long
  | .lcmp, .long, .long => some .int
  | .lshl, .long, .int => some .long
  | .lshr, .long, .int => some .long
  | .lushr, .long, .int => some .long
  | _, _, _ => none
theorem own_op2_ok {o : Binary} {ka kb k : VKind} {v w : Value} (h : own_op2 o ka kb = some k) (hv : ka.ok v = true) (hw : kb.ok w = true) : ∃ z, o.apply v w = some z ∧ k.ok z = true := by
  cases ka <;> cases v <;> simp [VKind.ok] at hv <;> cases kb <;> cases w <;> simp [VKind.ok] at hw <;> cases o <;> simp [own_op2] at h <;> subst h <;> exact ⟨_, rfl, rfl⟩
def own_op1 : Unary → VKind → Option VKind
  | .ineg, .int => some .int
  | .i2b, .int => some .int
  | .i2c, .int => some .int
  | .i2s, .int => some .int
  | .i2l, .int => some .long
  | .l2i, .long => some .int
  | .lneg, .long => some .long
  | _, _ => none
theorem own_op1_ok {o : Unary} {ka k : VKind} {v : Value} (h : own_op1 o ka = some k) (hv : ka.ok v = true) : ∃ z, o.apply v = some z ∧ k.ok z = true := by
  cases ka <;> cases v <;> simp [VKind.ok] at hv <;> cases o <;> simp [own_op1] at h <;> subst h <;> exact ⟨_, rfl, rfl⟩
def own_ii : Option VKind → Option VKind → Option VKind
  | some .int, some .int => some .int
  | _, _ => none
theorem own_ii_spec {a b : Option VKind} {k : VKind} (h : own_ii a b = some k) : a = some .int ∧ b = some .int ∧ k = .int := by
  rcases a with _ | a
  · simp [own_ii] at h
  · rcases b with _ | b
    · cases a <;> simp [own_ii] at h
    · cases a <;> cases b <;> simp [own_ii] at h
      exact ⟨rfl, rfl, h.symm⟩
def own_nz : Term → Bool
  | .int z => decide (z ≠ 0)
  | _ => false
def own_kind (ks : List VKind) : Term → Option VKind
  | .arg i => ks[i]?
  | .int _ => some .int
  | .long _ => some .long
  | .old t => own_kind ks t
  | .add a b => own_ii (own_kind ks a) (own_kind ks b)
  | .sub a b => own_ii (own_kind ks a) (own_kind ks b)
  | .mul a b => own_ii (own_kind ks a) (own_kind ks b)
  | .rem a b => if own_nz b = true then own_ii (own_kind ks a) (own_kind ks b) else none
  | .op2 o a b => (own_kind ks a).bind fun x => (own_kind ks b).bind fun y => own_op2 o x y
  | .op1 o a => (own_kind ks a).bind fun x => own_op1 o x
  | _ => none
theorem own_int_of {v : Value} (h : VKind.int.ok v = true) : ∃ z, v = .int z := by
  cases v <;> simp [VKind.ok] at h
  exact ⟨_, rfl⟩
theorem own_long_of {v : Value} (h : VKind.long.ok v = true) : ∃ z, v = .long z := by
  cases v <;> simp [VKind.ok] at h
  exact ⟨_, rfl⟩
def own_Args (ks : List VKind) (A : Array Value) : Prop := ∀ (i : Nat) (k : VKind), ks[i]? = some k → ∃ v, A[i]? = some v ∧ k.ok v = true
theorem own_kind_ok {ks : List VKind} {A : Array Value} {s : State} (hA : own_Args ks A) : ∀ (t : Term) (k : VKind), own_kind ks t = some k → ∃ v, t.eval A s none [] s = some v ∧ k.ok v = true := by
  intro t
  induction t with
  | arg i => intro k h; exact hA i k h
  | int z => intro k h; cases h; exact ⟨_, rfl, rfl⟩
  | long z => intro k h; cases h; exact ⟨_, rfl, rfl⟩
  | old t ih => intro k h; exact ih k h
  | add a b iha ihb =>
    intro k h
    obtain ⟨h1, h2, rfl⟩ := own_ii_spec (show own_ii (own_kind ks a) (own_kind ks b) = some k from h)
    obtain ⟨v, e1, o1⟩ := iha _ h1
    obtain ⟨w, e2, o2⟩ := ihb _ h2
    obtain ⟨y, rfl⟩ := own_int_of o1
    obtain ⟨z, rfl⟩ := own_int_of o2
    exact ⟨.int (y + z), by simp [Term.eval, e1, e2], rfl⟩
  | sub a b iha ihb =>
    intro k h
    obtain ⟨h1, h2, rfl⟩ := own_ii_spec (show own_ii (own_kind ks a) (own_kind ks b) = some k from h)
    obtain ⟨v, e1, o1⟩ := iha _ h1
    obtain ⟨w, e2, o2⟩ := ihb _ h2
    obtain ⟨y, rfl⟩ := own_int_of o1
    obtain ⟨z, rfl⟩ := own_int_of o2
    exact ⟨.int (y - z), by simp [Term.eval, e1, e2], rfl⟩
  | mul a b iha ihb =>
    intro k h
    obtain ⟨h1, h2, rfl⟩ := own_ii_spec (show own_ii (own_kind ks a) (own_kind ks b) = some k from h)
    obtain ⟨v, e1, o1⟩ := iha _ h1
    obtain ⟨w, e2, o2⟩ := ihb _ h2
    obtain ⟨y, rfl⟩ := own_int_of o1
    obtain ⟨z, rfl⟩ := own_int_of o2
    exact ⟨.int (y * z), by simp [Term.eval, e1, e2], rfl⟩
  | rem a b iha ihb =>
    intro k h
    have h' : (if own_nz b = true then own_ii (own_kind ks a) (own_kind ks b) else none) = some k := h
    by_cases hz : own_nz b = true
    · rw [if_pos hz] at h'
      obtain ⟨h1, h2, rfl⟩ := own_ii_spec h'
      obtain ⟨v, e1, o1⟩ := iha _ h1
      obtain ⟨y, rfl⟩ := own_int_of o1
      cases b <;> simp [own_nz] at hz
      rename_i z
      exact ⟨.int (y % z), by simp [Term.eval, e1, hz], rfl⟩
    · rw [if_neg hz] at h'; cases h'
  | op2 o a b iha ihb =>
    intro k h
    obtain ⟨x, h1, h⟩ := Option.bind_eq_some_iff.mp (show (own_kind ks a).bind (fun x => (own_kind ks b).bind fun y => own_op2 o x y) = some k from h)
    obtain ⟨y, h2, h⟩ := Option.bind_eq_some_iff.mp h
    obtain ⟨v, e1, o1⟩ := iha _ h1
    obtain ⟨w, e2, o2⟩ := ihb _ h2
    obtain ⟨z, e3, o3⟩ := own_op2_ok h o1 o2
    exact ⟨z, by simp [Term.eval, e1, e2, e3], o3⟩
  | op1 o a iha =>
    intro k h
    obtain ⟨x, h1, h⟩ := Option.bind_eq_some_iff.mp (show (own_kind ks a).bind (fun x => own_op1 o x) = some k from h)
    obtain ⟨v, e1, o1⟩ := iha _ h1
    obtain ⟨z, e3, o3⟩ := own_op1_ok h o1
    exact ⟨z, by simp [Term.eval, e1, e3], o3⟩
  | _ => intro k h; exact absurd h (by simp [own_kind])
def own_cmp : Option VKind → Option VKind → Bool
  | some .int, some .int => true
  | some .long, some .long => true
  | _, _ => false
theorem own_cmp_spec {a b : Option VKind} (h : own_cmp a b = true) : (a = some .int ∧ b = some .int) ∨ (a = some .long ∧ b = some .long) := by
  rcases a with _ | a
  · simp [own_cmp] at h
  · rcases b with _ | b
    · cases a <;> simp [own_cmp] at h
    · cases a <;> cases b <;> simp [own_cmp] at h <;> simp
/-- the condition is worth something, whatever the arguments hold -/
def own_dfn (ks : List VKind) : Jvm.Cond → Bool
  | .tt => true
  | .eq a b => own_cmp (own_kind ks a) (own_kind ks b)
  | .lt a b => own_cmp (own_kind ks a) (own_kind ks b)
  | .le a b => own_cmp (own_kind ks a) (own_kind ks b)
  | .isInt t => (own_kind ks t).isSome
  | .isLong t => (own_kind ks t).isSome
  | .not c => own_dfn ks c
  | .and a b => own_dfn ks a && own_dfn ks b
  | .or a b => own_dfn ks a && own_dfn ks b
  | _ => false
theorem own_cmp_two {ks : List VKind} {A : Array Value} {s : State} (hA : own_Args ks A) {a b : Term} (h : own_cmp (own_kind ks a) (own_kind ks b) = true) :
    (∃ x y, a.eval A s none [] s = some (.int x) ∧ b.eval A s none [] s = some (.int y)) ∨ (∃ x y, a.eval A s none [] s = some (.long x) ∧ b.eval A s none [] s = some (.long y)) := by
  rcases own_cmp_spec h with ⟨h1, h2⟩ | ⟨h1, h2⟩
  · obtain ⟨v, e1, o1⟩ := own_kind_ok (s := s) hA _ _ h1
    obtain ⟨w, e2, o2⟩ := own_kind_ok (s := s) hA _ _ h2
    obtain ⟨y, rfl⟩ := own_int_of o1
    obtain ⟨z, rfl⟩ := own_int_of o2
    exact Or.inl ⟨y, z, e1, e2⟩
  · obtain ⟨v, e1, o1⟩ := own_kind_ok (s := s) hA _ _ h1
    obtain ⟨w, e2, o2⟩ := own_kind_ok (s := s) hA _ _ h2
    obtain ⟨y, rfl⟩ := own_long_of o1
    obtain ⟨z, rfl⟩ := own_long_of o2
    exact Or.inr ⟨y, z, e1, e2⟩
theorem own_dfn_ok {ks : List VKind} {A : Array Value} {s : State} (hA : own_Args ks A) : ∀ q : Jvm.Cond, own_dfn ks q = true → ∃ b, q.value A s none s [] = some b := by
  intro q
  induction q with
  | tt => intro _; exact ⟨true, rfl⟩
  | eq a b =>
    intro h
    rcases own_cmp_two (s := s) hA h with ⟨y, z, e1, e2⟩ | ⟨y, z, e1, e2⟩
    · exact ⟨_, Cond.eq_ints e1 e2⟩
    · exact ⟨decide (y = z), by simp [Cond.value, e1, e2]⟩
  | lt a b =>
    intro h
    rcases own_cmp_two (s := s) hA h with ⟨y, z, e1, e2⟩ | ⟨y, z, e1, e2⟩
    · exact ⟨_, Cond.lt_ints e1 e2⟩
    · exact ⟨decide (y < z), by simp [Cond.value, e1, e2]⟩
  | le a b =>
    intro h
    rcases own_cmp_two (s := s) hA h with ⟨y, z, e1, e2⟩ | ⟨y, z, e1, e2⟩
    · exact ⟨_, Cond.le_ints e1 e2⟩
    · exact ⟨decide (y ≤ z), by simp [Cond.value, e1, e2]⟩
  | isInt t =>
    intro h
    obtain ⟨k, hk⟩ := Option.isSome_iff_exists.mp (show (own_kind ks t).isSome = true from h)
    obtain ⟨v, e1, -⟩ := own_kind_ok (s := s) hA _ _ hk
    show ∃ b, Option.map _ (t.eval A s none [] s) = some b
    rw [e1]
    exact ⟨_, rfl⟩
  | isLong t =>
    intro h
    obtain ⟨k, hk⟩ := Option.isSome_iff_exists.mp (show (own_kind ks t).isSome = true from h)
    obtain ⟨v, e1, -⟩ := own_kind_ok (s := s) hA _ _ hk
    show ∃ b, Option.map _ (t.eval A s none [] s) = some b
    rw [e1]
    exact ⟨_, rfl⟩
  | not c ih =>
    intro h
    obtain ⟨b, hb⟩ := ih h
    exact ⟨!b, by simp [Cond.value, hb]⟩
  | and a c iha ihc =>
    intro h
    obtain ⟨h1, h2⟩ := (Bool.and_eq_true _ _).mp (show (own_dfn ks a && own_dfn ks c) = true from h)
    obtain ⟨b, hb⟩ := iha h1
    obtain ⟨d, hd⟩ := ihc h2
    cases b
    · exact ⟨false, by simp [Cond.value, hb]⟩
    · exact ⟨d, by simp [Cond.value, hb, hd]⟩
  | or a c iha ihc =>
    intro h
    obtain ⟨h1, h2⟩ := (Bool.and_eq_true _ _).mp (show (own_dfn ks a && own_dfn ks c) = true from h)
    obtain ⟨b, hb⟩ := iha h1
    obtain ⟨d, hd⟩ := ihc h2
    cases b
    · exact ⟨d, by simp [Cond.value, hb, hd]⟩
    · exact ⟨true, by simp [Cond.value, hb]⟩
  | _ => intro h; exact absurd h (by simp [own_dfn])
/-- the condition holds for sure: by its sorts, or by what is known (T true, F false) -/
def own_sure (ks : List VKind) (T F : List Jvm.Cond) : Jvm.Cond → Bool
  | .or a b => (own_dfn ks a && own_sure ks T F b) || (tv T F (.or a b) == some true)
  | .and a b => own_sure ks T F a && own_sure ks T F b
  | .isInt t => (own_kind ks t == some .int) || (tv T F (.isInt t) == some true)
  | .isLong t => (own_kind ks t == some .long) || (tv T F (.isLong t) == some true)
  | q => tv T F q == some true
theorem own_sure_ok {ks : List VKind} {T F : List Jvm.Cond} {A : Array Value} {s : State} (hA : own_Args ks A) (hT : ∀ c ∈ T, c.value A s none s [] = some true) (hF : ∀ c ∈ F, c.value A s none s [] = some false) :
    ∀ q : Jvm.Cond, own_sure ks T F q = true → q.value A s none s [] = some true := by
  have key : ∀ q : Jvm.Cond, (tv T F q == some true) = true → q.value A s none s [] = some true := fun q h => tv_sound hT hF q true (by simpa using h)
  intro q
  induction q with
  | or a c iha ihc =>
    intro h
    rcases (Bool.or_eq_true _ _).mp (show ((own_dfn ks a && own_sure ks T F c) || (tv T F (.or a c) == some true)) = true from h) with h | h
    · obtain ⟨h1, h2⟩ := (Bool.and_eq_true _ _).mp h
      obtain ⟨b, hb⟩ := own_dfn_ok (s := s) hA a h1
      have hd := ihc h2
      cases b
      · simp [Cond.value, hb, hd]
      · simp [Cond.value, hb]
    · exact key _ h
  | and a c iha ihc =>
    intro h
    obtain ⟨h1, h2⟩ := (Bool.and_eq_true _ _).mp (show (own_sure ks T F a && own_sure ks T F c) = true from h)
    simp [Cond.value, iha h1, ihc h2]
  | isInt t =>
    intro h
    rcases (Bool.or_eq_true _ _).mp (show ((own_kind ks t == some .int) || (tv T F (.isInt t) == some true)) = true from h) with h | h
    · obtain ⟨v, e1, o1⟩ := own_kind_ok (s := s) hA t .int (by simpa using h)
      obtain ⟨y, rfl⟩ := own_int_of o1
      simp [Cond.value, e1]
    · exact key _ h
  | isLong t =>
    intro h
    rcases (Bool.or_eq_true _ _).mp (show ((own_kind ks t == some .long) || (tv T F (.isLong t) == some true)) = true from h) with h | h
    · obtain ⟨v, e1, o1⟩ := own_kind_ok (s := s) hA t .long (by simpa using h)
      obtain ⟨y, rfl⟩ := own_long_of o1
      simp [Cond.value, e1]
    · exact key _ h
  | _ => intro h; exact key _ h
theorem own_needs {ks : List VKind} {T F L : List Jvm.Cond} {A : Array Value} {s : State} (hA : own_Args ks A) (hT : ∀ c ∈ T, c.value A s none s [] = some true) (hF : ∀ c ∈ F, c.value A s none s [] = some false)
    (h : L.all (own_sure ks T F) = true) : ∀ q ∈ L, q.before A s = true := fun q hq => before_of_value (own_sure_ok hA hT hF q (List.all_eq_true.mp h q hq))
def own_fit : List VKind → List Value → Bool
  | [], [] => true
  | k :: ks, v :: vs => k.ok v && own_fit ks vs
  | _, _ => false
theorem own_fit_ok : ∀ (ks : List VKind) (vs : List Value), own_fit ks vs = true → own_Args ks vs.toArray
  | [], _, _ => fun i k h => by simp at h
  | k :: ks, [], h => by simp [own_fit] at h
  | k :: ks, v :: vs, h => by
    obtain ⟨h1, h2⟩ := (Bool.and_eq_true _ _).mp (show (k.ok v && own_fit ks vs) = true from h)
    intro i k' hk
    cases i with
    | zero => simp at hk; subst hk; exact ⟨v, by simp, h1⟩
    | succ i =>
      obtain ⟨w, e1, o1⟩ := own_fit_ok ks vs h2 i k' (by simpa using hk)
      exact ⟨w, by simpa using e1, o1⟩
/-- what a callee of boolean hands back -/
def own_B (b : Bool) : Term := .op2 .iand (.int (if b then 1 else 0)) (.int 1)
def own_R (k : Int32) : STree := .ret (some ⟨.op2 .iand (.int k) (.int 1), .int⟩) []
theorem own_some {α β γ : Type} {o : Option (α × β × γ)} (h : o.isSome = true) : o = some ((o.get h).1, (o.get h).2.1, (o.get h).2.2) := by
  cases o with
  | none => cases h
  | some v => rfl
/-! 1. the callees: isHeld of another class, 'forbidden' of the law's own -/
def y1 : MethodName := ⟨"com/example/spruce_layout/sprucelayout/io/XmlCharacters", "isHeld", "(I)Z"⟩
def y1code : ByteArray := prog_87_method_3_code
def y1I : Info := { own := "com/example/spruce_layout/sprucelayout/io/XmlCharacters", ret := some .boolean, ints := [(42, 55295), (43, 57344), (33, 65533), (44, 65536)] }
def y1out : Option (Jvm.Cond × List Jvm.Cond × List Jvm.Cond) := walk y1I y1code 200 (entry [.int] 1)
theorem y1walks : y1out.isSome = true := by decide +kernel
def y1got : Jvm.Cond × List Jvm.Cond × List Jvm.Cond := y1out.get y1walks
def y1spec : Spec := specOf y1 y1code 1 (some .boolean) [.int] y1got.1 y1got.2.1 y1got.2.2
set_option maxRecDepth 65536 in
theorem y1meets (l : Launch) : MeetsLoose l y1 y1spec :=
  walk_meets (n := 200) (I := y1I) (by decide) rfl rfl (show walk y1I y1code 200 (entry [.int] 1) = some (y1got.1, y1got.2.1, y1got.2.2) from own_some y1walks)
theorem y1cold : y1spec.Cold := Spec.cold_of_keeps (by decide +kernel)
def y2 : MethodName := ⟨"com/example/spruce_layout/sprucelayout/io/XmlCharactersIsHeldPinLaw", "forbidden", "(I)Z"⟩
def y2code : ByteArray := method_2_code
def y2I : Info := { own := "com/example/spruce_layout/sprucelayout/io/XmlCharactersIsHeldPinLaw", ret := some .boolean, ints := [(7, 55296), (8, 57343), (9, 65534), (10, 65535)] }
def y2out : Option (Jvm.Cond × List Jvm.Cond × List Jvm.Cond) := walk y2I y2code 200 (entry [.int] 1)
theorem y2walks : y2out.isSome = true := by decide +kernel
def y2got : Jvm.Cond × List Jvm.Cond × List Jvm.Cond := y2out.get y2walks
def y2spec : Spec := specOf y2 y2code 1 (some .boolean) [.int] y2got.1 y2got.2.1 y2got.2.2
set_option maxRecDepth 65536 in
theorem y2meets (l : Launch) : MeetsLoose l y2 y2spec :=
  walk_meets (n := 200) (I := y2I) (by decide) rfl rfl (show walk y2I y2code 200 (entry [.int] 1) = some (y2got.1, y2got.2.1, y2got.2.2) from own_some y2walks)
theorem y2cold : y2spec.Cold := Spec.cold_of_keeps (by decide +kernel)

/-! 2. the law's own walk -/
def callee1 : Callee := { y := y1, S := y1spec, bytes := y1code, maxL := 1, ret := some .boolean, static := true, params := 1, res := some .int }
def callee2 : Callee := { y := y2, S := y2spec, bytes := y2code, maxL := 1, ret := some .boolean, static := true, params := 1, res := some .int }
def I : Info := { own := x.cls, ret := ret, ints := [(11, 2147483647), (12, 1114112)], calls := [(13, callee1), (19, callee2)], maxLocals := maxLocals, room := room_1 }
theorem callsOk (l : Launch) : CallsOk l I maxLocals room_1 := fun q hq => by
  simp only [I, List.mem_cons, List.not_mem_nil, or_false] at hq
  rcases hq with rfl | rfl
  · exact ⟨rfl, rfl, y1meets l, y1cold⟩
  · exact ⟨rfl, rfl, y2meets l, y2cold⟩
def w := walkTo I code [] 400 true (entry [.int] maxLocals)
theorem w_some : w.isSome = true := by decide +kernel
/-- isHeld's tree, each leaf followed by k -/
def own_held42 (c : Term) (k : Term → STree) : STree := .fork (.lt (.old c) (.old (.int 65536))) (k (own_B false)) (k (own_B true))
def own_held30 (c : Term) (k : Term → STree) : STree := .fork (.lt (.old c) (.old (.int 57344))) (own_held42 c k) (.fork (.le (.old c) (.old (.int 65533))) (k (own_B true)) (own_held42 c k))
def own_held (c : Term) (k : Term → STree) : STree := .fork (.eq (.old c) (.old (.int 9))) (k (own_B true)) (.fork (.eq (.old c) (.old (.int 10))) (k (own_B true)) (.fork (.eq (.old c) (.old (.int 13))) (k (own_B true))
  (.fork (.lt (.old c) (.old (.int 32))) (own_held30 c k) (.fork (.le (.old c) (.old (.int 55295))) (k (own_B true)) (own_held30 c k)))))
def own_forb44 (c : Term) (k : Term → STree) : STree := .fork (.eq (.old c) (.old (.int 65534))) (k (own_B true)) (.fork (.not (.eq (.old c) (.old (.int 65535)))) (k (own_B false)) (k (own_B true)))
def own_forb (c : Term) (k : Term → STree) : STree := .fork (.le (.old (.int 32)) (.old c))
  (.fork (.lt (.old c) (.old (.int 55296))) (own_forb44 c k) (.fork (.lt (.old (.int 57343)) (.old c)) (own_forb44 c k) (k (own_B true))))
  (.fork (.eq (.old c) (.old (.int 9))) (k (own_B false)) (.fork (.eq (.old c) (.old (.int 10))) (k (own_B false)) (.fork (.eq (.old c) (.old (.int 13))) (k (own_B false)) (k (own_B true)))))
def own_end (r1 r2 : Term) : STree := .fork (.not (.eq (.old r2) (.int 0)))
  (.fork (.not (.eq (.old r1) (.old (.int 0)))) (own_R 0) (own_R 1)) (.fork (.not (.eq (.old r1) (.old (.int 1)))) (own_R 0) (own_R 1))
def own_c : Term := .rem (.op2 .iand (.arg 0) (.int 2147483647)) (.int 1114112)
def t0 : STree := own_held own_c fun r1 => own_forb own_c fun r2 => own_end r1 r2
theorem tree : (w.get w_some).1 = t0 := by decide +kernel
set_option maxRecDepth 65536 in
theorem entry_walk : walkTo I code [] 400 true (entry [.int] maxLocals) = some (t0, (w.get w_some).2.1, (w.get w_some).2.2) := by
  rw [← tree]; exact own_some w_some
theorem sorts_ok {a : Int32} {s : State} : ∀ q ∈ Sym.sorts 0 [.int], q.before #[.int a] s = true := by
  intro q hq
  simp only [Sym.sorts, List.mem_cons, List.not_mem_nil, or_false] at hq
  rcases hq with rfl <;> simp [isK, Cond.before, Cond.holds, Cond.value, Term.eval]

/-! 3. what the callees say, in plain words; the plain law -/
def pHeld42 (v : Int32) : Bool := if v < 65536 then false else true
def pHeld30 (v : Int32) : Bool := if v < 57344 then pHeld42 v else if v ≤ 65533 then true else pHeld42 v
def pHeld (v : Int32) : Bool := if v = 9 then true else if v = 10 then true else if v = 13 then true else if v < 32 then pHeld30 v else if v ≤ 55295 then true else pHeld30 v
def pForb44 (v : Int32) : Bool := if v = 65534 then true else if v = 65535 then true else false
def pForb (v : Int32) : Bool := if 32 ≤ v then (if v < 55296 then pForb44 v else if 57343 < v then pForb44 v else true) else if v = 9 then false else if v = 10 then false else if v = 13 then false else true
theorem own_i9 : (9 : Int32).toInt = 9 := rfl
theorem own_i10 : (10 : Int32).toInt = 10 := rfl
theorem own_i13 : (13 : Int32).toInt = 13 := rfl
theorem own_i32 : (32 : Int32).toInt = 32 := rfl
theorem own_i55295 : (55295 : Int32).toInt = 55295 := rfl
theorem own_i55296 : (55296 : Int32).toInt = 55296 := rfl
theorem own_i57343 : (57343 : Int32).toInt = 57343 := rfl
theorem own_i57344 : (57344 : Int32).toInt = 57344 := rfl
theorem own_i65533 : (65533 : Int32).toInt = 65533 := rfl
theorem own_i65534 : (65534 : Int32).toInt = 65534 := rfl
theorem own_i65535 : (65535 : Int32).toInt = 65535 := rfl
theorem own_i65536 : (65536 : Int32).toInt = 65536 := rfl
set_option maxHeartbeats 4000000 in
theorem own_plain (v : Int32) (h0 : 0 ≤ v.toInt) : pHeld v = !pForb v := by
  unfold pHeld pForb pHeld30 pHeld42 pForb44
  simp only [Int32.lt_iff_toInt_lt, Int32.le_iff_toInt_le, ← Int32.toInt_inj, own_i9, own_i10, own_i13, own_i32, own_i55295, own_i55296, own_i57343, own_i57344, own_i65533, own_i65534, own_i65535, own_i65536]
  generalize v.toInt = n at *
  repeat' split
  all_goals first | rfl | (exfalso; omega)
theorem own_held_val {A : Array Value} {s : State} {c : Term} {v : Int32} (k : Term → STree) (hc : c.eval A s none [] s = some (.int v)) : Kit.valueOf A s (own_held c k) = Kit.valueOf A s (k (own_B (pHeld v))) := by
  have g1 : (Jvm.Cond.eq (.old c) (.old (.int 9))).value A s none s [] = some (decide (v = 9)) := Cond.eq_ints hc rfl
  have g2 : (Jvm.Cond.eq (.old c) (.old (.int 10))).value A s none s [] = some (decide (v = 10)) := Cond.eq_ints hc rfl
  have g3 : (Jvm.Cond.eq (.old c) (.old (.int 13))).value A s none s [] = some (decide (v = 13)) := Cond.eq_ints hc rfl
  have g4 : (Jvm.Cond.lt (.old c) (.old (.int 32))).value A s none s [] = some (decide (v < 32)) := Cond.lt_ints hc rfl
  have g5 : (Jvm.Cond.le (.old c) (.old (.int 55295))).value A s none s [] = some (decide (v ≤ 55295)) := Cond.le_ints hc rfl
  have g6 : (Jvm.Cond.lt (.old c) (.old (.int 57344))).value A s none s [] = some (decide (v < 57344)) := Cond.lt_ints hc rfl
  have g7 : (Jvm.Cond.le (.old c) (.old (.int 65533))).value A s none s [] = some (decide (v ≤ 65533)) := Cond.le_ints hc rfl
  have g8 : (Jvm.Cond.lt (.old c) (.old (.int 65536))).value A s none s [] = some (decide (v < 65536)) := Cond.lt_ints hc rfl
  have h42 : Kit.valueOf A s (own_held42 c k) = Kit.valueOf A s (k (own_B (pHeld42 v))) := by
    simp only [own_held42, Kit.valueOf, g8]
    by_cases p8 : v < 65536 <;> simp [pHeld42, p8]
  have h30 : Kit.valueOf A s (own_held30 c k) = Kit.valueOf A s (k (own_B (pHeld30 v))) := by
    simp only [own_held30, Kit.valueOf, g6, g7, h42]
    by_cases p6 : v < 57344 <;> by_cases p7 : v ≤ 65533 <;> simp [pHeld30, p6, p7]
  simp only [own_held, Kit.valueOf, g1, g2, g3, g4, g5, h30]
  by_cases p1 : v = 9
  · simp [pHeld, p1]
  by_cases p2 : v = 10
  · simp [pHeld, p2]
  by_cases p3 : v = 13
  · simp [pHeld, p3]
  by_cases p4 : v < 32 <;> by_cases p5 : v ≤ 55295 <;> simp [pHeld, p1, p2, p3, p4, p5]
theorem own_forb_val {A : Array Value} {s : State} {c : Term} {v : Int32} (k : Term → STree) (hc : c.eval A s none [] s = some (.int v)) : Kit.valueOf A s (own_forb c k) = Kit.valueOf A s (k (own_B (pForb v))) := by
  have g1 : (Jvm.Cond.eq (.old c) (.old (.int 9))).value A s none s [] = some (decide (v = 9)) := Cond.eq_ints hc rfl
  have g2 : (Jvm.Cond.eq (.old c) (.old (.int 10))).value A s none s [] = some (decide (v = 10)) := Cond.eq_ints hc rfl
  have g3 : (Jvm.Cond.eq (.old c) (.old (.int 13))).value A s none s [] = some (decide (v = 13)) := Cond.eq_ints hc rfl
  have g4 : (Jvm.Cond.le (.old (.int 32)) (.old c)).value A s none s [] = some (decide (32 ≤ v)) := Cond.le_ints rfl hc
  have g5 : (Jvm.Cond.lt (.old c) (.old (.int 55296))).value A s none s [] = some (decide (v < 55296)) := Cond.lt_ints hc rfl
  have g6 : (Jvm.Cond.lt (.old (.int 57343)) (.old c)).value A s none s [] = some (decide (57343 < v)) := Cond.lt_ints rfl hc
  have g7 : (Jvm.Cond.eq (.old c) (.old (.int 65534))).value A s none s [] = some (decide (v = 65534)) := Cond.eq_ints hc rfl
  have g8 : (Jvm.Cond.not (.eq (.old c) (.old (.int 65535)))).value A s none s [] = some (!decide (v = 65535)) := by
    have g : (Jvm.Cond.eq (.old c) (.old (.int 65535))).value A s none s [] = some (decide (v = 65535)) := Cond.eq_ints hc rfl
    show ((Jvm.Cond.eq (.old c) (.old (.int 65535))).value A s none s []).map (!·) = _
    rw [g]; rfl
  have h44 : Kit.valueOf A s (own_forb44 c k) = Kit.valueOf A s (k (own_B (pForb44 v))) := by
    simp only [own_forb44, Kit.valueOf, g7, g8]
    by_cases p7 : v = 65534
    · simp [pForb44, p7]
    by_cases p8 : v = 65535 <;> simp [pForb44, p7, p8]
  simp only [own_forb, Kit.valueOf, g1, g2, g3, g4, g5, g6, h44]
  by_cases p4 : 32 ≤ v
  · by_cases p5 : v < 55296 <;> by_cases p6 : 57343 < v <;> simp [pForb, p4, p5, p6]
  by_cases p1 : v = 9
  · subst p1; simp [pForb, p4]
  by_cases p2 : v = 10
  · subst p2; simp [pForb, p4]
  by_cases p3 : v = 13
  · subst p3; simp [pForb, p4]
  simp [pForb, p1, p2, p3, p4]
theorem own_end_val {A : Array Value} {s : State} (b : Bool) : Kit.valueOf A s (own_end (own_B (!b)) (own_B b)) = some (.int 1) := by
  cases b <;> rfl
theorem own_num (a : Int32) : 0 ≤ ((a &&& 2147483647) % 1114112).toInt := by
  have e1 : (a &&& 2147483647).toInt = a.toInt % 2 ^ 31 := Jvm.Kit.i32_mask a 2147483647 (k := 31) (by decide) (by decide)
  have e2 : ((a &&& 2147483647) % 1114112).toInt = (a &&& 2147483647).toInt % (1114112 : Int32).toInt := Jvm.Kit.i32_rem_nonneg (by omega)
  have e3 : (1114112 : Int32).toInt = 1114112 := rfl
  rw [e3] at e2
  omega
theorem value_eq (a : Int32) (s : State) : Kit.valueOf #[.int a] s t0 = some (.int 1) := by
  have hc : own_c.eval #[.int a] s none [] s = some (.int ((a &&& 2147483647) % 1114112)) := by first | rfl | simp [own_c, Term.eval, Binary.apply]
  unfold t0
  rw [own_held_val _ hc, own_forb_val _ hc, own_plain _ (own_num a), own_end_val]

/-! 4. the contract, the limbs -/
def post_1 : Jvm.Cond := .and limb_1_1 limb_1_2
theorem met_1 (l : Launch) : MeetsLoose l x (armSpec x code maxLocals ret tables_1 room_1 .tt (.and given_1 narrow_1) post_1 frame_1_writes frame_1_arrays frame_1_statics) := by
  refine loops_meets (I := I) (ks0 := [.int]) (cuts := []) (by decide) rfl rfl rfl rfl rfl (fun args s h => ?_) entry_walk (fun _ => none) (fun _ _ _ _ _ => False) (fun _ _ _ => 0) (fun args s h => ?_) (fun args s _ h ks hks => by cases hks) (callsOk l)
  · simp only [armSpec, allAtoms, List.foldr_cons, Cond.before_and, Bool.and_eq_true] at h; exact h.1.1
  · have hts : (allAtoms (Cond.code x code maxLocals ret :: tables_1)).before args s = true := by simp only [armSpec, Cond.before_and, Bool.and_eq_true] at h; exact h.1
    have hK : (Cond.and .tt (.and given_1 narrow_1)).before args s = true := by simp only [armSpec, Cond.before_and, Bool.and_eq_true] at h ⊢; exact h.2
    simp only [armSpec, given_1, Cond.before_and, Bool.and_eq_true] at h
    obtain ⟨-, -, ⟨hc, h0⟩, hn⟩ := h
    obtain ⟨a, rfl⟩ := Cond.one_int hc h0
    have hT := known3 (Gt := []) hts hK (by intro q hq; cases hq)
    have hF : ∀ q ∈ ([] : List Jvm.Cond), q.value #[.int a] s none s [] = some false := fun q hq => by cases hq
    refine ⟨rfl, sorts_ok, tabs_of_sub hts (by decide +kernel), own_needs (ks := [.int]) (own_fit_ok [.int] [.int a] rfl) hT hF (by decide +kernel), Kit.vc_of_value (w₀ := .int 1) (fun E => ?_) t0 (by decide +kernel) (value_eq a s)⟩
    simp [armSpec, post_1, limb_1_1, limb_1_2, Cond.after, Cond.holds, Cond.value, Term.eval]
theorem main_1_1 : Claimed_1_1 := armFor_of_meets0 (fun l => (met_1 l).meets) (fun _ _ _ _ h => by simp only [post_1, Cond.after_and, Bool.and_eq_true] at h; exact h.1)
theorem main_1_2 : Claimed_1_2 := armFor_of_meets0 (fun l => (met_1 l).meets) (fun _ _ _ _ h => by simp only [post_1, Cond.after_and, Bool.and_eq_true] at h; exact h.2)
end Jvm.Pilot.@@N@@
namespace Jvm.Pilot.@@N@@
open Jvm Jvm.ClassFile Sem Op Lib Jvm.Free Jvm.Stand Jvm.Pilot.@@N@@.Jvm.D
/-! MADE BY PROGRAM (witnessworld.py) out of the Statement's table words and the real class files: 9 classes; the members and pool entries that the words name. The judged class is class 1, her method 2. -/
namespace start1
open Jvm.ClassFile
def u (s : String) : CpInfo := .utf8 (stringToUtf16 s)
/-- a pool by its gaps: so many unusable entries, then the entry; so many at the end -/
def gap : Nat → List CpInfo → List CpInfo
  | 0, r => r
  | n + 1, r => .unusable :: gap n r
def poolList (es : List (Nat × CpInfo)) (last : Nat) : List CpInfo := es.foldr (fun e r => gap e.1 (e.2 :: r)) (gap last [])
def pool (es : List (Nat × CpInfo)) (last : Nat) : Array CpInfo := ⟨poolList es last⟩
def fileOf (pool : Array CpInfo) (this : Nat) (attrs : Array Attribute := #[]) (ms : Array MethodInfo := #[]) (fl : Nat := 33) (sup : Nat := 0) (ifs : Array Nat := #[]) (fds : Array FieldInfo := #[]) : ClassFile where
  minorVersion := 0
  majorVersion := 65
  constantPool := pool
  accessFlags := fl
  thisClass := this
  superClass := sup
  interfaces := ifs
  fields := fds
  methods := ms
  attributes := attrs
def plain (name : String) (sup : Option ClassId) : Class where
  name := name
  kind := .ordinary
  loader := none
  accessFlags := 33
  super := sup
  interfaces := #[]
  cf := none
  fields := #[]
  methods := #[]
  instanceTypes := #[]
  staticTypes := #[]
  resolved := #[]
  callSites := []
  init := .initialized
  statics := none
  mirror := none

def pool0 : Array CpInfo := pool [(5, u "<init>"), (0, u "()V"), (1, .class_ 10), (1, u "java/lang/Object")] 113

def k0m0 : Method := { name := "<init>", desc := "()V", sig := { parameters := [], returnType := none }, accessFlags := 1, code := none }
/-- java/lang/Object -/
def k0 : Class := { plain "java/lang/Object" none with
  accessFlags := 33
  interfaces := #[]
  cf := some (fileOf pool0 8 #[] #[{ accessFlags := 1, nameIndex := 5, descriptorIndex := 6, attributes := #[] }] 33 0 #[] #[])
  fields := #[]
  methods := #[k0m0]
  instanceTypes := #[]
  staticTypes := #[]
  resolved := Array.replicate 124 none
  statics := none }

def pool1 : Array CpInfo := pool [(2, .class_ 4), (1, u "java/lang/Object"), (0, u "<init>"), (0, u "()V"), (0, .integer 55296), (0, .integer 57343), (0, .integer 65534), (0, .integer 65535), (0, .integer 2147483647), (0, .integer 1114112), (0, .methodref 14 15), (0, .class_ 16), (0, .nameAndType 17 18), (0, u "com/example/spruce_layout/sprucelayout/io/XmlCharacters"), (0, u "isHeld"), (0, u "(I)Z"), (0, .methodref 20 21), (0, .class_ 22), (0, .nameAndType 23 18), (0, u "com/example/spruce_layout/sprucelayout/io/XmlCharactersIsHeldPinLaw"), (0, u "forbidden"), (3, u "law")] 2

def k1m0 : Method := { name := "<init>", desc := "()V", sig := { parameters := [], returnType := none }, accessFlags := 2, code := none }
def k1c1 : Code := { maxStack := 2, maxLocals := 1, code := method_2_code, exceptionTable := #[], attributes := #[] }
def k1m1 : Method := { name := "forbidden", desc := "(I)Z", sig := { parameters := [.int], returnType := some .boolean }, accessFlags := 10, code := some k1c1 }
def k1c2 : Code := { maxStack := 2, maxLocals := 2, code := code, exceptionTable := #[], attributes := #[] }
def k1m2 : Method := { name := "law", desc := "(I)Z", sig := { parameters := [.int], returnType := some .boolean }, accessFlags := 9, code := some k1c2 }
/-- com/example/spruce_layout/sprucelayout/io/XmlCharactersIsHeldPinLaw -/
def k1 : Class := { plain "com/example/spruce_layout/sprucelayout/io/XmlCharactersIsHeldPinLaw" (some 0) with
  accessFlags := 49
  interfaces := #[]
  cf := some (fileOf pool1 20 #[] #[{ accessFlags := 2, nameIndex := 5, descriptorIndex := 6, attributes := #[] }, { accessFlags := 10, nameIndex := 23, descriptorIndex := 18, attributes := #[] }, { accessFlags := 9, nameIndex := 27, descriptorIndex := 18, attributes := #[] }] 49 2 #[] #[])
  fields := #[]
  methods := #[k1m0, k1m1, k1m2]
  instanceTypes := #[]
  staticTypes := #[]
  resolved := Array.replicate 30 none
  statics := none }

def pool2 : Array CpInfo := pool [(2, .class_ 4), (1, u "java/lang/Object"), (0, u "<init>"), (0, u "()V"), (21, .class_ 30), (1, u "com/example/spruce_layout/sprucelayout/io/XmlCharacters"), (0, u "isHeld"), (0, u "(I)Z"), (0, .integer 65533), (8, .integer 55295), (0, .integer 57344), (0, .integer 65536)] 7

def k2m0 : Method := { name := "<init>", desc := "()V", sig := { parameters := [], returnType := none }, accessFlags := 2, code := none }
def k2c1 : Code := { maxStack := 2, maxLocals := 1, code := prog_87_method_3_code, exceptionTable := #[], attributes := #[] }
def k2m1 : Method := { name := "isHeld", desc := "(I)Z", sig := { parameters := [.int], returnType := some .boolean }, accessFlags := 8, code := some k2c1 }
/-- com/example/spruce_layout/sprucelayout/io/XmlCharacters -/
def k2 : Class := { plain "com/example/spruce_layout/sprucelayout/io/XmlCharacters" (some 0) with
  accessFlags := 48
  interfaces := #[]
  cf := some (fileOf pool2 28 #[] #[{ accessFlags := 2, nameIndex := 5, descriptorIndex := 6, attributes := #[] }, { accessFlags := 8, nameIndex := 31, descriptorIndex := 32, attributes := #[] }] 48 2 #[] #[])
  fields := #[]
  methods := #[k2m0, k2m1]
  instanceTypes := #[]
  staticTypes := #[]
  resolved := Array.replicate 52 none
  statics := none }

def pool3 : Array CpInfo := pool [(1, u "java/lang/Cloneable"), (0, .class_ 1), (0, u "java/lang/Object"), (0, .class_ 3)] 3

/-- java/lang/Cloneable -/
def k3 : Class := { plain "java/lang/Cloneable" (some 0) with
  accessFlags := 1537
  interfaces := #[]
  cf := some (fileOf pool3 2 #[] #[] 1537 4 #[] #[])
  fields := #[]
  methods := #[]
  instanceTypes := #[]
  staticTypes := #[]
  resolved := Array.replicate 8 none
  statics := none }

def pool4 : Array CpInfo := pool [(1, u "java/io/Serializable"), (0, .class_ 1), (0, u "java/lang/Object"), (0, .class_ 3)] 3

/-- java/io/Serializable -/
def k4 : Class := { plain "java/io/Serializable" (some 0) with
  accessFlags := 1537
  interfaces := #[]
  cf := some (fileOf pool4 2 #[] #[] 1537 4 #[] #[])
  fields := #[]
  methods := #[]
  instanceTypes := #[]
  staticTypes := #[]
  resolved := Array.replicate 8 none
  statics := none }

/-- the primitive byte -/
def k5 : Class := { plain "byte" none with kind := .primitive 'B', accessFlags := 0x411 }
/-- [B -/
def k6 : Class := { plain "[B" (some 0) with kind := .array 5 .byte, interfaces := #[3, 4], accessFlags := 1041 }

/-- the primitive int -/
def k7 : Class := { plain "int" none with kind := .primitive 'I', accessFlags := 0x411 }
/-- [I -/
def k8 : Class := { plain "[I" (some 0) with kind := .array 7 .int, interfaces := #[3, 4], accessFlags := 1041 }

def heap : Heap := #[]
def classes : Array Class := #[k0, k1, k2, k3, k4, k5, k6, k7, k8]
def interned : List (Array UInt16 × Addr) := []
def slotsUsed : Nat := 0
def theMethod : MethodId := ⟨1, 2⟩
def args0 : Array Value := #[.int 70]
def aboutOver (below : List Frame) : State where
  vm := { classes := classes, interned := interned.toArray }
  heap := heap
  slotsUsed := slotsUsed
  threads := #[{ frames := .invoking theMethod args0 :: below }]
def below0 : List Frame := [.native { method := ⟨0, 0⟩, args := #[] }]
def about1 : State := aboutOver below0
def p0 : Program := .bare "" "" ""
def e0 : Env := launch0.env 0 0 0
theorem w_frames : about1.frames = Frame.invoking theMethod args0 :: below0 := rfl
set_option maxRecDepth 65536 in
theorem w_args : argsFit about1.vm theMethod args0 = true := by decide +kernel
set_option maxRecDepth 65536 in
theorem w_heap : heapFits about1 = true := by decide +kernel
set_option maxRecDepth 65536 in
theorem w_runnable : about1.curStatus? = some .runnable := by decide +kernel
set_option maxRecDepth 65536 in
theorem w_alone : about1.alone = true := by decide +kernel
set_option maxRecDepth 65536 in
theorem w_named : about1.methodNamed? x = some theMethod := by decide +kernel
set_option maxRecDepth 65536 in
theorem w_hears : about1.hears theMethod below0 = true := by decide +kernel
set_option maxRecDepth 65536 in
theorem w_ripe : about1.ripe theMethod args0 below0 = true := by decide +kernel
theorem w_running : about1.status = .running := rfl
set_option maxRecDepth 65536 in
theorem w_room : about1.hasRoom e0.platform room_1 = true :=
  launch0.hasRoom_least _ room_1 (by decide +kernel) (by decide +kernel) (by decide +kernel) (by decide +kernel) (by decide +kernel) (by decide +kernel)
theorem allAtoms_all (ts : List Jvm.Cond) (a : Array Jvm.Value) (st : Jvm.State) : (allAtoms ts).before a st = ts.all (fun c => c.before a st) := by
  induction ts with
  | nil => rfl
  | cons c t ih =>
    show (Jvm.Cond.and c (allAtoms t)).before a st = _
    rw [Jvm.Cond.before_and, ih, List.all_cons]
def words1 : List Jvm.Cond := Jvm.Cond.code x code maxLocals ret :: tables_1
/-- a 'code' word, met by the world's own term for the bytes: nothing is compared byte by byte -/
theorem code_word {y : MethodName} {bytes : ByteArray} {mx : Nat} {rt : Option FieldType} {a : Array Value} {s : State} {m : MethodId} {meth : Method} {c : Code} (h1 : s.methodNamed? y = some m) (h2 : s.vm.method? m = some meth) (h3 : meth.code = some c) (h4 : c.code = bytes)
    (h5 : (c.maxLocals == mx && c.exceptionTable.isEmpty && decide (c.maxStack ≤ mostOperands) && decide (meth.sig.returnType = rt) && !meth.locks && decide (parseMethodDescriptor y.desc = some meth.sig)) = true) : (Jvm.Cond.code y bytes mx rt).before a s = true := by
  simp only [Bool.and_eq_true, beq_iff_eq, Bool.not_eq_true', decide_eq_true_eq] at h5
  obtain ⟨⟨⟨⟨⟨g1, g2⟩, g3⟩, g4⟩, g5⟩, g6⟩ := h5
  simp [Cond.before, Cond.holds, Cond.value, h1, h2, h3, h4, g1, g2, g3, g4, g5, g6]
def isCode : Jvm.Cond → Bool
  | .code _ _ _ _ => true
  | _ => false
theorem all_split {L : List Jvm.Cond} {P : Jvm.Cond → Bool} (h1 : L.all (fun c => isCode c || P c) = true) (h2 : ∀ c ∈ L.filter isCode, P c = true) : L.all P = true := by
  refine List.all_eq_true.mpr fun c hc => ?_
  have h := List.all_eq_true.mp h1 c hc
  rcases Bool.eq_false_or_eq_true (isCode c) with hi | hi
  · exact h2 c (List.mem_filter.mpr ⟨hc, hi⟩)
  · simpa [hi] using h
set_option maxRecDepth 65536 in
theorem w_c0 : (Jvm.Cond.code x code maxLocals ret).before args0 about1 = true := code_word (m := ⟨1, 2⟩) (meth := k1m2) (c := k1c2) (by decide +kernel) rfl rfl rfl (by decide +kernel)
set_option maxRecDepth 65536 in
theorem w_c1 : (Jvm.Cond.code ({ cls := "com/example/spruce_layout/sprucelayout/io/XmlCharacters", name := "isHeld", desc := "(I)Z" } : Jvm.MethodName) prog_87_method_3_code (1 : Nat) (Option.some Jvm.ClassFile.FieldType.boolean)).before args0 about1 = true := code_word (m := ⟨2, 1⟩) (meth := k2m1) (c := k2c1) (by decide +kernel) rfl rfl rfl (by decide +kernel)
set_option maxRecDepth 65536 in
theorem w_c2 : (Jvm.Cond.code ({ cls := "com/example/spruce_layout/sprucelayout/io/XmlCharactersIsHeldPinLaw", name := "forbidden", desc := "(I)Z" } : Jvm.MethodName) method_2_code (1 : Nat) (Option.some Jvm.ClassFile.FieldType.boolean)).before args0 about1 = true := code_word (m := ⟨1, 1⟩) (meth := k1m1) (c := k1c1) (by decide +kernel) rfl rfl rfl (by decide +kernel)
def codes1 : List Jvm.Cond := [Jvm.Cond.code x code maxLocals ret, Jvm.Cond.code ({ cls := "com/example/spruce_layout/sprucelayout/io/XmlCharacters", name := "isHeld", desc := "(I)Z" } : Jvm.MethodName) prog_87_method_3_code (1 : Nat) (Option.some Jvm.ClassFile.FieldType.boolean), Jvm.Cond.code ({ cls := "com/example/spruce_layout/sprucelayout/io/XmlCharactersIsHeldPinLaw", name := "forbidden", desc := "(I)Z" } : Jvm.MethodName) method_2_code (1 : Nat) (Option.some Jvm.ClassFile.FieldType.boolean)]
set_option maxRecDepth 65536 in
theorem codes_eq : words1.filter isCode = codes1 := rfl
theorem w_codes : ∀ c ∈ words1.filter isCode, c.before args0 about1 = true := by
  rw [codes_eq]
  intro c hc
  simp only [codes1, List.mem_cons, List.not_mem_nil, or_false] at hc
  rcases hc with rfl | rfl | rfl
  · exact w_c0
  · exact w_c1
  · exact w_c2
set_option maxRecDepth 65536 in
theorem w_t1 : words1.all (fun c => isCode c || c.before args0 about1) = true := by decide +kernel
theorem w_tables : (allAtoms (Jvm.Cond.code x code maxLocals ret :: tables_1)).before args0 about1 = true := by
  rw [allAtoms_all]
  show words1.all (fun c => c.before args0 about1) = true
  refine all_split ?_ w_codes
  rw [w_t1]
set_option maxRecDepth 65536 in
theorem w_case : (Jvm.Cond.and given_1 narrow_1).before args0 about1 = true := by decide +kernel
theorem w_applies : (headSpec (Jvm.Cond.code x code maxLocals ret :: tables_1) room_1).applies x e0.platform about1 = true :=
  (Spec.applies_iff w_frames).mpr ⟨w_running, w_runnable, w_alone, w_named, w_hears, w_ripe, w_room, w_tables⟩
theorem atStart : AtStart classFile x code maxLocals ret World_1 tables_1 room_1 Calls_1 rest_1 Pre_1 launch0 p0 e0 about1 theMethod args0 below0 :=
  ⟨lists_1, trivial, launch0.admits_env _ _ _, launch0.least_env, fairChoices_fair.cas, fairChoices_fair.clock, w_frames, w_args, w_heap, w_applies, trivial, trivial, w_case⟩
end start1
theorem witness_1 : WitnessClaimed_1 := ⟨start1.p0, start1.e0, start1.about1, start1.theMethod, start1.args0, start1.below0, start1.atStart⟩
end Jvm.Pilot.@@N@@
