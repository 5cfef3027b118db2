import JvmDerived
import JvmDerived.Pilot.@@N@@Statement
import JvmDerived.Pilot.@@N@@Code
set_option linter.unusedVariables false
set_option linter.unusedSimpArgs false
@@BLOCK:HandJ.lean.txt@@
@@BLOCK:HandW.lean.txt@@
@@BLOCK:HandBits.lean.txt@@
@@BLOCK:SymRun.lean.txt@@
@@BLOCK:RowBasics.lean.txt@@
@@BLOCK:Bridge.lean.txt@@
@@BLOCK:SymKit.lean.txt@@
@@BLOCK:NumsL.lean.txt@@
@@BLOCK:Masks.lean.txt@@
namespace Jvm.Pilot.@@N@@
open Jvm Jvm.ClassFile Sem Op Jvm.Sym Jvm.Pilot.@@N@@.Jvm.D
/-! own_: PURE TREES (no heap, no state): which terms are ints or longs whatever the arguments hold, which guards are worth something, which needs hold for sure. It stands behind kit/SymKit. -/
def own_op2 : Binary → VKind → VKind → Option VKind
  | .iand, .int, .int => some .int
  | .ior, .int, .int => some .int
  | .ixor, .int, .int => some .int
  | .ishl, .int, .int => some .int
  | .ishr, .int, .int => some .int
  | .iushr, .int, .int => some .int
  | .ladd, .long, .long => some .long
  | .lsub, .long, .long => some .long
  | .lmul, .long, .long => some .long
  | .land, .long, .long => some .long
  | .lor, .long, .long => some .long
  | .lxor, .long, .long => some .long
  | .lcmp, .long, .long => some .int
  | .lshl, .long, .int => some .long
  | .lshr, .long, .int => some .long
  | .lushr, .long, .int => some .long
  | _, _, _ => none
theorem own_op2_ok {o : Binary} {ka kb k : VKind} {v w : Value} (h : own_op2 o ka kb = some k) (hv : ka.ok v = true) (hw : kb.ok w = true) : ∃ z, o.apply v w = some z ∧ k.ok z = true := by
  cases ka <;> cases v <;> simp [VKind.ok] at hv <;> cases kb <;> cases w <;> simp [VKind.ok] at hw <;> cases o <;> simp [own_op2] at h <;> subst h <;> exact ⟨_, rfl, rfl⟩
def own_op1 : Unary → VKind → Option VKind
  | .ineg, .int => some .int
  | .i2b, .int => some .int
  | .i2c, .int => some .int
  | .i2s, .int => some .int
  | .i2l, .int => some .long
  | .l2i, .long => some .int
  | .lneg, .long => some .long
  | _, _ => none
theorem own_op1_ok {o : Unary} {ka k : VKind} {v : Value} (h : own_op1 o ka = some k) (hv : ka.ok v = true) : ∃ z, o.apply v = some z ∧ k.ok z = true := by
  cases ka <;> cases v <;> simp [VKind.ok] at hv <;> cases o <;> simp [own_op1] at h <;> subst h <;> exact ⟨_, rfl, rfl⟩
def own_ii : Option VKind → Option VKind → Option VKind
  | some .int, some .int => some .int
  | _, _ => none
theorem own_ii_spec {a b : Option VKind} {k : VKind} (h : own_ii a b = some k) : a = some .int ∧ b = some .int ∧ k = .int := by
  rcases a with _ | a
  · simp [own_ii] at h
  · rcases b with _ | b
    · cases a <;> simp [own_ii] at h
    · cases a <;> cases b <;> simp [own_ii] at h
      exact ⟨rfl, rfl, h.symm⟩
def own_nz : Term → Bool
  | .int z => decide (z ≠ 0)
  | _ => false
def own_kind (ks : List VKind) : Term → Option VKind
  | .arg i => ks[i]?
  | .int _ => some .int
  | .long _ => some .long
  | .old t => own_kind ks t
  | .add a b => own_ii (own_kind ks a) (own_kind ks b)
  | .sub a b => own_ii (own_kind ks a) (own_kind ks b)
  | .mul a b => own_ii (own_kind ks a) (own_kind ks b)
  | .rem a b => if own_nz b = true then own_ii (own_kind ks a) (own_kind ks b) else none
  | .op2 o a b => (own_kind ks a).bind fun x => (own_kind ks b).bind fun y => own_op2 o x y
  | .op1 o a => (own_kind ks a).bind fun x => own_op1 o x
  | _ => none
theorem own_int_of {v : Value} (h : VKind.int.ok v = true) : ∃ z, v = .int z := by
  cases v <;> simp [VKind.ok] at h
  exact ⟨_, rfl⟩
theorem own_long_of {v : Value} (h : VKind.long.ok v = true) : ∃ z, v = .long z := by
  cases v <;> simp [VKind.ok] at h
  exact ⟨_, rfl⟩
def own_Args (ks : List VKind) (A : Array Value) : Prop := ∀ (i : Nat) (k : VKind), ks[i]? = some k → ∃ v, A[i]? = some v ∧ k.ok v = true
theorem own_kind_ok {ks : List VKind} {A : Array Value} {s : State} (hA : own_Args ks A) : ∀ (t : Term) (k : VKind), own_kind ks t = some k → ∃ v, t.eval A s none [] s = some v ∧ k.ok v = true := by
  intro t
  induction t with
  | arg i => intro k h; exact hA i k h
  | int z => intro k h; cases h; exact ⟨_, rfl, rfl⟩
  | long z => intro k h; cases h; exact ⟨_, rfl, rfl⟩
  | old t ih => intro k h; exact ih k h
  | add a b iha ihb =>
    intro k h
    obtain ⟨h1, h2, rfl⟩ := own_ii_spec (show own_ii (own_kind ks a) (own_kind ks b) = some k from h)
    obtain ⟨v, e1, o1⟩ := iha _ h1
    obtain ⟨w, e2, o2⟩ := ihb _ h2
    obtain ⟨y, rfl⟩ := own_int_of o1
    obtain ⟨z, rfl⟩ := own_int_of o2
    exact ⟨.int (y + z), by simp [Term.eval, e1, e2], rfl⟩
  | sub a b iha ihb =>
    intro k h
    obtain ⟨h1, h2, rfl⟩ := own_ii_spec (show own_ii (own_kind ks a) (own_kind ks b) = some k from h)
    obtain ⟨v, e1, o1⟩ := iha _ h1
    obtain ⟨w, e2, o2⟩ := ihb _ h2
    obtain ⟨y, rfl⟩ := own_int_of o1
    obtain ⟨z, rfl⟩ := own_int_of o2
    exact ⟨.int (y - z), by simp [Term.eval, e1, e2], rfl⟩
  | mul a b iha ihb =>
    intro k h
    obtain ⟨h1, h2, rfl⟩ := own_ii_spec (show own_ii (own_kind ks a) (own_kind ks b) = some k from h)
    obtain ⟨v, e1, o1⟩ := iha _ h1
    obtain ⟨w, e2, o2⟩ := ihb _ h2
    obtain ⟨y, rfl⟩ := own_int_of o1
    obtain ⟨z, rfl⟩ := own_int_of o2
    exact ⟨.int (y * z), by simp [Term.eval, e1, e2], rfl⟩
  | rem a b iha ihb =>
    intro k h
    have h' : (if own_nz b = true then own_ii (own_kind ks a) (own_kind ks b) else none) = some k := h
    by_cases hz : own_nz b = true
    · rw [if_pos hz] at h'
      obtain ⟨h1, h2, rfl⟩ := own_ii_spec h'
      obtain ⟨v, e1, o1⟩ := iha _ h1
      obtain ⟨y, rfl⟩ := own_int_of o1
      cases b <;> simp [own_nz] at hz
      rename_i z
      exact ⟨.int (y % z), by simp [Term.eval, e1, hz], rfl⟩
    · rw [if_neg hz] at h'; cases h'
  | op2 o a b iha ihb =>
    intro k h
    obtain ⟨x, h1, h⟩ := Option.bind_eq_some_iff.mp (show (own_kind ks a).bind (fun x => (own_kind ks b).bind fun y => own_op2 o x y) = some k from h)
    obtain ⟨y, h2, h⟩ := Option.bind_eq_some_iff.mp h
    obtain ⟨v, e1, o1⟩ := iha _ h1
    obtain ⟨w, e2, o2⟩ := ihb _ h2
    obtain ⟨z, e3, o3⟩ := own_op2_ok h o1 o2
    exact ⟨z, by simp [Term.eval, e1, e2, e3], o3⟩
  | op1 o a iha =>
    intro k h
    obtain ⟨x, h1, h⟩ := Option.bind_eq_some_iff.mp (show (own_kind ks a).bind (fun x => own_op1 o x) = some k from h)
    obtain ⟨v, e1, o1⟩ := iha _ h1
    obtain ⟨z, e3, o3⟩ := own_op1_ok h o1
    exact ⟨z, by simp [Term.eval, e1, e3], o3⟩
  | _ => intro k h; exact absurd h (by simp [own_kind])
def own_cmp : Option VKind → Option VKind → Bool
  | some .int, some .int => true
  | some .long, some .long => true
  | _, _ => false
theorem own_cmp_spec {a b : Option VKind} (h : own_cmp a b = true) : (a = some .int ∧ b = some .int) ∨ (a = some .long ∧ b = some .long) := by
  rcases a with _ | a
  · simp [own_cmp] at h
  · rcases b with _ | b
    · cases a <;> simp [own_cmp] at h
    · cases a <;> cases b <;> simp [own_cmp] at h <;> simp
/-- the condition is worth something, whatever the arguments hold -/
def own_dfn (ks : List VKind) : Jvm.Cond → Bool
  | .tt => true
  | .eq a b => own_cmp (own_kind ks a) (own_kind ks b)
  | .lt a b => own_cmp (own_kind ks a) (own_kind ks b)
  | .le a b => own_cmp (own_kind ks a) (own_kind ks b)
  | .isInt t => (own_kind ks t).isSome
  | .isLong t => (own_kind ks t).isSome
  | .not c => own_dfn ks c
  | .and a b => own_dfn ks a && own_dfn ks b
  | .or a b => own_dfn ks a && own_dfn ks b
  | _ => false
theorem own_cmp_two {ks : List VKind} {A : Array Value} {s : State} (hA : own_Args ks A) {a b : Term} (h : own_cmp (own_kind ks a) (own_kind ks b) = true) :
    (∃ x y, a.eval A s none [] s = some (.int x) ∧ b.eval A s none [] s = some (.int y)) ∨ (∃ x y, a.eval A s none [] s = some (.long x) ∧ b.eval A s none [] s = some (.long y)) := by
  rcases own_cmp_spec h with ⟨h1, h2⟩ | ⟨h1, h2⟩
  · obtain ⟨v, e1, o1⟩ := own_kind_ok (s := s) hA _ _ h1
    obtain ⟨w, e2, o2⟩ := own_kind_ok (s := s) hA _ _ h2
    obtain ⟨y, rfl⟩ := own_int_of o1
    obtain ⟨z, rfl⟩ := own_int_of o2
    exact Or.inl ⟨y, z, e1, e2⟩
  · obtain ⟨v, e1, o1⟩ := own_kind_ok (s := s) hA _ _ h1
    obtain ⟨w, e2, o2⟩ := own_kind_ok (s := s) hA _ _ h2
    obtain ⟨y, rfl⟩ := own_long_of o1
    obtain ⟨z, rfl⟩ := own_long_of o2
    exact Or.inr ⟨y, z, e1, e2⟩
theorem own_dfn_ok {ks : List VKind} {A : Array Value} {s : State} (hA : own_Args ks A) : ∀ q : Jvm.Cond, own_dfn ks q = true → ∃ b, q.value A s none s [] = some b := by
  intro q
  induction q with
  | tt => intro _; exact ⟨true, rfl⟩
  | eq a b =>
    intro h
    rcases own_cmp_two (s := s) hA h with ⟨y, z, e1, e2⟩ | ⟨y, z, e1, e2⟩
    · exact ⟨_, Cond.eq_ints e1 e2⟩
    · exact ⟨decide (y = z), by simp [Cond.value, e1, e2]⟩
  | lt a b =>
    intro h
    rcases own_cmp_two (s := s) hA h with ⟨y, z, e1, e2⟩ | ⟨y, z, e1, e2⟩
    · exact ⟨_, Cond.lt_ints e1 e2⟩
    · exact ⟨decide (y < z), by simp [Cond.value, e1, e2]⟩
  | le a b =>
    intro h
    rcases own_cmp_two (s := s) hA h with ⟨y, z, e1, e2⟩ | ⟨y, z, e1, e2⟩
    · exact ⟨_, Cond.le_ints e1 e2⟩
    · exact ⟨decide (y ≤ z), by simp [Cond.value, e1, e2]⟩
  | isInt t =>
    intro h
    obtain ⟨k, hk⟩ := Option.isSome_iff_exists.mp (show (own_kind ks t).isSome = true from h)
    obtain ⟨v, e1, -⟩ := own_kind_ok (s := s) hA _ _ hk
    show ∃ b, Option.map _ (t.eval A s none [] s) = some b
    rw [e1]
    exact ⟨_, rfl⟩
  | isLong t =>
    intro h
    obtain ⟨k, hk⟩ := Option.isSome_iff_exists.mp (show (own_kind ks t).isSome = true from h)
    obtain ⟨v, e1, -⟩ := own_kind_ok (s := s) hA _ _ hk
    show ∃ b, Option.map _ (t.eval A s none [] s) = some b
    rw [e1]
    exact ⟨_, rfl⟩
  | not c ih =>
    intro h
    obtain ⟨b, hb⟩ := ih h
    exact ⟨!b, by simp [Cond.value, hb]⟩
  | and a c iha ihc =>
    intro h
    obtain ⟨h1, h2⟩ := (Bool.and_eq_true _ _).mp (show (own_dfn ks a && own_dfn ks c) = true from h)
    obtain ⟨b, hb⟩ := iha h1
    obtain ⟨d, hd⟩ := ihc h2
    cases b
    · exact ⟨false, by simp [Cond.value, hb]⟩
    · exact ⟨d, by simp [Cond.value, hb, hd]⟩
  | or a c iha ihc =>
    intro h
    obtain ⟨h1, h2⟩ := (Bool.and_eq_true _ _).mp (show (own_dfn ks a && own_dfn ks c) = true from h)
    obtain ⟨b, hb⟩ := iha h1
    obtain ⟨d, hd⟩ := ihc h2
    cases b
    · exact ⟨d, by simp [Cond.value, hb, hd]⟩
    · exact ⟨true, by simp [Cond.value, hb]⟩
  | _ => intro h; exact absurd h (by simp [own_dfn])
/-- the condition holds for sure: by its sorts, or by what is known (T true, F false) -/
def own_sure (ks : List VKind) (T F : List Jvm.Cond) : Jvm.Cond → Bool
  | .or a b => (own_dfn ks a && own_sure ks T F b) || (tv T F (.or a b) == some true)
  | .and a b => own_sure ks T F a && own_sure ks T F b
  | .isInt t => (own_kind ks t == some .int) || (tv T F (.isInt t) == some true)
  | .isLong t => (own_kind ks t == some .long) || (tv T F (.isLong t) == some true)
  | q => tv T F q == some true
theorem own_sure_ok {ks : List VKind} {T F : List Jvm.Cond} {A : Array Value} {s : State} (hA : own_Args ks A) (hT : ∀ c ∈ T, c.value A s none s [] = some true) (hF : ∀ c ∈ F, c.value A s none s [] = some false) :
    ∀ q : Jvm.Cond, own_sure ks T F q = true → q.value A s none s [] = some true := by
  have key : ∀ q : Jvm.Cond, (tv T F q == some true) = true → q.value A s none s [] = some true := fun q h => tv_sound hT hF q true (by simpa using h)
  intro q
  induction q with
  | or a c iha ihc =>
    intro h
    rcases (Bool.or_eq_true _ _).mp (show ((own_dfn ks a && own_sure ks T F c) || (tv T F (.or a c) == some true)) = true from h) with h | h
    · obtain ⟨h1, h2⟩ := (Bool.and_eq_true _ _).mp h
      obtain ⟨b, hb⟩ := own_dfn_ok (s := s) hA a h1
      have hd := ihc h2
      cases b
      · simp [Cond.value, hb, hd]
      · simp [Cond.value, hb]
    · exact key _ h
  | and a c iha ihc =>
    intro h
    obtain ⟨h1, h2⟩ := (Bool.and_eq_true _ _).mp (show (own_sure ks T F a && own_sure ks T F c) = true from h)
    simp [Cond.value, iha h1, ihc h2]
  | isInt t =>
    intro h
    rcases (Bool.or_eq_true _ _).mp (show ((own_kind ks t == some .int) || (tv T F (.isInt t) == some true)) = true from h) with h | h
    · obtain ⟨v, e1, o1⟩ := own_kind_ok (s := s) hA t .int (by simpa using h)
      obtain ⟨y, rfl⟩ := own_int_of o1
      simp [Cond.value, e1]
    · exact key _ h
  | isLong t =>
    intro h
    rcases (Bool.or_eq_true _ _).mp (show ((own_kind ks t == some .long) || (tv T F (.isLong t) == some true)) = true from h) with h | h
    · obtain ⟨v, e1, o1⟩ := own_kind_ok (s := s) hA t .long (by simpa using h)
      obtain ⟨y, rfl⟩ := own_long_of o1
      simp [Cond.value, e1]
    · exact key _ h
  | _ => intro h; exact key _ h
theorem own_needs {ks : List VKind} {T F L : List Jvm.Cond} {A : Array Value} {s : State} (hA : own_Args ks A) (hT : ∀ c ∈ T, c.value A s none s [] = some true) (hF : ∀ c ∈ F, c.value A s none s [] = some false)
    (h : L.all (own_sure ks T F) = true) : ∀ q ∈ L, q.before A s = true := fun q hq => before_of_value (own_sure_ok hA hT hF q (List.all_eq_true.mp h q hq))
def own_fit : List VKind → List Value → Bool
  | [], [] => true
  | k :: ks, v :: vs => k.ok v && own_fit ks vs
  | _, _ => false
theorem own_fit_ok : ∀ (ks : List VKind) (vs : List Value), own_fit ks vs = true → own_Args ks vs.toArray
  | [], _, _ => fun i k h => by simp at h
  | k :: ks, [], h => by simp [own_fit] at h
  | k :: ks, v :: vs, h => by
    obtain ⟨h1, h2⟩ := (Bool.and_eq_true _ _).mp (show (k.ok v && own_fit ks vs) = true from h)
    intro i k' hk
    cases i with
    | zero => simp at hk; subst hk; exact ⟨v, by simp, h1⟩
    | succ i =>
      obtain ⟨w, e1, o1⟩ := own_fit_ok ks vs h2 i k' (by simpa using hk)
      exact ⟨w, by simpa using e1, o1⟩
/-- what a callee of boolean hands back -/
def own_B (b : Bool) : Term := .op2 .iand (.int (if b then 1 else 0)) (.int 1)
def own_R (k : Int32) : STree := .ret (some ⟨.op2 .iand (.int k) (.int 1), .int⟩) []
theorem own_some {α β γ : Type} {o : Option (α × β × γ)} (h : o.isSome = true) : o = some ((o.get h).1, (o.get h).2.1, (o.get h).2.2) := by
  cases o with
  | none => cases h
  | some v => rfl
/-! 1. the callees -/
def y0 : MethodName := ⟨"com/example/starfish/starfish/xml/XmlCharsIsCharPinLaw", "edge", "(I)I"⟩
def y0code : ByteArray := method_3_code
def y0I : Info := { own := "com/example/starfish/starfish/xml/XmlCharsIsCharPinLaw", ret := some .int, ints := [(22, 55295), (23, 55296), (24, 57343), (25, 57344), (26, 65533), (27, 65536), (28, 1114111), (31, -2147483648), (32, 2147483647), (33, 65534)] }
def y0out : Option (Jvm.Cond × List Jvm.Cond × List Jvm.Cond) := walk y0I y0code 200 (entry [.int] 1)
theorem y0walks : y0out.isSome = true := by decide +kernel
def y0got : Jvm.Cond × List Jvm.Cond × List Jvm.Cond := y0out.get y0walks
def y0spec : Spec := specOf y0 y0code 1 (some .int) [.int] y0got.1 y0got.2.1 y0got.2.2
set_option maxRecDepth 65536 in
theorem y0meets (l : Launch) : MeetsLoose l y0 y0spec :=
  walk_meets (n := 200) (I := y0I) (by decide) rfl rfl (show walk y0I y0code 200 (entry [.int] 1) = some (y0got.1, y0got.2.1, y0got.2.2) from own_some y0walks)
theorem y0cold : y0spec.Cold := Spec.cold_of_keeps (by decide +kernel)
def y1 : MethodName := ⟨"com/example/starfish/starfish/xml/XmlChars", "isChar", "(I)Z"⟩
def y1code : ByteArray := prog_145_method_2_code
def y1I : Info := { own := "com/example/starfish/starfish/xml/XmlChars", ret := some .boolean, ints := [(7, 55295), (8, 57344), (9, 65533), (10, 65536), (11, 1114111)] }
def y1out : Option (Jvm.Cond × List Jvm.Cond × List Jvm.Cond) := walk y1I y1code 200 (entry [.int] 1)
theorem y1walks : y1out.isSome = true := by decide +kernel
def y1got : Jvm.Cond × List Jvm.Cond × List Jvm.Cond := y1out.get y1walks
def y1spec : Spec := specOf y1 y1code 1 (some .boolean) [.int] y1got.1 y1got.2.1 y1got.2.2
set_option maxRecDepth 65536 in
theorem y1meets (l : Launch) : MeetsLoose l y1 y1spec :=
  walk_meets (n := 200) (I := y1I) (by decide) rfl rfl (show walk y1I y1code 200 (entry [.int] 1) = some (y1got.1, y1got.2.1, y1got.2.2) from own_some y1walks)
theorem y1cold : y1spec.Cold := Spec.cold_of_keeps (by decide +kernel)
def y2 : MethodName := ⟨"com/example/starfish/starfish/xml/XmlCharsIsCharPinLaw", "excluded", "(I)Z"⟩
def y2code : ByteArray := method_4_code
def y2I : Info := { own := "com/example/starfish/starfish/xml/XmlCharsIsCharPinLaw", ret := some .boolean, ints := [(23, 55296), (24, 57343), (33, 65534), (34, 65535), (28, 1114111)] }
def y2out : Option (Jvm.Cond × List Jvm.Cond × List Jvm.Cond) := walk y2I y2code 200 (entry [.int] 1)
theorem y2walks : y2out.isSome = true := by decide +kernel
def y2got : Jvm.Cond × List Jvm.Cond × List Jvm.Cond := y2out.get y2walks
def y2spec : Spec := specOf y2 y2code 1 (some .boolean) [.int] y2got.1 y2got.2.1 y2got.2.2
set_option maxRecDepth 65536 in
theorem y2meets (l : Launch) : MeetsLoose l y2 y2spec :=
  walk_meets (n := 200) (I := y2I) (by decide) rfl rfl (show walk y2I y2code 200 (entry [.int] 1) = some (y2got.1, y2got.2.1, y2got.2.2) from own_some y2walks)
theorem y2cold : y2spec.Cold := Spec.cold_of_keeps (by decide +kernel)

/-! 2. the law's own walk: one to pc 29 (p is chosen), one from there on -/
def callee0 : Callee := { y := y0, S := y0spec, bytes := y0code, maxL := 1, ret := some .int, static := true, params := 1, res := some .int }
def callee1 : Callee := { y := y1, S := y1spec, bytes := y1code, maxL := 1, ret := some .boolean, static := true, params := 1, res := some .int }
def callee2 : Callee := { y := y2, S := y2spec, bytes := y2code, maxL := 1, ret := some .boolean, static := true, params := 1, res := some .int }
def I : Info := { own := x.cls, ret := ret, calls := [(7, callee0), (13, callee1), (19, callee2)], maxLocals := maxLocals, room := room_1 }
theorem callsOk (l : Launch) : CallsOk l I maxLocals room_1 := fun q hq => by
  simp only [I, List.mem_cons, List.not_mem_nil, or_false] at hq
  rcases hq with rfl | rfl | rfl
  · exact ⟨rfl, rfl, y0meets l, y0cold⟩
  · exact ⟨rfl, rfl, y1meets l, y1cold⟩
  · exact ⟨rfl, rfl, y2meets l, y2cold⟩
def w := walkTo I code [29] 400 true (entry [.int, .int] maxLocals)
theorem w_some : w.isSome = true := by decide +kernel
def t0 : STree := (w.get w_some).1
set_option maxRecDepth 65536 in
theorem entry_walk : walkTo I code [29] 400 true (entry [.int, .int] maxLocals) = some (t0, (w.get w_some).2.1, (w.get w_some).2.2) := own_some w_some
def w2 := walkTo I code [29] 400 true (ident 29 [.int, .int, .int] maxLocals)
theorem w2_some : w2.isSome = true := by decide +kernel
/-- isChar's tree, each leaf followed by k -/
def own_char42 (c : Term) (k : Term → STree) : STree := .fork (.lt (.old c) (.old (.int 65536))) (k (own_B false)) (.fork (.lt (.old (.int 1114111)) (.old c)) (k (own_B false)) (k (own_B true)))
def own_char30 (c : Term) (k : Term → STree) : STree := .fork (.lt (.old c) (.old (.int 57344))) (own_char42 c k) (.fork (.le (.old c) (.old (.int 65533))) (k (own_B true)) (own_char42 c k))
def own_char (c : Term) (k : Term → STree) : STree := .fork (.eq (.old c) (.old (.int 9))) (k (own_B true)) (.fork (.eq (.old c) (.old (.int 10))) (k (own_B true)) (.fork (.eq (.old c) (.old (.int 13))) (k (own_B true))
  (.fork (.lt (.old c) (.old (.int 32))) (own_char30 c k) (.fork (.le (.old c) (.old (.int 55295))) (k (own_B true)) (own_char30 c k)))))
def own_excl64 (c : Term) (k : Term → STree) : STree := .fork (.le (.old c) (.old (.int 1114111))) (k (own_B false)) (k (own_B true))
def own_excl50 (c : Term) (k : Term → STree) : STree := .fork (.eq (.old c) (.old (.int 65534))) (k (own_B true)) (.fork (.not (.eq (.old c) (.old (.int 65535)))) (own_excl64 c k) (k (own_B true)))
def own_excl (c : Term) (k : Term → STree) : STree := .fork (.le (.int 0) (.old c)) (.fork (.le (.old (.int 32)) (.old c))
  (.fork (.lt (.old c) (.old (.int 55296))) (own_excl50 c k) (.fork (.lt (.old (.int 57343)) (.old c)) (own_excl50 c k) (k (own_B true))))
  (.fork (.eq (.old c) (.old (.int 9))) (k (own_B false)) (.fork (.eq (.old c) (.old (.int 10))) (k (own_B false)) (.fork (.eq (.old c) (.old (.int 13))) (k (own_B false)) (k (own_B true)))))) (k (own_B true))
def own_end (r1 r2 : Term) : STree := .fork (.not (.eq (.old r2) (.int 0)))
  (.fork (.not (.eq (.old r1) (.old (.int 0)))) (own_R 0) (own_R 1)) (.fork (.not (.eq (.old r1) (.old (.int 1)))) (own_R 0) (own_R 1))
def t1 : STree := own_char (.arg 2) fun r1 => own_excl (.arg 2) fun r2 => own_end r1 r2
theorem tree : (w2.get w2_some).1 = t1 := by decide +kernel
set_option maxRecDepth 65536 in
theorem cut_walk : walkTo I code [29] 400 true (ident 29 [.int, .int, .int] maxLocals) = some (t1, (w2.get w2_some).2.1, (w2.get w2_some).2.2) := by
  rw [← tree]; exact own_some w2_some
theorem sorts_ok {a b : Int32} {s : State} : ∀ q ∈ Sym.sorts 0 [.int, .int], q.before #[.int a, .int b] s = true := by
  intro q hq
  simp only [Sym.sorts, List.mem_cons, List.not_mem_nil, or_false] at hq
  rcases hq with rfl | rfl <;> simp [isK, Cond.before, Cond.holds, Cond.value, Term.eval]
/-- every leaf of the tree stands at the cut, with variables of the sorts ks -/
def own_cuts (pc : Nat) (ks : List VKind) (ml : Nat) : STree → Bool
  | .cut σ => decide (σ.pc = pc) && decide (σ.stack = []) && decide (σ.locals.length = ml) && decide (σ.writes = []) && decide ((unroot ks.length σ.locals).map (fun xs => xs.map (·.k)) = some ks)
  | .fork _ a b => own_cuts pc ks ml a && own_cuts pc ks ml b
  | .ret _ _ => false
theorem own_fit_of_den {A : Array Value} {s : State} : ∀ (xs : List SVal) (vs : List Value), DenStack A s xs vs → own_fit (xs.map (·.k)) vs = true
  | [], [], _ => rfl
  | [], _ :: _, h => h.elim
  | _ :: _, [], h => h.elim
  | x :: xs, v :: vs, h => by
    show (x.k.ok v && own_fit (xs.map (·.k)) vs) = true
    rw [h.1.2.2, own_fit_of_den xs vs h.2]; rfl
theorem own_cuts_vc {pc : Nat} {ks : List VKind} {ml : Nat} {A : Array Value} {s : State} {sv : Vm} {F : Loc → Prop} {Qr : Option SVal → List SWrite → Prop} {ksOf : Nat → Option (List VKind)} {J : Nat → Array Value → State → Prop}
    (hks : ksOf pc = some ks) (hJ : ∀ (vs : List Value) (u' : State), own_fit ks vs = true → J pc vs.toArray u') : ∀ t : STree, own_cuts pc ks ml t = true → t.VC A s Qr (QCuts sv F A s ksOf ml J)
  | .cut σ, h => by
    simp only [own_cuts, Bool.and_eq_true, decide_eq_true_eq] at h
    obtain ⟨⟨⟨⟨h1, h2⟩, h3⟩, h4⟩, h5⟩ := h
    obtain ⟨xs, hx1, hx2⟩ := Option.map_eq_some_iff.mp h5
    refine ⟨ks, by rw [h1]; exact hks, h2, h3, (by rw [h4]; intro y hy; cases hy), xs, hx1, hx2, fun vs hd u' _ hvm => ?_⟩
    rw [h1]
    exact hJ vs u' (by rw [← hx2]; exact own_fit_of_den xs vs hd)
  | .fork G a b, h => by
    simp only [own_cuts, Bool.and_eq_true] at h
    exact ⟨fun _ => own_cuts_vc hks hJ a h.1, fun _ => own_cuts_vc hks hJ b h.2⟩
  | .ret _ _, h => by simp [own_cuts] at h
theorem own_fit3 : ∀ vs : List Value, own_fit [.int, .int, .int] vs = true → ∃ a b c : Int32, vs = [.int a, .int b, .int c] := by
  intro vs h
  match vs, h with
  | [], h => simp [own_fit] at h
  | [_], h => simp [own_fit] at h
  | [_, _], h => simp [own_fit] at h
  | [u, v, t], h =>
    simp only [own_fit, Bool.and_eq_true] at h
    obtain ⟨a, rfl⟩ := own_int_of h.1
    obtain ⟨b, rfl⟩ := own_int_of h.2.1
    obtain ⟨c, rfl⟩ := own_int_of h.2.2.1
    exact ⟨a, b, c, rfl⟩
  | _ :: _ :: _ :: _ :: _, h => simp [own_fit] at h
/-- a word on the tables, carried to another root of the same tables -/
theorem own_root {args A : Array Value} {s u : State} (hvm : u.vm = s.vm) {c : Jvm.Cond} (hc : c.onTables = true) (hk : c.keepsH = true) (h : c.before args s = true) : c.before A u = true := by
  have h1 := Cond.onTables_warmH (args' := A) (T := u) (State.WarmedH.refl s) hc hk h
  have h2 : u.setVm s.vm = u := by rw [← hvm]; rfl
  rw [h2] at h1
  exact h1

/-! 3. what the callees say, in plain words; the plain law -/
def pChar42 (v : Int32) : Bool := if v < 65536 then false else if 1114111 < v then false else true
def pChar30 (v : Int32) : Bool := if v < 57344 then pChar42 v else if v ≤ 65533 then true else pChar42 v
def pChar (v : Int32) : Bool := if v = 9 then true else if v = 10 then true else if v = 13 then true else if v < 32 then pChar30 v else if v ≤ 55295 then true else pChar30 v
def pExcl64 (v : Int32) : Bool := if v ≤ 1114111 then false else true
def pExcl50 (v : Int32) : Bool := if v = 65534 then true else if v = 65535 then true else pExcl64 v
def pExcl (v : Int32) : Bool := if 0 ≤ v then (if 32 ≤ v then (if v < 55296 then pExcl50 v else if 57343 < v then pExcl50 v else true) else if v = 9 then false else if v = 10 then false else if v = 13 then false else true) else true
theorem own_i0 : (0 : Int32).toInt = 0 := rfl
theorem own_i9 : (9 : Int32).toInt = 9 := rfl
theorem own_i10 : (10 : Int32).toInt = 10 := rfl
theorem own_i13 : (13 : Int32).toInt = 13 := rfl
theorem own_i32 : (32 : Int32).toInt = 32 := rfl
theorem own_i55295 : (55295 : Int32).toInt = 55295 := rfl
theorem own_i55296 : (55296 : Int32).toInt = 55296 := rfl
theorem own_i57343 : (57343 : Int32).toInt = 57343 := rfl
theorem own_i57344 : (57344 : Int32).toInt = 57344 := rfl
theorem own_i65533 : (65533 : Int32).toInt = 65533 := rfl
theorem own_i65534 : (65534 : Int32).toInt = 65534 := rfl
theorem own_i65535 : (65535 : Int32).toInt = 65535 := rfl
theorem own_i65536 : (65536 : Int32).toInt = 65536 := rfl
theorem own_i1114111 : (1114111 : Int32).toInt = 1114111 := rfl
set_option maxHeartbeats 4000000 in
theorem own_plain (v : Int32) : pChar v = !pExcl v := by
  unfold pChar pExcl pChar30 pChar42 pExcl50 pExcl64
  simp only [Int32.lt_iff_toInt_lt, Int32.le_iff_toInt_le, ← Int32.toInt_inj, own_i0, own_i9, own_i10, own_i13, own_i32, own_i55295, own_i55296, own_i57343, own_i57344, own_i65533, own_i65534, own_i65535, own_i65536, own_i1114111]
  generalize v.toInt = n at *
  repeat' split
  all_goals first | rfl | (exfalso; omega)
theorem own_char_val {A : Array Value} {s : State} {c : Term} {v : Int32} (k : Term → STree) (hc : c.eval A s none [] s = some (.int v)) : Kit.valueOf A s (own_char c k) = Kit.valueOf A s (k (own_B (pChar v))) := by
  have g1 : (Jvm.Cond.eq (.old c) (.old (.int 9))).value A s none s [] = some (decide (v = 9)) := Cond.eq_ints hc rfl
  have g2 : (Jvm.Cond.eq (.old c) (.old (.int 10))).value A s none s [] = some (decide (v = 10)) := Cond.eq_ints hc rfl
  have g3 : (Jvm.Cond.eq (.old c) (.old (.int 13))).value A s none s [] = some (decide (v = 13)) := Cond.eq_ints hc rfl
  have g4 : (Jvm.Cond.lt (.old c) (.old (.int 32))).value A s none s [] = some (decide (v < 32)) := Cond.lt_ints hc rfl
  have g5 : (Jvm.Cond.le (.old c) (.old (.int 55295))).value A s none s [] = some (decide (v ≤ 55295)) := Cond.le_ints hc rfl
  have g6 : (Jvm.Cond.lt (.old c) (.old (.int 57344))).value A s none s [] = some (decide (v < 57344)) := Cond.lt_ints hc rfl
  have g7 : (Jvm.Cond.le (.old c) (.old (.int 65533))).value A s none s [] = some (decide (v ≤ 65533)) := Cond.le_ints hc rfl
  have g8 : (Jvm.Cond.lt (.old c) (.old (.int 65536))).value A s none s [] = some (decide (v < 65536)) := Cond.lt_ints hc rfl
  have g9 : (Jvm.Cond.lt (.old (.int 1114111)) (.old c)).value A s none s [] = some (decide (1114111 < v)) := Cond.lt_ints rfl hc
  have h42 : Kit.valueOf A s (own_char42 c k) = Kit.valueOf A s (k (own_B (pChar42 v))) := by
    simp only [own_char42, Kit.valueOf, g8, g9]
    by_cases p8 : v < 65536 <;> by_cases p9 : 1114111 < v <;> simp [pChar42, p8, p9]
  have h30 : Kit.valueOf A s (own_char30 c k) = Kit.valueOf A s (k (own_B (pChar30 v))) := by
    simp only [own_char30, Kit.valueOf, g6, g7, h42]
    by_cases p6 : v < 57344 <;> by_cases p7 : v ≤ 65533 <;> simp [pChar30, p6, p7]
  simp only [own_char, Kit.valueOf, g1, g2, g3, g4, g5, h30]
  by_cases p1 : v = 9
  · simp [pChar, p1]
  by_cases p2 : v = 10
  · simp [pChar, p2]
  by_cases p3 : v = 13
  · simp [pChar, p3]
  by_cases p4 : v < 32 <;> by_cases p5 : v ≤ 55295 <;> simp [pChar, p1, p2, p3, p4, p5]
theorem own_excl_val {A : Array Value} {s : State} {c : Term} {v : Int32} (k : Term → STree) (hc : c.eval A s none [] s = some (.int v)) : Kit.valueOf A s (own_excl c k) = Kit.valueOf A s (k (own_B (pExcl v))) := by
  have g0 : (Jvm.Cond.le (.int 0) (.old c)).value A s none s [] = some (decide (0 ≤ v)) := Cond.le_ints rfl hc
  have g1 : (Jvm.Cond.eq (.old c) (.old (.int 9))).value A s none s [] = some (decide (v = 9)) := Cond.eq_ints hc rfl
  have g2 : (Jvm.Cond.eq (.old c) (.old (.int 10))).value A s none s [] = some (decide (v = 10)) := Cond.eq_ints hc rfl
  have g3 : (Jvm.Cond.eq (.old c) (.old (.int 13))).value A s none s [] = some (decide (v = 13)) := Cond.eq_ints hc rfl
  have g4 : (Jvm.Cond.le (.old (.int 32)) (.old c)).value A s none s [] = some (decide (32 ≤ v)) := Cond.le_ints rfl hc
  have g5 : (Jvm.Cond.lt (.old c) (.old (.int 55296))).value A s none s [] = some (decide (v < 55296)) := Cond.lt_ints hc rfl
  have g6 : (Jvm.Cond.lt (.old (.int 57343)) (.old c)).value A s none s [] = some (decide (57343 < v)) := Cond.lt_ints rfl hc
  have g7 : (Jvm.Cond.eq (.old c) (.old (.int 65534))).value A s none s [] = some (decide (v = 65534)) := Cond.eq_ints hc rfl
  have g8 : (Jvm.Cond.not (.eq (.old c) (.old (.int 65535)))).value A s none s [] = some (!decide (v = 65535)) := by
    have g : (Jvm.Cond.eq (.old c) (.old (.int 65535))).value A s none s [] = some (decide (v = 65535)) := Cond.eq_ints hc rfl
    show ((Jvm.Cond.eq (.old c) (.old (.int 65535))).value A s none s []).map (!·) = _
    rw [g]; rfl
  have g9 : (Jvm.Cond.le (.old c) (.old (.int 1114111))).value A s none s [] = some (decide (v ≤ 1114111)) := Cond.le_ints hc rfl
  have h64 : Kit.valueOf A s (own_excl64 c k) = Kit.valueOf A s (k (own_B (pExcl64 v))) := by
    simp only [own_excl64, Kit.valueOf, g9]
    by_cases p9 : v ≤ 1114111 <;> simp [pExcl64, p9]
  have h50 : Kit.valueOf A s (own_excl50 c k) = Kit.valueOf A s (k (own_B (pExcl50 v))) := by
    simp only [own_excl50, Kit.valueOf, g7, g8, h64]
    by_cases p7 : v = 65534
    · simp [pExcl50, p7]
    by_cases p8 : v = 65535 <;> simp [pExcl50, p7, p8]
  simp only [own_excl, Kit.valueOf, g0, g1, g2, g3, g4, g5, g6, h50]
  by_cases p0 : 0 ≤ v
  · by_cases p4 : 32 ≤ v
    · by_cases p5 : v < 55296 <;> by_cases p6 : 57343 < v <;> simp [pExcl, p0, p4, p5, p6]
    by_cases p1 : v = 9
    · subst p1; simp [pExcl, p4]
    by_cases p2 : v = 10
    · subst p2; simp [pExcl, p4]
    by_cases p3 : v = 13
    · subst p3; simp [pExcl, p4]
    simp [pExcl, p0, p1, p2, p3, p4]
  · simp [pExcl, p0]
theorem own_end_val {A : Array Value} {s : State} (b : Bool) : Kit.valueOf A s (own_end (own_B (!b)) (own_B b)) = some (.int 1) := by
  cases b <;> rfl
theorem value_eq (a b c : Int32) (s : State) : Kit.valueOf #[.int a, .int b, .int c] s t1 = some (.int 1) := by
  have hc : (Term.arg 2).eval #[.int a, .int b, .int c] s none [] s = some (.int c) := rfl
  unfold t1
  rw [own_char_val _ hc, own_excl_val _ hc, own_plain, own_end_val]

/-! 4. the contract, the limbs -/
set_option maxRecDepth 65536 in
theorem own_t0_cuts : own_cuts 29 [.int, .int, .int] maxLocals t0 = true := by decide +kernel
set_option maxRecDepth 65536 in
theorem own_t0_vc {A : Array Value} {s : State} {sv : Vm} {F : Loc → Prop} {Qr : Option SVal → List SWrite → Prop} {ksOf : Nat → Option (List VKind)} {J : Nat → Array Value → State → Prop} (hks : ksOf 29 = some [.int, .int, .int]) (hJ : ∀ (vs : List Value) (u' : State), own_fit [.int, .int, .int] vs = true → J 29 vs.toArray u') : t0.VC A s Qr (QCuts sv F A s ksOf maxLocals J) :=
  own_cuts_vc hks hJ t0 own_t0_cuts
def post_1 : Jvm.Cond := .and limb_1_1 limb_1_2
def own_ksOf (h : Nat) : Option (List VKind) := if h = 29 then some [.int, .int, .int] else none
def own_J (_ : Array Value) (_ : State) (_ : Nat) (A : Array Value) (_ : State) : Prop := ∃ a b c : Int32, A = #[.int a, .int b, .int c]
set_option maxRecDepth 65536 in
theorem met_1 (l : Launch) : MeetsLoose l x (armSpec x code maxLocals ret tables_1 room_1 .tt (.and given_1 narrow_1) post_1 frame_1_writes frame_1_arrays frame_1_statics) := by
  refine loops_meets (I := I) (ks0 := [.int, .int]) (cuts := [29]) (by decide) rfl rfl rfl rfl rfl (fun args s h => ?_) entry_walk own_ksOf own_J (fun _ _ _ => 0) (fun args s h => ?_) (fun args s hpre h ks hks => ?_) (callsOk l)
  · simp only [armSpec, allAtoms, List.foldr_cons, Cond.before_and, Bool.and_eq_true] at h; exact h.1.1
  · have hts : (allAtoms (Cond.code x code maxLocals ret :: tables_1)).before args s = true := by simp only [armSpec, Cond.before_and, Bool.and_eq_true] at h; exact h.1
    have hK : (Cond.and .tt (.and given_1 narrow_1)).before args s = true := by simp only [armSpec, Cond.before_and, Bool.and_eq_true] at h ⊢; exact h.2
    simp only [armSpec, given_1, Cond.before_and, Bool.and_eq_true] at h
    obtain ⟨-, -, ⟨hc, h0, h1⟩, hn⟩ := h
    obtain ⟨a, b, rfl⟩ := Cond.two_ints hc h0 h1
    have hT := known3 (Gt := []) hts hK (by intro q hq; cases hq)
    have hF : ∀ q ∈ ([] : List Jvm.Cond), q.value #[.int a, .int b] s none s [] = some false := fun q hq => by cases hq
    refine ⟨rfl, sorts_ok, tabs_of_sub hts (by decide +kernel), own_needs (ks := [.int, .int]) (own_fit_ok [.int, .int] [.int a, .int b] rfl) hT hF (by decide +kernel), ?_⟩
    refine own_t0_vc rfl (fun vs u' hv => ?_)
    obtain ⟨a, b, c, rfl⟩ := own_fit3 vs hv
    exact ⟨a, b, c, rfl⟩
  · have hts : (allAtoms (Cond.code x code maxLocals ret :: tables_1)).before args s = true := by simp only [armSpec, Cond.before_and, Bool.and_eq_true] at hpre; exact hpre.1
    have e29 : h = 29 ∧ ks = [.int, .int, .int] := by
      unfold own_ksOf at hks
      split at hks
      · rename_i e; exact ⟨e, (Option.some.inj hks).symm⟩
      · cases hks
    obtain ⟨rfl, rfl⟩ := e29
    refine ⟨400, t1, _, _, cut_walk, fun A u hvm hJ => ?_⟩
    obtain ⟨a, b, c, rfl⟩ := hJ
    have hall : ((Cond.code x code maxLocals ret :: tables_1).all fun q => q.onTables && q.keepsH) = true := by decide +kernel
    have root : ∀ (u' : State), u'.vm = s.vm → ∀ q ∈ Cond.code x code maxLocals ret :: tables_1, q.before #[.int a, .int b, .int c] u' = true := fun u' hv q hq => by
      have hq' := List.all_eq_true.mp hall q hq
      simp only [Bool.and_eq_true] at hq'
      exact own_root hv hq'.1 hq'.2 (atoms_spec hts q hq)
    have hT : ∀ q ∈ Cond.code x code maxLocals ret :: tables_1, q.value #[.int a, .int b, .int c] u none u [] = some true := fun q hq => value_of_before (root u hvm q hq)
    have hF : ∀ q ∈ ([] : List Jvm.Cond), q.value #[.int a, .int b, .int c] u none u [] = some false := fun q hq => by cases hq
    have hsub : ((w2.get w2_some).2.1.all fun q => (Cond.code x code maxLocals ret :: tables_1).contains q) = true := by decide +kernel
    refine ⟨fun q hq => root s rfl q (List.contains_iff_mem.mp (List.all_eq_true.mp hsub q hq)), own_needs (ks := [.int, .int, .int]) (own_fit_ok [.int, .int, .int] [.int a, .int b, .int c] rfl) hT hF (by decide +kernel), Kit.vc_of_value (w₀ := .int 1) (fun E => ?_) t1 (by decide +kernel) (value_eq a b c u)⟩
    simp [armSpec, post_1, limb_1_1, limb_1_2, Cond.after, Cond.holds, Cond.value, Term.eval]
theorem main_1_1 : Claimed_1_1 := armFor_of_meets0 (fun l => (met_1 l).meets) (fun _ _ _ _ h => by simp only [post_1, Cond.after_and, Bool.and_eq_true] at h; exact h.1)
theorem main_1_2 : Claimed_1_2 := armFor_of_meets0 (fun l => (met_1 l).meets) (fun _ _ _ _ h => by simp only [post_1, Cond.after_and, Bool.and_eq_true] at h; exact h.2)
end Jvm.Pilot.@@N@@
namespace Jvm.Pilot.@@N@@
open Jvm Jvm.ClassFile Sem Op Lib Jvm.Free Jvm.Stand Jvm.Pilot.@@N@@.Jvm.D
/-! MADE BY PROGRAM (witnessworld.py) out of the Statement's table words and the real class files: 9 classes; the members and pool entries that the words name. The judged class is class 1, her method 1. -/
namespace start1
open Jvm.ClassFile
def u (s : String) : CpInfo := .utf8 (stringToUtf16 s)
/-- a pool by its gaps: so many unusable entries, then the entry; so many at the end -/
def gap : Nat → List CpInfo → List CpInfo
  | 0, r => r
  | n + 1, r => .unusable :: gap n r
def poolList (es : List (Nat × CpInfo)) (last : Nat) : List CpInfo := es.foldr (fun e r => gap e.1 (e.2 :: r)) (gap last [])
def pool (es : List (Nat × CpInfo)) (last : Nat) : Array CpInfo := ⟨poolList es last⟩
def fileOf (pool : Array CpInfo) (this : Nat) (attrs : Array Attribute := #[]) (ms : Array MethodInfo := #[]) (fl : Nat := 33) (sup : Nat := 0) (ifs : Array Nat := #[]) (fds : Array FieldInfo := #[]) : ClassFile where
  minorVersion := 0
  majorVersion := 65
  constantPool := pool
  accessFlags := fl
  thisClass := this
  superClass := sup
  interfaces := ifs
  fields := fds
  methods := ms
  attributes := attrs
def plain (name : String) (sup : Option ClassId) : Class where
  name := name
  kind := .ordinary
  loader := none
  accessFlags := 33
  super := sup
  interfaces := #[]
  cf := none
  fields := #[]
  methods := #[]
  instanceTypes := #[]
  staticTypes := #[]
  resolved := #[]
  callSites := []
  init := .initialized
  statics := none
  mirror := none

def pool0 : Array CpInfo := pool [(5, u "<init>"), (0, u "()V"), (1, .class_ 10), (1, u "java/lang/Object")] 113

def k0m0 : Method := { name := "<init>", desc := "()V", sig := { parameters := [], returnType := none }, accessFlags := 1, code := none }
/-- java/lang/Object -/
def k0 : Class := { plain "java/lang/Object" none with
  accessFlags := 33
  interfaces := #[]
  cf := some (fileOf pool0 8 #[] #[{ accessFlags := 1, nameIndex := 5, descriptorIndex := 6, attributes := #[] }] 33 0 #[] #[])
  fields := #[]
  methods := #[k0m0]
  instanceTypes := #[]
  staticTypes := #[]
  resolved := Array.replicate 124 none
  statics := none }

def pool1 : Array CpInfo := pool [(2, .class_ 4), (1, u "java/lang/Object"), (0, u "<init>"), (0, u "()V"), (0, .methodref 8 9), (0, .class_ 10), (0, .nameAndType 11 12), (0, u "com/example/starfish/starfish/xml/XmlCharsIsCharPinLaw"), (0, u "edge"), (0, u "(I)I"), (0, .methodref 14 15), (0, .class_ 16), (0, .nameAndType 17 18), (0, u "com/example/starfish/starfish/xml/XmlChars"), (0, u "isChar"), (0, u "(I)Z"), (0, .methodref 8 20), (0, .nameAndType 21 18), (0, u "excluded"), (0, .integer 55295), (0, .integer 55296), (0, .integer 57343), (0, .integer 57344), (0, .integer 65533), (0, .integer 65536), (0, .integer 1114111), (2, .integer 2147483648), (0, .integer 2147483647), (0, .integer 65534), (0, .integer 65535), (2, u "law"), (0, u "(II)Z")] 3

def k1m0 : Method := { name := "<init>", desc := "()V", sig := { parameters := [], returnType := none }, accessFlags := 2, code := none }
def k1c1 : Code := { maxStack := 3, maxLocals := 3, code := code, exceptionTable := #[], attributes := #[] }
def k1m1 : Method := { name := "law", desc := "(II)Z", sig := { parameters := [.int, .int], returnType := some .boolean }, accessFlags := 9, code := some k1c1 }
def k1c2 : Code := { maxStack := 2, maxLocals := 1, code := method_3_code, exceptionTable := #[], attributes := #[] }
def k1m2 : Method := { name := "edge", desc := "(I)I", sig := { parameters := [.int], returnType := some .int }, accessFlags := 10, code := some k1c2 }
def k1c3 : Code := { maxStack := 2, maxLocals := 1, code := method_4_code, exceptionTable := #[], attributes := #[] }
def k1m3 : Method := { name := "excluded", desc := "(I)Z", sig := { parameters := [.int], returnType := some .boolean }, accessFlags := 10, code := some k1c3 }
/-- com/example/starfish/starfish/xml/XmlCharsIsCharPinLaw -/
def k1 : Class := { plain "com/example/starfish/starfish/xml/XmlCharsIsCharPinLaw" (some 0) with
  accessFlags := 49
  interfaces := #[]
  cf := some (fileOf pool1 8 #[] #[{ accessFlags := 2, nameIndex := 5, descriptorIndex := 6, attributes := #[] }, { accessFlags := 9, nameIndex := 37, descriptorIndex := 38, attributes := #[] }, { accessFlags := 10, nameIndex := 11, descriptorIndex := 12, attributes := #[] }, { accessFlags := 10, nameIndex := 21, descriptorIndex := 18, attributes := #[] }] 49 2 #[] #[])
  fields := #[]
  methods := #[k1m0, k1m1, k1m2, k1m3]
  instanceTypes := #[]
  staticTypes := #[]
  resolved := Array.replicate 42 none
  statics := none }

def pool2 : Array CpInfo := pool [(2, .class_ 4), (1, u "java/lang/Object"), (0, u "<init>"), (0, u "()V"), (0, .integer 55295), (0, .integer 57344), (0, .integer 65533), (0, .integer 65536), (0, .integer 1114111), (1, .class_ 15), (1, u "com/example/starfish/starfish/xml/XmlChars"), (0, u "NAME_START_RANGES"), (0, u "[I"), (6, u "ASCII_NAME_CHARS"), (0, u "[Z"), (3, u "(I)Z"), (2, u "NAME_ONLY_RANGES"), (49, u "isChar")] 7

def k2m0 : Method := { name := "<init>", desc := "()V", sig := { parameters := [], returnType := none }, accessFlags := 2, code := none }
def k2c1 : Code := { maxStack := 2, maxLocals := 1, code := prog_145_method_2_code, exceptionTable := #[], attributes := #[] }
def k2m1 : Method := { name := "isChar", desc := "(I)Z", sig := { parameters := [.int], returnType := some .boolean }, accessFlags := 9, code := some k2c1 }
/-- com/example/starfish/starfish/xml/XmlChars -/
def k2 : Class := { plain "com/example/starfish/starfish/xml/XmlChars" (some 0) with
  accessFlags := 33
  interfaces := #[]
  cf := some (fileOf pool2 13 #[] #[{ accessFlags := 2, nameIndex := 5, descriptorIndex := 6, attributes := #[] }, { accessFlags := 9, nameIndex := 82, descriptorIndex := 29, attributes := #[] }] 33 2 #[] #[{ accessFlags := 26, nameIndex := 16, descriptorIndex := 17, attributes := #[] }, { accessFlags := 26, nameIndex := 32, descriptorIndex := 17, attributes := #[] }, { accessFlags := 26, nameIndex := 24, descriptorIndex := 25, attributes := #[] }])
  fields := #[{ name := "NAME_START_RANGES", type := (.array .int), accessFlags := 26, slot := 0, constantValue := 0 }, { name := "NAME_ONLY_RANGES", type := (.array .int), accessFlags := 26, slot := 1, constantValue := 0 }, { name := "ASCII_NAME_CHARS", type := (.array .boolean), accessFlags := 26, slot := 2, constantValue := 0 }]
  methods := #[k2m0, k2m1]
  instanceTypes := #[]
  staticTypes := #[(.array .int), (.array .int), (.array .boolean)]
  resolved := Array.replicate 90 none
  statics := none }

def pool3 : Array CpInfo := pool [(1, u "java/lang/Cloneable"), (0, .class_ 1), (0, u "java/lang/Object"), (0, .class_ 3)] 3

/-- java/lang/Cloneable -/
def k3 : Class := { plain "java/lang/Cloneable" (some 0) with
  accessFlags := 1537
  interfaces := #[]
  cf := some (fileOf pool3 2 #[] #[] 1537 4 #[] #[])
  fields := #[]
  methods := #[]
  instanceTypes := #[]
  staticTypes := #[]
  resolved := Array.replicate 8 none
  statics := none }

def pool4 : Array CpInfo := pool [(1, u "java/io/Serializable"), (0, .class_ 1), (0, u "java/lang/Object"), (0, .class_ 3)] 3

/-- java/io/Serializable -/
def k4 : Class := { plain "java/io/Serializable" (some 0) with
  accessFlags := 1537
  interfaces := #[]
  cf := some (fileOf pool4 2 #[] #[] 1537 4 #[] #[])
  fields := #[]
  methods := #[]
  instanceTypes := #[]
  staticTypes := #[]
  resolved := Array.replicate 8 none
  statics := none }

/-- the primitive byte -/
def k5 : Class := { plain "byte" none with kind := .primitive 'B', accessFlags := 0x411 }
/-- [B -/
def k6 : Class := { plain "[B" (some 0) with kind := .array 5 .byte, interfaces := #[3, 4], accessFlags := 1041 }

/-- the primitive int -/
def k7 : Class := { plain "int" none with kind := .primitive 'I', accessFlags := 0x411 }
/-- [I -/
def k8 : Class := { plain "[I" (some 0) with kind := .array 7 .int, interfaces := #[3, 4], accessFlags := 1041 }

def heap : Heap := #[]
def classes : Array Class := #[k0, k1, k2, k3, k4, k5, k6, k7, k8]
def interned : List (Array UInt16 × Addr) := []
def slotsUsed : Nat := 0
def theMethod : MethodId := ⟨1, 1⟩
def args0 : Array Value := #[.int 70, .int 2]
def aboutOver (below : List Frame) : State where
  vm := { classes := classes, interned := interned.toArray }
  heap := heap
  slotsUsed := slotsUsed
  threads := #[{ frames := .invoking theMethod args0 :: below }]
def below0 : List Frame := [.native { method := ⟨0, 0⟩, args := #[] }]
def about1 : State := aboutOver below0
def p0 : Program := .bare "" "" ""
def e0 : Env := launch0.env 0 0 0
theorem w_frames : about1.frames = Frame.invoking theMethod args0 :: below0 := rfl
set_option maxRecDepth 65536 in
theorem w_args : argsFit about1.vm theMethod args0 = true := by decide +kernel
set_option maxRecDepth 65536 in
theorem w_heap : heapFits about1 = true := by decide +kernel
set_option maxRecDepth 65536 in
theorem w_runnable : about1.curStatus? = some .runnable := by decide +kernel
set_option maxRecDepth 65536 in
theorem w_alone : about1.alone = true := by decide +kernel
set_option maxRecDepth 65536 in
theorem w_named : about1.methodNamed? x = some theMethod := by decide +kernel
set_option maxRecDepth 65536 in
theorem w_hears : about1.hears theMethod below0 = true := by decide +kernel
set_option maxRecDepth 65536 in
theorem w_ripe : about1.ripe theMethod args0 below0 = true := by decide +kernel
theorem w_running : about1.status = .running := rfl
set_option maxRecDepth 65536 in
theorem w_room : about1.hasRoom e0.platform room_1 = true :=
  launch0.hasRoom_least _ room_1 (by decide +kernel) (by decide +kernel) (by decide +kernel) (by decide +kernel) (by decide +kernel) (by decide +kernel)
theorem allAtoms_all (ts : List Jvm.Cond) (a : Array Jvm.Value) (st : Jvm.State) : (allAtoms ts).before a st = ts.all (fun c => c.before a st) := by
  induction ts with
  | nil => rfl
  | cons c t ih =>
    show (Jvm.Cond.and c (allAtoms t)).before a st = _
    rw [Jvm.Cond.before_and, ih, List.all_cons]
def words1 : List Jvm.Cond := Jvm.Cond.code x code maxLocals ret :: tables_1
/-- a 'code' word, met by the world's own term for the bytes: nothing is compared byte by byte -/
theorem code_word {y : MethodName} {bytes : ByteArray} {mx : Nat} {rt : Option FieldType} {a : Array Value} {s : State} {m : MethodId} {meth : Method} {c : Code} (h1 : s.methodNamed? y = some m) (h2 : s.vm.method? m = some meth) (h3 : meth.code = some c) (h4 : c.code = bytes)
    (h5 : (c.maxLocals == mx && c.exceptionTable.isEmpty && decide (c.maxStack ≤ mostOperands) && decide (meth.sig.returnType = rt) && !meth.locks && decide (parseMethodDescriptor y.desc = some meth.sig)) = true) : (Jvm.Cond.code y bytes mx rt).before a s = true := by
  simp only [Bool.and_eq_true, beq_iff_eq, Bool.not_eq_true', decide_eq_true_eq] at h5
  obtain ⟨⟨⟨⟨⟨g1, g2⟩, g3⟩, g4⟩, g5⟩, g6⟩ := h5
  simp [Cond.before, Cond.holds, Cond.value, h1, h2, h3, h4, g1, g2, g3, g4, g5, g6]
def isCode : Jvm.Cond → Bool
  | .code _ _ _ _ => true
  | _ => false
theorem all_split {L : List Jvm.Cond} {P : Jvm.Cond → Bool} (h1 : L.all (fun c => isCode c || P c) = true) (h2 : ∀ c ∈ L.filter isCode, P c = true) : L.all P = true := by
  refine List.all_eq_true.mpr fun c hc => ?_
  have h := List.all_eq_true.mp h1 c hc
  rcases Bool.eq_false_or_eq_true (isCode c) with hi | hi
  · exact h2 c (List.mem_filter.mpr ⟨hc, hi⟩)
  · simpa [hi] using h
set_option maxRecDepth 65536 in
theorem w_c0 : (Jvm.Cond.code x code maxLocals ret).before args0 about1 = true := code_word (m := ⟨1, 1⟩) (meth := k1m1) (c := k1c1) (by decide +kernel) rfl rfl rfl (by decide +kernel)
set_option maxRecDepth 65536 in
theorem w_c1 : (Jvm.Cond.code ({ cls := "com/example/starfish/starfish/xml/XmlCharsIsCharPinLaw", name := "edge", desc := "(I)I" } : Jvm.MethodName) method_3_code (1 : Nat) (Option.some Jvm.ClassFile.FieldType.int)).before args0 about1 = true := code_word (m := ⟨1, 2⟩) (meth := k1m2) (c := k1c2) (by decide +kernel) rfl rfl rfl (by decide +kernel)
set_option maxRecDepth 65536 in
theorem w_c2 : (Jvm.Cond.code ({ cls := "com/example/starfish/starfish/xml/XmlChars", name := "isChar", desc := "(I)Z" } : Jvm.MethodName) prog_145_method_2_code (1 : Nat) (Option.some Jvm.ClassFile.FieldType.boolean)).before args0 about1 = true := code_word (m := ⟨2, 1⟩) (meth := k2m1) (c := k2c1) (by decide +kernel) rfl rfl rfl (by decide +kernel)
set_option maxRecDepth 65536 in
theorem w_c3 : (Jvm.Cond.code ({ cls := "com/example/starfish/starfish/xml/XmlCharsIsCharPinLaw", name := "excluded", desc := "(I)Z" } : Jvm.MethodName) method_4_code (1 : Nat) (Option.some Jvm.ClassFile.FieldType.boolean)).before args0 about1 = true := code_word (m := ⟨1, 3⟩) (meth := k1m3) (c := k1c3) (by decide +kernel) rfl rfl rfl (by decide +kernel)
def codes1 : List Jvm.Cond := [Jvm.Cond.code x code maxLocals ret, Jvm.Cond.code ({ cls := "com/example/starfish/starfish/xml/XmlCharsIsCharPinLaw", name := "edge", desc := "(I)I" } : Jvm.MethodName) method_3_code (1 : Nat) (Option.some Jvm.ClassFile.FieldType.int), Jvm.Cond.code ({ cls := "com/example/starfish/starfish/xml/XmlChars", name := "isChar", desc := "(I)Z" } : Jvm.MethodName) prog_145_method_2_code (1 : Nat) (Option.some Jvm.ClassFile.FieldType.boolean), Jvm.Cond.code ({ cls := "com/example/starfish/starfish/xml/XmlCharsIsCharPinLaw", name := "excluded", desc := "(I)Z" } : Jvm.MethodName) method_4_code (1 : Nat) (Option.some Jvm.ClassFile.FieldType.boolean)]
set_option maxRecDepth 65536 in
theorem codes_eq : words1.filter isCode = codes1 := rfl
theorem w_codes : ∀ c ∈ words1.filter isCode, c.before args0 about1 = true := by
  rw [codes_eq]
  intro c hc
  simp only [codes1, List.mem_cons, List.not_mem_nil, or_false] at hc
  rcases hc with rfl | rfl | rfl | rfl
  · exact w_c0
  · exact w_c1
  · exact w_c2
  · exact w_c3
set_option maxRecDepth 65536 in
theorem w_t1 : (words1.take 24).all (fun c => isCode c || c.before args0 about1) = true := by decide +kernel
set_option maxRecDepth 65536 in
theorem w_t2 : (words1.drop 24).all (fun c => isCode c || c.before args0 about1) = true := by decide +kernel
theorem w_tables : (allAtoms (Jvm.Cond.code x code maxLocals ret :: tables_1)).before args0 about1 = true := by
  rw [allAtoms_all]
  show words1.all (fun c => c.before args0 about1) = true
  refine all_split ?_ w_codes
  rw [← List.take_append_drop 24 words1, List.all_append, w_t1, w_t2]
  rfl
set_option maxRecDepth 65536 in
theorem w_case : (Jvm.Cond.and given_1 narrow_1).before args0 about1 = true := by decide +kernel
theorem w_applies : (headSpec (Jvm.Cond.code x code maxLocals ret :: tables_1) room_1).applies x e0.platform about1 = true :=
  (Spec.applies_iff w_frames).mpr ⟨w_running, w_runnable, w_alone, w_named, w_hears, w_ripe, w_room, w_tables⟩
theorem atStart : AtStart classFile x code maxLocals ret World_1 tables_1 room_1 Calls_1 rest_1 Pre_1 launch0 p0 e0 about1 theMethod args0 below0 :=
  ⟨lists_1, trivial, launch0.admits_env _ _ _, launch0.least_env, fairChoices_fair.cas, fairChoices_fair.clock, w_frames, w_args, w_heap, w_applies, trivial, trivial, w_case⟩
end start1
theorem witness_1 : WitnessClaimed_1 := ⟨start1.p0, start1.e0, start1.about1, start1.theMethod, start1.args0, start1.below0, start1.atStart⟩
end Jvm.Pilot.@@N@@
