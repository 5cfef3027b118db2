import JvmDerived
import JvmDerived.Pilot.@@N@@Statement
import JvmDerived.Pilot.@@N@@Code
set_option linter.unusedVariables false
set_option linter.unusedSimpArgs false
@@BLOCK:HandJ.lean.txt@@
@@BLOCK:HandW.lean.txt@@
@@BLOCK:HandBits.lean.txt@@
@@BLOCK:SymRun.lean.txt@@
@@BLOCK:RowBasics.lean.txt@@
@@BLOCK:Bridge.lean.txt@@
@@BLOCK:SymKit.lean.txt@@
@@BLOCK:NumsL.lean.txt@@
@@BLOCK:Masks.lean.txt@@
namespace Jvm.Pilot.@@N@@
open Jvm Jvm.ClassFile Sem Op Jvm.Sym Jvm.Pilot.@@N@@.Jvm.D
/-! own_: PURE TREES (no heap, no state): which terms are ints or longs whatever the arguments hold, which guards are worth something, which needs hold for sure. It stands behind kit/SymKit. -/
def own_op2 : Binary → VKind → VKind → Option VKind
  | .iand, .int, .int => some .int
  | .ior, .int, .int => some .int
  | .ixor, .int, .int => some .int
  | .ishl, .int, .int => some .int
  | .ishr, .int, .int => some .int
  | .iushr, .int, .int => some .int
  | .ladd, .long, .long => some .long
  | .lsub, .long, .long => some .long
  | .lmul, .long, .long => some .long
  | .land, .long, .long => some .long
  | .lor, .long, .long => some .long
  | .lxor, .long, .long => some .long
  | .lcmp, .long, .long => some .int
  | .lshl, .long, .int => some .long
  | .lshr, .long, .int => some .long
  | .lushr, .long, .int => some .long
  | _, _, _ => none
theorem own_op2_ok {o : Binary} {ka kb k : VKind} {v w : Value} (h : own_op2 o ka kb = some k) (hv : ka.ok v = true) (hw : kb.ok w = true) : ∃ z, o.apply v w = some z ∧ k.ok z = true := by
  cases ka <;> cases v <;> simp [VKind.ok] at hv <;> cases kb <;> cases w <;> simp [VKind.ok] at hw <;> cases o <;> simp [own_op2] at h <;> subst h <;> exact ⟨_, rfl, rfl⟩
def own_op1 : Unary → VKind → Option VKind
  | .ineg, .int => some .int
  | .i2b, .int => some .int
  | .i2c, .int => some .int
  | .i2s, .int => some .int
  | .i2l, .int => some .long
  | .l2i, .long => some .int
  | .lneg, .long => some .long
  | _, _ => none
theorem own_op1_ok {o : Unary} {ka k : VKind} {v : Value} (h : own_op1 o ka = some k) (hv : ka.ok v = true) : ∃ z, o.apply v = some z ∧ k.ok z = true := by
  cases ka <;> cases v <;> simp [VKind.ok] at hv <;> cases o <;> simp [own_op1] at h <;> subst h <;> exact ⟨_, rfl, rfl⟩
def own_ii : Option VKind → Option VKind → Option VKind
  | some .int, some .int => some .int
  | _, _ => none
theorem own_ii_spec {a b : Option VKind} {k : VKind} (h : own_ii a b = some k) : a = some .int ∧ b = some .int ∧ k = .int := by
  rcases a with _ | a
  · simp [own_ii] at h
  · rcases b with _ | b
    · cases a <;> simp [own_ii] at h
    · cases a <;> cases b <;> simp [own_ii] at h
      exact ⟨rfl, rfl, h.symm⟩
def own_nz : Term → Bool
  | .int z => decide (z ≠ 0)
  | _ => false
def own_kind (ks : List VKind) : Term → Option VKind
  | .arg i => ks[i]?
  | .int _ => some .int
  | .long _ => some .long
  | .old t => own_kind ks t
  | .add a b => own_ii (own_kind ks a) (own_kind ks b)
  | .sub a b => own_ii (own_kind ks a) (own_kind ks b)
  | .mul a b => own_ii (own_kind ks a) (own_kind ks b)
  | .rem a b => if own_nz b = true then own_ii (own_kind ks a) (own_kind ks b) else none
  | .op2 o a b => (own_kind ks a).bind fun x => (own_kind ks b).bind fun y => own_op2 o x y
  | .op1 o a => (own_kind ks a).bind fun x => own_op1 o x
  | _ => none
theorem own_int_of {v : Value} (h : VKind.int.ok v = true) : ∃ z, v = .int z := by
  cases v <;> simp [VKind.ok] at h
  exact ⟨_, rfl⟩
theorem own_long_of {v : Value} (h : VKind.long.ok v = true) : ∃ z, v = .long z := by
  cases v <;> simp [VKind.ok] at h
  exact ⟨_, rfl⟩
def own_Args (ks : List VKind) (A : Array Value) : Prop := ∀ (i : Nat) (k : VKind), ks[i]? = some k → ∃ v, A[i]? = some v ∧ k.ok v = true
theorem own_kind_ok {ks : List VKind} {A : Array Value} {s : State} (hA : own_Args ks A) : ∀ (t : Term) (k : VKind), own_kind ks t = some k → ∃ v, t.eval A s none [] s = some v ∧ k.ok v = true := by
  intro t
  induction t with
  | arg i => intro k h; exact hA i k h
  | int z => intro k h; cases h; exact ⟨_, rfl, rfl⟩
  | long z => intro k h; cases h; exact ⟨_, rfl, rfl⟩
  | old t ih => intro k h; exact ih k h
  | add a b iha ihb =>
    intro k h
    obtain ⟨h1, h2, rfl⟩ := own_ii_spec (show own_ii (own_kind ks a) (own_kind ks b) = some k from h)
    obtain ⟨v, e1, o1⟩ := iha _ h1
    obtain ⟨w, e2, o2⟩ := ihb _ h2
    obtain ⟨y, rfl⟩ := own_int_of o1
    obtain ⟨z, rfl⟩ := own_int_of o2
    exact ⟨.int (y + z), by simp [Term.eval, e1, e2], rfl⟩
  | sub a b iha ihb =>
    intro k h
    obtain ⟨h1, h2, rfl⟩ := own_ii_spec (show own_ii (own_kind ks a) (own_kind ks b) = some k from h)
    obtain ⟨v, e1, o1⟩ := iha _ h1
    obtain ⟨w, e2, o2⟩ := ihb _ h2
    obtain ⟨y, rfl⟩ := own_int_of o1
    obtain ⟨z, rfl⟩ := own_int_of o2
    exact ⟨.int (y - z), by simp [Term.eval, e1, e2], rfl⟩
  | mul a b iha ihb =>
    intro k h
    obtain ⟨h1, h2, rfl⟩ := own_ii_spec (show own_ii (own_kind ks a) (own_kind ks b) = some k from h)
    obtain ⟨v, e1, o1⟩ := iha _ h1
    obtain ⟨w, e2, o2⟩ := ihb _ h2
    obtain ⟨y, rfl⟩ := own_int_of o1
    obtain ⟨z, rfl⟩ := own_int_of o2
    exact ⟨.int (y * z), by simp [Term.eval, e1, e2], rfl⟩
  | rem a b iha ihb =>
    intro k h
    have h' : (if own_nz b = true then own_ii (own_kind ks a) (own_kind ks b) else none) = some k := h
    by_cases hz : own_nz b = true
    · rw [if_pos hz] at h'
      obtain ⟨h1, h2, rfl⟩ := own_ii_spec h'
      obtain ⟨v, e1, o1⟩ := iha _ h1
      obtain ⟨y, rfl⟩ := own_int_of o1
      cases b <;> simp [own_nz] at hz
      rename_i z
      exact ⟨.int (y % z), by simp [Term.eval, e1, hz], rfl⟩
    · rw [if_neg hz] at h'; cases h'
  | op2 o a b iha ihb =>
    intro k h
    obtain ⟨x, h1, h⟩ := Option.bind_eq_some_iff.mp (show (own_kind ks a).bind (fun x => (own_kind ks b).bind fun y => own_op2 o x y) = some k from h)
    obtain ⟨y, h2, h⟩ := Option.bind_eq_some_iff.mp h
    obtain ⟨v, e1, o1⟩ := iha _ h1
    obtain ⟨w, e2, o2⟩ := ihb _ h2
    obtain ⟨z, e3, o3⟩ := own_op2_ok h o1 o2
    exact ⟨z, by simp [Term.eval, e1, e2, e3], o3⟩
  | op1 o a iha =>
    intro k h
    obtain ⟨x, h1, h⟩ := Option.bind_eq_some_iff.mp (show (own_kind ks a).bind (fun x => own_op1 o x) = some k from h)
    obtain ⟨v, e1, o1⟩ := iha _ h1
    obtain ⟨z, e3, o3⟩ := own_op1_ok h o1
    exact ⟨z, by simp [Term.eval, e1, e3], o3⟩
  | _ => intro k h; exact absurd h (by simp [own_kind])
def own_cmp : Option VKind → Option VKind → Bool
  | some .int, some .int => true
  | some .long, some .long => true
  | _, _ => false
theorem own_cmp_spec {a b : Option VKind} (h : own_cmp a b = true) : (a = some .int ∧ b = some .int) ∨ (a = some .long ∧ b = some .long) := by
  rcases a with _ | a
  · simp [own_cmp] at h
  · rcases b with _ | b
    · cases a <;> simp [own_cmp] at h
    · cases a <;> cases b <;> simp [own_cmp] at h <;> simp
/-- the condition is worth something, whatever the arguments hold -/
def own_dfn (ks : List VKind) : Jvm.Cond → Bool
  | .tt => true
  | .eq a b => own_cmp (own_kind ks a) (own_kind ks b)
  | .lt a b => own_cmp (own_kind ks a) (own_kind ks b)
  | .le a b => own_cmp (own_kind ks a) (own_kind ks b)
  | .isInt t => (own_kind ks t).isSome
  | .isLong t => (own_kind ks t).isSome
  | .not c => own_dfn ks c
  | .and a b => own_dfn ks a && own_dfn ks b
  | .or a b => own_dfn ks a && own_dfn ks b
  | _ => false
theorem own_cmp_two {ks : List VKind} {A : Array Value} {s : State} (hA : own_Args ks A) {a b : Term} (h : own_cmp (own_kind ks a) (own_kind ks b) = true) :
    (∃ x y, a.eval A s none [] s = some (.int x) ∧ b.eval A s none [] s = some (.int y)) ∨ (∃ x y, a.eval A s none [] s = some (.long x) ∧ b.eval A s none [] s = some (.long y)) := by
  rcases own_cmp_spec h with ⟨h1, h2⟩ | ⟨h1, h2⟩
  · obtain ⟨v, e1, o1⟩ := own_kind_ok (s := s) hA _ _ h1
    obtain ⟨w, e2, o2⟩ := own_kind_ok (s := s) hA _ _ h2
    obtain ⟨y, rfl⟩ := own_int_of o1
    obtain ⟨z, rfl⟩ := own_int_of o2
    exact Or.inl ⟨y, z, e1, e2⟩
  · obtain ⟨v, e1, o1⟩ := own_kind_ok (s := s) hA _ _ h1
    obtain ⟨w, e2, o2⟩ := own_kind_ok (s := s) hA _ _ h2
    obtain ⟨y, rfl⟩ := own_long_of o1
    obtain ⟨z, rfl⟩ := own_long_of o2
    exact Or.inr ⟨y, z, e1, e2⟩
theorem own_dfn_ok {ks : List VKind} {A : Array Value} {s : State} (hA : own_Args ks A) : ∀ q : Jvm.Cond, own_dfn ks q = true → ∃ b, q.value A s none s [] = some b := by
  intro q
  induction q with
  | tt => intro _; exact ⟨true, rfl⟩
  | eq a b =>
    intro h
    rcases own_cmp_two (s := s) hA h with ⟨y, z, e1, e2⟩ | ⟨y, z, e1, e2⟩
    · exact ⟨_, Cond.eq_ints e1 e2⟩
    · exact ⟨decide (y = z), by simp [Cond.value, e1, e2]⟩
  | lt a b =>
    intro h
    rcases own_cmp_two (s := s) hA h with ⟨y, z, e1, e2⟩ | ⟨y, z, e1, e2⟩
    · exact ⟨_, Cond.lt_ints e1 e2⟩
    · exact ⟨decide (y < z), by simp [Cond.value, e1, e2]⟩
  | le a b =>
    intro h
    rcases own_cmp_two (s := s) hA h with ⟨y, z, e1, e2⟩ | ⟨y, z, e1, e2⟩
    · exact ⟨_, Cond.le_ints e1 e2⟩
    · exact ⟨decide (y ≤ z), by simp [Cond.value, e1, e2]⟩
  | isInt t =>
    intro h
    obtain ⟨k, hk⟩ := Option.isSome_iff_exists.mp (show (own_kind ks t).isSome = true from h)
    obtain ⟨v, e1, -⟩ := own_kind_ok (s := s) hA _ _ hk
    show ∃ b, Option.map _ (t.eval A s none [] s) = some b
    rw [e1]
    exact ⟨_, rfl⟩
  | isLong t =>
    intro h
    obtain ⟨k, hk⟩ := Option.isSome_iff_exists.mp (show (own_kind ks t).isSome = true from h)
    obtain ⟨v, e1, -⟩ := own_kind_ok (s := s) hA _ _ hk
    show ∃ b, Option.map _ (t.eval A s none [] s) = some b
    rw [e1]
    exact ⟨_, rfl⟩
  | not c ih =>
    intro h
    obtain ⟨b, hb⟩ := ih h
    exact ⟨!b, by simp [Cond.value, hb]⟩
  | and a c iha ihc =>
    intro h
    obtain ⟨h1, h2⟩ := (Bool.and_eq_true _ _).mp (show (own_dfn ks a && own_dfn ks c) = true from h)
    obtain ⟨b, hb⟩ := iha h1
    obtain ⟨d, hd⟩ := ihc h2
    cases b
    · exact ⟨false, by simp [Cond.value, hb]⟩
    · exact ⟨d, by simp [Cond.value, hb, hd]⟩
  | or a c iha ihc =>
    intro h
    obtain ⟨h1, h2⟩ := (Bool.and_eq_true _ _).mp (show (own_dfn ks a && own_dfn ks c) = true from h)
    obtain ⟨b, hb⟩ := iha h1
    obtain ⟨d, hd⟩ := ihc h2
    cases b
    · exact ⟨d, by simp [Cond.value, hb, hd]⟩
    · exact ⟨true, by simp [Cond.value, hb]⟩
  | _ => intro h; exact absurd h (by simp [own_dfn])
/-- the condition holds for sure: by its sorts, or by what is known (T true, F false) -/
def own_sure (ks : List VKind) (T F : List Jvm.Cond) : Jvm.Cond → Bool
  | .or a b => (own_dfn ks a && own_sure ks T F b) || (tv T F (.or a b) == some true)
  | .and a b => own_sure ks T F a && own_sure ks T F b
  | .isInt t => (own_kind ks t == some .int) || (tv T F (.isInt t) == some true)
  | .isLong t => (own_kind ks t == some .long) || (tv T F (.isLong t) == some true)
  | q => tv T F q == some true
theorem own_sure_ok {ks : List VKind} {T F : List Jvm.Cond} {A : Array Value} {s : State} (hA : own_Args ks A) (hT : ∀ c ∈ T, c.value A s none s [] = some true) (hF : ∀ c ∈ F, c.value A s none s [] = some false) :
    ∀ q : Jvm.Cond, own_sure ks T F q = true → q.value A s none s [] = some true := by
  have key : ∀ q : Jvm.Cond, (tv T F q == some true) = true → q.value A s none s [] = some true := fun q h => tv_sound hT hF q true (by simpa using h)
  intro q
  induction q with
  | or a c iha ihc =>
    intro h
    rcases (Bool.or_eq_true _ _).mp (show ((own_dfn ks a && own_sure ks T F c) || (tv T F (.or a c) == some true)) = true from h) with h | h
    · obtain ⟨h1, h2⟩ := (Bool.and_eq_true _ _).mp h
      obtain ⟨b, hb⟩ := own_dfn_ok (s := s) hA a h1
      have hd := ihc h2
      cases b
      · simp [Cond.value, hb, hd]
      · simp [Cond.value, hb]
    · exact key _ h
  | and a c iha ihc =>
    intro h
    obtain ⟨h1, h2⟩ := (Bool.and_eq_true _ _).mp (show (own_sure ks T F a && own_sure ks T F c) = true from h)
    simp [Cond.value, iha h1, ihc h2]
  | isInt t =>
    intro h
    rcases (Bool.or_eq_true _ _).mp (show ((own_kind ks t == some .int) || (tv T F (.isInt t) == some true)) = true from h) with h | h
    · obtain ⟨v, e1, o1⟩ := own_kind_ok (s := s) hA t .int (by simpa using h)
      obtain ⟨y, rfl⟩ := own_int_of o1
      simp [Cond.value, e1]
    · exact key _ h
  | isLong t =>
    intro h
    rcases (Bool.or_eq_true _ _).mp (show ((own_kind ks t == some .long) || (tv T F (.isLong t) == some true)) = true from h) with h | h
    · obtain ⟨v, e1, o1⟩ := own_kind_ok (s := s) hA t .long (by simpa using h)
      obtain ⟨y, rfl⟩ := own_long_of o1
      simp [Cond.value, e1]
    · exact key _ h
  | _ => intro h; exact key _ h
theorem own_needs {ks : List VKind} {T F L : List Jvm.Cond} {A : Array Value} {s : State} (hA : own_Args ks A) (hT : ∀ c ∈ T, c.value A s none s [] = some true) (hF : ∀ c ∈ F, c.value A s none s [] = some false)
    (h : L.all (own_sure ks T F) = true) : ∀ q ∈ L, q.before A s = true := fun q hq => before_of_value (own_sure_ok hA hT hF q (List.all_eq_true.mp h q hq))
def own_fit : List VKind → List Value → Bool
  | [], [] => true
  | k :: ks, v :: vs => k.ok v && own_fit ks vs
  | _, _ => false
theorem own_fit_ok : ∀ (ks : List VKind) (vs : List Value), own_fit ks vs = true → own_Args ks vs.toArray
  | [], _, _ => fun i k h => by simp at h
  | k :: ks, [], h => by simp [own_fit] at h
  | k :: ks, v :: vs, h => by
    obtain ⟨h1, h2⟩ := (Bool.and_eq_true _ _).mp (show (k.ok v && own_fit ks vs) = true from h)
    intro i k' hk
    cases i with
    | zero => simp at hk; subst hk; exact ⟨v, by simp, h1⟩
    | succ i =>
      obtain ⟨w, e1, o1⟩ := own_fit_ok ks vs h2 i k' (by simpa using hk)
      exact ⟨w, by simpa using e1, o1⟩
/-- what a callee of boolean hands back -/
def own_B (b : Bool) : Term := .op2 .iand (.int (if b then 1 else 0)) (.int 1)
def own_R (k : Int32) : STree := .ret (some ⟨.op2 .iand (.int k) (.int 1), .int⟩) []
theorem own_some {α β γ : Type} {o : Option (α × β × γ)} (h : o.isSome = true) : o = some ((o.get h).1, (o.get h).2.1, (o.get h).2.2) := by
  cases o with
  | none => cases h
  | some v => rfl
/-! 1. the callees: isAlpha of another class, the folding of the law's own -/
def y1 : MethodName := ⟨"com/example/hold_water/holdwater/engine/Ascii", "isAlpha", "(I)Z"⟩
def y1code : ByteArray := prog_2_method_3_code
def y1I : Info := { own := "com/example/hold_water/holdwater/engine/Ascii", ret := some .boolean }
def y1out : Option (Jvm.Cond × List Jvm.Cond × List Jvm.Cond) := walk y1I y1code 200 (entry [.int] 1)
theorem y1walks : y1out.isSome = true := by decide +kernel
def y1got : Jvm.Cond × List Jvm.Cond × List Jvm.Cond := y1out.get y1walks
def y1spec : Spec := specOf y1 y1code 1 (some .boolean) [.int] y1got.1 y1got.2.1 y1got.2.2
set_option maxRecDepth 65536 in
theorem y1meets (l : Launch) : MeetsLoose l y1 y1spec :=
  walk_meets (n := 200) (I := y1I) (by decide) rfl rfl (show walk y1I y1code 200 (entry [.int] 1) = some (y1got.1, y1got.2.1, y1got.2.2) from own_some y1walks)
theorem y1cold : y1spec.Cold := Spec.cold_of_keeps (by decide +kernel)
def y2 : MethodName := ⟨"com/example/hold_water/holdwater/engine/AsciiIsAlphaPinLaw", "isAsciiLetterByFolding", "(I)Z"⟩
def y2code : ByteArray := method_2_code
def y2I : Info := { own := "com/example/hold_water/holdwater/engine/AsciiIsAlphaPinLaw", ret := some .boolean }
def y2out : Option (Jvm.Cond × List Jvm.Cond × List Jvm.Cond) := walk y2I y2code 200 (entry [.int] 2)
theorem y2walks : y2out.isSome = true := by decide +kernel
def y2got : Jvm.Cond × List Jvm.Cond × List Jvm.Cond := y2out.get y2walks
def y2spec : Spec := specOf y2 y2code 2 (some .boolean) [.int] y2got.1 y2got.2.1 y2got.2.2
set_option maxRecDepth 65536 in
theorem y2meets (l : Launch) : MeetsLoose l y2 y2spec :=
  walk_meets (n := 200) (I := y2I) (by decide) rfl rfl (show walk y2I y2code 200 (entry [.int] 2) = some (y2got.1, y2got.2.1, y2got.2.2) from own_some y2walks)
theorem y2cold : y2spec.Cold := Spec.cold_of_keeps (by decide +kernel)

/-! 2. the law's own walk -/
def callee1 : Callee := { y := y1, S := y1spec, bytes := y1code, maxL := 1, ret := some .boolean, static := true, params := 1, res := some .int }
def callee2 : Callee := { y := y2, S := y2spec, bytes := y2code, maxL := 2, ret := some .boolean, static := true, params := 1, res := some .int }
def I : Info := { own := x.cls, ret := ret, calls := [(7, callee1), (13, callee2)], maxLocals := maxLocals, room := room_1 }
theorem callsOk (l : Launch) : CallsOk l I maxLocals room_1 := fun q hq => by
  simp only [I, List.mem_cons, List.not_mem_nil, or_false] at hq
  rcases hq with rfl | rfl
  · exact ⟨rfl, rfl, y1meets l, y1cold⟩
  · exact ⟨rfl, rfl, y2meets l, y2cold⟩
def w := walkTo I code [25] 400 true (entry [.int, .int] maxLocals)
theorem w_some : w.isSome = true := by decide +kernel
def w2 := walkTo I code [25] 400 true (ident 25 [.int, .int, .int, .int] maxLocals)
theorem w2_some : w2.isSome = true := by decide +kernel
/-- isAlpha's tree, each leaf followed by k -/
def own_alpha2 (c : Term) (k : Term → STree) : STree := .fork (.lt (.old c) (.old (.int 65))) (k (own_B false)) (.fork (.lt (.old (.int 90)) (.old c)) (k (own_B false)) (k (own_B true)))
def own_alpha (c : Term) (k : Term → STree) : STree := .fork (.lt (.old c) (.old (.int 97))) (own_alpha2 c k) (.fork (.le (.old c) (.old (.int 122))) (k (own_B true)) (own_alpha2 c k))
def own_fold (c : Term) (k : Term → STree) : STree := .fork (.lt (.old (.op2 .ior c (.int 32))) (.old (.int 97))) (k (own_B false)) (.fork (.lt (.old (.int 122)) (.old (.op2 .ior c (.int 32)))) (k (own_B false)) (k (own_B true)))
def own_same (c : Term) (k : Term → STree) : STree := own_alpha c fun r1 => own_fold c fun r2 => .fork (.not (.eq (.old r1) (.old r2))) (k (.int 0)) (k (.int 1))
def own_near : Term := .add (.int 32) (.op2 .iand (.arg 1) (.int 127))
def own_at25 (b3 : Term) : SFrame := { pc := 25, locals := [.val ⟨.arg 0, .int⟩, .val ⟨.arg 1, .int⟩, .val ⟨own_near, .int⟩, .val ⟨b3, .int⟩, .unset], stack := [] }
def t0 : STree := own_same (.arg 0) fun b3 => .cut (own_at25 b3)
theorem tree : (w.get w_some).1 = t0 := by decide +kernel
set_option maxRecDepth 65536 in
theorem entry_walk : walkTo I code [25] 400 true (entry [.int, .int] maxLocals) = some (t0, (w.get w_some).2.1, (w.get w_some).2.2) := by
  rw [← tree]; exact own_some w_some
def own_tail (b3 b4 : Term) : STree := .fork (.eq (.old b3) (.int 0)) (own_R 0) (.fork (.eq (.old b4) (.int 0)) (own_R 0) (own_R 1))
def t1 : STree := own_same (.arg 2) fun b4 => own_tail (.arg 3) b4
theorem tree2 : (w2.get w2_some).1 = t1 := by decide +kernel
set_option maxRecDepth 65536 in
theorem cut_walk : walkTo I code [25] 400 true (ident 25 [.int, .int, .int, .int] maxLocals) = some (t1, (w2.get w2_some).2.1, (w2.get w2_some).2.2) := by
  rw [← tree2]; exact own_some w2_some
theorem sorts_ok {a b : Int32} {s : State} : ∀ q ∈ Sym.sorts 0 [.int, .int], q.before #[.int a, .int b] s = true := by
  intro q hq
  simp only [Sym.sorts, List.mem_cons, List.not_mem_nil, or_false] at hq
  rcases hq with rfl | rfl <;> simp [isK, Cond.before, Cond.holds, Cond.value, Term.eval]
/-- a word on the tables, carried to another root of the same tables -/
theorem own_root {args A : Array Value} {s u : State} (hvm : u.vm = s.vm) {c : Jvm.Cond} (hc : c.onTables = true) (hk : c.keepsH = true) (h : c.before args s = true) : c.before A u = true := by
  have h1 := Cond.onTables_warmH (args' := A) (T := u) (State.WarmedH.refl s) hc hk h
  have h2 : u.setVm s.vm = u := by rw [← hvm]; rfl
  rw [h2] at h1
  exact h1

/-! 3. what the callees say, in plain words; the plain law -/
def pAlpha2 (v : Int32) : Bool := if v < 65 then false else if 90 < v then false else true
def pAlpha (v : Int32) : Bool := if v < 97 then pAlpha2 v else if v ≤ 122 then true else pAlpha2 v
def pFold (v : Int32) : Bool := if (v ||| 32) < 97 then false else if 122 < (v ||| 32) then false else true
theorem own_or32 (n : Nat) : n ||| 32 = if n / 32 % 2 = 1 then n else n + 32 := by
  have hr : ∀ r : Nat, r < 64 → (r ||| 32) = (if r / 32 % 2 = 1 then r else r + 32) := by decide +kernel
  have hlt : n % 64 < 64 := Nat.mod_lt _ (by decide)
  have h1 := hr (n % 64) hlt
  have hn : n = (n / 64) <<< 6 ||| n % 64 := by
    rw [← Nat.shiftLeft_add_eq_or_of_lt (i := 6) hlt, Nat.shiftLeft_eq]; omega
  have hb : (n % 64 ||| 32) < 2 ^ 6 := by rw [h1]; split <;> omega
  have h2 : n ||| 32 = (n / 64) <<< 6 + (n % 64 ||| 32) := by
    rw [Nat.shiftLeft_add_eq_or_of_lt (i := 6) hb, ← Nat.or_assoc, ← hn]
  rw [h2, h1, Nat.shiftLeft_eq]
  by_cases hc : n / 32 % 2 = 1
  · have : n % 64 / 32 % 2 = 1 := by omega
    rw [if_pos hc, if_pos this]; omega
  · have : ¬ n % 64 / 32 % 2 = 1 := by omega
    rw [if_neg hc, if_neg this]; omega
theorem own_or32_int (v : Int32) : (v ||| 32).toInt = if v.toInt / 32 % 2 = 1 then v.toInt else v.toInt + 32 := by
  have e0 : (v ||| 32).toInt = (v.toBitVec ||| 32#32).toInt := rfl
  have e1 : v.toInt = v.toBitVec.toInt := rfl
  rw [e0, e1]
  have hb := v.toBitVec.isLt
  generalize v.toBitVec = b at *
  have e2 : (b ||| 32#32).toNat = if b.toNat / 32 % 2 = 1 then b.toNat else b.toNat + 32 := by
    rw [BitVec.toNat_or]; exact own_or32 b.toNat
  rw [BitVec.toInt_eq_toNat_cond, BitVec.toInt_eq_toNat_cond, e2]
  generalize b.toNat = n at *
  by_cases hc : n / 32 % 2 = 1
  · simp only [if_pos hc]
    by_cases h2 : 2 * n < 2 ^ 32
    · simp only [if_pos h2]
      split <;> omega
    · simp only [if_neg h2]
      split <;> omega
  · simp only [if_neg hc]
    by_cases h2 : 2 * n < 2 ^ 32
    · have h3 : 2 * (n + 32) < 2 ^ 32 := by omega
      simp only [if_pos h2, if_pos h3]
      split <;> omega
    · have h3 : ¬ 2 * (n + 32) < 2 ^ 32 := by omega
      simp only [if_neg h2, if_neg h3]
      split <;> omega
set_option maxHeartbeats 4000000 in
theorem own_plain (v : Int32) : pAlpha v = pFold v := by
  have h := own_or32_int v
  have c65 : (65 : Int32).toInt = 65 := rfl
  have c90 : (90 : Int32).toInt = 90 := rfl
  have c97 : (97 : Int32).toInt = 97 := rfl
  have c122 : (122 : Int32).toInt = 122 := rfl
  unfold pAlpha pFold pAlpha2
  simp only [Int32.lt_iff_toInt_lt, Int32.le_iff_toInt_le, h, c65, c90, c97, c122]
  generalize v.toInt = n
  repeat' split
  all_goals first | rfl | (exfalso; omega)
theorem own_fork {A : Array Value} {s : State} {Qr : Option SVal → List SWrite → Prop} {Qc : SFrame → Prop} {G : Jvm.Cond} {a b : STree} {d : Bool} (hG : G.value A s none s [] = some d) (h : (if d then a else b).VC A s Qr Qc) : (STree.fork G a b).VC A s Qr Qc := by
  cases d
  · exact ⟨fun q => (by rw [hG] at q; cases q), fun _ => h⟩
  · exact ⟨fun _ => h, fun q => (by rw [hG] at q; cases q)⟩
section
variable {A : Array Value} {s : State} {Qr : Option SVal → List SWrite → Prop} {Qc : SFrame → Prop} {c : Term} {v : Int32}
theorem own_alpha2_vc (k : Term → STree) (hc : c.eval A s none [] s = some (.int v)) (h : (k (own_B (pAlpha2 v))).VC A s Qr Qc) : (own_alpha2 c k).VC A s Qr Qc := by
  have g3 : (Jvm.Cond.lt (.old c) (.old (.int 65))).value A s none s [] = some (decide (v < 65)) := Cond.lt_ints hc rfl
  have g4 : (Jvm.Cond.lt (.old (.int 90)) (.old c)).value A s none s [] = some (decide (90 < v)) := Cond.lt_ints rfl hc
  unfold pAlpha2 at h
  refine own_fork g3 ?_
  by_cases p3 : v < 65
  · rw [if_pos p3] at h; rw [decide_eq_true p3]; exact h
  · rw [if_neg p3] at h; rw [decide_eq_false p3]
    refine own_fork g4 ?_
    by_cases p4 : 90 < v
    · rw [if_pos p4] at h; rw [decide_eq_true p4]; exact h
    · rw [if_neg p4] at h; rw [decide_eq_false p4]; exact h
theorem own_alpha_vc (k : Term → STree) (hc : c.eval A s none [] s = some (.int v)) (h : (k (own_B (pAlpha v))).VC A s Qr Qc) : (own_alpha c k).VC A s Qr Qc := by
  have g1 : (Jvm.Cond.lt (.old c) (.old (.int 97))).value A s none s [] = some (decide (v < 97)) := Cond.lt_ints hc rfl
  have g2 : (Jvm.Cond.le (.old c) (.old (.int 122))).value A s none s [] = some (decide (v ≤ 122)) := Cond.le_ints hc rfl
  unfold pAlpha at h
  refine own_fork g1 ?_
  by_cases p1 : v < 97
  · rw [if_pos p1] at h; rw [decide_eq_true p1]; exact own_alpha2_vc k hc h
  · rw [if_neg p1] at h; rw [decide_eq_false p1]
    refine own_fork g2 ?_
    by_cases p2 : v ≤ 122
    · rw [if_pos p2] at h; rw [decide_eq_true p2]; exact h
    · rw [if_neg p2] at h; rw [decide_eq_false p2]; exact own_alpha2_vc k hc h
theorem own_fold_vc (k : Term → STree) (hc : c.eval A s none [] s = some (.int v)) (h : (k (own_B (pFold v))).VC A s Qr Qc) : (own_fold c k).VC A s Qr Qc := by
  have hf : (Term.old (.op2 .ior c (.int 32))).eval A s none [] s = some (.int (v ||| 32)) := by simp [Term.eval, hc, Binary.apply]
  have g1 : (Jvm.Cond.lt (.old (.op2 .ior c (.int 32))) (.old (.int 97))).value A s none s [] = some (decide ((v ||| 32) < 97)) := Cond.lt_ints hf rfl
  have g2 : (Jvm.Cond.lt (.old (.int 122)) (.old (.op2 .ior c (.int 32)))).value A s none s [] = some (decide (122 < (v ||| 32))) := Cond.lt_ints rfl hf
  unfold pFold at h
  refine own_fork g1 ?_
  by_cases p1 : (v ||| 32) < 97
  · rw [if_pos p1] at h; rw [decide_eq_true p1]; exact h
  · rw [if_neg p1] at h; rw [decide_eq_false p1]
    refine own_fork g2 ?_
    by_cases p2 : 122 < (v ||| 32)
    · rw [if_pos p2] at h; rw [decide_eq_true p2]; exact h
    · rw [if_neg p2] at h; rw [decide_eq_false p2]; exact h
theorem own_same_vc (k : Term → STree) (hc : c.eval A s none [] s = some (.int v)) (h : (k (.int 1)).VC A s Qr Qc) : (own_same c k).VC A s Qr Qc := by
  refine own_alpha_vc _ hc (own_fold_vc _ hc ?_)
  rw [own_plain v]
  have g : (Jvm.Cond.not (.eq (.old (own_B (pFold v))) (.old (own_B (pFold v))))).value A s none s [] = some false := by
    cases pFold v <;> rfl
  exact own_fork g h
end

/-! 4. the contract, the limbs -/
def post_1 : Jvm.Cond := .and limb_1_1 limb_1_2
def own_ksOf (h : Nat) : Option (List VKind) := if h = 25 then some [.int, .int, .int, .int] else none
def own_J (_ : Array Value) (_ : State) (_ : Nat) (A : Array Value) (_ : State) : Prop := ∃ a b n : Int32, A = #[.int a, .int b, .int n, .int 1]
theorem met_1 (l : Launch) : MeetsLoose l x (armSpec x code maxLocals ret tables_1 room_1 .tt (.and given_1 narrow_1) post_1 frame_1_writes frame_1_arrays frame_1_statics) := by
  refine loops_meets (I := I) (ks0 := [.int, .int]) (cuts := [25]) (by decide) rfl rfl rfl rfl rfl (fun args s h => ?_) entry_walk own_ksOf own_J (fun _ _ _ => 0) (fun args s h => ?_) (fun args s hpre h ks hks => ?_) (callsOk l)
  · simp only [armSpec, allAtoms, List.foldr_cons, Cond.before_and, Bool.and_eq_true] at h; exact h.1.1
  · have hts : (allAtoms (Cond.code x code maxLocals ret :: tables_1)).before args s = true := by simp only [armSpec, Cond.before_and, Bool.and_eq_true] at h; exact h.1
    have hK : (Cond.and .tt (.and given_1 narrow_1)).before args s = true := by simp only [armSpec, Cond.before_and, Bool.and_eq_true] at h ⊢; exact h.2
    simp only [armSpec, given_1, Cond.before_and, Bool.and_eq_true] at h
    obtain ⟨-, -, ⟨hc, h0, h1⟩, hn⟩ := h
    obtain ⟨a, b, rfl⟩ := Cond.two_ints hc h0 h1
    have hT := known3 (Gt := []) hts hK (by intro q hq; cases hq)
    have hF : ∀ q ∈ ([] : List Jvm.Cond), q.value #[.int a, .int b] s none s [] = some false := fun q hq => by cases hq
    refine ⟨rfl, sorts_ok, tabs_of_sub hts (by decide +kernel), own_needs (ks := [.int, .int]) (own_fit_ok [.int, .int] [.int a, .int b] rfl) hT hF (by decide +kernel), ?_⟩
    refine own_same_vc (v := a) _ rfl ?_
    refine ⟨[.int, .int, .int, .int], rfl, rfl, rfl, (by intro y hy; cases hy), [⟨.arg 0, .int⟩, ⟨.arg 1, .int⟩, ⟨own_near, .int⟩, ⟨.int 1, .int⟩], rfl, rfl, fun vs hd u' _ _ => ?_⟩
    match vs, hd with
    | [v0, v1, v2, v3], ⟨⟨_, e0, _⟩, ⟨_, e1, _⟩, ⟨_, e2, _⟩, ⟨_, e3, _⟩, _⟩ =>
      cases (show (Term.arg 0).eval #[.int a, .int b] s none [] s = some (.int a) from rfl).symm.trans e0
      cases (show (Term.arg 1).eval #[.int a, .int b] s none [] s = some (.int b) from rfl).symm.trans e1
      cases (show own_near.eval #[.int a, .int b] s none [] s = some (.int (32 + (b &&& 127))) from rfl).symm.trans e2
      cases (show (Term.int 1).eval #[.int a, .int b] s none [] s = some (.int 1) from rfl).symm.trans e3
      exact ⟨a, b, _, rfl⟩
  · have hts : (allAtoms (Cond.code x code maxLocals ret :: tables_1)).before args s = true := by simp only [armSpec, Cond.before_and, Bool.and_eq_true] at hpre; exact hpre.1
    have e25 : h = 25 ∧ ks = [.int, .int, .int, .int] := by
      unfold own_ksOf at hks
      split at hks
      · rename_i e; exact ⟨e, (Option.some.inj hks).symm⟩
      · cases hks
    obtain ⟨rfl, rfl⟩ := e25
    refine ⟨400, t1, _, _, cut_walk, fun A u hvm hJ => ?_⟩
    obtain ⟨a, b, n, rfl⟩ := hJ
    have hall : ((Cond.code x code maxLocals ret :: tables_1).all fun q => q.onTables && q.keepsH) = true := by decide +kernel
    have root : ∀ (u' : State), u'.vm = s.vm → ∀ q ∈ Cond.code x code maxLocals ret :: tables_1, q.before #[.int a, .int b, .int n, .int 1] u' = true := fun u' hv q hq => by
      have hq' := List.all_eq_true.mp hall q hq
      simp only [Bool.and_eq_true] at hq'
      exact own_root hv hq'.1 hq'.2 (atoms_spec hts q hq)
    have hT : ∀ q ∈ Cond.code x code maxLocals ret :: tables_1, q.value #[.int a, .int b, .int n, .int 1] u none u [] = some true := fun q hq => value_of_before (root u hvm q hq)
    have hF : ∀ q ∈ ([] : List Jvm.Cond), q.value #[.int a, .int b, .int n, .int 1] u none u [] = some false := fun q hq => by cases hq
    have hsub : ((w2.get w2_some).2.1.all fun q => (Cond.code x code maxLocals ret :: tables_1).contains q) = true := by decide +kernel
    refine ⟨fun q hq => root s rfl q (List.contains_iff_mem.mp (List.all_eq_true.mp hsub q hq)), own_needs (ks := [.int, .int, .int, .int]) (own_fit_ok [.int, .int, .int, .int] [.int a, .int b, .int n, .int 1] rfl) hT hF (by decide +kernel), ?_⟩
    refine own_same_vc (v := n) _ rfl ?_
    refine Kit.vc_of_value (w₀ := .int 1) (fun E => ?_) _ (by decide +kernel) rfl
    simp [armSpec, post_1, limb_1_1, limb_1_2, Cond.after, Cond.holds, Cond.value, Term.eval]
theorem main_1_1 : Claimed_1_1 := armFor_of_meets0 (fun l => (met_1 l).meets) (fun _ _ _ _ h => by simp only [post_1, Cond.after_and, Bool.and_eq_true] at h; exact h.1)
theorem main_1_2 : Claimed_1_2 := armFor_of_meets0 (fun l => (met_1 l).meets) (fun _ _ _ _ h => by simp only [post_1, Cond.after_and, Bool.and_eq_true] at h; exact h.2)
end Jvm.Pilot.@@N@@
namespace Jvm.Pilot.@@N@@
open Jvm Jvm.ClassFile Sem Op Lib Jvm.Free Jvm.Stand Jvm.Pilot.@@N@@.Jvm.D
/-! MADE BY PROGRAM (witnessworld.py) out of the Statement's table words and the real class files: 9 classes; the members and pool entries that the words name. The judged class is class 1, her method 2. -/
namespace start1
open Jvm.ClassFile
def u (s : String) : CpInfo := .utf8 (stringToUtf16 s)
/-- a pool by its gaps: so many unusable entries, then the entry; so many at the end -/
def gap : Nat → List CpInfo → List CpInfo
  | 0, r => r
  | n + 1, r => .unusable :: gap n r
def poolList (es : List (Nat × CpInfo)) (last : Nat) : List CpInfo := es.foldr (fun e r => gap e.1 (e.2 :: r)) (gap last [])
def pool (es : List (Nat × CpInfo)) (last : Nat) : Array CpInfo := ⟨poolList es last⟩
def fileOf (pool : Array CpInfo) (this : Nat) (attrs : Array Attribute := #[]) (ms : Array MethodInfo := #[]) (fl : Nat := 33) (sup : Nat := 0) (ifs : Array Nat := #[]) (fds : Array FieldInfo := #[]) : ClassFile where
  minorVersion := 0
  majorVersion := 65
  constantPool := pool
  accessFlags := fl
  thisClass := this
  superClass := sup
  interfaces := ifs
  fields := fds
  methods := ms
  attributes := attrs
def plain (name : String) (sup : Option ClassId) : Class where
  name := name
  kind := .ordinary
  loader := none
  accessFlags := 33
  super := sup
  interfaces := #[]
  cf := none
  fields := #[]
  methods := #[]
  instanceTypes := #[]
  staticTypes := #[]
  resolved := #[]
  callSites := []
  init := .initialized
  statics := none
  mirror := none

def pool0 : Array CpInfo := pool [(5, u "<init>"), (0, u "()V"), (1, .class_ 10), (1, u "java/lang/Object")] 113

def k0m0 : Method := { name := "<init>", desc := "()V", sig := { parameters := [], returnType := none }, accessFlags := 1, code := none }
/-- java/lang/Object -/
def k0 : Class := { plain "java/lang/Object" none with
  accessFlags := 33
  interfaces := #[]
  cf := some (fileOf pool0 8 #[] #[{ accessFlags := 1, nameIndex := 5, descriptorIndex := 6, attributes := #[] }] 33 0 #[] #[])
  fields := #[]
  methods := #[k0m0]
  instanceTypes := #[]
  staticTypes := #[]
  resolved := Array.replicate 124 none
  statics := none }

def pool1 : Array CpInfo := pool [(2, .class_ 4), (1, u "java/lang/Object"), (0, u "<init>"), (0, u "()V"), (0, .methodref 8 9), (0, .class_ 10), (0, .nameAndType 11 12), (0, u "com/example/hold_water/holdwater/engine/Ascii"), (0, u "isAlpha"), (0, u "(I)Z"), (0, .methodref 14 15), (0, .class_ 16), (0, .nameAndType 17 12), (0, u "com/example/hold_water/holdwater/engine/AsciiIsAlphaPinLaw"), (0, u "isAsciiLetterByFolding"), (3, u "law"), (0, u "(II)Z")] 2

def k1m0 : Method := { name := "<init>", desc := "()V", sig := { parameters := [], returnType := none }, accessFlags := 2, code := none }
def k1c1 : Code := { maxStack := 2, maxLocals := 2, code := method_2_code, exceptionTable := #[], attributes := #[] }
def k1m1 : Method := { name := "isAsciiLetterByFolding", desc := "(I)Z", sig := { parameters := [.int], returnType := some .boolean }, accessFlags := 10, code := some k1c1 }
def k1c2 : Code := { maxStack := 3, maxLocals := 5, code := code, exceptionTable := #[], attributes := #[] }
def k1m2 : Method := { name := "law", desc := "(II)Z", sig := { parameters := [.int, .int], returnType := some .boolean }, accessFlags := 9, code := some k1c2 }
/-- com/example/hold_water/holdwater/engine/AsciiIsAlphaPinLaw -/
def k1 : Class := { plain "com/example/hold_water/holdwater/engine/AsciiIsAlphaPinLaw" (some 0) with
  accessFlags := 49
  interfaces := #[]
  cf := some (fileOf pool1 14 #[] #[{ accessFlags := 2, nameIndex := 5, descriptorIndex := 6, attributes := #[] }, { accessFlags := 10, nameIndex := 17, descriptorIndex := 12, attributes := #[] }, { accessFlags := 9, nameIndex := 21, descriptorIndex := 22, attributes := #[] }] 49 2 #[] #[])
  fields := #[]
  methods := #[k1m0, k1m1, k1m2]
  instanceTypes := #[]
  staticTypes := #[]
  resolved := Array.replicate 25 none
  statics := none }

def pool2 : Array CpInfo := pool [(2, .class_ 4), (1, u "java/lang/Object"), (0, u "<init>"), (0, u "()V"), (24, .class_ 33), (1, u "com/example/hold_water/holdwater/engine/Ascii"), (1, u "(I)Z"), (7, u "isAlpha")] 6

def k2m0 : Method := { name := "<init>", desc := "()V", sig := { parameters := [], returnType := none }, accessFlags := 2, code := none }
def k2c1 : Code := { maxStack := 2, maxLocals := 1, code := prog_2_method_3_code, exceptionTable := #[], attributes := #[] }
def k2m1 : Method := { name := "isAlpha", desc := "(I)Z", sig := { parameters := [.int], returnType := some .boolean }, accessFlags := 8, code := some k2c1 }
/-- com/example/hold_water/holdwater/engine/Ascii -/
def k2 : Class := { plain "com/example/hold_water/holdwater/engine/Ascii" (some 0) with
  accessFlags := 48
  interfaces := #[]
  cf := some (fileOf pool2 31 #[] #[{ accessFlags := 2, nameIndex := 5, descriptorIndex := 6, attributes := #[] }, { accessFlags := 8, nameIndex := 43, descriptorIndex := 35, attributes := #[] }] 48 2 #[] #[])
  fields := #[]
  methods := #[k2m0, k2m1]
  instanceTypes := #[]
  staticTypes := #[]
  resolved := Array.replicate 50 none
  statics := none }

def pool3 : Array CpInfo := pool [(1, u "java/lang/Cloneable"), (0, .class_ 1), (0, u "java/lang/Object"), (0, .class_ 3)] 3

/-- java/lang/Cloneable -/
def k3 : Class := { plain "java/lang/Cloneable" (some 0) with
  accessFlags := 1537
  interfaces := #[]
  cf := some (fileOf pool3 2 #[] #[] 1537 4 #[] #[])
  fields := #[]
  methods := #[]
  instanceTypes := #[]
  staticTypes := #[]
  resolved := Array.replicate 8 none
  statics := none }

def pool4 : Array CpInfo := pool [(1, u "java/io/Serializable"), (0, .class_ 1), (0, u "java/lang/Object"), (0, .class_ 3)] 3

/-- java/io/Serializable -/
def k4 : Class := { plain "java/io/Serializable" (some 0) with
  accessFlags := 1537
  interfaces := #[]
  cf := some (fileOf pool4 2 #[] #[] 1537 4 #[] #[])
  fields := #[]
  methods := #[]
  instanceTypes := #[]
  staticTypes := #[]
  resolved := Array.replicate 8 none
  statics := none }

/-- the primitive byte -/
def k5 : Class := { plain "byte" none with kind := .primitive 'B', accessFlags := 0x411 }
/-- [B -/
def k6 : Class := { plain "[B" (some 0) with kind := .array 5 .byte, interfaces := #[3, 4], accessFlags := 1041 }

/-- the primitive int -/
def k7 : Class := { plain "int" none with kind := .primitive 'I', accessFlags := 0x411 }
/-- [I -/
def k8 : Class := { plain "[I" (some 0) with kind := .array 7 .int, interfaces := #[3, 4], accessFlags := 1041 }

def heap : Heap := #[]
def classes : Array Class := #[k0, k1, k2, k3, k4, k5, k6, k7, k8]
def interned : List (Array UInt16 × Addr) := []
def slotsUsed : Nat := 0
def theMethod : MethodId := ⟨1, 2⟩
def args0 : Array Value := #[.int 70, .int 9]
def aboutOver (below : List Frame) : State where
  vm := { classes := classes, interned := interned.toArray }
  heap := heap
  slotsUsed := slotsUsed
  threads := #[{ frames := .invoking theMethod args0 :: below }]
def below0 : List Frame := [.native { method := ⟨0, 0⟩, args := #[] }]
def about1 : State := aboutOver below0
def p0 : Program := .bare "" "" ""
def e0 : Env := launch0.env 0 0 0
theorem w_frames : about1.frames = Frame.invoking theMethod args0 :: below0 := rfl
set_option maxRecDepth 65536 in
theorem w_args : argsFit about1.vm theMethod args0 = true := by decide +kernel
set_option maxRecDepth 65536 in
theorem w_heap : heapFits about1 = true := by decide +kernel
set_option maxRecDepth 65536 in
theorem w_runnable : about1.curStatus? = some .runnable := by decide +kernel
set_option maxRecDepth 65536 in
theorem w_alone : about1.alone = true := by decide +kernel
set_option maxRecDepth 65536 in
theorem w_named : about1.methodNamed? x = some theMethod := by decide +kernel
set_option maxRecDepth 65536 in
theorem w_hears : about1.hears theMethod below0 = true := by decide +kernel
set_option maxRecDepth 65536 in
theorem w_ripe : about1.ripe theMethod args0 below0 = true := by decide +kernel
theorem w_running : about1.status = .running := rfl
set_option maxRecDepth 65536 in
theorem w_room : about1.hasRoom e0.platform room_1 = true :=
  launch0.hasRoom_least _ room_1 (by decide +kernel) (by decide +kernel) (by decide +kernel) (by decide +kernel) (by decide +kernel) (by decide +kernel)
theorem allAtoms_all (ts : List Jvm.Cond) (a : Array Jvm.Value) (st : Jvm.State) : (allAtoms ts).before a st = ts.all (fun c => c.before a st) := by
  induction ts with
  | nil => rfl
  | cons c t ih =>
    show (Jvm.Cond.and c (allAtoms t)).before a st = _
    rw [Jvm.Cond.before_and, ih, List.all_cons]
def words1 : List Jvm.Cond := Jvm.Cond.code x code maxLocals ret :: tables_1
/-- a 'code' word, met by the world's own term for the bytes: nothing is compared byte by byte -/
theorem code_word {y : MethodName} {bytes : ByteArray} {mx : Nat} {rt : Option FieldType} {a : Array Value} {s : State} {m : MethodId} {meth : Method} {c : Code} (h1 : s.methodNamed? y = some m) (h2 : s.vm.method? m = some meth) (h3 : meth.code = some c) (h4 : c.code = bytes)
    (h5 : (c.maxLocals == mx && c.exceptionTable.isEmpty && decide (c.maxStack ≤ mostOperands) && decide (meth.sig.returnType = rt) && !meth.locks && decide (parseMethodDescriptor y.desc = some meth.sig)) = true) : (Jvm.Cond.code y bytes mx rt).before a s = true := by
  simp only [Bool.and_eq_true, beq_iff_eq, Bool.not_eq_true', decide_eq_true_eq] at h5
  obtain ⟨⟨⟨⟨⟨g1, g2⟩, g3⟩, g4⟩, g5⟩, g6⟩ := h5
  simp [Cond.before, Cond.holds, Cond.value, h1, h2, h3, h4, g1, g2, g3, g4, g5, g6]
def isCode : Jvm.Cond → Bool
  | .code _ _ _ _ => true
  | _ => false
theorem all_split {L : List Jvm.Cond} {P : Jvm.Cond → Bool} (h1 : L.all (fun c => isCode c || P c) = true) (h2 : ∀ c ∈ L.filter isCode, P c = true) : L.all P = true := by
  refine List.all_eq_true.mpr fun c hc => ?_
  have h := List.all_eq_true.mp h1 c hc
  rcases Bool.eq_false_or_eq_true (isCode c) with hi | hi
  · exact h2 c (List.mem_filter.mpr ⟨hc, hi⟩)
  · simpa [hi] using h
set_option maxRecDepth 65536 in
theorem w_c0 : (Jvm.Cond.code x code maxLocals ret).before args0 about1 = true := code_word (m := ⟨1, 2⟩) (meth := k1m2) (c := k1c2) (by decide +kernel) rfl rfl rfl (by decide +kernel)
set_option maxRecDepth 65536 in
theorem w_c1 : (Jvm.Cond.code ({ cls := "com/example/hold_water/holdwater/engine/Ascii", name := "isAlpha", desc := "(I)Z" } : Jvm.MethodName) prog_2_method_3_code (1 : Nat) (Option.some Jvm.ClassFile.FieldType.boolean)).before args0 about1 = true := code_word (m := ⟨2, 1⟩) (meth := k2m1) (c := k2c1) (by decide +kernel) rfl rfl rfl (by decide +kernel)
set_option maxRecDepth 65536 in
theorem w_c2 : (Jvm.Cond.code ({ cls := "com/example/hold_water/holdwater/engine/AsciiIsAlphaPinLaw", name := "isAsciiLetterByFolding", desc := "(I)Z" } : Jvm.MethodName) method_2_code (2 : Nat) (Option.some Jvm.ClassFile.FieldType.boolean)).before args0 about1 = true := code_word (m := ⟨1, 1⟩) (meth := k1m1) (c := k1c1) (by decide +kernel) rfl rfl rfl (by decide +kernel)
def codes1 : List Jvm.Cond := [Jvm.Cond.code x code maxLocals ret, Jvm.Cond.code ({ cls := "com/example/hold_water/holdwater/engine/Ascii", name := "isAlpha", desc := "(I)Z" } : Jvm.MethodName) prog_2_method_3_code (1 : Nat) (Option.some Jvm.ClassFile.FieldType.boolean), Jvm.Cond.code ({ cls := "com/example/hold_water/holdwater/engine/AsciiIsAlphaPinLaw", name := "isAsciiLetterByFolding", desc := "(I)Z" } : Jvm.MethodName) method_2_code (2 : Nat) (Option.some Jvm.ClassFile.FieldType.boolean)]
set_option maxRecDepth 65536 in
theorem codes_eq : words1.filter isCode = codes1 := rfl
theorem w_codes : ∀ c ∈ words1.filter isCode, c.before args0 about1 = true := by
  rw [codes_eq]
  intro c hc
  simp only [codes1, List.mem_cons, List.not_mem_nil, or_false] at hc
  rcases hc with rfl | rfl | rfl
  · exact w_c0
  · exact w_c1
  · exact w_c2
set_option maxRecDepth 65536 in
theorem w_t1 : words1.all (fun c => isCode c || c.before args0 about1) = true := by decide +kernel
theorem w_tables : (allAtoms (Jvm.Cond.code x code maxLocals ret :: tables_1)).before args0 about1 = true := by
  rw [allAtoms_all]
  show words1.all (fun c => c.before args0 about1) = true
  refine all_split ?_ w_codes
  rw [w_t1]
set_option maxRecDepth 65536 in
theorem w_case : (Jvm.Cond.and given_1 narrow_1).before args0 about1 = true := by decide +kernel
theorem w_applies : (headSpec (Jvm.Cond.code x code maxLocals ret :: tables_1) room_1).applies x e0.platform about1 = true :=
  (Spec.applies_iff w_frames).mpr ⟨w_running, w_runnable, w_alone, w_named, w_hears, w_ripe, w_room, w_tables⟩
theorem atStart : AtStart classFile x code maxLocals ret World_1 tables_1 room_1 Calls_1 rest_1 Pre_1 launch0 p0 e0 about1 theMethod args0 below0 :=
  ⟨lists_1, trivial, launch0.admits_env _ _ _, launch0.least_env, fairChoices_fair.cas, fairChoices_fair.clock, w_frames, w_args, w_heap, w_applies, trivial, trivial, w_case⟩
end start1
theorem witness_1 : WitnessClaimed_1 := ⟨start1.p0, start1.e0, start1.about1, start1.theMethod, start1.args0, start1.below0, start1.atStart⟩
end Jvm.Pilot.@@N@@
