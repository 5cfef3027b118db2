import JvmDerived
import JvmDerived.Pilot.@@N@@Statement
import JvmDerived.Pilot.@@N@@Code
set_option linter.unusedVariables false
set_option linter.unusedSimpArgs false
namespace Jvm.RoadKit
open Sem ClassFile Op Lib Jvm.Stand Jvm.Free Jvm.LawKit
section New
variable {p : Program} {l : Launch} {e : Env} {R : Room} {s : State} {m : MethodId} {args : Array Value} {below : List Frame} {meth : Method} {c : Code} {T : State} {locs : List Loc} {cells slots : Nat}
theorem retI (X : Stand p l e R s m args below meth c T locs cells slots) (hx : p.tables.exec = Jvm.exec) {pc : Nat} {Ls : Array Slot} {z : Int32} {rest : List Value} (hret : meth.sig.returnType = some .int) (hd : decode c.code pc = .ok (.ireturn, 1)) {fs : List Frame}
    (hl : ∀ (f : JFrame) (acts : List Action), f.method = m → f.locked = none → f.entered = [] → (doReturn e (T.setTop f) acts (some (.int z))).1 = T.setFrames fs) : Steps p.tables e below (T.setTop (mkF m pc Ls (.int z :: rest))) (T.setFrames fs) := by
  have hm' : T.vm.method? m = some meth := X.method'
  have hn : narrow .int (.int z) = .int z := rfl
  show Steps p.tables e below (T.setTop { method := m, pc := pc, locals := Ls, stack := _ :: rest, locked := none }) _
  jvm_step X.here [X.here.top, hx, hd, hm', hret, hn]
  first | (intro acts; rw [hl _ acts rfl rfl rfl]) | rw [hl _ _ rfl rfl rfl]
  exact Steps.refl _
end New
end Jvm.RoadKit
namespace Jvm.Pilot.@@N@@
open Jvm Jvm.ClassFile Sem Op Lib Jvm.Free Jvm.Stand Jvm.LawKit Jvm.RoadKit Bundle Jvm.Pilot.@@N@@.Jvm.D

/-! own_: the plain parts -/
def pLt (a b : Int64) : Int32 := if lcmpW (a ^^^ (-9223372036854775808 : Int64)) (b ^^^ (-9223372036854775808 : Int64)) < 0 then 1 else 0
def pLess (a0 a1 a2 b0 b1 b2 : Int64) : Int32 := if lcmpW a2 b2 = 0 then (if lcmpW a1 b1 = 0 then pLt a0 b0 else pLt a1 b1) else pLt a2 b2
def pCmp (a b : Int64) : Int32 := if lcmpW a b < 0 then -1 else if lcmpW a b = 0 then 0 else 1
def pSig (w0 w1 w2 : Int64) : Int32 := if lcmpW w2 0 = 0 then (if lcmpW w1 0 = 0 then (if lcmpW w0 0 = 0 then 0 else 1) else 2) else 3
def pSub (len i : Int32) (w : Int64) : Int64 := if i < len then w else 0
def pBor (m s b : Int64) : Int64 := if pCmp (m + (-9223372036854775808 : Int64)) (s + (-9223372036854775808 : Int64)) < 0 then 1 else if lcmpW m s = 0 then (if lcmpW b 0 = 0 then 0 else 1) else 0
theorem own_nar (a b : Int64) : nar .boolean (pLt a b) = pLt a b := by
  unfold pLt
  split <;> rfl
theorem own_get {Z : State} {h : Heap} {a : Addr} {k : ClassId} {w0 w1 w2 : Int64} {d : Value} (V : Arv Z h a k .long (3 : Int32) [.long w0, .long w1, .long w2] d) :
    ∃ cl : Cell, Arr Z h a cl .long ∧ cl.slots.size = (3 : Int32).toNatClampNeg ∧ (¬ ((0 : Int32) < 0 ∨ cl.slots.size ≤ (0 : Int32).toNatClampNeg) ∧ cl.slots[(0 : Int32).toNatClampNeg]? = some (.long w0)) ∧
      (¬ ((1 : Int32) < 0 ∨ cl.slots.size ≤ (1 : Int32).toNatClampNeg) ∧ cl.slots[(1 : Int32).toNatClampNeg]? = some (.long w1)) ∧ (¬ ((2 : Int32) < 0 ∨ cl.slots.size ≤ (2 : Int32).toNatClampNeg) ∧ cl.slots[(2 : Int32).toNatClampNeg]? = some (.long w2)) := by
  obtain ⟨cl, A, q, S, M, H, G⟩ := V
  have i0 : ¬ ((0 : Int32) < 0 ∨ cl.slots.size ≤ (0 : Int32).toNatClampNeg) := inb_of S (by decide)
  have i1 : ¬ ((1 : Int32) < 0 ∨ cl.slots.size ≤ (1 : Int32).toNatClampNeg) := inb_of S (by decide)
  have i2 : ¬ ((2 : Int32) < 0 ∨ cl.slots.size ≤ (2 : Int32).toNatClampNeg) := inb_of S (by decide)
  exact ⟨cl, A, S, ⟨i0, H.at i0 rfl⟩, ⟨i1, H.at i1 rfl⟩, ⟨i2, H.at i2 rfl⟩⟩
section
variable {p : Program} {l : Launch} {e : Env} {R : Room} {s : State} {m : MethodId} {args : Array Value} {below : List Frame} {meth : Method} {c : Code} {T : State} {locs : List Loc} {cells slots : Nat} {Z : State} {h : Heap} {n0 : Nat} {a : Addr} {k : ClassId} {vs : List Value} {d : Value}
theorem own_st (X : Stand p l e R s m args below meth c T locs cells slots) (hx : p.tables.exec = Jvm.exec) (hZ : Z.Warmed39 s.vm) (eT : T.heap = h) (V : Arv Z h a k .long (3 : Int32) vs d) (g_a : n0 ≤ a) (N : Fr n0 locs) {j : Int32} (i : Nat) (hji : j.toNatClampNeg = i) (hj : ¬ j < 0 ∧ j < 3) (hi : i < vs.length) {v : Int64} {pc : Nat} {Ls : Array Slot} {rest : List Value} (hd : decode c.code pc = .ok (.lastore, 1)) :
    ∃ (T' : State) (h' : Heap) (locs' : List Loc), Stand p l e R s m args below meth c T' locs' cells slots ∧ T'.heap = h' ∧ Arv Z h' a k .long (3 : Int32) (vs.set i (.long v)) d ∧ Keep h h' [a] ∧ Fr n0 locs' ∧ (∀ (b : Addr) (kb : ClassId) (vb : List Value) (db : Value), b ≠ a → Arv Z h b kb .long (3 : Int32) vb db → Arv Z h' b kb .long (3 : Int32) vb db) ∧
      ∀ target, Steps p.tables e below (T'.setTop (mkF m (pc + 1) Ls rest)) target → Steps p.tables e below (T.setTop (mkF m pc Ls (.long v :: .int j :: .ref a :: rest))) target := by
  obtain ⟨cl, A, q, S, M, H, G⟩ := id V
  have hin := inb_of S hj
  obtain ⟨T', h', X', e', W, st⟩ := stJ X hx hZ eT A (j := j) (x := v) hin (g := mkF m pc Ls (.long v :: .int j :: .ref a :: rest)) rfl rfl hd
  exact ⟨T', h', _, X', e', Arv.set A q S M H G rfl W i hji hi, Keep.of_wr W, Fr.snoc X' N g_a, fun b kb vb db hb Vb => Vb.other W hb, st⟩
theorem own_newA {a0 : Array Value} (X : Stand p l e R s m args below meth c T locs cells slots) (hx : p.tables.exec = Jvm.exec) (hZ : Z.Warmed39 s.vm) (w : (Jvm.Cond.arrayClass .long).before a0 Z = true) (eT : T.heap = h) {pc : Nat} {Ls : Array Slot} {rest : List Value} (hd : decode c.code pc = .ok (.newarray .long, 2)) (hc : cells + 1 ≤ R.cells) (hl : slots + 3 ≤ R.slots) :
    ∃ (T' : State) (h' : Heap) (k : ClassId) (b : Addr), b = h.size ∧ Stand p l e R s m args below meth c T' locs (cells + 1) (slots + 3) ∧ T'.heap = h' ∧ Ext h h' ∧ Arv Z h' b k .long (3 : Int32) [.long (0 : Int64), .long (0 : Int64), .long (0 : Int64)] (.long (0 : Int64)) ∧
      ∀ target, Steps p.tables e below (T'.setTop (mkF m (pc + 2) Ls (.ref b :: rest))) target → Steps p.tables e below (T.setTop (mkF m pc Ls (.int (3 : Int32) :: rest))) target := by
  obtain ⟨T', h', k, X', e', E, A, st⟩ := newP X hx hZ (aty := .long) w eT (g := mkF m pc Ls (.int (3 : Int32) :: rest)) rfl hd rfl (by decide) (cap := 3) (by decide) (by decide) hc hl
  have V : Arv Z h' h.size k .long (3 : Int32) [.long (0 : Int64), .long (0 : Int64), .long (0 : Int64)] (.long (0 : Int64)) := (Arv.new A (by decide)).pad (pad_rep [] (.long (0 : Int64)) 3)
  exact ⟨T', h', k, h.size, rfl, X', e', E, V, st⟩
end

theorem d1_0 : decode method_3_code 0 = .ok (.lload 4, 2) := by decide +kernel
theorem d1_2 : decode method_3_code 2 = .ok (.lload 10, 2) := by decide +kernel
theorem d1_4 : decode method_3_code 4 = .ok (.lcmp, 1) := by decide +kernel
theorem d1_5 : decode method_3_code 5 = .ok (.ifCond .eq 11, 3) := by decide +kernel
theorem d1_8 : decode method_3_code 8 = .ok (.lload 4, 2) := by decide +kernel
theorem d1_10 : decode method_3_code 10 = .ok (.lload 10, 2) := by decide +kernel
theorem d1_12 : decode method_3_code 12 = .ok (.invokestatic 11, 3) := by decide +kernel
theorem d1_15 : decode method_3_code 15 = .ok (.ireturn, 1) := by decide +kernel
theorem d1_16 : decode method_3_code 16 = .ok (.lload_n 2, 1) := by decide +kernel
theorem d1_17 : decode method_3_code 17 = .ok (.lload 8, 2) := by decide +kernel
theorem d1_19 : decode method_3_code 19 = .ok (.lcmp, 1) := by decide +kernel
theorem d1_20 : decode method_3_code 20 = .ok (.ifCond .eq 10, 3) := by decide +kernel
theorem d1_23 : decode method_3_code 23 = .ok (.lload_n 2, 1) := by decide +kernel
theorem d1_24 : decode method_3_code 24 = .ok (.lload 8, 2) := by decide +kernel
theorem d1_26 : decode method_3_code 26 = .ok (.invokestatic 11, 3) := by decide +kernel
theorem d1_29 : decode method_3_code 29 = .ok (.ireturn, 1) := by decide +kernel
theorem d1_30 : decode method_3_code 30 = .ok (.lload_n 0, 1) := by decide +kernel
theorem d1_31 : decode method_3_code 31 = .ok (.lload 6, 2) := by decide +kernel
theorem d1_33 : decode method_3_code 33 = .ok (.invokestatic 11, 3) := by decide +kernel
theorem d1_36 : decode method_3_code 36 = .ok (.ireturn, 1) := by decide +kernel
theorem d2_0 : decode method_2_code 0 = .ok (.lload_n 0, 1) := by decide +kernel
theorem d2_1 : decode method_2_code 1 = .ok (.ldc2_w 9, 3) := by decide +kernel
theorem d2_4 : decode method_2_code 4 = .ok (.lxor, 1) := by decide +kernel
theorem d2_5 : decode method_2_code 5 = .ok (.lload_n 2, 1) := by decide +kernel
theorem d2_6 : decode method_2_code 6 = .ok (.ldc2_w 9, 3) := by decide +kernel
theorem d2_9 : decode method_2_code 9 = .ok (.lxor, 1) := by decide +kernel
theorem d2_10 : decode method_2_code 10 = .ok (.lcmp, 1) := by decide +kernel
theorem d2_11 : decode method_2_code 11 = .ok (.ifCond .ge 7, 3) := by decide +kernel
theorem d2_14 : decode method_2_code 14 = .ok (.iconst 1, 1) := by decide +kernel
theorem d2_15 : decode method_2_code 15 = .ok (.goto 4, 3) := by decide +kernel
theorem d2_18 : decode method_2_code 18 = .ok (.iconst 0, 1) := by decide +kernel
theorem d2_19 : decode method_2_code 19 = .ok (.ireturn, 1) := by decide +kernel
theorem d3_0 : decode prog_35_method_5_code 0 = .ok (.lconst 0, 1) := by decide +kernel
theorem d3_1 : decode prog_35_method_5_code 1 = .ok (.lstore_n 3, 1) := by decide +kernel
theorem d3_2 : decode prog_35_method_5_code 2 = .ok (.iconst 0, 1) := by decide +kernel
theorem d3_3 : decode prog_35_method_5_code 3 = .ok (.istore 5, 2) := by decide +kernel
theorem d3_5 : decode prog_35_method_5_code 5 = .ok (.iload 5, 2) := by decide +kernel
theorem d3_7 : decode prog_35_method_5_code 7 = .ok (.aload_n 0, 1) := by decide +kernel
theorem d3_8 : decode prog_35_method_5_code 8 = .ok (.arraylength, 1) := by decide +kernel
theorem d3_9 : decode prog_35_method_5_code 9 = .ok (.if_icmp .ge 76, 3) := by decide +kernel
theorem d3_12 : decode prog_35_method_5_code 12 = .ok (.iload 5, 2) := by decide +kernel
theorem d3_14 : decode prog_35_method_5_code 14 = .ok (.iload_n 2, 1) := by decide +kernel
theorem d3_15 : decode prog_35_method_5_code 15 = .ok (.if_icmp .ge 10, 3) := by decide +kernel
theorem d3_18 : decode prog_35_method_5_code 18 = .ok (.aload_n 1, 1) := by decide +kernel
theorem d3_19 : decode prog_35_method_5_code 19 = .ok (.iload 5, 2) := by decide +kernel
theorem d3_21 : decode prog_35_method_5_code 21 = .ok (.laload, 1) := by decide +kernel
theorem d3_22 : decode prog_35_method_5_code 22 = .ok (.goto 4, 3) := by decide +kernel
theorem d3_25 : decode prog_35_method_5_code 25 = .ok (.lconst 0, 1) := by decide +kernel
theorem d3_26 : decode prog_35_method_5_code 26 = .ok (.lstore 6, 2) := by decide +kernel
theorem d3_28 : decode prog_35_method_5_code 28 = .ok (.aload_n 0, 1) := by decide +kernel
theorem d3_29 : decode prog_35_method_5_code 29 = .ok (.iload 5, 2) := by decide +kernel
theorem d3_31 : decode prog_35_method_5_code 31 = .ok (.laload, 1) := by decide +kernel
theorem d3_32 : decode prog_35_method_5_code 32 = .ok (.lload 6, 2) := by decide +kernel
theorem d3_34 : decode prog_35_method_5_code 34 = .ok (.lsub, 1) := by decide +kernel
theorem d3_35 : decode prog_35_method_5_code 35 = .ok (.lload_n 3, 1) := by decide +kernel
theorem d3_36 : decode prog_35_method_5_code 36 = .ok (.lsub, 1) := by decide +kernel
theorem d3_37 : decode prog_35_method_5_code 37 = .ok (.lstore 8, 2) := by decide +kernel
theorem d3_39 : decode prog_35_method_5_code 39 = .ok (.aload_n 0, 1) := by decide +kernel
theorem d3_40 : decode prog_35_method_5_code 40 = .ok (.iload 5, 2) := by decide +kernel
theorem d3_42 : decode prog_35_method_5_code 42 = .ok (.laload, 1) := by decide +kernel
theorem d3_43 : decode prog_35_method_5_code 43 = .ok (.lload 6, 2) := by decide +kernel
theorem d3_45 : decode prog_35_method_5_code 45 = .ok (.invokestatic 56, 3) := by decide +kernel
theorem d3_48 : decode prog_35_method_5_code 48 = .ok (.ifCond .lt 19, 3) := by decide +kernel
theorem d3_51 : decode prog_35_method_5_code 51 = .ok (.aload_n 0, 1) := by decide +kernel
theorem d3_52 : decode prog_35_method_5_code 52 = .ok (.iload 5, 2) := by decide +kernel
theorem d3_54 : decode prog_35_method_5_code 54 = .ok (.laload, 1) := by decide +kernel
theorem d3_55 : decode prog_35_method_5_code 55 = .ok (.lload 6, 2) := by decide +kernel
theorem d3_57 : decode prog_35_method_5_code 57 = .ok (.lcmp, 1) := by decide +kernel
theorem d3_58 : decode prog_35_method_5_code 58 = .ok (.ifCond .ne 13, 3) := by decide +kernel
theorem d3_61 : decode prog_35_method_5_code 61 = .ok (.lload_n 3, 1) := by decide +kernel
theorem d3_62 : decode prog_35_method_5_code 62 = .ok (.lconst 0, 1) := by decide +kernel
theorem d3_63 : decode prog_35_method_5_code 63 = .ok (.lcmp, 1) := by decide +kernel
theorem d3_64 : decode prog_35_method_5_code 64 = .ok (.ifCond .eq 7, 3) := by decide +kernel
theorem d3_67 : decode prog_35_method_5_code 67 = .ok (.lconst 1, 1) := by decide +kernel
theorem d3_68 : decode prog_35_method_5_code 68 = .ok (.goto 4, 3) := by decide +kernel
theorem d3_71 : decode prog_35_method_5_code 71 = .ok (.lconst 0, 1) := by decide +kernel
theorem d3_72 : decode prog_35_method_5_code 72 = .ok (.lstore_n 3, 1) := by decide +kernel
theorem d3_73 : decode prog_35_method_5_code 73 = .ok (.aload_n 1, 1) := by decide +kernel
theorem d3_74 : decode prog_35_method_5_code 74 = .ok (.iload 5, 2) := by decide +kernel
theorem d3_76 : decode prog_35_method_5_code 76 = .ok (.lload 8, 2) := by decide +kernel
theorem d3_78 : decode prog_35_method_5_code 78 = .ok (.lastore, 1) := by decide +kernel
theorem d3_79 : decode prog_35_method_5_code 79 = .ok (.iinc 5 1, 3) := by decide +kernel
theorem d3_82 : decode prog_35_method_5_code 82 = .ok (.goto (-77), 3) := by decide +kernel
theorem d3_85 : decode prog_35_method_5_code 85 = .ok (.aload_n 1, 1) := by decide +kernel
theorem d3_86 : decode prog_35_method_5_code 86 = .ok (.aload_n 0, 1) := by decide +kernel
theorem d3_87 : decode prog_35_method_5_code 87 = .ok (.arraylength, 1) := by decide +kernel
theorem d3_88 : decode prog_35_method_5_code 88 = .ok (.invokestatic 60, 3) := by decide +kernel
theorem d3_91 : decode prog_35_method_5_code 91 = .ok (.ireturn, 1) := by decide +kernel
theorem d4_0 : decode jdk_35_method_43_code 0 = .ok (.lload_n 0, 1) := by decide +kernel
theorem d4_1 : decode jdk_35_method_43_code 1 = .ok (.ldc2_w 168, 3) := by decide +kernel
theorem d4_4 : decode jdk_35_method_43_code 4 = .ok (.ladd, 1) := by decide +kernel
theorem d4_5 : decode jdk_35_method_43_code 5 = .ok (.lload_n 2, 1) := by decide +kernel
theorem d4_6 : decode jdk_35_method_43_code 6 = .ok (.ldc2_w 168, 3) := by decide +kernel
theorem d4_9 : decode jdk_35_method_43_code 9 = .ok (.ladd, 1) := by decide +kernel
theorem d4_10 : decode jdk_35_method_43_code 10 = .ok (.invokestatic 302, 3) := by decide +kernel
theorem d4_13 : decode jdk_35_method_43_code 13 = .ok (.ireturn, 1) := by decide +kernel
theorem d5_0 : decode jdk_35_method_42_code 0 = .ok (.lload_n 0, 1) := by decide +kernel
theorem d5_1 : decode jdk_35_method_42_code 1 = .ok (.lload_n 2, 1) := by decide +kernel
theorem d5_2 : decode jdk_35_method_42_code 2 = .ok (.lcmp, 1) := by decide +kernel
theorem d5_3 : decode jdk_35_method_42_code 3 = .ok (.ifCond .ge 7, 3) := by decide +kernel
theorem d5_6 : decode jdk_35_method_42_code 6 = .ok (.iconst (-1), 1) := by decide +kernel
theorem d5_7 : decode jdk_35_method_42_code 7 = .ok (.goto 14, 3) := by decide +kernel
theorem d5_10 : decode jdk_35_method_42_code 10 = .ok (.lload_n 0, 1) := by decide +kernel
theorem d5_11 : decode jdk_35_method_42_code 11 = .ok (.lload_n 2, 1) := by decide +kernel
theorem d5_12 : decode jdk_35_method_42_code 12 = .ok (.lcmp, 1) := by decide +kernel
theorem d5_13 : decode jdk_35_method_42_code 13 = .ok (.ifCond .ne 7, 3) := by decide +kernel
theorem d5_16 : decode jdk_35_method_42_code 16 = .ok (.iconst 0, 1) := by decide +kernel
theorem d5_17 : decode jdk_35_method_42_code 17 = .ok (.goto 4, 3) := by decide +kernel
theorem d5_20 : decode jdk_35_method_42_code 20 = .ok (.iconst 1, 1) := by decide +kernel
theorem d5_21 : decode jdk_35_method_42_code 21 = .ok (.ireturn, 1) := by decide +kernel
theorem d6_0 : decode prog_35_method_7_code 0 = .ok (.iload_n 1, 1) := by decide +kernel
theorem d6_1 : decode prog_35_method_7_code 1 = .ok (.istore_n 2, 1) := by decide +kernel
theorem d6_2 : decode prog_35_method_7_code 2 = .ok (.iload_n 2, 1) := by decide +kernel
theorem d6_3 : decode prog_35_method_7_code 3 = .ok (.ifCond .le 19, 3) := by decide +kernel
theorem d6_6 : decode prog_35_method_7_code 6 = .ok (.aload_n 0, 1) := by decide +kernel
theorem d6_7 : decode prog_35_method_7_code 7 = .ok (.iload_n 2, 1) := by decide +kernel
theorem d6_8 : decode prog_35_method_7_code 8 = .ok (.iconst 1, 1) := by decide +kernel
theorem d6_9 : decode prog_35_method_7_code 9 = .ok (.isub, 1) := by decide +kernel
theorem d6_10 : decode prog_35_method_7_code 10 = .ok (.laload, 1) := by decide +kernel
theorem d6_11 : decode prog_35_method_7_code 11 = .ok (.lconst 0, 1) := by decide +kernel
theorem d6_12 : decode prog_35_method_7_code 12 = .ok (.lcmp, 1) := by decide +kernel
theorem d6_13 : decode prog_35_method_7_code 13 = .ok (.ifCond .ne 9, 3) := by decide +kernel
theorem d6_16 : decode prog_35_method_7_code 16 = .ok (.iinc 2 (-1), 3) := by decide +kernel
theorem d6_19 : decode prog_35_method_7_code 19 = .ok (.goto (-17), 3) := by decide +kernel
theorem d6_22 : decode prog_35_method_7_code 22 = .ok (.iload_n 2, 1) := by decide +kernel
theorem d6_23 : decode prog_35_method_7_code 23 = .ok (.ireturn, 1) := by decide +kernel
theorem pn_2 : plainName "ringfold/modular/WordsSubtractFromPinLaw" = true := by first | (simp [plainName, overriddenIn]; done) | decide +kernel
theorem ef_2 (m : MethodId) (x0 : Int64) (x1 : Int64) : entryFrame m #[(.long x0), (.long x1)] 4 = mkF m 0 #[.val (.long x0), .second, .val (.long x1), .second] [] := by first | (simp [entryFrame, mkF, argsToLocals, Value.category]; done) | rfl

def Q2 (Z : State) (q1 : Int64) (q2 : Int64) (h0 : Heap) (n0 : Nat) (v : Option Value) (h : Heap) (L : List Loc) : Prop := v = some (.int (pLt q1 q2)) ∧ Fr n0 L ∧ h = h0
set_option maxRecDepth 65536 in
set_option maxHeartbeats 40000000 in
theorem rm2_t (l : Launch) (Z : State) (a0 : Array Value) (hw : ∀ d ∈ tables_1, d.before a0 Z = true) (ws : List Jvm.Cond) (q1 : Int64) (q2 : Int64) (h0 : Heap) (n0 : Nat) (Z0 : n0 ≤ h0.size) (hc11 : ¬ ((lcmpW (q1 ^^^ (-9223372036854775808 : Int64)) (q2 ^^^ (-9223372036854775808 : Int64))) < (0 : Int32))) :
    MetFree l (⟨"ringfold/modular/WordsSubtractFromPinLaw", "ltU", "(JJ)Z"⟩ : MethodName) (head1 (Jvm.Cond.code (⟨"ringfold/modular/WordsSubtractFromPinLaw", "ltU", "(JJ)Z"⟩ : MethodName) method_2_code 4 (some .boolean) :: ws) ({ frames := 0, cells := 0, slots := 0, locals := 0 } : Room)) (fun a U => a = #[(.long q1), (.long q2)] ∧ Z.Warmed39 U.vm ∧ U.heap = h0) (fun _ _ _ _ _ => True) (fun _ U o U' => ∃ v L, o = .returned v ∧ Q2 Z q1 q2 h0 n0 v U'.heap L ∧ FrameEnd U o U' L ({ frames := 0, cells := 0, slots := 0, locals := 0 } : Room).cells ({ frames := 0, cells := 0, slots := 0, locals := 0 } : Room).slots) := by
  refine MetFree.of_bodySF (plainFor_of_name pn_2) hisR ?_
  intro p e s m args below meth c s₁ Bd hml0 hP hK
  obtain ⟨rfl, hZ, hh⟩ := hP
  have hx := Bd.exec
  have hby := Bd.bytes
  have hml : c.maxLocals = 4 := hml0
  have hown : s.vm.findClass "ringfold/modular/WordsSubtractFromPinLaw" = some m.cls := findClass_of_methodNamed Bd.named
  have hnm := (name_of_methodNamed Bd.named Bd.method).1
  have X0 : Stand p l e ({ frames := 0, cells := 0, slots := 0, locals := 0 } : Room) s m #[(.long q1), (.long q2)] below meth c s₁ [] 0 0 := Stand.of_body Bd
  have e0 : s₁.heap = h0 := by rw [← hh, Bd.state]; rfl
  have N0 := Fr.nil n0
  have pre0 : ∀ t, Steps p.tables e below (s₁.setTop (mkF m 0 #[.val (.long q1), .second, .val (.long q2), .second] [])) t → Steps p.tables e below (s₁.setTop (entryFrame m #[(.long q1), (.long q2)] 4)) t := fun t k => castTop (ef_2 m q1 q2) k

  obtain ⟨fs, hr, hrun, hended, hW, hsame⟩ := X0.leave (v := some (.int (0 : Int32))) (fun h => by rw [Bd.returns] at h; cases h)
  refine ⟨_, _, pre0 _ ?_, hrun, hended, _, _, rfl, ?_, ⟨_, rfl⟩, hW, hsame.mono (by decide) (by decide)⟩
  · show Steps p.tables e below (s₁.setTop (mkF m 0 #[.val (.long q1), .second, .val (.long q2), .second] [])) _
    refine XS.lloadN X0.here hx rfl (hb hby d2_0) rfl ?_
    show Steps p.tables e below (s₁.setTop (mkF m 1 #[.val (.long q1), .second, .val (.long q2), .second] [(.long q1)])) _
    refine X0.ldc2Long hx hown (mvT hZ (hw _ (List.mem_of_getElem? (i := 9) rfl))) (g := (mkF m 1 #[.val (.long q1), .second, .val (.long q2), .second] [(.long q1)])) rfl (hb hby d2_1) _ ?_
    show Steps p.tables e below (s₁.setTop (mkF m 4 #[.val (.long q1), .second, .val (.long q2), .second] [(.long (-9223372036854775808 : Int64)), (.long q1)])) _
    refine XS.lxor X0.here hx rfl (hb hby d2_4) rfl ?_
    show Steps p.tables e below (s₁.setTop (mkF m 5 #[.val (.long q1), .second, .val (.long q2), .second] [(.long (q1 ^^^ (-9223372036854775808 : Int64)))])) _
    refine XS.lloadN X0.here hx rfl (hb hby d2_5) rfl ?_
    show Steps p.tables e below (s₁.setTop (mkF m 6 #[.val (.long q1), .second, .val (.long q2), .second] [(.long q2), (.long (q1 ^^^ (-9223372036854775808 : Int64)))])) _
    refine X0.ldc2Long hx hown (mvT hZ (hw _ (List.mem_of_getElem? (i := 9) rfl))) (g := (mkF m 6 #[.val (.long q1), .second, .val (.long q2), .second] [(.long q2), (.long (q1 ^^^ (-9223372036854775808 : Int64)))])) rfl (hb hby d2_6) _ ?_
    show Steps p.tables e below (s₁.setTop (mkF m 9 #[.val (.long q1), .second, .val (.long q2), .second] [(.long (-9223372036854775808 : Int64)), (.long q2), (.long (q1 ^^^ (-9223372036854775808 : Int64)))])) _
    refine XS.lxor X0.here hx rfl (hb hby d2_9) rfl ?_
    show Steps p.tables e below (s₁.setTop (mkF m 10 #[.val (.long q1), .second, .val (.long q2), .second] [(.long (q2 ^^^ (-9223372036854775808 : Int64))), (.long (q1 ^^^ (-9223372036854775808 : Int64)))])) _
    refine XS.lcmp X0.here hx rfl (hb hby d2_10) rfl ?_
    show Steps p.tables e below (s₁.setTop (mkF m 11 #[.val (.long q1), .second, .val (.long q2), .second] [(.int (lcmpW (q1 ^^^ (-9223372036854775808 : Int64)) (q2 ^^^ (-9223372036854775808 : Int64))))])) _
    refine XS.ifYes X0.here hx rfl (pc0 := 11) (pc' := 18) rfl (hb hby d2_11) rfl ((if0 _ _).trans (flt hc11).2.1) (by decide) (by decide) ?_
    show Steps p.tables e below (s₁.setTop (mkF m 18 #[.val (.long q1), .second, .val (.long q2), .second] [])) _
    refine XS.iconst X0.here hx rfl (hb hby d2_18) ?_
    show Steps p.tables e below (s₁.setTop (mkF m 19 #[.val (.long q1), .second, .val (.long q2), .second] [(.int (0 : Int32))])) _
    exact retN X0 hx (t := .boolean) Bd.returns (by simp) (hb hby d2_19) hr
  · show Q2 Z q1 q2 h0 n0 _ s₁.heap _
    rw [e0]
    exact ⟨by simp [pLt, hc11], N0, rfl⟩

set_option maxRecDepth 65536 in
set_option maxHeartbeats 40000000 in
theorem rm2_f (l : Launch) (Z : State) (a0 : Array Value) (hw : ∀ d ∈ tables_1, d.before a0 Z = true) (ws : List Jvm.Cond) (q1 : Int64) (q2 : Int64) (h0 : Heap) (n0 : Nat) (Z0 : n0 ≤ h0.size) (hc11 : (lcmpW (q1 ^^^ (-9223372036854775808 : Int64)) (q2 ^^^ (-9223372036854775808 : Int64))) < (0 : Int32)) :
    MetFree l (⟨"ringfold/modular/WordsSubtractFromPinLaw", "ltU", "(JJ)Z"⟩ : MethodName) (head1 (Jvm.Cond.code (⟨"ringfold/modular/WordsSubtractFromPinLaw", "ltU", "(JJ)Z"⟩ : MethodName) method_2_code 4 (some .boolean) :: ws) ({ frames := 0, cells := 0, slots := 0, locals := 0 } : Room)) (fun a U => a = #[(.long q1), (.long q2)] ∧ Z.Warmed39 U.vm ∧ U.heap = h0) (fun _ _ _ _ _ => True) (fun _ U o U' => ∃ v L, o = .returned v ∧ Q2 Z q1 q2 h0 n0 v U'.heap L ∧ FrameEnd U o U' L ({ frames := 0, cells := 0, slots := 0, locals := 0 } : Room).cells ({ frames := 0, cells := 0, slots := 0, locals := 0 } : Room).slots) := by
  refine MetFree.of_bodySF (plainFor_of_name pn_2) hisR ?_
  intro p e s m args below meth c s₁ Bd hml0 hP hK
  obtain ⟨rfl, hZ, hh⟩ := hP
  have hx := Bd.exec
  have hby := Bd.bytes
  have hml : c.maxLocals = 4 := hml0
  have hown : s.vm.findClass "ringfold/modular/WordsSubtractFromPinLaw" = some m.cls := findClass_of_methodNamed Bd.named
  have hnm := (name_of_methodNamed Bd.named Bd.method).1
  have X0 : Stand p l e ({ frames := 0, cells := 0, slots := 0, locals := 0 } : Room) s m #[(.long q1), (.long q2)] below meth c s₁ [] 0 0 := Stand.of_body Bd
  have e0 : s₁.heap = h0 := by rw [← hh, Bd.state]; rfl
  have N0 := Fr.nil n0
  have pre0 : ∀ t, Steps p.tables e below (s₁.setTop (mkF m 0 #[.val (.long q1), .second, .val (.long q2), .second] [])) t → Steps p.tables e below (s₁.setTop (entryFrame m #[(.long q1), (.long q2)] 4)) t := fun t k => castTop (ef_2 m q1 q2) k

  obtain ⟨fs, hr, hrun, hended, hW, hsame⟩ := X0.leave (v := some (.int (1 : Int32))) (fun h => by rw [Bd.returns] at h; cases h)
  refine ⟨_, _, pre0 _ ?_, hrun, hended, _, _, rfl, ?_, ⟨_, rfl⟩, hW, hsame.mono (by decide) (by decide)⟩
  · show Steps p.tables e below (s₁.setTop (mkF m 0 #[.val (.long q1), .second, .val (.long q2), .second] [])) _
    refine XS.lloadN X0.here hx rfl (hb hby d2_0) rfl ?_
    show Steps p.tables e below (s₁.setTop (mkF m 1 #[.val (.long q1), .second, .val (.long q2), .second] [(.long q1)])) _
    refine X0.ldc2Long hx hown (mvT hZ (hw _ (List.mem_of_getElem? (i := 9) rfl))) (g := (mkF m 1 #[.val (.long q1), .second, .val (.long q2), .second] [(.long q1)])) rfl (hb hby d2_1) _ ?_
    show Steps p.tables e below (s₁.setTop (mkF m 4 #[.val (.long q1), .second, .val (.long q2), .second] [(.long (-9223372036854775808 : Int64)), (.long q1)])) _
    refine XS.lxor X0.here hx rfl (hb hby d2_4) rfl ?_
    show Steps p.tables e below (s₁.setTop (mkF m 5 #[.val (.long q1), .second, .val (.long q2), .second] [(.long (q1 ^^^ (-9223372036854775808 : Int64)))])) _
    refine XS.lloadN X0.here hx rfl (hb hby d2_5) rfl ?_
    show Steps p.tables e below (s₁.setTop (mkF m 6 #[.val (.long q1), .second, .val (.long q2), .second] [(.long q2), (.long (q1 ^^^ (-9223372036854775808 : Int64)))])) _
    refine X0.ldc2Long hx hown (mvT hZ (hw _ (List.mem_of_getElem? (i := 9) rfl))) (g := (mkF m 6 #[.val (.long q1), .second, .val (.long q2), .second] [(.long q2), (.long (q1 ^^^ (-9223372036854775808 : Int64)))])) rfl (hb hby d2_6) _ ?_
    show Steps p.tables e below (s₁.setTop (mkF m 9 #[.val (.long q1), .second, .val (.long q2), .second] [(.long (-9223372036854775808 : Int64)), (.long q2), (.long (q1 ^^^ (-9223372036854775808 : Int64)))])) _
    refine XS.lxor X0.here hx rfl (hb hby d2_9) rfl ?_
    show Steps p.tables e below (s₁.setTop (mkF m 10 #[.val (.long q1), .second, .val (.long q2), .second] [(.long (q2 ^^^ (-9223372036854775808 : Int64))), (.long (q1 ^^^ (-9223372036854775808 : Int64)))])) _
    refine XS.lcmp X0.here hx rfl (hb hby d2_10) rfl ?_
    show Steps p.tables e below (s₁.setTop (mkF m 11 #[.val (.long q1), .second, .val (.long q2), .second] [(.int (lcmpW (q1 ^^^ (-9223372036854775808 : Int64)) (q2 ^^^ (-9223372036854775808 : Int64))))])) _
    refine XS.ifNo X0.here hx rfl (hb hby d2_11) rfl ((if0 _ _).trans (tlt hc11).2.1) ?_
    show Steps p.tables e below (s₁.setTop (mkF m 14 #[.val (.long q1), .second, .val (.long q2), .second] [])) _
    refine XS.iconst X0.here hx rfl (hb hby d2_14) ?_
    show Steps p.tables e below (s₁.setTop (mkF m 15 #[.val (.long q1), .second, .val (.long q2), .second] [(.int (1 : Int32))])) _
    refine XS.goto X0.here hx rfl (pc0 := 15) (pc' := 19) rfl (hb hby d2_15) (by decide) (by decide) ?_
    show Steps p.tables e below (s₁.setTop (mkF m 19 #[.val (.long q1), .second, .val (.long q2), .second] [(.int (1 : Int32))])) _
    exact retN X0 hx (t := .boolean) Bd.returns (by simp) (hb hby d2_19) hr
  · show Q2 Z q1 q2 h0 n0 _ s₁.heap _
    rw [e0]
    exact ⟨by simp [pLt, hc11], N0, rfl⟩

theorem rm2 (l : Launch) (Z : State) (a0 : Array Value) (hw : ∀ d ∈ tables_1, d.before a0 Z = true) (ws : List Jvm.Cond) (q1 : Int64) (q2 : Int64) (h0 : Heap) (n0 : Nat) (Z0 : n0 ≤ h0.size) :
    MetFree l (⟨"ringfold/modular/WordsSubtractFromPinLaw", "ltU", "(JJ)Z"⟩ : MethodName) (head1 (Jvm.Cond.code (⟨"ringfold/modular/WordsSubtractFromPinLaw", "ltU", "(JJ)Z"⟩ : MethodName) method_2_code 4 (some .boolean) :: ws) ({ frames := 0, cells := 0, slots := 0, locals := 0 } : Room)) (fun a U => a = #[(.long q1), (.long q2)] ∧ Z.Warmed39 U.vm ∧ U.heap = h0) (fun _ _ _ _ _ => True) (fun _ U o U' => ∃ v L, o = .returned v ∧ Q2 Z q1 q2 h0 n0 v U'.heap L ∧ FrameEnd U o U' L ({ frames := 0, cells := 0, slots := 0, locals := 0 } : Room).cells ({ frames := 0, cells := 0, slots := 0, locals := 0 } : Room).slots) := by
  by_cases h : lcmpW (q1 ^^^ (-9223372036854775808 : Int64)) (q2 ^^^ (-9223372036854775808 : Int64)) < 0
  · exact rm2_f l Z a0 hw ws q1 q2 h0 n0 Z0 h
  · exact rm2_t l Z a0 hw ws q1 q2 h0 n0 Z0 h

theorem pn_1 : plainName "ringfold/modular/WordsSubtractFromPinLaw" = true := by first | (simp [plainName, overriddenIn]; done) | decide +kernel
theorem pd_1_1 : parseMethodDescriptor "(JJ)Z" = some ⟨[.long, .long], some .boolean⟩ := by decide +kernel
theorem ef_1 (m : MethodId) (x0 : Int64) (x1 : Int64) (x2 : Int64) (x3 : Int64) (x4 : Int64) (x5 : Int64) : entryFrame m #[(.long x0), (.long x1), (.long x2), (.long x3), (.long x4), (.long x5)] 12 = mkF m 0 #[.val (.long x0), .second, .val (.long x1), .second, .val (.long x2), .second, .val (.long x3), .second, .val (.long x4), .second, .val (.long x5), .second] [] := by first | (simp [entryFrame, mkF, argsToLocals, Value.category]; done) | rfl

def Q1 (Z : State) (q1 : Int64) (q2 : Int64) (q3 : Int64) (q4 : Int64) (q5 : Int64) (q6 : Int64) (h0 : Heap) (n0 : Nat) (v : Option Value) (h : Heap) (L : List Loc) : Prop := v = some (.int (pLess q1 q2 q3 q4 q5 q6)) ∧ Fr n0 L ∧ h = h0
set_option maxRecDepth 65536 in
set_option maxHeartbeats 40000000 in
theorem rm1_f (l : Launch) (Z : State) (a0 : Array Value) (hw : ∀ d ∈ tables_1, d.before a0 Z = true) (ws : List Jvm.Cond) (q1 : Int64) (q2 : Int64) (q3 : Int64) (q4 : Int64) (q5 : Int64) (q6 : Int64) (h0 : Heap) (n0 : Nat) (Z0 : n0 ≤ h0.size) (hc5 : ¬ ((lcmpW q3 q6) = (0 : Int32))) :
    MetFree l (⟨"ringfold/modular/WordsSubtractFromPinLaw", "less3", "(JJJJJJ)Z"⟩ : MethodName) (head1 (Jvm.Cond.code (⟨"ringfold/modular/WordsSubtractFromPinLaw", "less3", "(JJJJJJ)Z"⟩ : MethodName) method_3_code 12 (some .boolean) :: ws) ({ frames := 1, cells := 0, slots := 0, locals := 15 } : Room)) (fun a U => a = #[(.long q1), (.long q2), (.long q3), (.long q4), (.long q5), (.long q6)] ∧ Z.Warmed39 U.vm ∧ U.heap = h0) (fun _ _ _ _ _ => True) (fun _ U o U' => ∃ v L, o = .returned v ∧ Q1 Z q1 q2 q3 q4 q5 q6 h0 n0 v U'.heap L ∧ FrameEnd U o U' L ({ frames := 1, cells := 0, slots := 0, locals := 15 } : Room).cells ({ frames := 1, cells := 0, slots := 0, locals := 15 } : Room).slots) := by
  refine MetFree.of_bodySF (plainFor_of_name pn_1) hisR ?_
  intro p e s m args below meth c s₁ Bd hml0 hP hK
  obtain ⟨rfl, hZ, hh⟩ := hP
  have hx := Bd.exec
  have hby := Bd.bytes
  have hml : c.maxLocals = 12 := hml0
  have hown : s.vm.findClass "ringfold/modular/WordsSubtractFromPinLaw" = some m.cls := findClass_of_methodNamed Bd.named
  have hnm := (name_of_methodNamed Bd.named Bd.method).1
  have X0 : Stand p l e ({ frames := 1, cells := 0, slots := 0, locals := 15 } : Room) s m #[(.long q1), (.long q2), (.long q3), (.long q4), (.long q5), (.long q6)] below meth c s₁ [] 0 0 := Stand.of_body Bd
  have e0 : s₁.heap = h0 := by rw [← hh, Bd.state]; rfl
  have N0 := Fr.nil n0
  have pre0 : ∀ t, Steps p.tables e below (s₁.setTop (mkF m 0 #[.val (.long q1), .second, .val (.long q2), .second, .val (.long q3), .second, .val (.long q4), .second, .val (.long q5), .second, .val (.long q6), .second] [])) t → Steps p.tables e below (s₁.setTop (entryFrame m #[(.long q1), (.long q2), (.long q3), (.long q4), (.long q5), (.long q6)] 12)) t := fun t k => castTop (ef_1 m q1 q2 q3 q4 q5 q6) k
  obtain ⟨_, _, ⟨T7, L7, k7, n7⟩, -, X7, ⟨Lc7, hQ7, l7, y7, z7⟩, st7⟩ := Jvm.LawKit.callS X0 hx (y := (⟨"ringfold/modular/WordsSubtractFromPinLaw", "ltU", "(JJ)Z"⟩ : MethodName)) hown (mvT hZ (hw _ (List.mem_of_getElem? (i := 6) rfl))) (mvT hZ (hw _ (List.mem_of_getElem? (i := 7) rfl))) (mvT hZ (hw _ (List.mem_of_getElem? (i := 4) rfl))) (mvT hZ (hw _ (List.mem_of_getElem? (i := 8) rfl))) (by decide) (backOf (W := 0) (rm2 l Z a0 hw [] q3 q6 h0 n0 Z0) hZ (hw _ (List.mem_of_getElem? (i := 8) rfl)) (hw _ (List.mem_of_getElem? (i := 4) rfl)) (by decide) (by decide)) (g := (mkF m 12 #[.val (.long q1), .second, .val (.long q2), .second, .val (.long q3), .second, .val (.long q4), .second, .val (.long q5), .second, .val (.long q6), .second] [(.long q6), (.long q3)])) rfl (by rw [hml]; rfl) (argsL := [(.long q3), (.long q6)]) (rest := []) (lenOf pd_1_1 rfl) rfl (by show 2 * 0 + _ ≤ _; exact Nat.le_of_eq rfl) (hb hby d1_12) (fun _ _ => ⟨rfl, e0, (by decide : 0 + 0 ≤ _), (by decide : 0 + 0 ≤ _)⟩)
  dsimp only [Pt.U, Pt.locs, Pt.cells, Pt.slots] at X7 l7 y7 z7 st7 hQ7
  subst l7 y7 z7
  obtain ⟨rfl, N7q, e7q⟩ := hQ7
  have N7 := Fr.app N0 N7q
  obtain ⟨fs, hr, hrun, hended, hW, hsame⟩ := X7.leave (v := some (.int (nar .boolean (pLt q3 q6)))) (fun h => by rw [Bd.returns] at h; cases h)
  refine ⟨_, _, pre0 _ ?_, hrun, hended, _, _, rfl, ?_, ⟨_, rfl⟩, hW, hsame.mono (by decide) (by decide)⟩
  · show Steps p.tables e below (s₁.setTop (mkF m 0 #[.val (.long q1), .second, .val (.long q2), .second, .val (.long q3), .second, .val (.long q4), .second, .val (.long q5), .second, .val (.long q6), .second] [])) _
    refine XS.lload X0.here hx rfl (hb hby d1_0) rfl ?_
    show Steps p.tables e below (s₁.setTop (mkF m 2 #[.val (.long q1), .second, .val (.long q2), .second, .val (.long q3), .second, .val (.long q4), .second, .val (.long q5), .second, .val (.long q6), .second] [(.long q3)])) _
    refine XS.lload X0.here hx rfl (hb hby d1_2) rfl ?_
    show Steps p.tables e below (s₁.setTop (mkF m 4 #[.val (.long q1), .second, .val (.long q2), .second, .val (.long q3), .second, .val (.long q4), .second, .val (.long q5), .second, .val (.long q6), .second] [(.long q6), (.long q3)])) _
    refine XS.lcmp X0.here hx rfl (hb hby d1_4) rfl ?_
    show Steps p.tables e below (s₁.setTop (mkF m 5 #[.val (.long q1), .second, .val (.long q2), .second, .val (.long q3), .second, .val (.long q4), .second, .val (.long q5), .second, .val (.long q6), .second] [(.int (lcmpW q3 q6))])) _
    refine XS.ifNo X0.here hx rfl (hb hby d1_5) rfl ((if0 _ _).trans (feq hc5).1) ?_
    show Steps p.tables e below (s₁.setTop (mkF m 8 #[.val (.long q1), .second, .val (.long q2), .second, .val (.long q3), .second, .val (.long q4), .second, .val (.long q5), .second, .val (.long q6), .second] [])) _
    refine XS.lload X0.here hx rfl (hb hby d1_8) rfl ?_
    show Steps p.tables e below (s₁.setTop (mkF m 10 #[.val (.long q1), .second, .val (.long q2), .second, .val (.long q3), .second, .val (.long q4), .second, .val (.long q5), .second, .val (.long q6), .second] [(.long q3)])) _
    refine XS.lload X0.here hx rfl (hb hby d1_10) rfl ?_
    show Steps p.tables e below (s₁.setTop (mkF m 12 #[.val (.long q1), .second, .val (.long q2), .second, .val (.long q3), .second, .val (.long q4), .second, .val (.long q5), .second, .val (.long q6), .second] [(.long q6), (.long q3)])) _
    refine st7 _ ?_
    show Steps p.tables e below (T7.setTop (mkF m 15 #[.val (.long q1), .second, .val (.long q2), .second, .val (.long q3), .second, .val (.long q4), .second, .val (.long q5), .second, .val (.long q6), .second] [(.int (pLt q3 q6))])) _
    exact retN X7 hx (t := .boolean) Bd.returns (by simp) (hb hby d1_15) hr
  · show Q1 Z q1 q2 q3 q4 q5 q6 h0 n0 _ T7.heap _
    exact ⟨by rw [own_nar]; simp [pLess, hc5], N7, e7q⟩

set_option maxRecDepth 65536 in
set_option maxHeartbeats 40000000 in
theorem rm1_tf (l : Launch) (Z : State) (a0 : Array Value) (hw : ∀ d ∈ tables_1, d.before a0 Z = true) (ws : List Jvm.Cond) (q1 : Int64) (q2 : Int64) (q3 : Int64) (q4 : Int64) (q5 : Int64) (q6 : Int64) (h0 : Heap) (n0 : Nat) (Z0 : n0 ≤ h0.size) (hc5 : (lcmpW q3 q6) = (0 : Int32)) (hc20 : ¬ ((lcmpW q2 q5) = (0 : Int32))) :
    MetFree l (⟨"ringfold/modular/WordsSubtractFromPinLaw", "less3", "(JJJJJJ)Z"⟩ : MethodName) (head1 (Jvm.Cond.code (⟨"ringfold/modular/WordsSubtractFromPinLaw", "less3", "(JJJJJJ)Z"⟩ : MethodName) method_3_code 12 (some .boolean) :: ws) ({ frames := 1, cells := 0, slots := 0, locals := 15 } : Room)) (fun a U => a = #[(.long q1), (.long q2), (.long q3), (.long q4), (.long q5), (.long q6)] ∧ Z.Warmed39 U.vm ∧ U.heap = h0) (fun _ _ _ _ _ => True) (fun _ U o U' => ∃ v L, o = .returned v ∧ Q1 Z q1 q2 q3 q4 q5 q6 h0 n0 v U'.heap L ∧ FrameEnd U o U' L ({ frames := 1, cells := 0, slots := 0, locals := 15 } : Room).cells ({ frames := 1, cells := 0, slots := 0, locals := 15 } : Room).slots) := by
  refine MetFree.of_bodySF (plainFor_of_name pn_1) hisR ?_
  intro p e s m args below meth c s₁ Bd hml0 hP hK
  obtain ⟨rfl, hZ, hh⟩ := hP
  have hx := Bd.exec
  have hby := Bd.bytes
  have hml : c.maxLocals = 12 := hml0
  have hown : s.vm.findClass "ringfold/modular/WordsSubtractFromPinLaw" = some m.cls := findClass_of_methodNamed Bd.named
  have hnm := (name_of_methodNamed Bd.named Bd.method).1
  have X0 : Stand p l e ({ frames := 1, cells := 0, slots := 0, locals := 15 } : Room) s m #[(.long q1), (.long q2), (.long q3), (.long q4), (.long q5), (.long q6)] below meth c s₁ [] 0 0 := Stand.of_body Bd
  have e0 : s₁.heap = h0 := by rw [← hh, Bd.state]; rfl
  have N0 := Fr.nil n0
  have pre0 : ∀ t, Steps p.tables e below (s₁.setTop (mkF m 0 #[.val (.long q1), .second, .val (.long q2), .second, .val (.long q3), .second, .val (.long q4), .second, .val (.long q5), .second, .val (.long q6), .second] [])) t → Steps p.tables e below (s₁.setTop (entryFrame m #[(.long q1), (.long q2), (.long q3), (.long q4), (.long q5), (.long q6)] 12)) t := fun t k => castTop (ef_1 m q1 q2 q3 q4 q5 q6) k
  obtain ⟨_, _, ⟨T7, L7, k7, n7⟩, -, X7, ⟨Lc7, hQ7, l7, y7, z7⟩, st7⟩ := Jvm.LawKit.callS X0 hx (y := (⟨"ringfold/modular/WordsSubtractFromPinLaw", "ltU", "(JJ)Z"⟩ : MethodName)) hown (mvT hZ (hw _ (List.mem_of_getElem? (i := 6) rfl))) (mvT hZ (hw _ (List.mem_of_getElem? (i := 7) rfl))) (mvT hZ (hw _ (List.mem_of_getElem? (i := 4) rfl))) (mvT hZ (hw _ (List.mem_of_getElem? (i := 8) rfl))) (by decide) (backOf (W := 0) (rm2 l Z a0 hw [] q2 q5 h0 n0 Z0) hZ (hw _ (List.mem_of_getElem? (i := 8) rfl)) (hw _ (List.mem_of_getElem? (i := 4) rfl)) (by decide) (by decide)) (g := (mkF m 26 #[.val (.long q1), .second, .val (.long q2), .second, .val (.long q3), .second, .val (.long q4), .second, .val (.long q5), .second, .val (.long q6), .second] [(.long q5), (.long q2)])) rfl (by rw [hml]; rfl) (argsL := [(.long q2), (.long q5)]) (rest := []) (lenOf pd_1_1 rfl) rfl (by show 2 * 0 + _ ≤ _; exact Nat.le_of_eq rfl) (hb hby d1_26) (fun _ _ => ⟨rfl, e0, (by decide : 0 + 0 ≤ _), (by decide : 0 + 0 ≤ _)⟩)
  dsimp only [Pt.U, Pt.locs, Pt.cells, Pt.slots] at X7 l7 y7 z7 st7 hQ7
  subst l7 y7 z7
  obtain ⟨rfl, N7q, e7q⟩ := hQ7
  have N7 := Fr.app N0 N7q
  obtain ⟨fs, hr, hrun, hended, hW, hsame⟩ := X7.leave (v := some (.int (nar .boolean (pLt q2 q5)))) (fun h => by rw [Bd.returns] at h; cases h)
  refine ⟨_, _, pre0 _ ?_, hrun, hended, _, _, rfl, ?_, ⟨_, rfl⟩, hW, hsame.mono (by decide) (by decide)⟩
  · show Steps p.tables e below (s₁.setTop (mkF m 0 #[.val (.long q1), .second, .val (.long q2), .second, .val (.long q3), .second, .val (.long q4), .second, .val (.long q5), .second, .val (.long q6), .second] [])) _
    refine XS.lload X0.here hx rfl (hb hby d1_0) rfl ?_
    show Steps p.tables e below (s₁.setTop (mkF m 2 #[.val (.long q1), .second, .val (.long q2), .second, .val (.long q3), .second, .val (.long q4), .second, .val (.long q5), .second, .val (.long q6), .second] [(.long q3)])) _
    refine XS.lload X0.here hx rfl (hb hby d1_2) rfl ?_
    show Steps p.tables e below (s₁.setTop (mkF m 4 #[.val (.long q1), .second, .val (.long q2), .second, .val (.long q3), .second, .val (.long q4), .second, .val (.long q5), .second, .val (.long q6), .second] [(.long q6), (.long q3)])) _
    refine XS.lcmp X0.here hx rfl (hb hby d1_4) rfl ?_
    show Steps p.tables e below (s₁.setTop (mkF m 5 #[.val (.long q1), .second, .val (.long q2), .second, .val (.long q3), .second, .val (.long q4), .second, .val (.long q5), .second, .val (.long q6), .second] [(.int (lcmpW q3 q6))])) _
    refine XS.ifYes X0.here hx rfl (pc0 := 5) (pc' := 16) rfl (hb hby d1_5) rfl ((if0 _ _).trans (teq hc5).1) (by decide) (by decide) ?_
    show Steps p.tables e below (s₁.setTop (mkF m 16 #[.val (.long q1), .second, .val (.long q2), .second, .val (.long q3), .second, .val (.long q4), .second, .val (.long q5), .second, .val (.long q6), .second] [])) _
    refine XS.lloadN X0.here hx rfl (hb hby d1_16) rfl ?_
    show Steps p.tables e below (s₁.setTop (mkF m 17 #[.val (.long q1), .second, .val (.long q2), .second, .val (.long q3), .second, .val (.long q4), .second, .val (.long q5), .second, .val (.long q6), .second] [(.long q2)])) _
    refine XS.lload X0.here hx rfl (hb hby d1_17) rfl ?_
    show Steps p.tables e below (s₁.setTop (mkF m 19 #[.val (.long q1), .second, .val (.long q2), .second, .val (.long q3), .second, .val (.long q4), .second, .val (.long q5), .second, .val (.long q6), .second] [(.long q5), (.long q2)])) _
    refine XS.lcmp X0.here hx rfl (hb hby d1_19) rfl ?_
    show Steps p.tables e below (s₁.setTop (mkF m 20 #[.val (.long q1), .second, .val (.long q2), .second, .val (.long q3), .second, .val (.long q4), .second, .val (.long q5), .second, .val (.long q6), .second] [(.int (lcmpW q2 q5))])) _
    refine XS.ifNo X0.here hx rfl (hb hby d1_20) rfl ((if0 _ _).trans (feq hc20).1) ?_
    show Steps p.tables e below (s₁.setTop (mkF m 23 #[.val (.long q1), .second, .val (.long q2), .second, .val (.long q3), .second, .val (.long q4), .second, .val (.long q5), .second, .val (.long q6), .second] [])) _
    refine XS.lloadN X0.here hx rfl (hb hby d1_23) rfl ?_
    show Steps p.tables e below (s₁.setTop (mkF m 24 #[.val (.long q1), .second, .val (.long q2), .second, .val (.long q3), .second, .val (.long q4), .second, .val (.long q5), .second, .val (.long q6), .second] [(.long q2)])) _
    refine XS.lload X0.here hx rfl (hb hby d1_24) rfl ?_
    show Steps p.tables e below (s₁.setTop (mkF m 26 #[.val (.long q1), .second, .val (.long q2), .second, .val (.long q3), .second, .val (.long q4), .second, .val (.long q5), .second, .val (.long q6), .second] [(.long q5), (.long q2)])) _
    refine st7 _ ?_
    show Steps p.tables e below (T7.setTop (mkF m 29 #[.val (.long q1), .second, .val (.long q2), .second, .val (.long q3), .second, .val (.long q4), .second, .val (.long q5), .second, .val (.long q6), .second] [(.int (pLt q2 q5))])) _
    exact retN X7 hx (t := .boolean) Bd.returns (by simp) (hb hby d1_29) hr
  · show Q1 Z q1 q2 q3 q4 q5 q6 h0 n0 _ T7.heap _
    exact ⟨by rw [own_nar]; simp [pLess, hc5, hc20], N7, e7q⟩

set_option maxRecDepth 65536 in
set_option maxHeartbeats 40000000 in
theorem rm1_tt (l : Launch) (Z : State) (a0 : Array Value) (hw : ∀ d ∈ tables_1, d.before a0 Z = true) (ws : List Jvm.Cond) (q1 : Int64) (q2 : Int64) (q3 : Int64) (q4 : Int64) (q5 : Int64) (q6 : Int64) (h0 : Heap) (n0 : Nat) (Z0 : n0 ≤ h0.size) (hc5 : (lcmpW q3 q6) = (0 : Int32)) (hc20 : (lcmpW q2 q5) = (0 : Int32)) :
    MetFree l (⟨"ringfold/modular/WordsSubtractFromPinLaw", "less3", "(JJJJJJ)Z"⟩ : MethodName) (head1 (Jvm.Cond.code (⟨"ringfold/modular/WordsSubtractFromPinLaw", "less3", "(JJJJJJ)Z"⟩ : MethodName) method_3_code 12 (some .boolean) :: ws) ({ frames := 1, cells := 0, slots := 0, locals := 15 } : Room)) (fun a U => a = #[(.long q1), (.long q2), (.long q3), (.long q4), (.long q5), (.long q6)] ∧ Z.Warmed39 U.vm ∧ U.heap = h0) (fun _ _ _ _ _ => True) (fun _ U o U' => ∃ v L, o = .returned v ∧ Q1 Z q1 q2 q3 q4 q5 q6 h0 n0 v U'.heap L ∧ FrameEnd U o U' L ({ frames := 1, cells := 0, slots := 0, locals := 15 } : Room).cells ({ frames := 1, cells := 0, slots := 0, locals := 15 } : Room).slots) := by
  refine MetFree.of_bodySF (plainFor_of_name pn_1) hisR ?_
  intro p e s m args below meth c s₁ Bd hml0 hP hK
  obtain ⟨rfl, hZ, hh⟩ := hP
  have hx := Bd.exec
  have hby := Bd.bytes
  have hml : c.maxLocals = 12 := hml0
  have hown : s.vm.findClass "ringfold/modular/WordsSubtractFromPinLaw" = some m.cls := findClass_of_methodNamed Bd.named
  have hnm := (name_of_methodNamed Bd.named Bd.method).1
  have X0 : Stand p l e ({ frames := 1, cells := 0, slots := 0, locals := 15 } : Room) s m #[(.long q1), (.long q2), (.long q3), (.long q4), (.long q5), (.long q6)] below meth c s₁ [] 0 0 := Stand.of_body Bd
  have e0 : s₁.heap = h0 := by rw [← hh, Bd.state]; rfl
  have N0 := Fr.nil n0
  have pre0 : ∀ t, Steps p.tables e below (s₁.setTop (mkF m 0 #[.val (.long q1), .second, .val (.long q2), .second, .val (.long q3), .second, .val (.long q4), .second, .val (.long q5), .second, .val (.long q6), .second] [])) t → Steps p.tables e below (s₁.setTop (entryFrame m #[(.long q1), (.long q2), (.long q3), (.long q4), (.long q5), (.long q6)] 12)) t := fun t k => castTop (ef_1 m q1 q2 q3 q4 q5 q6) k
  obtain ⟨_, _, ⟨T7, L7, k7, n7⟩, -, X7, ⟨Lc7, hQ7, l7, y7, z7⟩, st7⟩ := Jvm.LawKit.callS X0 hx (y := (⟨"ringfold/modular/WordsSubtractFromPinLaw", "ltU", "(JJ)Z"⟩ : MethodName)) hown (mvT hZ (hw _ (List.mem_of_getElem? (i := 6) rfl))) (mvT hZ (hw _ (List.mem_of_getElem? (i := 7) rfl))) (mvT hZ (hw _ (List.mem_of_getElem? (i := 4) rfl))) (mvT hZ (hw _ (List.mem_of_getElem? (i := 8) rfl))) (by decide) (backOf (W := 0) (rm2 l Z a0 hw [] q1 q4 h0 n0 Z0) hZ (hw _ (List.mem_of_getElem? (i := 8) rfl)) (hw _ (List.mem_of_getElem? (i := 4) rfl)) (by decide) (by decide)) (g := (mkF m 33 #[.val (.long q1), .second, .val (.long q2), .second, .val (.long q3), .second, .val (.long q4), .second, .val (.long q5), .second, .val (.long q6), .second] [(.long q4), (.long q1)])) rfl (by rw [hml]; rfl) (argsL := [(.long q1), (.long q4)]) (rest := []) (lenOf pd_1_1 rfl) rfl (by show 2 * 0 + _ ≤ _; exact Nat.le_of_eq rfl) (hb hby d1_33) (fun _ _ => ⟨rfl, e0, (by decide : 0 + 0 ≤ _), (by decide : 0 + 0 ≤ _)⟩)
  dsimp only [Pt.U, Pt.locs, Pt.cells, Pt.slots] at X7 l7 y7 z7 st7 hQ7
  subst l7 y7 z7
  obtain ⟨rfl, N7q, e7q⟩ := hQ7
  have N7 := Fr.app N0 N7q
  obtain ⟨fs, hr, hrun, hended, hW, hsame⟩ := X7.leave (v := some (.int (nar .boolean (pLt q1 q4)))) (fun h => by rw [Bd.returns] at h; cases h)
  refine ⟨_, _, pre0 _ ?_, hrun, hended, _, _, rfl, ?_, ⟨_, rfl⟩, hW, hsame.mono (by decide) (by decide)⟩
  · show Steps p.tables e below (s₁.setTop (mkF m 0 #[.val (.long q1), .second, .val (.long q2), .second, .val (.long q3), .second, .val (.long q4), .second, .val (.long q5), .second, .val (.long q6), .second] [])) _
    refine XS.lload X0.here hx rfl (hb hby d1_0) rfl ?_
    show Steps p.tables e below (s₁.setTop (mkF m 2 #[.val (.long q1), .second, .val (.long q2), .second, .val (.long q3), .second, .val (.long q4), .second, .val (.long q5), .second, .val (.long q6), .second] [(.long q3)])) _
    refine XS.lload X0.here hx rfl (hb hby d1_2) rfl ?_
    show Steps p.tables e below (s₁.setTop (mkF m 4 #[.val (.long q1), .second, .val (.long q2), .second, .val (.long q3), .second, .val (.long q4), .second, .val (.long q5), .second, .val (.long q6), .second] [(.long q6), (.long q3)])) _
    refine XS.lcmp X0.here hx rfl (hb hby d1_4) rfl ?_
    show Steps p.tables e below (s₁.setTop (mkF m 5 #[.val (.long q1), .second, .val (.long q2), .second, .val (.long q3), .second, .val (.long q4), .second, .val (.long q5), .second, .val (.long q6), .second] [(.int (lcmpW q3 q6))])) _
    refine XS.ifYes X0.here hx rfl (pc0 := 5) (pc' := 16) rfl (hb hby d1_5) rfl ((if0 _ _).trans (teq hc5).1) (by decide) (by decide) ?_
    show Steps p.tables e below (s₁.setTop (mkF m 16 #[.val (.long q1), .second, .val (.long q2), .second, .val (.long q3), .second, .val (.long q4), .second, .val (.long q5), .second, .val (.long q6), .second] [])) _
    refine XS.lloadN X0.here hx rfl (hb hby d1_16) rfl ?_
    show Steps p.tables e below (s₁.setTop (mkF m 17 #[.val (.long q1), .second, .val (.long q2), .second, .val (.long q3), .second, .val (.long q4), .second, .val (.long q5), .second, .val (.long q6), .second] [(.long q2)])) _
    refine XS.lload X0.here hx rfl (hb hby d1_17) rfl ?_
    show Steps p.tables e below (s₁.setTop (mkF m 19 #[.val (.long q1), .second, .val (.long q2), .second, .val (.long q3), .second, .val (.long q4), .second, .val (.long q5), .second, .val (.long q6), .second] [(.long q5), (.long q2)])) _
    refine XS.lcmp X0.here hx rfl (hb hby d1_19) rfl ?_
    show Steps p.tables e below (s₁.setTop (mkF m 20 #[.val (.long q1), .second, .val (.long q2), .second, .val (.long q3), .second, .val (.long q4), .second, .val (.long q5), .second, .val (.long q6), .second] [(.int (lcmpW q2 q5))])) _
    refine XS.ifYes X0.here hx rfl (pc0 := 20) (pc' := 30) rfl (hb hby d1_20) rfl ((if0 _ _).trans (teq hc20).1) (by decide) (by decide) ?_
    show Steps p.tables e below (s₁.setTop (mkF m 30 #[.val (.long q1), .second, .val (.long q2), .second, .val (.long q3), .second, .val (.long q4), .second, .val (.long q5), .second, .val (.long q6), .second] [])) _
    refine XS.lloadN X0.here hx rfl (hb hby d1_30) rfl ?_
    show Steps p.tables e below (s₁.setTop (mkF m 31 #[.val (.long q1), .second, .val (.long q2), .second, .val (.long q3), .second, .val (.long q4), .second, .val (.long q5), .second, .val (.long q6), .second] [(.long q1)])) _
    refine XS.lload X0.here hx rfl (hb hby d1_31) rfl ?_
    show Steps p.tables e below (s₁.setTop (mkF m 33 #[.val (.long q1), .second, .val (.long q2), .second, .val (.long q3), .second, .val (.long q4), .second, .val (.long q5), .second, .val (.long q6), .second] [(.long q4), (.long q1)])) _
    refine st7 _ ?_
    show Steps p.tables e below (T7.setTop (mkF m 36 #[.val (.long q1), .second, .val (.long q2), .second, .val (.long q3), .second, .val (.long q4), .second, .val (.long q5), .second, .val (.long q6), .second] [(.int (pLt q1 q4))])) _
    exact retN X7 hx (t := .boolean) Bd.returns (by simp) (hb hby d1_36) hr
  · show Q1 Z q1 q2 q3 q4 q5 q6 h0 n0 _ T7.heap _
    exact ⟨by rw [own_nar]; simp [pLess, hc5, hc20], N7, e7q⟩

theorem rm1 (l : Launch) (Z : State) (a0 : Array Value) (hw : ∀ d ∈ tables_1, d.before a0 Z = true) (ws : List Jvm.Cond) (q1 : Int64) (q2 : Int64) (q3 : Int64) (q4 : Int64) (q5 : Int64) (q6 : Int64) (h0 : Heap) (n0 : Nat) (Z0 : n0 ≤ h0.size) :
    MetFree l (⟨"ringfold/modular/WordsSubtractFromPinLaw", "less3", "(JJJJJJ)Z"⟩ : MethodName) (head1 (Jvm.Cond.code (⟨"ringfold/modular/WordsSubtractFromPinLaw", "less3", "(JJJJJJ)Z"⟩ : MethodName) method_3_code 12 (some .boolean) :: ws) ({ frames := 1, cells := 0, slots := 0, locals := 15 } : Room)) (fun a U => a = #[(.long q1), (.long q2), (.long q3), (.long q4), (.long q5), (.long q6)] ∧ Z.Warmed39 U.vm ∧ U.heap = h0) (fun _ _ _ _ _ => True) (fun _ U o U' => ∃ v L, o = .returned v ∧ Q1 Z q1 q2 q3 q4 q5 q6 h0 n0 v U'.heap L ∧ FrameEnd U o U' L ({ frames := 1, cells := 0, slots := 0, locals := 15 } : Room).cells ({ frames := 1, cells := 0, slots := 0, locals := 15 } : Room).slots) := by
  by_cases h1 : lcmpW q3 q6 = 0
  · by_cases h2 : lcmpW q2 q5 = 0
    · exact rm1_tt l Z a0 hw ws q1 q2 q3 q4 q5 q6 h0 n0 Z0 h1 h2
    · exact rm1_tf l Z a0 hw ws q1 q2 q3 q4 q5 q6 h0 n0 Z0 h1 h2
  · exact rm1_f l Z a0 hw ws q1 q2 q3 q4 q5 q6 h0 n0 Z0 h1

theorem pn_5 : plainName "java/lang/Long" = true := by first | (simp [plainName, overriddenIn]; done) | decide +kernel
theorem ef_5 (m : MethodId) (x0 : Int64) (x1 : Int64) : entryFrame m #[(.long x0), (.long x1)] 4 = mkF m 0 #[.val (.long x0), .second, .val (.long x1), .second] [] := by first | (simp [entryFrame, mkF, argsToLocals, Value.category]; done) | rfl

def Q5 (Z : State) (q1 : Int64) (q2 : Int64) (h0 : Heap) (n0 : Nat) (v : Option Value) (h : Heap) (L : List Loc) : Prop := v = some (.int (pCmp q1 q2)) ∧ Fr n0 L ∧ h = h0
set_option maxRecDepth 65536 in
set_option maxHeartbeats 40000000 in
theorem rm5_f (l : Launch) (Z : State) (a0 : Array Value) (hw : ∀ d ∈ tables_1, d.before a0 Z = true) (ws : List Jvm.Cond) (q1 : Int64) (q2 : Int64) (h0 : Heap) (n0 : Nat) (Z0 : n0 ≤ h0.size) (hc3 : (lcmpW q1 q2) < (0 : Int32)) :
    MetFree l (⟨"java/lang/Long", "compare", "(JJ)I"⟩ : MethodName) (head1 (Jvm.Cond.code (⟨"java/lang/Long", "compare", "(JJ)I"⟩ : MethodName) jdk_35_method_42_code 4 (some .int) :: ws) ({ frames := 0, cells := 0, slots := 0, locals := 0 } : Room)) (fun a U => a = #[(.long q1), (.long q2)] ∧ Z.Warmed39 U.vm ∧ U.heap = h0) (fun _ _ _ _ _ => True) (fun _ U o U' => ∃ v L, o = .returned v ∧ Q5 Z q1 q2 h0 n0 v U'.heap L ∧ FrameEnd U o U' L ({ frames := 0, cells := 0, slots := 0, locals := 0 } : Room).cells ({ frames := 0, cells := 0, slots := 0, locals := 0 } : Room).slots) := by
  refine MetFree.of_bodySF (plainFor_of_name pn_5) hisR ?_
  intro p e s m args below meth c s₁ Bd hml0 hP hK
  obtain ⟨rfl, hZ, hh⟩ := hP
  have hx := Bd.exec
  have hby := Bd.bytes
  have hml : c.maxLocals = 4 := hml0
  have hown : s.vm.findClass "java/lang/Long" = some m.cls := findClass_of_methodNamed Bd.named
  have hnm := (name_of_methodNamed Bd.named Bd.method).1
  have X0 : Stand p l e ({ frames := 0, cells := 0, slots := 0, locals := 0 } : Room) s m #[(.long q1), (.long q2)] below meth c s₁ [] 0 0 := Stand.of_body Bd
  have e0 : s₁.heap = h0 := by rw [← hh, Bd.state]; rfl
  have N0 := Fr.nil n0
  have pre0 : ∀ t, Steps p.tables e below (s₁.setTop (mkF m 0 #[.val (.long q1), .second, .val (.long q2), .second] [])) t → Steps p.tables e below (s₁.setTop (entryFrame m #[(.long q1), (.long q2)] 4)) t := fun t k => castTop (ef_5 m q1 q2) k

  obtain ⟨fs, hr, hrun, hended, hW, hsame⟩ := X0.leave (v := some (.int (-1 : Int32))) (fun h => by rw [Bd.returns] at h; cases h)
  refine ⟨_, _, pre0 _ ?_, hrun, hended, _, _, rfl, ?_, ⟨_, rfl⟩, hW, hsame.mono (by decide) (by decide)⟩
  · show Steps p.tables e below (s₁.setTop (mkF m 0 #[.val (.long q1), .second, .val (.long q2), .second] [])) _
    refine XS.lloadN X0.here hx rfl (hb hby d5_0) rfl ?_
    show Steps p.tables e below (s₁.setTop (mkF m 1 #[.val (.long q1), .second, .val (.long q2), .second] [(.long q1)])) _
    refine XS.lloadN X0.here hx rfl (hb hby d5_1) rfl ?_
    show Steps p.tables e below (s₁.setTop (mkF m 2 #[.val (.long q1), .second, .val (.long q2), .second] [(.long q2), (.long q1)])) _
    refine XS.lcmp X0.here hx rfl (hb hby d5_2) rfl ?_
    show Steps p.tables e below (s₁.setTop (mkF m 3 #[.val (.long q1), .second, .val (.long q2), .second] [(.int (lcmpW q1 q2))])) _
    refine XS.ifNo X0.here hx rfl (hb hby d5_3) rfl ((if0 _ _).trans (tlt hc3).2.1) ?_
    show Steps p.tables e below (s₁.setTop (mkF m 6 #[.val (.long q1), .second, .val (.long q2), .second] [])) _
    refine XS.iconst X0.here hx rfl (hb hby d5_6) ?_
    show Steps p.tables e below (s₁.setTop (mkF m 7 #[.val (.long q1), .second, .val (.long q2), .second] [(.int (-1 : Int32))])) _
    refine XS.goto X0.here hx rfl (pc0 := 7) (pc' := 21) rfl (hb hby d5_7) (by decide) (by decide) ?_
    show Steps p.tables e below (s₁.setTop (mkF m 21 #[.val (.long q1), .second, .val (.long q2), .second] [(.int (-1 : Int32))])) _
    exact retI X0 hx Bd.returns (hb hby d5_21) hr
  · show Q5 Z q1 q2 h0 n0 _ s₁.heap _
    rw [e0]
    exact ⟨by simp [pCmp, hc3], N0, rfl⟩

set_option maxRecDepth 65536 in
set_option maxHeartbeats 40000000 in
theorem rm5_tt (l : Launch) (Z : State) (a0 : Array Value) (hw : ∀ d ∈ tables_1, d.before a0 Z = true) (ws : List Jvm.Cond) (q1 : Int64) (q2 : Int64) (h0 : Heap) (n0 : Nat) (Z0 : n0 ≤ h0.size) (hc3 : ¬ ((lcmpW q1 q2) < (0 : Int32))) (hc13 : ¬ ((lcmpW q1 q2) = (0 : Int32))) :
    MetFree l (⟨"java/lang/Long", "compare", "(JJ)I"⟩ : MethodName) (head1 (Jvm.Cond.code (⟨"java/lang/Long", "compare", "(JJ)I"⟩ : MethodName) jdk_35_method_42_code 4 (some .int) :: ws) ({ frames := 0, cells := 0, slots := 0, locals := 0 } : Room)) (fun a U => a = #[(.long q1), (.long q2)] ∧ Z.Warmed39 U.vm ∧ U.heap = h0) (fun _ _ _ _ _ => True) (fun _ U o U' => ∃ v L, o = .returned v ∧ Q5 Z q1 q2 h0 n0 v U'.heap L ∧ FrameEnd U o U' L ({ frames := 0, cells := 0, slots := 0, locals := 0 } : Room).cells ({ frames := 0, cells := 0, slots := 0, locals := 0 } : Room).slots) := by
  refine MetFree.of_bodySF (plainFor_of_name pn_5) hisR ?_
  intro p e s m args below meth c s₁ Bd hml0 hP hK
  obtain ⟨rfl, hZ, hh⟩ := hP
  have hx := Bd.exec
  have hby := Bd.bytes
  have hml : c.maxLocals = 4 := hml0
  have hown : s.vm.findClass "java/lang/Long" = some m.cls := findClass_of_methodNamed Bd.named
  have hnm := (name_of_methodNamed Bd.named Bd.method).1
  have X0 : Stand p l e ({ frames := 0, cells := 0, slots := 0, locals := 0 } : Room) s m #[(.long q1), (.long q2)] below meth c s₁ [] 0 0 := Stand.of_body Bd
  have e0 : s₁.heap = h0 := by rw [← hh, Bd.state]; rfl
  have N0 := Fr.nil n0
  have pre0 : ∀ t, Steps p.tables e below (s₁.setTop (mkF m 0 #[.val (.long q1), .second, .val (.long q2), .second] [])) t → Steps p.tables e below (s₁.setTop (entryFrame m #[(.long q1), (.long q2)] 4)) t := fun t k => castTop (ef_5 m q1 q2) k

  obtain ⟨fs, hr, hrun, hended, hW, hsame⟩ := X0.leave (v := some (.int (1 : Int32))) (fun h => by rw [Bd.returns] at h; cases h)
  refine ⟨_, _, pre0 _ ?_, hrun, hended, _, _, rfl, ?_, ⟨_, rfl⟩, hW, hsame.mono (by decide) (by decide)⟩
  · show Steps p.tables e below (s₁.setTop (mkF m 0 #[.val (.long q1), .second, .val (.long q2), .second] [])) _
    refine XS.lloadN X0.here hx rfl (hb hby d5_0) rfl ?_
    show Steps p.tables e below (s₁.setTop (mkF m 1 #[.val (.long q1), .second, .val (.long q2), .second] [(.long q1)])) _
    refine XS.lloadN X0.here hx rfl (hb hby d5_1) rfl ?_
    show Steps p.tables e below (s₁.setTop (mkF m 2 #[.val (.long q1), .second, .val (.long q2), .second] [(.long q2), (.long q1)])) _
    refine XS.lcmp X0.here hx rfl (hb hby d5_2) rfl ?_
    show Steps p.tables e below (s₁.setTop (mkF m 3 #[.val (.long q1), .second, .val (.long q2), .second] [(.int (lcmpW q1 q2))])) _
    refine XS.ifYes X0.here hx rfl (pc0 := 3) (pc' := 10) rfl (hb hby d5_3) rfl ((if0 _ _).trans (flt hc3).2.1) (by decide) (by decide) ?_
    show Steps p.tables e below (s₁.setTop (mkF m 10 #[.val (.long q1), .second, .val (.long q2), .second] [])) _
    refine XS.lloadN X0.here hx rfl (hb hby d5_10) rfl ?_
    show Steps p.tables e below (s₁.setTop (mkF m 11 #[.val (.long q1), .second, .val (.long q2), .second] [(.long q1)])) _
    refine XS.lloadN X0.here hx rfl (hb hby d5_11) rfl ?_
    show Steps p.tables e below (s₁.setTop (mkF m 12 #[.val (.long q1), .second, .val (.long q2), .second] [(.long q2), (.long q1)])) _
    refine XS.lcmp X0.here hx rfl (hb hby d5_12) rfl ?_
    show Steps p.tables e below (s₁.setTop (mkF m 13 #[.val (.long q1), .second, .val (.long q2), .second] [(.int (lcmpW q1 q2))])) _
    refine XS.ifYes X0.here hx rfl (pc0 := 13) (pc' := 20) rfl (hb hby d5_13) rfl ((if0 _ _).trans (feq hc13).2) (by decide) (by decide) ?_
    show Steps p.tables e below (s₁.setTop (mkF m 20 #[.val (.long q1), .second, .val (.long q2), .second] [])) _
    refine XS.iconst X0.here hx rfl (hb hby d5_20) ?_
    show Steps p.tables e below (s₁.setTop (mkF m 21 #[.val (.long q1), .second, .val (.long q2), .second] [(.int (1 : Int32))])) _
    exact retI X0 hx Bd.returns (hb hby d5_21) hr
  · show Q5 Z q1 q2 h0 n0 _ s₁.heap _
    rw [e0]
    exact ⟨by simp [pCmp, hc3, hc13], N0, rfl⟩

set_option maxRecDepth 65536 in
set_option maxHeartbeats 40000000 in
theorem rm5_tf (l : Launch) (Z : State) (a0 : Array Value) (hw : ∀ d ∈ tables_1, d.before a0 Z = true) (ws : List Jvm.Cond) (q1 : Int64) (q2 : Int64) (h0 : Heap) (n0 : Nat) (Z0 : n0 ≤ h0.size) (hc3 : ¬ ((lcmpW q1 q2) < (0 : Int32))) (hc13 : (lcmpW q1 q2) = (0 : Int32)) :
    MetFree l (⟨"java/lang/Long", "compare", "(JJ)I"⟩ : MethodName) (head1 (Jvm.Cond.code (⟨"java/lang/Long", "compare", "(JJ)I"⟩ : MethodName) jdk_35_method_42_code 4 (some .int) :: ws) ({ frames := 0, cells := 0, slots := 0, locals := 0 } : Room)) (fun a U => a = #[(.long q1), (.long q2)] ∧ Z.Warmed39 U.vm ∧ U.heap = h0) (fun _ _ _ _ _ => True) (fun _ U o U' => ∃ v L, o = .returned v ∧ Q5 Z q1 q2 h0 n0 v U'.heap L ∧ FrameEnd U o U' L ({ frames := 0, cells := 0, slots := 0, locals := 0 } : Room).cells ({ frames := 0, cells := 0, slots := 0, locals := 0 } : Room).slots) := by
  refine MetFree.of_bodySF (plainFor_of_name pn_5) hisR ?_
  intro p e s m args below meth c s₁ Bd hml0 hP hK
  obtain ⟨rfl, hZ, hh⟩ := hP
  have hx := Bd.exec
  have hby := Bd.bytes
  have hml : c.maxLocals = 4 := hml0
  have hown : s.vm.findClass "java/lang/Long" = some m.cls := findClass_of_methodNamed Bd.named
  have hnm := (name_of_methodNamed Bd.named Bd.method).1
  have X0 : Stand p l e ({ frames := 0, cells := 0, slots := 0, locals := 0 } : Room) s m #[(.long q1), (.long q2)] below meth c s₁ [] 0 0 := Stand.of_body Bd
  have e0 : s₁.heap = h0 := by rw [← hh, Bd.state]; rfl
  have N0 := Fr.nil n0
  have pre0 : ∀ t, Steps p.tables e below (s₁.setTop (mkF m 0 #[.val (.long q1), .second, .val (.long q2), .second] [])) t → Steps p.tables e below (s₁.setTop (entryFrame m #[(.long q1), (.long q2)] 4)) t := fun t k => castTop (ef_5 m q1 q2) k

  obtain ⟨fs, hr, hrun, hended, hW, hsame⟩ := X0.leave (v := some (.int (0 : Int32))) (fun h => by rw [Bd.returns] at h; cases h)
  refine ⟨_, _, pre0 _ ?_, hrun, hended, _, _, rfl, ?_, ⟨_, rfl⟩, hW, hsame.mono (by decide) (by decide)⟩
  · show Steps p.tables e below (s₁.setTop (mkF m 0 #[.val (.long q1), .second, .val (.long q2), .second] [])) _
    refine XS.lloadN X0.here hx rfl (hb hby d5_0) rfl ?_
    show Steps p.tables e below (s₁.setTop (mkF m 1 #[.val (.long q1), .second, .val (.long q2), .second] [(.long q1)])) _
    refine XS.lloadN X0.here hx rfl (hb hby d5_1) rfl ?_
    show Steps p.tables e below (s₁.setTop (mkF m 2 #[.val (.long q1), .second, .val (.long q2), .second] [(.long q2), (.long q1)])) _
    refine XS.lcmp X0.here hx rfl (hb hby d5_2) rfl ?_
    show Steps p.tables e below (s₁.setTop (mkF m 3 #[.val (.long q1), .second, .val (.long q2), .second] [(.int (lcmpW q1 q2))])) _
    refine XS.ifYes X0.here hx rfl (pc0 := 3) (pc' := 10) rfl (hb hby d5_3) rfl ((if0 _ _).trans (flt hc3).2.1) (by decide) (by decide) ?_
    show Steps p.tables e below (s₁.setTop (mkF m 10 #[.val (.long q1), .second, .val (.long q2), .second] [])) _
    refine XS.lloadN X0.here hx rfl (hb hby d5_10) rfl ?_
    show Steps p.tables e below (s₁.setTop (mkF m 11 #[.val (.long q1), .second, .val (.long q2), .second] [(.long q1)])) _
    refine XS.lloadN X0.here hx rfl (hb hby d5_11) rfl ?_
    show Steps p.tables e below (s₁.setTop (mkF m 12 #[.val (.long q1), .second, .val (.long q2), .second] [(.long q2), (.long q1)])) _
    refine XS.lcmp X0.here hx rfl (hb hby d5_12) rfl ?_
    show Steps p.tables e below (s₁.setTop (mkF m 13 #[.val (.long q1), .second, .val (.long q2), .second] [(.int (lcmpW q1 q2))])) _
    refine XS.ifNo X0.here hx rfl (hb hby d5_13) rfl ((if0 _ _).trans (teq hc13).2) ?_
    show Steps p.tables e below (s₁.setTop (mkF m 16 #[.val (.long q1), .second, .val (.long q2), .second] [])) _
    refine XS.iconst X0.here hx rfl (hb hby d5_16) ?_
    show Steps p.tables e below (s₁.setTop (mkF m 17 #[.val (.long q1), .second, .val (.long q2), .second] [(.int (0 : Int32))])) _
    refine XS.goto X0.here hx rfl (pc0 := 17) (pc' := 21) rfl (hb hby d5_17) (by decide) (by decide) ?_
    show Steps p.tables e below (s₁.setTop (mkF m 21 #[.val (.long q1), .second, .val (.long q2), .second] [(.int (0 : Int32))])) _
    exact retI X0 hx Bd.returns (hb hby d5_21) hr
  · show Q5 Z q1 q2 h0 n0 _ s₁.heap _
    rw [e0]
    exact ⟨by simp [pCmp, hc3, hc13], N0, rfl⟩

theorem rm5 (l : Launch) (Z : State) (a0 : Array Value) (hw : ∀ d ∈ tables_1, d.before a0 Z = true) (ws : List Jvm.Cond) (q1 : Int64) (q2 : Int64) (h0 : Heap) (n0 : Nat) (Z0 : n0 ≤ h0.size) :
    MetFree l (⟨"java/lang/Long", "compare", "(JJ)I"⟩ : MethodName) (head1 (Jvm.Cond.code (⟨"java/lang/Long", "compare", "(JJ)I"⟩ : MethodName) jdk_35_method_42_code 4 (some .int) :: ws) ({ frames := 0, cells := 0, slots := 0, locals := 0 } : Room)) (fun a U => a = #[(.long q1), (.long q2)] ∧ Z.Warmed39 U.vm ∧ U.heap = h0) (fun _ _ _ _ _ => True) (fun _ U o U' => ∃ v L, o = .returned v ∧ Q5 Z q1 q2 h0 n0 v U'.heap L ∧ FrameEnd U o U' L ({ frames := 0, cells := 0, slots := 0, locals := 0 } : Room).cells ({ frames := 0, cells := 0, slots := 0, locals := 0 } : Room).slots) := by
  by_cases h1 : lcmpW q1 q2 < 0
  · exact rm5_f l Z a0 hw ws q1 q2 h0 n0 Z0 h1
  · by_cases h2 : lcmpW q1 q2 = 0
    · exact rm5_tf l Z a0 hw ws q1 q2 h0 n0 Z0 h1 h2
    · exact rm5_tt l Z a0 hw ws q1 q2 h0 n0 Z0 h1 h2

theorem pn_4 : plainName "java/lang/Long" = true := by first | (simp [plainName, overriddenIn]; done) | decide +kernel
theorem pd_4_3 : parseMethodDescriptor "(JJ)I" = some ⟨[.long, .long], some .int⟩ := by decide +kernel
theorem ef_4 (m : MethodId) (x0 : Int64) (x1 : Int64) : entryFrame m #[(.long x0), (.long x1)] 4 = mkF m 0 #[.val (.long x0), .second, .val (.long x1), .second] [] := by first | (simp [entryFrame, mkF, argsToLocals, Value.category]; done) | rfl

def Q4 (Z : State) (q1 : Int64) (q2 : Int64) (h0 : Heap) (n0 : Nat) (v : Option Value) (h : Heap) (L : List Loc) : Prop := v = some (.int (pCmp (q1 + (-9223372036854775808 : Int64)) (q2 + (-9223372036854775808 : Int64)))) ∧ Fr n0 L ∧ h = h0
set_option maxRecDepth 65536 in
set_option maxHeartbeats 40000000 in
theorem rm4 (l : Launch) (Z : State) (a0 : Array Value) (hw : ∀ d ∈ tables_1, d.before a0 Z = true) (ws : List Jvm.Cond) (q1 : Int64) (q2 : Int64) (h0 : Heap) (n0 : Nat) (Z0 : n0 ≤ h0.size) :
    MetFree l (⟨"java/lang/Long", "compareUnsigned", "(JJ)I"⟩ : MethodName) (head1 (Jvm.Cond.code (⟨"java/lang/Long", "compareUnsigned", "(JJ)I"⟩ : MethodName) jdk_35_method_43_code 4 (some .int) :: ws) ({ frames := 1, cells := 0, slots := 0, locals := 15 } : Room)) (fun a U => a = #[(.long q1), (.long q2)] ∧ Z.Warmed39 U.vm ∧ U.heap = h0) (fun _ _ _ _ _ => True) (fun _ U o U' => ∃ v L, o = .returned v ∧ Q4 Z q1 q2 h0 n0 v U'.heap L ∧ FrameEnd U o U' L ({ frames := 1, cells := 0, slots := 0, locals := 15 } : Room).cells ({ frames := 1, cells := 0, slots := 0, locals := 15 } : Room).slots) := by
  refine MetFree.of_bodySF (plainFor_of_name pn_4) hisR ?_
  intro p e s m args below meth c s₁ Bd hml0 hP hK
  obtain ⟨rfl, hZ, hh⟩ := hP
  have hx := Bd.exec
  have hby := Bd.bytes
  have hml : c.maxLocals = 4 := hml0
  have hown : s.vm.findClass "java/lang/Long" = some m.cls := findClass_of_methodNamed Bd.named
  have hnm := (name_of_methodNamed Bd.named Bd.method).1
  have X0 : Stand p l e ({ frames := 1, cells := 0, slots := 0, locals := 15 } : Room) s m #[(.long q1), (.long q2)] below meth c s₁ [] 0 0 := Stand.of_body Bd
  have e0 : s₁.heap = h0 := by rw [← hh, Bd.state]; rfl
  have N0 := Fr.nil n0
  have pre0 : ∀ t, Steps p.tables e below (s₁.setTop (mkF m 0 #[.val (.long q1), .second, .val (.long q2), .second] [])) t → Steps p.tables e below (s₁.setTop (entryFrame m #[(.long q1), (.long q2)] 4)) t := fun t k => castTop (ef_4 m q1 q2) k
  obtain ⟨_, _, ⟨T3, L3, k3, n3⟩, -, X3, ⟨Lc3, hQ3, l3, y3, z3⟩, st3⟩ := Jvm.LawKit.callS X0 hx (y := (⟨"java/lang/Long", "compare", "(JJ)I"⟩ : MethodName)) hown (mvT hZ (hw _ (List.mem_of_getElem? (i := 20) rfl))) (mvT hZ (hw _ (List.mem_of_getElem? (i := 21) rfl))) (mvT hZ (hw _ (List.mem_of_getElem? (i := 17) rfl))) (mvT hZ (hw _ (List.mem_of_getElem? (i := 22) rfl))) (by decide) (backOf (W := 0) (rm5 l Z a0 hw [] (q1 + (-9223372036854775808 : Int64)) (q2 + (-9223372036854775808 : Int64)) h0 n0 Z0) hZ (hw _ (List.mem_of_getElem? (i := 22) rfl)) (hw _ (List.mem_of_getElem? (i := 17) rfl)) (by decide) (by decide)) (g := (mkF m 10 #[.val (.long q1), .second, .val (.long q2), .second] [(.long (q2 + (-9223372036854775808 : Int64))), (.long (q1 + (-9223372036854775808 : Int64)))])) rfl (by rw [hml]; rfl) (argsL := [(.long (q1 + (-9223372036854775808 : Int64))), (.long (q2 + (-9223372036854775808 : Int64)))]) (rest := []) (lenOf pd_4_3 rfl) rfl (by show 2 * 0 + _ ≤ _; exact Nat.le_of_eq rfl) (hb hby d4_10) (fun _ _ => ⟨rfl, e0, (by decide : 0 + 0 ≤ _), (by decide : 0 + 0 ≤ _)⟩)
  dsimp only [Pt.U, Pt.locs, Pt.cells, Pt.slots] at X3 l3 y3 z3 st3 hQ3
  subst l3 y3 z3
  obtain ⟨rfl, N3q, e3q⟩ := hQ3
  have N3 := Fr.app N0 N3q
  obtain ⟨fs, hr, hrun, hended, hW, hsame⟩ := X3.leave (v := some (.int (pCmp (q1 + (-9223372036854775808 : Int64)) (q2 + (-9223372036854775808 : Int64))))) (fun h => by rw [Bd.returns] at h; cases h)
  refine ⟨_, _, pre0 _ ?_, hrun, hended, _, _, rfl, ?_, ⟨_, rfl⟩, hW, hsame.mono (by decide) (by decide)⟩
  · show Steps p.tables e below (s₁.setTop (mkF m 0 #[.val (.long q1), .second, .val (.long q2), .second] [])) _
    refine XS.lloadN X0.here hx rfl (hb hby d4_0) rfl ?_
    show Steps p.tables e below (s₁.setTop (mkF m 1 #[.val (.long q1), .second, .val (.long q2), .second] [(.long q1)])) _
    refine X0.ldc2Long hx hown (mvT hZ (hw _ (List.mem_of_getElem? (i := 19) rfl))) (g := (mkF m 1 #[.val (.long q1), .second, .val (.long q2), .second] [(.long q1)])) rfl (hb hby d4_1) _ ?_
    show Steps p.tables e below (s₁.setTop (mkF m 4 #[.val (.long q1), .second, .val (.long q2), .second] [(.long (-9223372036854775808 : Int64)), (.long q1)])) _
    refine XS.ladd X0.here hx rfl (hb hby d4_4) rfl ?_
    show Steps p.tables e below (s₁.setTop (mkF m 5 #[.val (.long q1), .second, .val (.long q2), .second] [(.long (q1 + (-9223372036854775808 : Int64)))])) _
    refine XS.lloadN X0.here hx rfl (hb hby d4_5) rfl ?_
    show Steps p.tables e below (s₁.setTop (mkF m 6 #[.val (.long q1), .second, .val (.long q2), .second] [(.long q2), (.long (q1 + (-9223372036854775808 : Int64)))])) _
    refine X0.ldc2Long hx hown (mvT hZ (hw _ (List.mem_of_getElem? (i := 19) rfl))) (g := (mkF m 6 #[.val (.long q1), .second, .val (.long q2), .second] [(.long q2), (.long (q1 + (-9223372036854775808 : Int64)))])) rfl (hb hby d4_6) _ ?_
    show Steps p.tables e below (s₁.setTop (mkF m 9 #[.val (.long q1), .second, .val (.long q2), .second] [(.long (-9223372036854775808 : Int64)), (.long q2), (.long (q1 + (-9223372036854775808 : Int64)))])) _
    refine XS.ladd X0.here hx rfl (hb hby d4_9) rfl ?_
    show Steps p.tables e below (s₁.setTop (mkF m 10 #[.val (.long q1), .second, .val (.long q2), .second] [(.long (q2 + (-9223372036854775808 : Int64))), (.long (q1 + (-9223372036854775808 : Int64)))])) _
    refine st3 _ ?_
    show Steps p.tables e below (T3.setTop (mkF m 13 #[.val (.long q1), .second, .val (.long q2), .second] [(.int (pCmp (q1 + (-9223372036854775808 : Int64)) (q2 + (-9223372036854775808 : Int64))))])) _
    exact retI X3 hx Bd.returns (hb hby d4_13) hr
  · show Q4 Z q1 q2 h0 n0 _ T3.heap _
    exact ⟨rfl, N3, e3q⟩

theorem pn_6 : plainName "ringfold/modular/Words" = true := by first | (simp [plainName, overriddenIn]; done) | decide +kernel
theorem ef_6 (m : MethodId) (x0 : Addr) (x1 : Int32) : entryFrame m #[(.ref x0), (.int x1)] 3 = mkF m 0 #[.val (.ref x0), .val (.int x1), .unset] [] := by first | (simp [entryFrame, mkF, argsToLocals, Value.category]; done) | rfl
def Q6 (w0 w1 w2 : Int64) (h0 : Heap) (n0 : Nat) (v : Option Value) (h : Heap) (L : List Loc) : Prop := v = some (.int (pSig w0 w1 w2)) ∧ Fr n0 L ∧ h = h0
set_option maxRecDepth 65536 in
set_option maxHeartbeats 40000000 in
theorem rm6_3 (l : Launch) (Z : State) (a0 : Array Value) (hw : ∀ d ∈ tables_1, d.before a0 Z = true) (ws : List Jvm.Cond) (a1 : Addr) (w0 w1 w2 : Int64) (k : ClassId) (dv : Value) (h0 : Heap) (n0 : Nat) (Z0 : n0 ≤ h0.size) (V : Arv Z h0 a1 k .long (3 : Int32) [.long w0, .long w1, .long w2] dv) (hw2 : ¬ (lcmpW w2 (0 : Int64) = 0)) :
    MetFree l (⟨"ringfold/modular/Words", "significant", "([JI)I"⟩ : MethodName) (head1 (Jvm.Cond.code (⟨"ringfold/modular/Words", "significant", "([JI)I"⟩ : MethodName) prog_35_method_7_code 3 (some .int) :: ws) ({ frames := 0, cells := 0, slots := 0, locals := 0 } : Room)) (fun a U => a = #[(.ref a1), (.int (3 : Int32))] ∧ Z.Warmed39 U.vm ∧ U.heap = h0) (fun _ _ _ _ _ => True) (fun _ U o U' => ∃ v L, o = .returned v ∧ Q6 w0 w1 w2 h0 n0 v U'.heap L ∧ FrameEnd U o U' L ({ frames := 0, cells := 0, slots := 0, locals := 0 } : Room).cells ({ frames := 0, cells := 0, slots := 0, locals := 0 } : Room).slots) := by
  refine MetFree.of_bodySF (plainFor_of_name pn_6) hisR ?_
  intro p e s m args below meth c s₁ Bd hml0 hP hK
  obtain ⟨rfl, hZ, hh⟩ := hP
  have hx := Bd.exec
  have hby := Bd.bytes
  have hown : s.vm.findClass "ringfold/modular/Words" = some m.cls := findClass_of_methodNamed Bd.named
  have X0 : Stand p l e ({ frames := 0, cells := 0, slots := 0, locals := 0 } : Room) s m #[(.ref a1), (.int (3 : Int32))] below meth c s₁ [] 0 0 := Stand.of_body Bd
  have e0 : s₁.heap = h0 := by rw [← hh, Bd.state]; rfl
  have N0 := Fr.nil n0
  have pre0 : ∀ t, Steps p.tables e below (s₁.setTop (mkF m 0 #[.val (.ref a1), .val (.int (3 : Int32)), .unset] [])) t → Steps p.tables e below (s₁.setTop (entryFrame m #[(.ref a1), (.int (3 : Int32))] 3)) t := fun t k => castTop (ef_6 m a1 (3 : Int32)) k
  obtain ⟨clW, ArW, SW, ⟨inW0, atW0⟩, ⟨inW1, atW1⟩, ⟨inW2, atW2⟩⟩ := own_get V
  obtain ⟨fs, hr, hrun, hended, hW, hsame⟩ := X0.leave (v := some (.int (3 : Int32))) (fun h => by rw [Bd.returns] at h; cases h)
  refine ⟨_, _, pre0 _ ?_, hrun, hended, _, _, rfl, ?_, ⟨_, rfl⟩, hW, hsame.mono (by decide) (by decide)⟩
  · show Steps p.tables e below (s₁.setTop (mkF m 0 #[.val (.ref a1), .val (.int (3 : Int32)), .unset] [])) _
    refine XS.iloadN X0.here hx rfl (hb hby d6_0) rfl ?_
    show Steps p.tables e below (s₁.setTop (mkF m 1 #[.val (.ref a1), .val (.int (3 : Int32)), .unset] [(.int (3 : Int32))])) _
    refine XS.istoreN X0.here hx rfl (hb hby d6_1) rfl (l' := #[.val (.ref a1), .val (.int (3 : Int32)), .val (.int (3 : Int32))]) rfl ?_
    show Steps p.tables e below (s₁.setTop (mkF m 2 #[.val (.ref a1), .val (.int (3 : Int32)), .val (.int (3 : Int32))] [])) _
    refine XS.iloadN X0.here hx rfl (hb hby d6_2) rfl ?_
    show Steps p.tables e below (s₁.setTop (mkF m 3 #[.val (.ref a1), .val (.int (3 : Int32)), .val (.int (3 : Int32))] [(.int (3 : Int32))])) _
    refine XS.ifNo X0.here hx rfl (hb hby d6_3) rfl ((if0 _ _).trans (tlt ((by decide) : (0 : Int32) < (3 : Int32))).2.2.2) ?_
    show Steps p.tables e below (s₁.setTop (mkF m 6 #[.val (.ref a1), .val (.int (3 : Int32)), .val (.int (3 : Int32))] [])) _
    refine XS.aloadN X0.here hx rfl (hb hby d6_6) rfl rfl ?_
    show Steps p.tables e below (s₁.setTop (mkF m 7 #[.val (.ref a1), .val (.int (3 : Int32)), .val (.int (3 : Int32))] [(.ref a1)])) _
    refine XS.iloadN X0.here hx rfl (hb hby d6_7) rfl ?_
    show Steps p.tables e below (s₁.setTop (mkF m 8 #[.val (.ref a1), .val (.int (3 : Int32)), .val (.int (3 : Int32))] [(.int (3 : Int32)), (.ref a1)])) _
    refine XS.iconst X0.here hx rfl (hb hby d6_8) ?_
    show Steps p.tables e below (s₁.setTop (mkF m 9 #[.val (.ref a1), .val (.int (3 : Int32)), .val (.int (3 : Int32))] [(.int (1 : Int32)), (.int (3 : Int32)), (.ref a1)])) _
    refine XS.isub X0.here hx rfl (hb hby d6_9) rfl ?_
    show Steps p.tables e below (s₁.setTop (mkF m 10 #[.val (.ref a1), .val (.int (3 : Int32)), .val (.int (3 : Int32))] [(.int (2 : Int32)), (.ref a1)])) _
    refine X0.laload hx (j := (2 : Int32)) (v := (.long w2)) (by rw [e0]; exact ArW.1) (State.isArrayOf_alike hZ.alike ArW.2.1) ArW.2.2 inW2 atW2 (g := (mkF m 10 #[.val (.ref a1), .val (.int (3 : Int32)), .val (.int (3 : Int32))] [(.int (2 : Int32)), (.ref a1)])) rfl rfl (hb hby d6_10) _ ?_
    show Steps p.tables e below (s₁.setTop (mkF m 11 #[.val (.ref a1), .val (.int (3 : Int32)), .val (.int (3 : Int32))] [(.long w2)])) _
    refine XS.lconst X0.here hx rfl (hb hby d6_11) ?_
    show Steps p.tables e below (s₁.setTop (mkF m 12 #[.val (.ref a1), .val (.int (3 : Int32)), .val (.int (3 : Int32))] [(.long (0 : Int64)), (.long w2)])) _
    refine XS.lcmp X0.here hx rfl (hb hby d6_12) rfl ?_
    show Steps p.tables e below (s₁.setTop (mkF m 13 #[.val (.ref a1), .val (.int (3 : Int32)), .val (.int (3 : Int32))] [(.int (lcmpW w2 (0 : Int64)))])) _
    refine XS.ifYes X0.here hx rfl (pc0 := 13) (pc' := 22) rfl (hb hby d6_13) rfl ((if0 _ _).trans (feq (hw2 : ¬ ((lcmpW w2 (0 : Int64)) = (0 : Int32)))).2) (by decide) (by decide) ?_
    show Steps p.tables e below (s₁.setTop (mkF m 22 #[.val (.ref a1), .val (.int (3 : Int32)), .val (.int (3 : Int32))] [])) _
    refine XS.iloadN X0.here hx rfl (hb hby d6_22) rfl ?_
    show Steps p.tables e below (s₁.setTop (mkF m 23 #[.val (.ref a1), .val (.int (3 : Int32)), .val (.int (3 : Int32))] [(.int (3 : Int32))])) _
    exact retI X0 hx Bd.returns (hb hby d6_23) hr
  · show Q6 w0 w1 w2 h0 n0 _ s₁.heap _
    rw [e0]
    exact ⟨by simp [pSig, hw2], N0, rfl⟩
set_option maxRecDepth 65536 in
set_option maxHeartbeats 40000000 in
theorem rm6_2 (l : Launch) (Z : State) (a0 : Array Value) (hw : ∀ d ∈ tables_1, d.before a0 Z = true) (ws : List Jvm.Cond) (a1 : Addr) (w0 w1 w2 : Int64) (k : ClassId) (dv : Value) (h0 : Heap) (n0 : Nat) (Z0 : n0 ≤ h0.size) (V : Arv Z h0 a1 k .long (3 : Int32) [.long w0, .long w1, .long w2] dv) (hw2 : lcmpW w2 (0 : Int64) = 0) (hw1 : ¬ (lcmpW w1 (0 : Int64) = 0)) :
    MetFree l (⟨"ringfold/modular/Words", "significant", "([JI)I"⟩ : MethodName) (head1 (Jvm.Cond.code (⟨"ringfold/modular/Words", "significant", "([JI)I"⟩ : MethodName) prog_35_method_7_code 3 (some .int) :: ws) ({ frames := 0, cells := 0, slots := 0, locals := 0 } : Room)) (fun a U => a = #[(.ref a1), (.int (3 : Int32))] ∧ Z.Warmed39 U.vm ∧ U.heap = h0) (fun _ _ _ _ _ => True) (fun _ U o U' => ∃ v L, o = .returned v ∧ Q6 w0 w1 w2 h0 n0 v U'.heap L ∧ FrameEnd U o U' L ({ frames := 0, cells := 0, slots := 0, locals := 0 } : Room).cells ({ frames := 0, cells := 0, slots := 0, locals := 0 } : Room).slots) := by
  refine MetFree.of_bodySF (plainFor_of_name pn_6) hisR ?_
  intro p e s m args below meth c s₁ Bd hml0 hP hK
  obtain ⟨rfl, hZ, hh⟩ := hP
  have hx := Bd.exec
  have hby := Bd.bytes
  have hown : s.vm.findClass "ringfold/modular/Words" = some m.cls := findClass_of_methodNamed Bd.named
  have X0 : Stand p l e ({ frames := 0, cells := 0, slots := 0, locals := 0 } : Room) s m #[(.ref a1), (.int (3 : Int32))] below meth c s₁ [] 0 0 := Stand.of_body Bd
  have e0 : s₁.heap = h0 := by rw [← hh, Bd.state]; rfl
  have N0 := Fr.nil n0
  have pre0 : ∀ t, Steps p.tables e below (s₁.setTop (mkF m 0 #[.val (.ref a1), .val (.int (3 : Int32)), .unset] [])) t → Steps p.tables e below (s₁.setTop (entryFrame m #[(.ref a1), (.int (3 : Int32))] 3)) t := fun t k => castTop (ef_6 m a1 (3 : Int32)) k
  obtain ⟨clW, ArW, SW, ⟨inW0, atW0⟩, ⟨inW1, atW1⟩, ⟨inW2, atW2⟩⟩ := own_get V
  obtain ⟨fs, hr, hrun, hended, hW, hsame⟩ := X0.leave (v := some (.int (2 : Int32))) (fun h => by rw [Bd.returns] at h; cases h)
  refine ⟨_, _, pre0 _ ?_, hrun, hended, _, _, rfl, ?_, ⟨_, rfl⟩, hW, hsame.mono (by decide) (by decide)⟩
  · show Steps p.tables e below (s₁.setTop (mkF m 0 #[.val (.ref a1), .val (.int (3 : Int32)), .unset] [])) _
    refine XS.iloadN X0.here hx rfl (hb hby d6_0) rfl ?_
    show Steps p.tables e below (s₁.setTop (mkF m 1 #[.val (.ref a1), .val (.int (3 : Int32)), .unset] [(.int (3 : Int32))])) _
    refine XS.istoreN X0.here hx rfl (hb hby d6_1) rfl (l' := #[.val (.ref a1), .val (.int (3 : Int32)), .val (.int (3 : Int32))]) rfl ?_
    show Steps p.tables e below (s₁.setTop (mkF m 2 #[.val (.ref a1), .val (.int (3 : Int32)), .val (.int (3 : Int32))] [])) _
    refine XS.iloadN X0.here hx rfl (hb hby d6_2) rfl ?_
    show Steps p.tables e below (s₁.setTop (mkF m 3 #[.val (.ref a1), .val (.int (3 : Int32)), .val (.int (3 : Int32))] [(.int (3 : Int32))])) _
    refine XS.ifNo X0.here hx rfl (hb hby d6_3) rfl ((if0 _ _).trans (tlt ((by decide) : (0 : Int32) < (3 : Int32))).2.2.2) ?_
    show Steps p.tables e below (s₁.setTop (mkF m 6 #[.val (.ref a1), .val (.int (3 : Int32)), .val (.int (3 : Int32))] [])) _
    refine XS.aloadN X0.here hx rfl (hb hby d6_6) rfl rfl ?_
    show Steps p.tables e below (s₁.setTop (mkF m 7 #[.val (.ref a1), .val (.int (3 : Int32)), .val (.int (3 : Int32))] [(.ref a1)])) _
    refine XS.iloadN X0.here hx rfl (hb hby d6_7) rfl ?_
    show Steps p.tables e below (s₁.setTop (mkF m 8 #[.val (.ref a1), .val (.int (3 : Int32)), .val (.int (3 : Int32))] [(.int (3 : Int32)), (.ref a1)])) _
    refine XS.iconst X0.here hx rfl (hb hby d6_8) ?_
    show Steps p.tables e below (s₁.setTop (mkF m 9 #[.val (.ref a1), .val (.int (3 : Int32)), .val (.int (3 : Int32))] [(.int (1 : Int32)), (.int (3 : Int32)), (.ref a1)])) _
    refine XS.isub X0.here hx rfl (hb hby d6_9) rfl ?_
    show Steps p.tables e below (s₁.setTop (mkF m 10 #[.val (.ref a1), .val (.int (3 : Int32)), .val (.int (3 : Int32))] [(.int (2 : Int32)), (.ref a1)])) _
    refine X0.laload hx (j := (2 : Int32)) (v := (.long w2)) (by rw [e0]; exact ArW.1) (State.isArrayOf_alike hZ.alike ArW.2.1) ArW.2.2 inW2 atW2 (g := (mkF m 10 #[.val (.ref a1), .val (.int (3 : Int32)), .val (.int (3 : Int32))] [(.int (2 : Int32)), (.ref a1)])) rfl rfl (hb hby d6_10) _ ?_
    show Steps p.tables e below (s₁.setTop (mkF m 11 #[.val (.ref a1), .val (.int (3 : Int32)), .val (.int (3 : Int32))] [(.long w2)])) _
    refine XS.lconst X0.here hx rfl (hb hby d6_11) ?_
    show Steps p.tables e below (s₁.setTop (mkF m 12 #[.val (.ref a1), .val (.int (3 : Int32)), .val (.int (3 : Int32))] [(.long (0 : Int64)), (.long w2)])) _
    refine XS.lcmp X0.here hx rfl (hb hby d6_12) rfl ?_
    show Steps p.tables e below (s₁.setTop (mkF m 13 #[.val (.ref a1), .val (.int (3 : Int32)), .val (.int (3 : Int32))] [(.int (lcmpW w2 (0 : Int64)))])) _
    refine XS.ifNo X0.here hx rfl (hb hby d6_13) rfl ((if0 _ _).trans (teq (hw2 : (lcmpW w2 (0 : Int64)) = (0 : Int32))).2) ?_
    show Steps p.tables e below (s₁.setTop (mkF m 16 #[.val (.ref a1), .val (.int (3 : Int32)), .val (.int (3 : Int32))] [])) _
    refine XS.iinc X0.here hx rfl (hb hby d6_16) rfl (l' := #[.val (.ref a1), .val (.int (3 : Int32)), .val (.int (2 : Int32))]) rfl ?_
    show Steps p.tables e below (s₁.setTop (mkF m 19 #[.val (.ref a1), .val (.int (3 : Int32)), .val (.int (2 : Int32))] [])) _
    refine XS.goto X0.here hx rfl (pc0 := 19) (pc' := 2) rfl (hb hby d6_19) (by decide) (by decide) ?_
    show Steps p.tables e below (s₁.setTop (mkF m 2 #[.val (.ref a1), .val (.int (3 : Int32)), .val (.int (2 : Int32))] [])) _
    refine XS.iloadN X0.here hx rfl (hb hby d6_2) rfl ?_
    show Steps p.tables e below (s₁.setTop (mkF m 3 #[.val (.ref a1), .val (.int (3 : Int32)), .val (.int (2 : Int32))] [(.int (2 : Int32))])) _
    refine XS.ifNo X0.here hx rfl (hb hby d6_3) rfl ((if0 _ _).trans (tlt ((by decide) : (0 : Int32) < (2 : Int32))).2.2.2) ?_
    show Steps p.tables e below (s₁.setTop (mkF m 6 #[.val (.ref a1), .val (.int (3 : Int32)), .val (.int (2 : Int32))] [])) _
    refine XS.aloadN X0.here hx rfl (hb hby d6_6) rfl rfl ?_
    show Steps p.tables e below (s₁.setTop (mkF m 7 #[.val (.ref a1), .val (.int (3 : Int32)), .val (.int (2 : Int32))] [(.ref a1)])) _
    refine XS.iloadN X0.here hx rfl (hb hby d6_7) rfl ?_
    show Steps p.tables e below (s₁.setTop (mkF m 8 #[.val (.ref a1), .val (.int (3 : Int32)), .val (.int (2 : Int32))] [(.int (2 : Int32)), (.ref a1)])) _
    refine XS.iconst X0.here hx rfl (hb hby d6_8) ?_
    show Steps p.tables e below (s₁.setTop (mkF m 9 #[.val (.ref a1), .val (.int (3 : Int32)), .val (.int (2 : Int32))] [(.int (1 : Int32)), (.int (2 : Int32)), (.ref a1)])) _
    refine XS.isub X0.here hx rfl (hb hby d6_9) rfl ?_
    show Steps p.tables e below (s₁.setTop (mkF m 10 #[.val (.ref a1), .val (.int (3 : Int32)), .val (.int (2 : Int32))] [(.int (1 : Int32)), (.ref a1)])) _
    refine X0.laload hx (j := (1 : Int32)) (v := (.long w1)) (by rw [e0]; exact ArW.1) (State.isArrayOf_alike hZ.alike ArW.2.1) ArW.2.2 inW1 atW1 (g := (mkF m 10 #[.val (.ref a1), .val (.int (3 : Int32)), .val (.int (2 : Int32))] [(.int (1 : Int32)), (.ref a1)])) rfl rfl (hb hby d6_10) _ ?_
    show Steps p.tables e below (s₁.setTop (mkF m 11 #[.val (.ref a1), .val (.int (3 : Int32)), .val (.int (2 : Int32))] [(.long w1)])) _
    refine XS.lconst X0.here hx rfl (hb hby d6_11) ?_
    show Steps p.tables e below (s₁.setTop (mkF m 12 #[.val (.ref a1), .val (.int (3 : Int32)), .val (.int (2 : Int32))] [(.long (0 : Int64)), (.long w1)])) _
    refine XS.lcmp X0.here hx rfl (hb hby d6_12) rfl ?_
    show Steps p.tables e below (s₁.setTop (mkF m 13 #[.val (.ref a1), .val (.int (3 : Int32)), .val (.int (2 : Int32))] [(.int (lcmpW w1 (0 : Int64)))])) _
    refine XS.ifYes X0.here hx rfl (pc0 := 13) (pc' := 22) rfl (hb hby d6_13) rfl ((if0 _ _).trans (feq (hw1 : ¬ ((lcmpW w1 (0 : Int64)) = (0 : Int32)))).2) (by decide) (by decide) ?_
    show Steps p.tables e below (s₁.setTop (mkF m 22 #[.val (.ref a1), .val (.int (3 : Int32)), .val (.int (2 : Int32))] [])) _
    refine XS.iloadN X0.here hx rfl (hb hby d6_22) rfl ?_
    show Steps p.tables e below (s₁.setTop (mkF m 23 #[.val (.ref a1), .val (.int (3 : Int32)), .val (.int (2 : Int32))] [(.int (2 : Int32))])) _
    exact retI X0 hx Bd.returns (hb hby d6_23) hr
  · show Q6 w0 w1 w2 h0 n0 _ s₁.heap _
    rw [e0]
    exact ⟨by simp [pSig, hw2, hw1], N0, rfl⟩
set_option maxRecDepth 65536 in
set_option maxHeartbeats 40000000 in
theorem rm6_1 (l : Launch) (Z : State) (a0 : Array Value) (hw : ∀ d ∈ tables_1, d.before a0 Z = true) (ws : List Jvm.Cond) (a1 : Addr) (w0 w1 w2 : Int64) (k : ClassId) (dv : Value) (h0 : Heap) (n0 : Nat) (Z0 : n0 ≤ h0.size) (V : Arv Z h0 a1 k .long (3 : Int32) [.long w0, .long w1, .long w2] dv) (hw2 : lcmpW w2 (0 : Int64) = 0) (hw1 : lcmpW w1 (0 : Int64) = 0) (hw0 : ¬ (lcmpW w0 (0 : Int64) = 0)) :
    MetFree l (⟨"ringfold/modular/Words", "significant", "([JI)I"⟩ : MethodName) (head1 (Jvm.Cond.code (⟨"ringfold/modular/Words", "significant", "([JI)I"⟩ : MethodName) prog_35_method_7_code 3 (some .int) :: ws) ({ frames := 0, cells := 0, slots := 0, locals := 0 } : Room)) (fun a U => a = #[(.ref a1), (.int (3 : Int32))] ∧ Z.Warmed39 U.vm ∧ U.heap = h0) (fun _ _ _ _ _ => True) (fun _ U o U' => ∃ v L, o = .returned v ∧ Q6 w0 w1 w2 h0 n0 v U'.heap L ∧ FrameEnd U o U' L ({ frames := 0, cells := 0, slots := 0, locals := 0 } : Room).cells ({ frames := 0, cells := 0, slots := 0, locals := 0 } : Room).slots) := by
  refine MetFree.of_bodySF (plainFor_of_name pn_6) hisR ?_
  intro p e s m args below meth c s₁ Bd hml0 hP hK
  obtain ⟨rfl, hZ, hh⟩ := hP
  have hx := Bd.exec
  have hby := Bd.bytes
  have hown : s.vm.findClass "ringfold/modular/Words" = some m.cls := findClass_of_methodNamed Bd.named
  have X0 : Stand p l e ({ frames := 0, cells := 0, slots := 0, locals := 0 } : Room) s m #[(.ref a1), (.int (3 : Int32))] below meth c s₁ [] 0 0 := Stand.of_body Bd
  have e0 : s₁.heap = h0 := by rw [← hh, Bd.state]; rfl
  have N0 := Fr.nil n0
  have pre0 : ∀ t, Steps p.tables e below (s₁.setTop (mkF m 0 #[.val (.ref a1), .val (.int (3 : Int32)), .unset] [])) t → Steps p.tables e below (s₁.setTop (entryFrame m #[(.ref a1), (.int (3 : Int32))] 3)) t := fun t k => castTop (ef_6 m a1 (3 : Int32)) k
  obtain ⟨clW, ArW, SW, ⟨inW0, atW0⟩, ⟨inW1, atW1⟩, ⟨inW2, atW2⟩⟩ := own_get V
  obtain ⟨fs, hr, hrun, hended, hW, hsame⟩ := X0.leave (v := some (.int (1 : Int32))) (fun h => by rw [Bd.returns] at h; cases h)
  refine ⟨_, _, pre0 _ ?_, hrun, hended, _, _, rfl, ?_, ⟨_, rfl⟩, hW, hsame.mono (by decide) (by decide)⟩
  · show Steps p.tables e below (s₁.setTop (mkF m 0 #[.val (.ref a1), .val (.int (3 : Int32)), .unset] [])) _
    refine XS.iloadN X0.here hx rfl (hb hby d6_0) rfl ?_
    show Steps p.tables e below (s₁.setTop (mkF m 1 #[.val (.ref a1), .val (.int (3 : Int32)), .unset] [(.int (3 : Int32))])) _
    refine XS.istoreN X0.here hx rfl (hb hby d6_1) rfl (l' := #[.val (.ref a1), .val (.int (3 : Int32)), .val (.int (3 : Int32))]) rfl ?_
    show Steps p.tables e below (s₁.setTop (mkF m 2 #[.val (.ref a1), .val (.int (3 : Int32)), .val (.int (3 : Int32))] [])) _
    refine XS.iloadN X0.here hx rfl (hb hby d6_2) rfl ?_
    show Steps p.tables e below (s₁.setTop (mkF m 3 #[.val (.ref a1), .val (.int (3 : Int32)), .val (.int (3 : Int32))] [(.int (3 : Int32))])) _
    refine XS.ifNo X0.here hx rfl (hb hby d6_3) rfl ((if0 _ _).trans (tlt ((by decide) : (0 : Int32) < (3 : Int32))).2.2.2) ?_
    show Steps p.tables e below (s₁.setTop (mkF m 6 #[.val (.ref a1), .val (.int (3 : Int32)), .val (.int (3 : Int32))] [])) _
    refine XS.aloadN X0.here hx rfl (hb hby d6_6) rfl rfl ?_
    show Steps p.tables e below (s₁.setTop (mkF m 7 #[.val (.ref a1), .val (.int (3 : Int32)), .val (.int (3 : Int32))] [(.ref a1)])) _
    refine XS.iloadN X0.here hx rfl (hb hby d6_7) rfl ?_
    show Steps p.tables e below (s₁.setTop (mkF m 8 #[.val (.ref a1), .val (.int (3 : Int32)), .val (.int (3 : Int32))] [(.int (3 : Int32)), (.ref a1)])) _
    refine XS.iconst X0.here hx rfl (hb hby d6_8) ?_
    show Steps p.tables e below (s₁.setTop (mkF m 9 #[.val (.ref a1), .val (.int (3 : Int32)), .val (.int (3 : Int32))] [(.int (1 : Int32)), (.int (3 : Int32)), (.ref a1)])) _
    refine XS.isub X0.here hx rfl (hb hby d6_9) rfl ?_
    show Steps p.tables e below (s₁.setTop (mkF m 10 #[.val (.ref a1), .val (.int (3 : Int32)), .val (.int (3 : Int32))] [(.int (2 : Int32)), (.ref a1)])) _
    refine X0.laload hx (j := (2 : Int32)) (v := (.long w2)) (by rw [e0]; exact ArW.1) (State.isArrayOf_alike hZ.alike ArW.2.1) ArW.2.2 inW2 atW2 (g := (mkF m 10 #[.val (.ref a1), .val (.int (3 : Int32)), .val (.int (3 : Int32))] [(.int (2 : Int32)), (.ref a1)])) rfl rfl (hb hby d6_10) _ ?_
    show Steps p.tables e below (s₁.setTop (mkF m 11 #[.val (.ref a1), .val (.int (3 : Int32)), .val (.int (3 : Int32))] [(.long w2)])) _
    refine XS.lconst X0.here hx rfl (hb hby d6_11) ?_
    show Steps p.tables e below (s₁.setTop (mkF m 12 #[.val (.ref a1), .val (.int (3 : Int32)), .val (.int (3 : Int32))] [(.long (0 : Int64)), (.long w2)])) _
    refine XS.lcmp X0.here hx rfl (hb hby d6_12) rfl ?_
    show Steps p.tables e below (s₁.setTop (mkF m 13 #[.val (.ref a1), .val (.int (3 : Int32)), .val (.int (3 : Int32))] [(.int (lcmpW w2 (0 : Int64)))])) _
    refine XS.ifNo X0.here hx rfl (hb hby d6_13) rfl ((if0 _ _).trans (teq (hw2 : (lcmpW w2 (0 : Int64)) = (0 : Int32))).2) ?_
    show Steps p.tables e below (s₁.setTop (mkF m 16 #[.val (.ref a1), .val (.int (3 : Int32)), .val (.int (3 : Int32))] [])) _
    refine XS.iinc X0.here hx rfl (hb hby d6_16) rfl (l' := #[.val (.ref a1), .val (.int (3 : Int32)), .val (.int (2 : Int32))]) rfl ?_
    show Steps p.tables e below (s₁.setTop (mkF m 19 #[.val (.ref a1), .val (.int (3 : Int32)), .val (.int (2 : Int32))] [])) _
    refine XS.goto X0.here hx rfl (pc0 := 19) (pc' := 2) rfl (hb hby d6_19) (by decide) (by decide) ?_
    show Steps p.tables e below (s₁.setTop (mkF m 2 #[.val (.ref a1), .val (.int (3 : Int32)), .val (.int (2 : Int32))] [])) _
    refine XS.iloadN X0.here hx rfl (hb hby d6_2) rfl ?_
    show Steps p.tables e below (s₁.setTop (mkF m 3 #[.val (.ref a1), .val (.int (3 : Int32)), .val (.int (2 : Int32))] [(.int (2 : Int32))])) _
    refine XS.ifNo X0.here hx rfl (hb hby d6_3) rfl ((if0 _ _).trans (tlt ((by decide) : (0 : Int32) < (2 : Int32))).2.2.2) ?_
    show Steps p.tables e below (s₁.setTop (mkF m 6 #[.val (.ref a1), .val (.int (3 : Int32)), .val (.int (2 : Int32))] [])) _
    refine XS.aloadN X0.here hx rfl (hb hby d6_6) rfl rfl ?_
    show Steps p.tables e below (s₁.setTop (mkF m 7 #[.val (.ref a1), .val (.int (3 : Int32)), .val (.int (2 : Int32))] [(.ref a1)])) _
    refine XS.iloadN X0.here hx rfl (hb hby d6_7) rfl ?_
    show Steps p.tables e below (s₁.setTop (mkF m 8 #[.val (.ref a1), .val (.int (3 : Int32)), .val (.int (2 : Int32))] [(.int (2 : Int32)), (.ref a1)])) _
    refine XS.iconst X0.here hx rfl (hb hby d6_8) ?_
    show Steps p.tables e below (s₁.setTop (mkF m 9 #[.val (.ref a1), .val (.int (3 : Int32)), .val (.int (2 : Int32))] [(.int (1 : Int32)), (.int (2 : Int32)), (.ref a1)])) _
    refine XS.isub X0.here hx rfl (hb hby d6_9) rfl ?_
    show Steps p.tables e below (s₁.setTop (mkF m 10 #[.val (.ref a1), .val (.int (3 : Int32)), .val (.int (2 : Int32))] [(.int (1 : Int32)), (.ref a1)])) _
    refine X0.laload hx (j := (1 : Int32)) (v := (.long w1)) (by rw [e0]; exact ArW.1) (State.isArrayOf_alike hZ.alike ArW.2.1) ArW.2.2 inW1 atW1 (g := (mkF m 10 #[.val (.ref a1), .val (.int (3 : Int32)), .val (.int (2 : Int32))] [(.int (1 : Int32)), (.ref a1)])) rfl rfl (hb hby d6_10) _ ?_
    show Steps p.tables e below (s₁.setTop (mkF m 11 #[.val (.ref a1), .val (.int (3 : Int32)), .val (.int (2 : Int32))] [(.long w1)])) _
    refine XS.lconst X0.here hx rfl (hb hby d6_11) ?_
    show Steps p.tables e below (s₁.setTop (mkF m 12 #[.val (.ref a1), .val (.int (3 : Int32)), .val (.int (2 : Int32))] [(.long (0 : Int64)), (.long w1)])) _
    refine XS.lcmp X0.here hx rfl (hb hby d6_12) rfl ?_
    show Steps p.tables e below (s₁.setTop (mkF m 13 #[.val (.ref a1), .val (.int (3 : Int32)), .val (.int (2 : Int32))] [(.int (lcmpW w1 (0 : Int64)))])) _
    refine XS.ifNo X0.here hx rfl (hb hby d6_13) rfl ((if0 _ _).trans (teq (hw1 : (lcmpW w1 (0 : Int64)) = (0 : Int32))).2) ?_
    show Steps p.tables e below (s₁.setTop (mkF m 16 #[.val (.ref a1), .val (.int (3 : Int32)), .val (.int (2 : Int32))] [])) _
    refine XS.iinc X0.here hx rfl (hb hby d6_16) rfl (l' := #[.val (.ref a1), .val (.int (3 : Int32)), .val (.int (1 : Int32))]) rfl ?_
    show Steps p.tables e below (s₁.setTop (mkF m 19 #[.val (.ref a1), .val (.int (3 : Int32)), .val (.int (1 : Int32))] [])) _
    refine XS.goto X0.here hx rfl (pc0 := 19) (pc' := 2) rfl (hb hby d6_19) (by decide) (by decide) ?_
    show Steps p.tables e below (s₁.setTop (mkF m 2 #[.val (.ref a1), .val (.int (3 : Int32)), .val (.int (1 : Int32))] [])) _
    refine XS.iloadN X0.here hx rfl (hb hby d6_2) rfl ?_
    show Steps p.tables e below (s₁.setTop (mkF m 3 #[.val (.ref a1), .val (.int (3 : Int32)), .val (.int (1 : Int32))] [(.int (1 : Int32))])) _
    refine XS.ifNo X0.here hx rfl (hb hby d6_3) rfl ((if0 _ _).trans (tlt ((by decide) : (0 : Int32) < (1 : Int32))).2.2.2) ?_
    show Steps p.tables e below (s₁.setTop (mkF m 6 #[.val (.ref a1), .val (.int (3 : Int32)), .val (.int (1 : Int32))] [])) _
    refine XS.aloadN X0.here hx rfl (hb hby d6_6) rfl rfl ?_
    show Steps p.tables e below (s₁.setTop (mkF m 7 #[.val (.ref a1), .val (.int (3 : Int32)), .val (.int (1 : Int32))] [(.ref a1)])) _
    refine XS.iloadN X0.here hx rfl (hb hby d6_7) rfl ?_
    show Steps p.tables e below (s₁.setTop (mkF m 8 #[.val (.ref a1), .val (.int (3 : Int32)), .val (.int (1 : Int32))] [(.int (1 : Int32)), (.ref a1)])) _
    refine XS.iconst X0.here hx rfl (hb hby d6_8) ?_
    show Steps p.tables e below (s₁.setTop (mkF m 9 #[.val (.ref a1), .val (.int (3 : Int32)), .val (.int (1 : Int32))] [(.int (1 : Int32)), (.int (1 : Int32)), (.ref a1)])) _
    refine XS.isub X0.here hx rfl (hb hby d6_9) rfl ?_
    show Steps p.tables e below (s₁.setTop (mkF m 10 #[.val (.ref a1), .val (.int (3 : Int32)), .val (.int (1 : Int32))] [(.int (0 : Int32)), (.ref a1)])) _
    refine X0.laload hx (j := (0 : Int32)) (v := (.long w0)) (by rw [e0]; exact ArW.1) (State.isArrayOf_alike hZ.alike ArW.2.1) ArW.2.2 inW0 atW0 (g := (mkF m 10 #[.val (.ref a1), .val (.int (3 : Int32)), .val (.int (1 : Int32))] [(.int (0 : Int32)), (.ref a1)])) rfl rfl (hb hby d6_10) _ ?_
    show Steps p.tables e below (s₁.setTop (mkF m 11 #[.val (.ref a1), .val (.int (3 : Int32)), .val (.int (1 : Int32))] [(.long w0)])) _
    refine XS.lconst X0.here hx rfl (hb hby d6_11) ?_
    show Steps p.tables e below (s₁.setTop (mkF m 12 #[.val (.ref a1), .val (.int (3 : Int32)), .val (.int (1 : Int32))] [(.long (0 : Int64)), (.long w0)])) _
    refine XS.lcmp X0.here hx rfl (hb hby d6_12) rfl ?_
    show Steps p.tables e below (s₁.setTop (mkF m 13 #[.val (.ref a1), .val (.int (3 : Int32)), .val (.int (1 : Int32))] [(.int (lcmpW w0 (0 : Int64)))])) _
    refine XS.ifYes X0.here hx rfl (pc0 := 13) (pc' := 22) rfl (hb hby d6_13) rfl ((if0 _ _).trans (feq (hw0 : ¬ ((lcmpW w0 (0 : Int64)) = (0 : Int32)))).2) (by decide) (by decide) ?_
    show Steps p.tables e below (s₁.setTop (mkF m 22 #[.val (.ref a1), .val (.int (3 : Int32)), .val (.int (1 : Int32))] [])) _
    refine XS.iloadN X0.here hx rfl (hb hby d6_22) rfl ?_
    show Steps p.tables e below (s₁.setTop (mkF m 23 #[.val (.ref a1), .val (.int (3 : Int32)), .val (.int (1 : Int32))] [(.int (1 : Int32))])) _
    exact retI X0 hx Bd.returns (hb hby d6_23) hr
  · show Q6 w0 w1 w2 h0 n0 _ s₁.heap _
    rw [e0]
    exact ⟨by simp [pSig, hw2, hw1, hw0], N0, rfl⟩
set_option maxRecDepth 65536 in
set_option maxHeartbeats 40000000 in
theorem rm6_0 (l : Launch) (Z : State) (a0 : Array Value) (hw : ∀ d ∈ tables_1, d.before a0 Z = true) (ws : List Jvm.Cond) (a1 : Addr) (w0 w1 w2 : Int64) (k : ClassId) (dv : Value) (h0 : Heap) (n0 : Nat) (Z0 : n0 ≤ h0.size) (V : Arv Z h0 a1 k .long (3 : Int32) [.long w0, .long w1, .long w2] dv) (hw2 : lcmpW w2 (0 : Int64) = 0) (hw1 : lcmpW w1 (0 : Int64) = 0) (hw0 : lcmpW w0 (0 : Int64) = 0) :
    MetFree l (⟨"ringfold/modular/Words", "significant", "([JI)I"⟩ : MethodName) (head1 (Jvm.Cond.code (⟨"ringfold/modular/Words", "significant", "([JI)I"⟩ : MethodName) prog_35_method_7_code 3 (some .int) :: ws) ({ frames := 0, cells := 0, slots := 0, locals := 0 } : Room)) (fun a U => a = #[(.ref a1), (.int (3 : Int32))] ∧ Z.Warmed39 U.vm ∧ U.heap = h0) (fun _ _ _ _ _ => True) (fun _ U o U' => ∃ v L, o = .returned v ∧ Q6 w0 w1 w2 h0 n0 v U'.heap L ∧ FrameEnd U o U' L ({ frames := 0, cells := 0, slots := 0, locals := 0 } : Room).cells ({ frames := 0, cells := 0, slots := 0, locals := 0 } : Room).slots) := by
  refine MetFree.of_bodySF (plainFor_of_name pn_6) hisR ?_
  intro p e s m args below meth c s₁ Bd hml0 hP hK
  obtain ⟨rfl, hZ, hh⟩ := hP
  have hx := Bd.exec
  have hby := Bd.bytes
  have hown : s.vm.findClass "ringfold/modular/Words" = some m.cls := findClass_of_methodNamed Bd.named
  have X0 : Stand p l e ({ frames := 0, cells := 0, slots := 0, locals := 0 } : Room) s m #[(.ref a1), (.int (3 : Int32))] below meth c s₁ [] 0 0 := Stand.of_body Bd
  have e0 : s₁.heap = h0 := by rw [← hh, Bd.state]; rfl
  have N0 := Fr.nil n0
  have pre0 : ∀ t, Steps p.tables e below (s₁.setTop (mkF m 0 #[.val (.ref a1), .val (.int (3 : Int32)), .unset] [])) t → Steps p.tables e below (s₁.setTop (entryFrame m #[(.ref a1), (.int (3 : Int32))] 3)) t := fun t k => castTop (ef_6 m a1 (3 : Int32)) k
  obtain ⟨clW, ArW, SW, ⟨inW0, atW0⟩, ⟨inW1, atW1⟩, ⟨inW2, atW2⟩⟩ := own_get V
  obtain ⟨fs, hr, hrun, hended, hW, hsame⟩ := X0.leave (v := some (.int (0 : Int32))) (fun h => by rw [Bd.returns] at h; cases h)
  refine ⟨_, _, pre0 _ ?_, hrun, hended, _, _, rfl, ?_, ⟨_, rfl⟩, hW, hsame.mono (by decide) (by decide)⟩
  · show Steps p.tables e below (s₁.setTop (mkF m 0 #[.val (.ref a1), .val (.int (3 : Int32)), .unset] [])) _
    refine XS.iloadN X0.here hx rfl (hb hby d6_0) rfl ?_
    show Steps p.tables e below (s₁.setTop (mkF m 1 #[.val (.ref a1), .val (.int (3 : Int32)), .unset] [(.int (3 : Int32))])) _
    refine XS.istoreN X0.here hx rfl (hb hby d6_1) rfl (l' := #[.val (.ref a1), .val (.int (3 : Int32)), .val (.int (3 : Int32))]) rfl ?_
    show Steps p.tables e below (s₁.setTop (mkF m 2 #[.val (.ref a1), .val (.int (3 : Int32)), .val (.int (3 : Int32))] [])) _
    refine XS.iloadN X0.here hx rfl (hb hby d6_2) rfl ?_
    show Steps p.tables e below (s₁.setTop (mkF m 3 #[.val (.ref a1), .val (.int (3 : Int32)), .val (.int (3 : Int32))] [(.int (3 : Int32))])) _
    refine XS.ifNo X0.here hx rfl (hb hby d6_3) rfl ((if0 _ _).trans (tlt ((by decide) : (0 : Int32) < (3 : Int32))).2.2.2) ?_
    show Steps p.tables e below (s₁.setTop (mkF m 6 #[.val (.ref a1), .val (.int (3 : Int32)), .val (.int (3 : Int32))] [])) _
    refine XS.aloadN X0.here hx rfl (hb hby d6_6) rfl rfl ?_
    show Steps p.tables e below (s₁.setTop (mkF m 7 #[.val (.ref a1), .val (.int (3 : Int32)), .val (.int (3 : Int32))] [(.ref a1)])) _
    refine XS.iloadN X0.here hx rfl (hb hby d6_7) rfl ?_
    show Steps p.tables e below (s₁.setTop (mkF m 8 #[.val (.ref a1), .val (.int (3 : Int32)), .val (.int (3 : Int32))] [(.int (3 : Int32)), (.ref a1)])) _
    refine XS.iconst X0.here hx rfl (hb hby d6_8) ?_
    show Steps p.tables e below (s₁.setTop (mkF m 9 #[.val (.ref a1), .val (.int (3 : Int32)), .val (.int (3 : Int32))] [(.int (1 : Int32)), (.int (3 : Int32)), (.ref a1)])) _
    refine XS.isub X0.here hx rfl (hb hby d6_9) rfl ?_
    show Steps p.tables e below (s₁.setTop (mkF m 10 #[.val (.ref a1), .val (.int (3 : Int32)), .val (.int (3 : Int32))] [(.int (2 : Int32)), (.ref a1)])) _
    refine X0.laload hx (j := (2 : Int32)) (v := (.long w2)) (by rw [e0]; exact ArW.1) (State.isArrayOf_alike hZ.alike ArW.2.1) ArW.2.2 inW2 atW2 (g := (mkF m 10 #[.val (.ref a1), .val (.int (3 : Int32)), .val (.int (3 : Int32))] [(.int (2 : Int32)), (.ref a1)])) rfl rfl (hb hby d6_10) _ ?_
    show Steps p.tables e below (s₁.setTop (mkF m 11 #[.val (.ref a1), .val (.int (3 : Int32)), .val (.int (3 : Int32))] [(.long w2)])) _
    refine XS.lconst X0.here hx rfl (hb hby d6_11) ?_
    show Steps p.tables e below (s₁.setTop (mkF m 12 #[.val (.ref a1), .val (.int (3 : Int32)), .val (.int (3 : Int32))] [(.long (0 : Int64)), (.long w2)])) _
    refine XS.lcmp X0.here hx rfl (hb hby d6_12) rfl ?_
    show Steps p.tables e below (s₁.setTop (mkF m 13 #[.val (.ref a1), .val (.int (3 : Int32)), .val (.int (3 : Int32))] [(.int (lcmpW w2 (0 : Int64)))])) _
    refine XS.ifNo X0.here hx rfl (hb hby d6_13) rfl ((if0 _ _).trans (teq (hw2 : (lcmpW w2 (0 : Int64)) = (0 : Int32))).2) ?_
    show Steps p.tables e below (s₁.setTop (mkF m 16 #[.val (.ref a1), .val (.int (3 : Int32)), .val (.int (3 : Int32))] [])) _
    refine XS.iinc X0.here hx rfl (hb hby d6_16) rfl (l' := #[.val (.ref a1), .val (.int (3 : Int32)), .val (.int (2 : Int32))]) rfl ?_
    show Steps p.tables e below (s₁.setTop (mkF m 19 #[.val (.ref a1), .val (.int (3 : Int32)), .val (.int (2 : Int32))] [])) _
    refine XS.goto X0.here hx rfl (pc0 := 19) (pc' := 2) rfl (hb hby d6_19) (by decide) (by decide) ?_
    show Steps p.tables e below (s₁.setTop (mkF m 2 #[.val (.ref a1), .val (.int (3 : Int32)), .val (.int (2 : Int32))] [])) _
    refine XS.iloadN X0.here hx rfl (hb hby d6_2) rfl ?_
    show Steps p.tables e below (s₁.setTop (mkF m 3 #[.val (.ref a1), .val (.int (3 : Int32)), .val (.int (2 : Int32))] [(.int (2 : Int32))])) _
    refine XS.ifNo X0.here hx rfl (hb hby d6_3) rfl ((if0 _ _).trans (tlt ((by decide) : (0 : Int32) < (2 : Int32))).2.2.2) ?_
    show Steps p.tables e below (s₁.setTop (mkF m 6 #[.val (.ref a1), .val (.int (3 : Int32)), .val (.int (2 : Int32))] [])) _
    refine XS.aloadN X0.here hx rfl (hb hby d6_6) rfl rfl ?_
    show Steps p.tables e below (s₁.setTop (mkF m 7 #[.val (.ref a1), .val (.int (3 : Int32)), .val (.int (2 : Int32))] [(.ref a1)])) _
    refine XS.iloadN X0.here hx rfl (hb hby d6_7) rfl ?_
    show Steps p.tables e below (s₁.setTop (mkF m 8 #[.val (.ref a1), .val (.int (3 : Int32)), .val (.int (2 : Int32))] [(.int (2 : Int32)), (.ref a1)])) _
    refine XS.iconst X0.here hx rfl (hb hby d6_8) ?_
    show Steps p.tables e below (s₁.setTop (mkF m 9 #[.val (.ref a1), .val (.int (3 : Int32)), .val (.int (2 : Int32))] [(.int (1 : Int32)), (.int (2 : Int32)), (.ref a1)])) _
    refine XS.isub X0.here hx rfl (hb hby d6_9) rfl ?_
    show Steps p.tables e below (s₁.setTop (mkF m 10 #[.val (.ref a1), .val (.int (3 : Int32)), .val (.int (2 : Int32))] [(.int (1 : Int32)), (.ref a1)])) _
    refine X0.laload hx (j := (1 : Int32)) (v := (.long w1)) (by rw [e0]; exact ArW.1) (State.isArrayOf_alike hZ.alike ArW.2.1) ArW.2.2 inW1 atW1 (g := (mkF m 10 #[.val (.ref a1), .val (.int (3 : Int32)), .val (.int (2 : Int32))] [(.int (1 : Int32)), (.ref a1)])) rfl rfl (hb hby d6_10) _ ?_
    show Steps p.tables e below (s₁.setTop (mkF m 11 #[.val (.ref a1), .val (.int (3 : Int32)), .val (.int (2 : Int32))] [(.long w1)])) _
    refine XS.lconst X0.here hx rfl (hb hby d6_11) ?_
    show Steps p.tables e below (s₁.setTop (mkF m 12 #[.val (.ref a1), .val (.int (3 : Int32)), .val (.int (2 : Int32))] [(.long (0 : Int64)), (.long w1)])) _
    refine XS.lcmp X0.here hx rfl (hb hby d6_12) rfl ?_
    show Steps p.tables e below (s₁.setTop (mkF m 13 #[.val (.ref a1), .val (.int (3 : Int32)), .val (.int (2 : Int32))] [(.int (lcmpW w1 (0 : Int64)))])) _
    refine XS.ifNo X0.here hx rfl (hb hby d6_13) rfl ((if0 _ _).trans (teq (hw1 : (lcmpW w1 (0 : Int64)) = (0 : Int32))).2) ?_
    show Steps p.tables e below (s₁.setTop (mkF m 16 #[.val (.ref a1), .val (.int (3 : Int32)), .val (.int (2 : Int32))] [])) _
    refine XS.iinc X0.here hx rfl (hb hby d6_16) rfl (l' := #[.val (.ref a1), .val (.int (3 : Int32)), .val (.int (1 : Int32))]) rfl ?_
    show Steps p.tables e below (s₁.setTop (mkF m 19 #[.val (.ref a1), .val (.int (3 : Int32)), .val (.int (1 : Int32))] [])) _
    refine XS.goto X0.here hx rfl (pc0 := 19) (pc' := 2) rfl (hb hby d6_19) (by decide) (by decide) ?_
    show Steps p.tables e below (s₁.setTop (mkF m 2 #[.val (.ref a1), .val (.int (3 : Int32)), .val (.int (1 : Int32))] [])) _
    refine XS.iloadN X0.here hx rfl (hb hby d6_2) rfl ?_
    show Steps p.tables e below (s₁.setTop (mkF m 3 #[.val (.ref a1), .val (.int (3 : Int32)), .val (.int (1 : Int32))] [(.int (1 : Int32))])) _
    refine XS.ifNo X0.here hx rfl (hb hby d6_3) rfl ((if0 _ _).trans (tlt ((by decide) : (0 : Int32) < (1 : Int32))).2.2.2) ?_
    show Steps p.tables e below (s₁.setTop (mkF m 6 #[.val (.ref a1), .val (.int (3 : Int32)), .val (.int (1 : Int32))] [])) _
    refine XS.aloadN X0.here hx rfl (hb hby d6_6) rfl rfl ?_
    show Steps p.tables e below (s₁.setTop (mkF m 7 #[.val (.ref a1), .val (.int (3 : Int32)), .val (.int (1 : Int32))] [(.ref a1)])) _
    refine XS.iloadN X0.here hx rfl (hb hby d6_7) rfl ?_
    show Steps p.tables e below (s₁.setTop (mkF m 8 #[.val (.ref a1), .val (.int (3 : Int32)), .val (.int (1 : Int32))] [(.int (1 : Int32)), (.ref a1)])) _
    refine XS.iconst X0.here hx rfl (hb hby d6_8) ?_
    show Steps p.tables e below (s₁.setTop (mkF m 9 #[.val (.ref a1), .val (.int (3 : Int32)), .val (.int (1 : Int32))] [(.int (1 : Int32)), (.int (1 : Int32)), (.ref a1)])) _
    refine XS.isub X0.here hx rfl (hb hby d6_9) rfl ?_
    show Steps p.tables e below (s₁.setTop (mkF m 10 #[.val (.ref a1), .val (.int (3 : Int32)), .val (.int (1 : Int32))] [(.int (0 : Int32)), (.ref a1)])) _
    refine X0.laload hx (j := (0 : Int32)) (v := (.long w0)) (by rw [e0]; exact ArW.1) (State.isArrayOf_alike hZ.alike ArW.2.1) ArW.2.2 inW0 atW0 (g := (mkF m 10 #[.val (.ref a1), .val (.int (3 : Int32)), .val (.int (1 : Int32))] [(.int (0 : Int32)), (.ref a1)])) rfl rfl (hb hby d6_10) _ ?_
    show Steps p.tables e below (s₁.setTop (mkF m 11 #[.val (.ref a1), .val (.int (3 : Int32)), .val (.int (1 : Int32))] [(.long w0)])) _
    refine XS.lconst X0.here hx rfl (hb hby d6_11) ?_
    show Steps p.tables e below (s₁.setTop (mkF m 12 #[.val (.ref a1), .val (.int (3 : Int32)), .val (.int (1 : Int32))] [(.long (0 : Int64)), (.long w0)])) _
    refine XS.lcmp X0.here hx rfl (hb hby d6_12) rfl ?_
    show Steps p.tables e below (s₁.setTop (mkF m 13 #[.val (.ref a1), .val (.int (3 : Int32)), .val (.int (1 : Int32))] [(.int (lcmpW w0 (0 : Int64)))])) _
    refine XS.ifNo X0.here hx rfl (hb hby d6_13) rfl ((if0 _ _).trans (teq (hw0 : (lcmpW w0 (0 : Int64)) = (0 : Int32))).2) ?_
    show Steps p.tables e below (s₁.setTop (mkF m 16 #[.val (.ref a1), .val (.int (3 : Int32)), .val (.int (1 : Int32))] [])) _
    refine XS.iinc X0.here hx rfl (hb hby d6_16) rfl (l' := #[.val (.ref a1), .val (.int (3 : Int32)), .val (.int (0 : Int32))]) rfl ?_
    show Steps p.tables e below (s₁.setTop (mkF m 19 #[.val (.ref a1), .val (.int (3 : Int32)), .val (.int (0 : Int32))] [])) _
    refine XS.goto X0.here hx rfl (pc0 := 19) (pc' := 2) rfl (hb hby d6_19) (by decide) (by decide) ?_
    show Steps p.tables e below (s₁.setTop (mkF m 2 #[.val (.ref a1), .val (.int (3 : Int32)), .val (.int (0 : Int32))] [])) _
    refine XS.iloadN X0.here hx rfl (hb hby d6_2) rfl ?_
    show Steps p.tables e below (s₁.setTop (mkF m 3 #[.val (.ref a1), .val (.int (3 : Int32)), .val (.int (0 : Int32))] [(.int (0 : Int32))])) _
    refine XS.ifYes X0.here hx rfl (pc0 := 3) (pc' := 22) rfl (hb hby d6_3) rfl ((if0 _ _).trans (flt ((by decide) : ¬ ((0 : Int32) < (0 : Int32)))).2.2.2) (by decide) (by decide) ?_
    show Steps p.tables e below (s₁.setTop (mkF m 22 #[.val (.ref a1), .val (.int (3 : Int32)), .val (.int (0 : Int32))] [])) _
    refine XS.iloadN X0.here hx rfl (hb hby d6_22) rfl ?_
    show Steps p.tables e below (s₁.setTop (mkF m 23 #[.val (.ref a1), .val (.int (3 : Int32)), .val (.int (0 : Int32))] [(.int (0 : Int32))])) _
    exact retI X0 hx Bd.returns (hb hby d6_23) hr
  · show Q6 w0 w1 w2 h0 n0 _ s₁.heap _
    rw [e0]
    exact ⟨by simp [pSig, hw2, hw1, hw0], N0, rfl⟩
theorem rm6 (l : Launch) (Z : State) (a0 : Array Value) (hw : ∀ d ∈ tables_1, d.before a0 Z = true) (ws : List Jvm.Cond) (a1 : Addr) (w0 w1 w2 : Int64) (k : ClassId) (dv : Value) (h0 : Heap) (n0 : Nat) (Z0 : n0 ≤ h0.size) (V : Arv Z h0 a1 k .long (3 : Int32) [.long w0, .long w1, .long w2] dv) :
    MetFree l (⟨"ringfold/modular/Words", "significant", "([JI)I"⟩ : MethodName) (head1 (Jvm.Cond.code (⟨"ringfold/modular/Words", "significant", "([JI)I"⟩ : MethodName) prog_35_method_7_code 3 (some .int) :: ws) ({ frames := 0, cells := 0, slots := 0, locals := 0 } : Room)) (fun a U => a = #[(.ref a1), (.int (3 : Int32))] ∧ Z.Warmed39 U.vm ∧ U.heap = h0) (fun _ _ _ _ _ => True) (fun _ U o U' => ∃ v L, o = .returned v ∧ Q6 w0 w1 w2 h0 n0 v U'.heap L ∧ FrameEnd U o U' L ({ frames := 0, cells := 0, slots := 0, locals := 0 } : Room).cells ({ frames := 0, cells := 0, slots := 0, locals := 0 } : Room).slots) := by
  by_cases h2 : lcmpW w2 (0 : Int64) = 0
  · by_cases h1 : lcmpW w1 (0 : Int64) = 0
    · by_cases h0' : lcmpW w0 (0 : Int64) = 0
      · exact rm6_0 l Z a0 hw ws a1 w0 w1 w2 k dv h0 n0 Z0 V h2 h1 h0'
      · exact rm6_1 l Z a0 hw ws a1 w0 w1 w2 k dv h0 n0 Z0 V h2 h1 h0'
    · exact rm6_2 l Z a0 hw ws a1 w0 w1 w2 k dv h0 n0 Z0 V h2 h1
  · exact rm6_3 l Z a0 hw ws a1 w0 w1 w2 k dv h0 n0 Z0 V h2
abbrev own_k0 (a1 : Addr) (a2 : Addr) (len : Int32) (bor : Int64) : Array Slot := #[.val (.ref a1), .val (.ref a2), .val (.int len), .val (.long bor), .second, .val (.int (0 : Int32)), .unset, .unset, .unset, .unset]
abbrev own_k1 (a1 : Addr) (a2 : Addr) (len : Int32) (bor : Int64) (w0 : Int64) : Array Slot := #[.val (.ref a1), .val (.ref a2), .val (.int len), .val (.long bor), .second, .val (.int (0 : Int32)), .val (.long w0), .second, .unset, .unset]
abbrev own_k2 (a1 : Addr) (a2 : Addr) (len : Int32) (bor : Int64) (sv : Int64) : Array Slot := #[.val (.ref a1), .val (.ref a2), .val (.int len), .val (.long bor), .second, .val (.int (0 : Int32)), .val (.long sv), .second, .unset, .unset]
abbrev own_k3 (a1 : Addr) (a2 : Addr) (len : Int32) (bor : Int64) : Array Slot := #[.val (.ref a1), .val (.ref a2), .val (.int len), .val (.long bor), .second, .val (.int (0 : Int32)), .val (.long (0 : Int64)), .second, .unset, .unset]
abbrev own_k4 (a1 : Addr) (a2 : Addr) (len : Int32) (bor : Int64) (sv : Int64) (m0 : Int64) : Array Slot := #[.val (.ref a1), .val (.ref a2), .val (.int len), .val (.long bor), .second, .val (.int (0 : Int32)), .val (.long sv), .second, .val (.long ((m0 - sv) - bor)), .second]
abbrev own_k5 (a1 : Addr) (a2 : Addr) (len : Int32) (bor : Int64) (sv : Int64) (dv : Int64) : Array Slot := #[.val (.ref a1), .val (.ref a2), .val (.int len), .val (.long bor), .second, .val (.int (0 : Int32)), .val (.long sv), .second, .val (.long dv), .second]
abbrev own_k6 (a1 : Addr) (a2 : Addr) (len : Int32) (sv : Int64) (dv : Int64) : Array Slot := #[.val (.ref a1), .val (.ref a2), .val (.int len), .val (.long (1 : Int64)), .second, .val (.int (0 : Int32)), .val (.long sv), .second, .val (.long dv), .second]
abbrev own_k7 (a1 : Addr) (a2 : Addr) (len : Int32) (nb : Int64) (sv : Int64) (dv : Int64) : Array Slot := #[.val (.ref a1), .val (.ref a2), .val (.int len), .val (.long nb), .second, .val (.int (0 : Int32)), .val (.long sv), .second, .val (.long dv), .second]
abbrev own_k8 (a1 : Addr) (a2 : Addr) (len : Int32) (sv : Int64) (dv : Int64) : Array Slot := #[.val (.ref a1), .val (.ref a2), .val (.int len), .val (.long (0 : Int64)), .second, .val (.int (0 : Int32)), .val (.long sv), .second, .val (.long dv), .second]
abbrev own_k9 (a1 : Addr) (a2 : Addr) (len : Int32) (nb : Int64) (sv : Int64) (dv : Int64) : Array Slot := #[.val (.ref a1), .val (.ref a2), .val (.int len), .val (.long nb), .second, .val (.int (1 : Int32)), .val (.long sv), .second, .val (.long dv), .second]
abbrev own_k10 (a1 : Addr) (a2 : Addr) (len : Int32) (bor : Int64) (sp : Int64) (dp : Int64) : Array Slot := #[.val (.ref a1), .val (.ref a2), .val (.int len), .val (.long bor), .second, .val (.int (1 : Int32)), .val (.long sp), .second, .val (.long dp), .second]
abbrev own_k11 (a1 : Addr) (a2 : Addr) (len : Int32) (bor : Int64) (w1 : Int64) (dp : Int64) : Array Slot := #[.val (.ref a1), .val (.ref a2), .val (.int len), .val (.long bor), .second, .val (.int (1 : Int32)), .val (.long w1), .second, .val (.long dp), .second]
abbrev own_k12 (a1 : Addr) (a2 : Addr) (len : Int32) (bor : Int64) (sv : Int64) (dp : Int64) : Array Slot := #[.val (.ref a1), .val (.ref a2), .val (.int len), .val (.long bor), .second, .val (.int (1 : Int32)), .val (.long sv), .second, .val (.long dp), .second]
abbrev own_k13 (a1 : Addr) (a2 : Addr) (len : Int32) (bor : Int64) (dp : Int64) : Array Slot := #[.val (.ref a1), .val (.ref a2), .val (.int len), .val (.long bor), .second, .val (.int (1 : Int32)), .val (.long (0 : Int64)), .second, .val (.long dp), .second]
abbrev own_k14 (a1 : Addr) (a2 : Addr) (len : Int32) (bor : Int64) (sv : Int64) (m1 : Int64) : Array Slot := #[.val (.ref a1), .val (.ref a2), .val (.int len), .val (.long bor), .second, .val (.int (1 : Int32)), .val (.long sv), .second, .val (.long ((m1 - sv) - bor)), .second]
abbrev own_k15 (a1 : Addr) (a2 : Addr) (len : Int32) (bor : Int64) (sv : Int64) (dv : Int64) : Array Slot := #[.val (.ref a1), .val (.ref a2), .val (.int len), .val (.long bor), .second, .val (.int (1 : Int32)), .val (.long sv), .second, .val (.long dv), .second]
abbrev own_k16 (a1 : Addr) (a2 : Addr) (len : Int32) (sv : Int64) (dv : Int64) : Array Slot := #[.val (.ref a1), .val (.ref a2), .val (.int len), .val (.long (1 : Int64)), .second, .val (.int (1 : Int32)), .val (.long sv), .second, .val (.long dv), .second]
abbrev own_k17 (a1 : Addr) (a2 : Addr) (len : Int32) (sv : Int64) (dv : Int64) : Array Slot := #[.val (.ref a1), .val (.ref a2), .val (.int len), .val (.long (0 : Int64)), .second, .val (.int (1 : Int32)), .val (.long sv), .second, .val (.long dv), .second]
abbrev own_k18 (a1 : Addr) (a2 : Addr) (len : Int32) (nb : Int64) (sv : Int64) (dv : Int64) : Array Slot := #[.val (.ref a1), .val (.ref a2), .val (.int len), .val (.long nb), .second, .val (.int (2 : Int32)), .val (.long sv), .second, .val (.long dv), .second]
abbrev own_k19 (a1 : Addr) (a2 : Addr) (len : Int32) (bor : Int64) (sp : Int64) (dp : Int64) : Array Slot := #[.val (.ref a1), .val (.ref a2), .val (.int len), .val (.long bor), .second, .val (.int (2 : Int32)), .val (.long sp), .second, .val (.long dp), .second]
abbrev own_k20 (a1 : Addr) (a2 : Addr) (len : Int32) (bor : Int64) (w2 : Int64) (dp : Int64) : Array Slot := #[.val (.ref a1), .val (.ref a2), .val (.int len), .val (.long bor), .second, .val (.int (2 : Int32)), .val (.long w2), .second, .val (.long dp), .second]
abbrev own_k21 (a1 : Addr) (a2 : Addr) (len : Int32) (bor : Int64) (sv : Int64) (dp : Int64) : Array Slot := #[.val (.ref a1), .val (.ref a2), .val (.int len), .val (.long bor), .second, .val (.int (2 : Int32)), .val (.long sv), .second, .val (.long dp), .second]
abbrev own_k22 (a1 : Addr) (a2 : Addr) (len : Int32) (bor : Int64) (dp : Int64) : Array Slot := #[.val (.ref a1), .val (.ref a2), .val (.int len), .val (.long bor), .second, .val (.int (2 : Int32)), .val (.long (0 : Int64)), .second, .val (.long dp), .second]
abbrev own_k23 (a1 : Addr) (a2 : Addr) (len : Int32) (bor : Int64) (sv : Int64) (m2 : Int64) : Array Slot := #[.val (.ref a1), .val (.ref a2), .val (.int len), .val (.long bor), .second, .val (.int (2 : Int32)), .val (.long sv), .second, .val (.long ((m2 - sv) - bor)), .second]
abbrev own_k24 (a1 : Addr) (a2 : Addr) (len : Int32) (bor : Int64) (sv : Int64) (dv : Int64) : Array Slot := #[.val (.ref a1), .val (.ref a2), .val (.int len), .val (.long bor), .second, .val (.int (2 : Int32)), .val (.long sv), .second, .val (.long dv), .second]
abbrev own_k25 (a1 : Addr) (a2 : Addr) (len : Int32) (sv : Int64) (dv : Int64) : Array Slot := #[.val (.ref a1), .val (.ref a2), .val (.int len), .val (.long (1 : Int64)), .second, .val (.int (2 : Int32)), .val (.long sv), .second, .val (.long dv), .second]
abbrev own_k26 (a1 : Addr) (a2 : Addr) (len : Int32) (sv : Int64) (dv : Int64) : Array Slot := #[.val (.ref a1), .val (.ref a2), .val (.int len), .val (.long (0 : Int64)), .second, .val (.int (2 : Int32)), .val (.long sv), .second, .val (.long dv), .second]
abbrev own_k27 (a1 : Addr) (a2 : Addr) (len : Int32) (nb : Int64) (sv : Int64) (dv : Int64) : Array Slot := #[.val (.ref a1), .val (.ref a2), .val (.int len), .val (.long nb), .second, .val (.int (3 : Int32)), .val (.long sv), .second, .val (.long dv), .second]
abbrev own_k28 (a1 : Addr) (a2 : Addr) (len : Int32) : Array Slot := #[.val (.ref a1), .val (.ref a2), .val (.int len), .unset, .unset, .unset, .unset, .unset, .unset, .unset]
abbrev own_k29 (a1 : Addr) (a2 : Addr) (len : Int32) : Array Slot := #[.val (.ref a1), .val (.ref a2), .val (.int len), .val (.long (0 : Int64)), .second, .unset, .unset, .unset, .unset, .unset]
abbrev own_k30 (a1 : Addr) (a2 : Addr) (len : Int32) : Array Slot := #[.val (.ref a1), .val (.ref a2), .val (.int len), .val (.long (0 : Int64)), .second, .val (.int (0 : Int32)), .unset, .unset, .unset, .unset]
abbrev own_k31 (a1 : Addr) (a2 : Addr) (len : Int32) (bor : Int64) (sp : Int64) (dp : Int64) : Array Slot := #[.val (.ref a1), .val (.ref a2), .val (.int len), .val (.long bor), .second, .val (.int (3 : Int32)), .val (.long sp), .second, .val (.long dp), .second]
set_option maxRecDepth 65536 in
set_option maxHeartbeats 4000000 in
theorem sa0_f {p : Program} {l : Launch} {e : Env} {R : Room} {s : State} {m : MethodId} {args : Array Value} {below : List Frame} {meth : Method} {c : Code} {T0 : State} {locs : List Loc} {cells slots : Nat} {Z : State} {h0 : Heap} {clM clW : Cell} (a1 a2 : Addr) (len : Int32) (bor : Int64) (m0 m1 m2 w0 w1 w2 : Int64) (sv : Int64) (X0 : Stand p l e R s m args below meth c T0 locs cells slots) (hx : p.tables.exec = Jvm.exec) (hby : c.code = prog_35_method_5_code) (hZ : Z.Warmed39 s.vm) (e0 : T0.heap = h0) (ArM : Arr Z h0 a1 clM .long) (SM : clM.slots.size = (3 : Int32).toNatClampNeg) (inM0 : ¬ ((0 : Int32) < 0 ∨ clM.slots.size ≤ (0 : Int32).toNatClampNeg)) (atM0 : clM.slots[(0 : Int32).toNatClampNeg]? = some (.long m0)) (inM1 : ¬ ((1 : Int32) < 0 ∨ clM.slots.size ≤ (1 : Int32).toNatClampNeg)) (atM1 : clM.slots[(1 : Int32).toNatClampNeg]? = some (.long m1)) (inM2 : ¬ ((2 : Int32) < 0 ∨ clM.slots.size ≤ (2 : Int32).toNatClampNeg)) (atM2 : clM.slots[(2 : Int32).toNatClampNeg]? = some (.long m2)) (ArW : Arr Z h0 a2 clW .long) (SW : clW.slots.size = (3 : Int32).toNatClampNeg) (inW0 : ¬ ((0 : Int32) < 0 ∨ clW.slots.size ≤ (0 : Int32).toNatClampNeg)) (atW0 : clW.slots[(0 : Int32).toNatClampNeg]? = some (.long w0)) (inW1 : ¬ ((1 : Int32) < 0 ∨ clW.slots.size ≤ (1 : Int32).toNatClampNeg)) (atW1 : clW.slots[(1 : Int32).toNatClampNeg]? = some (.long w1)) (inW2 : ¬ ((2 : Int32) < 0 ∨ clW.slots.size ≤ (2 : Int32).toNatClampNeg)) (atW2 : clW.slots[(2 : Int32).toNatClampNeg]? = some (.long w2)) (hc15 : (0 : Int32) < len) (h_sv : sv = w0) :
    ∀ target, Steps p.tables e below (T0.setTop (mkF m 28 (own_k2 a1 a2 len bor sv) [])) target → Steps p.tables e below (T0.setTop (mkF m 5 (own_k0 a1 a2 len bor) [])) target := by
  intro target kt
  rw [h_sv] at kt
  show Steps p.tables e below (T0.setTop (mkF m 5 (own_k0 a1 a2 len bor) [])) _
  refine XS.iload X0.here hx rfl (hb hby d3_5) rfl ?_
  show Steps p.tables e below (T0.setTop (mkF m 7 (own_k0 a1 a2 len bor) [(.int (0 : Int32))])) _
  refine XS.aloadN X0.here hx rfl (hb hby d3_7) rfl rfl ?_
  show Steps p.tables e below (T0.setTop (mkF m 8 (own_k0 a1 a2 len bor) [(.ref a1), (.int (0 : Int32))])) _
  refine X0.arraylength hx (by rw [e0]; exact ArM.1) (State.isArrayOf_alike hZ.alike ArM.2.1) (g := (mkF m 8 (own_k0 a1 a2 len bor) [(.ref a1), (.int (0 : Int32))])) rfl rfl (hb hby d3_8) _ ?_
  rw [len_of SM (by decide)]
  show Steps p.tables e below (T0.setTop (mkF m 9 (own_k0 a1 a2 len bor) [(.int (3 : Int32)), (.int (0 : Int32))])) _
  refine XS.icmpNo X0.here hx rfl (hb hby d3_9) rfl (tlt ((by decide) : (0 : Int32) < (3 : Int32))).2.1 ?_
  show Steps p.tables e below (T0.setTop (mkF m 12 (own_k0 a1 a2 len bor) [])) _
  refine XS.iload X0.here hx rfl (hb hby d3_12) rfl ?_
  show Steps p.tables e below (T0.setTop (mkF m 14 (own_k0 a1 a2 len bor) [(.int (0 : Int32))])) _
  refine XS.iloadN X0.here hx rfl (hb hby d3_14) rfl ?_
  show Steps p.tables e below (T0.setTop (mkF m 15 (own_k0 a1 a2 len bor) [(.int len), (.int (0 : Int32))])) _
  refine XS.icmpNo X0.here hx rfl (hb hby d3_15) rfl (tlt (hc15 : (0 : Int32) < len)).2.1 ?_
  show Steps p.tables e below (T0.setTop (mkF m 18 (own_k0 a1 a2 len bor) [])) _
  refine XS.aloadN X0.here hx rfl (hb hby d3_18) rfl rfl ?_
  show Steps p.tables e below (T0.setTop (mkF m 19 (own_k0 a1 a2 len bor) [(.ref a2)])) _
  refine XS.iload X0.here hx rfl (hb hby d3_19) rfl ?_
  show Steps p.tables e below (T0.setTop (mkF m 21 (own_k0 a1 a2 len bor) [(.int (0 : Int32)), (.ref a2)])) _
  refine X0.laload hx (j := (0 : Int32)) (v := (.long w0)) (by rw [e0]; exact ArW.1) (State.isArrayOf_alike hZ.alike ArW.2.1) ArW.2.2 inW0 atW0 (g := (mkF m 21 (own_k0 a1 a2 len bor) [(.int (0 : Int32)), (.ref a2)])) rfl rfl (hb hby d3_21) _ ?_
  show Steps p.tables e below (T0.setTop (mkF m 22 (own_k0 a1 a2 len bor) [(.long w0)])) _
  refine XS.goto X0.here hx rfl (pc0 := 22) (pc' := 26) rfl (hb hby d3_22) (by decide) (by decide) ?_
  show Steps p.tables e below (T0.setTop (mkF m 26 (own_k0 a1 a2 len bor) [(.long w0)])) _
  refine XS.lstore X0.here hx rfl (hb hby d3_26) rfl (l' := (own_k1 a1 a2 len bor w0)) rfl ?_
  exact kt

set_option maxRecDepth 65536 in
set_option maxHeartbeats 4000000 in
theorem sa0_t {p : Program} {l : Launch} {e : Env} {R : Room} {s : State} {m : MethodId} {args : Array Value} {below : List Frame} {meth : Method} {c : Code} {T0 : State} {locs : List Loc} {cells slots : Nat} {Z : State} {h0 : Heap} {clM clW : Cell} (a1 a2 : Addr) (len : Int32) (bor : Int64) (m0 m1 m2 w0 w1 w2 : Int64) (sv : Int64) (X0 : Stand p l e R s m args below meth c T0 locs cells slots) (hx : p.tables.exec = Jvm.exec) (hby : c.code = prog_35_method_5_code) (hZ : Z.Warmed39 s.vm) (e0 : T0.heap = h0) (ArM : Arr Z h0 a1 clM .long) (SM : clM.slots.size = (3 : Int32).toNatClampNeg) (inM0 : ¬ ((0 : Int32) < 0 ∨ clM.slots.size ≤ (0 : Int32).toNatClampNeg)) (atM0 : clM.slots[(0 : Int32).toNatClampNeg]? = some (.long m0)) (inM1 : ¬ ((1 : Int32) < 0 ∨ clM.slots.size ≤ (1 : Int32).toNatClampNeg)) (atM1 : clM.slots[(1 : Int32).toNatClampNeg]? = some (.long m1)) (inM2 : ¬ ((2 : Int32) < 0 ∨ clM.slots.size ≤ (2 : Int32).toNatClampNeg)) (atM2 : clM.slots[(2 : Int32).toNatClampNeg]? = some (.long m2)) (ArW : Arr Z h0 a2 clW .long) (SW : clW.slots.size = (3 : Int32).toNatClampNeg) (inW0 : ¬ ((0 : Int32) < 0 ∨ clW.slots.size ≤ (0 : Int32).toNatClampNeg)) (atW0 : clW.slots[(0 : Int32).toNatClampNeg]? = some (.long w0)) (inW1 : ¬ ((1 : Int32) < 0 ∨ clW.slots.size ≤ (1 : Int32).toNatClampNeg)) (atW1 : clW.slots[(1 : Int32).toNatClampNeg]? = some (.long w1)) (inW2 : ¬ ((2 : Int32) < 0 ∨ clW.slots.size ≤ (2 : Int32).toNatClampNeg)) (atW2 : clW.slots[(2 : Int32).toNatClampNeg]? = some (.long w2)) (hc15 : ¬ ((0 : Int32) < len)) (h_sv : sv = (0 : Int64)) :
    ∀ target, Steps p.tables e below (T0.setTop (mkF m 28 (own_k2 a1 a2 len bor sv) [])) target → Steps p.tables e below (T0.setTop (mkF m 5 (own_k0 a1 a2 len bor) [])) target := by
  intro target kt
  rw [h_sv] at kt
  show Steps p.tables e below (T0.setTop (mkF m 5 (own_k0 a1 a2 len bor) [])) _
  refine XS.iload X0.here hx rfl (hb hby d3_5) rfl ?_
  show Steps p.tables e below (T0.setTop (mkF m 7 (own_k0 a1 a2 len bor) [(.int (0 : Int32))])) _
  refine XS.aloadN X0.here hx rfl (hb hby d3_7) rfl rfl ?_
  show Steps p.tables e below (T0.setTop (mkF m 8 (own_k0 a1 a2 len bor) [(.ref a1), (.int (0 : Int32))])) _
  refine X0.arraylength hx (by rw [e0]; exact ArM.1) (State.isArrayOf_alike hZ.alike ArM.2.1) (g := (mkF m 8 (own_k0 a1 a2 len bor) [(.ref a1), (.int (0 : Int32))])) rfl rfl (hb hby d3_8) _ ?_
  rw [len_of SM (by decide)]
  show Steps p.tables e below (T0.setTop (mkF m 9 (own_k0 a1 a2 len bor) [(.int (3 : Int32)), (.int (0 : Int32))])) _
  refine XS.icmpNo X0.here hx rfl (hb hby d3_9) rfl (tlt ((by decide) : (0 : Int32) < (3 : Int32))).2.1 ?_
  show Steps p.tables e below (T0.setTop (mkF m 12 (own_k0 a1 a2 len bor) [])) _
  refine XS.iload X0.here hx rfl (hb hby d3_12) rfl ?_
  show Steps p.tables e below (T0.setTop (mkF m 14 (own_k0 a1 a2 len bor) [(.int (0 : Int32))])) _
  refine XS.iloadN X0.here hx rfl (hb hby d3_14) rfl ?_
  show Steps p.tables e below (T0.setTop (mkF m 15 (own_k0 a1 a2 len bor) [(.int len), (.int (0 : Int32))])) _
  refine XS.icmpYes X0.here hx rfl (pc0 := 15) (pc' := 25) rfl (hb hby d3_15) rfl (flt (hc15 : ¬ ((0 : Int32) < len))).2.1 (by decide) (by decide) ?_
  show Steps p.tables e below (T0.setTop (mkF m 25 (own_k0 a1 a2 len bor) [])) _
  refine XS.lconst X0.here hx rfl (hb hby d3_25) ?_
  show Steps p.tables e below (T0.setTop (mkF m 26 (own_k0 a1 a2 len bor) [(.long (0 : Int64))])) _
  refine XS.lstore X0.here hx rfl (hb hby d3_26) rfl (l' := (own_k3 a1 a2 len bor)) rfl ?_
  exact kt

set_option maxRecDepth 65536 in
set_option maxHeartbeats 4000000 in
theorem sb0 {p : Program} {l : Launch} {e : Env} {R : Room} {s : State} {m : MethodId} {args : Array Value} {below : List Frame} {meth : Method} {c : Code} {T0 : State} {locs : List Loc} {cells slots : Nat} {Z : State} {h0 : Heap} {clM : Cell} (a1 a2 : Addr) (len : Int32) (bor : Int64) (m0 m1 m2 w0 w1 w2 : Int64) (sv : Int64) (dv : Int64) (X0 : Stand p l e R s m args below meth c T0 locs cells slots) (hx : p.tables.exec = Jvm.exec) (hby : c.code = prog_35_method_5_code) (hZ : Z.Warmed39 s.vm) (e0 : T0.heap = h0) (ArM : Arr Z h0 a1 clM .long) (SM : clM.slots.size = (3 : Int32).toNatClampNeg) (inM0 : ¬ ((0 : Int32) < 0 ∨ clM.slots.size ≤ (0 : Int32).toNatClampNeg)) (atM0 : clM.slots[(0 : Int32).toNatClampNeg]? = some (.long m0)) (inM1 : ¬ ((1 : Int32) < 0 ∨ clM.slots.size ≤ (1 : Int32).toNatClampNeg)) (atM1 : clM.slots[(1 : Int32).toNatClampNeg]? = some (.long m1)) (inM2 : ¬ ((2 : Int32) < 0 ∨ clM.slots.size ≤ (2 : Int32).toNatClampNeg)) (atM2 : clM.slots[(2 : Int32).toNatClampNeg]? = some (.long m2)) (h_dv : dv = ((m0 - sv) - bor)) :
    ∀ target, Steps p.tables e below (T0.setTop (mkF m 45 (own_k5 a1 a2 len bor sv dv) [(.long sv), (.long m0)])) target → Steps p.tables e below (T0.setTop (mkF m 28 (own_k2 a1 a2 len bor sv) [])) target := by
  intro target kt
  rw [h_dv] at kt
  show Steps p.tables e below (T0.setTop (mkF m 28 (own_k2 a1 a2 len bor sv) [])) _
  refine XS.aloadN X0.here hx rfl (hb hby d3_28) rfl rfl ?_
  show Steps p.tables e below (T0.setTop (mkF m 29 (own_k2 a1 a2 len bor sv) [(.ref a1)])) _
  refine XS.iload X0.here hx rfl (hb hby d3_29) rfl ?_
  show Steps p.tables e below (T0.setTop (mkF m 31 (own_k2 a1 a2 len bor sv) [(.int (0 : Int32)), (.ref a1)])) _
  refine X0.laload hx (j := (0 : Int32)) (v := (.long m0)) (by rw [e0]; exact ArM.1) (State.isArrayOf_alike hZ.alike ArM.2.1) ArM.2.2 inM0 atM0 (g := (mkF m 31 (own_k2 a1 a2 len bor sv) [(.int (0 : Int32)), (.ref a1)])) rfl rfl (hb hby d3_31) _ ?_
  show Steps p.tables e below (T0.setTop (mkF m 32 (own_k2 a1 a2 len bor sv) [(.long m0)])) _
  refine XS.lload X0.here hx rfl (hb hby d3_32) rfl ?_
  show Steps p.tables e below (T0.setTop (mkF m 34 (own_k2 a1 a2 len bor sv) [(.long sv), (.long m0)])) _
  refine XS.lsub X0.here hx rfl (hb hby d3_34) rfl ?_
  show Steps p.tables e below (T0.setTop (mkF m 35 (own_k2 a1 a2 len bor sv) [(.long (m0 - sv))])) _
  refine XS.lloadN X0.here hx rfl (hb hby d3_35) rfl ?_
  show Steps p.tables e below (T0.setTop (mkF m 36 (own_k2 a1 a2 len bor sv) [(.long bor), (.long (m0 - sv))])) _
  refine XS.lsub X0.here hx rfl (hb hby d3_36) rfl ?_
  show Steps p.tables e below (T0.setTop (mkF m 37 (own_k2 a1 a2 len bor sv) [(.long ((m0 - sv) - bor))])) _
  refine XS.lstore X0.here hx rfl (hb hby d3_37) rfl (l' := (own_k4 a1 a2 len bor sv m0)) rfl ?_
  show Steps p.tables e below (T0.setTop (mkF m 39 (own_k4 a1 a2 len bor sv m0) [])) _
  refine XS.aloadN X0.here hx rfl (hb hby d3_39) rfl rfl ?_
  show Steps p.tables e below (T0.setTop (mkF m 40 (own_k4 a1 a2 len bor sv m0) [(.ref a1)])) _
  refine XS.iload X0.here hx rfl (hb hby d3_40) rfl ?_
  show Steps p.tables e below (T0.setTop (mkF m 42 (own_k4 a1 a2 len bor sv m0) [(.int (0 : Int32)), (.ref a1)])) _
  refine X0.laload hx (j := (0 : Int32)) (v := (.long m0)) (by rw [e0]; exact ArM.1) (State.isArrayOf_alike hZ.alike ArM.2.1) ArM.2.2 inM0 atM0 (g := (mkF m 42 (own_k4 a1 a2 len bor sv m0) [(.int (0 : Int32)), (.ref a1)])) rfl rfl (hb hby d3_42) _ ?_
  show Steps p.tables e below (T0.setTop (mkF m 43 (own_k4 a1 a2 len bor sv m0) [(.long m0)])) _
  refine XS.lload X0.here hx rfl (hb hby d3_43) rfl ?_
  exact kt

set_option maxRecDepth 65536 in
set_option maxHeartbeats 4000000 in
theorem sd0_lt {p : Program} {l : Launch} {e : Env} {R : Room} {s : State} {m : MethodId} {args : Array Value} {below : List Frame} {meth : Method} {c : Code} {T0 : State} {locs : List Loc} {cells slots : Nat} {Z : State} {h0 : Heap} {clM : Cell} (a1 a2 : Addr) (len : Int32) (bor : Int64) (m0 m1 m2 w0 w1 w2 : Int64) (sv dv : Int64) (cu : Int32) (nb : Int64) (X0 : Stand p l e R s m args below meth c T0 locs cells slots) (hx : p.tables.exec = Jvm.exec) (hby : c.code = prog_35_method_5_code) (hZ : Z.Warmed39 s.vm) (e0 : T0.heap = h0) (ArM : Arr Z h0 a1 clM .long) (SM : clM.slots.size = (3 : Int32).toNatClampNeg) (inM0 : ¬ ((0 : Int32) < 0 ∨ clM.slots.size ≤ (0 : Int32).toNatClampNeg)) (atM0 : clM.slots[(0 : Int32).toNatClampNeg]? = some (.long m0)) (inM1 : ¬ ((1 : Int32) < 0 ∨ clM.slots.size ≤ (1 : Int32).toNatClampNeg)) (atM1 : clM.slots[(1 : Int32).toNatClampNeg]? = some (.long m1)) (inM2 : ¬ ((2 : Int32) < 0 ∨ clM.slots.size ≤ (2 : Int32).toNatClampNeg)) (atM2 : clM.slots[(2 : Int32).toNatClampNeg]? = some (.long m2)) (hc48 : cu < (0 : Int32)) (h_nb : nb = (1 : Int64)) :
    ∀ target, Steps p.tables e below (T0.setTop (mkF m 73 (own_k7 a1 a2 len nb sv dv) [])) target → Steps p.tables e below (T0.setTop (mkF m 48 (own_k5 a1 a2 len bor sv dv) [(.int cu)])) target := by
  intro target kt
  rw [h_nb] at kt
  show Steps p.tables e below (T0.setTop (mkF m 48 (own_k5 a1 a2 len bor sv dv) [(.int cu)])) _
  refine XS.ifYes X0.here hx rfl (pc0 := 48) (pc' := 67) rfl (hb hby d3_48) rfl ((if0 _ _).trans (tlt (hc48 : cu < (0 : Int32))).1) (by decide) (by decide) ?_
  show Steps p.tables e below (T0.setTop (mkF m 67 (own_k5 a1 a2 len bor sv dv) [])) _
  refine XS.lconst X0.here hx rfl (hb hby d3_67) ?_
  show Steps p.tables e below (T0.setTop (mkF m 68 (own_k5 a1 a2 len bor sv dv) [(.long (1 : Int64))])) _
  refine XS.goto X0.here hx rfl (pc0 := 68) (pc' := 72) rfl (hb hby d3_68) (by decide) (by decide) ?_
  show Steps p.tables e below (T0.setTop (mkF m 72 (own_k5 a1 a2 len bor sv dv) [(.long (1 : Int64))])) _
  refine XS.lstoreN X0.here hx rfl (hb hby d3_72) rfl (l' := (own_k6 a1 a2 len sv dv)) rfl ?_
  exact kt

set_option maxRecDepth 65536 in
set_option maxHeartbeats 4000000 in
theorem sd0_ne {p : Program} {l : Launch} {e : Env} {R : Room} {s : State} {m : MethodId} {args : Array Value} {below : List Frame} {meth : Method} {c : Code} {T0 : State} {locs : List Loc} {cells slots : Nat} {Z : State} {h0 : Heap} {clM : Cell} (a1 a2 : Addr) (len : Int32) (bor : Int64) (m0 m1 m2 w0 w1 w2 : Int64) (sv dv : Int64) (cu : Int32) (nb : Int64) (X0 : Stand p l e R s m args below meth c T0 locs cells slots) (hx : p.tables.exec = Jvm.exec) (hby : c.code = prog_35_method_5_code) (hZ : Z.Warmed39 s.vm) (e0 : T0.heap = h0) (ArM : Arr Z h0 a1 clM .long) (SM : clM.slots.size = (3 : Int32).toNatClampNeg) (inM0 : ¬ ((0 : Int32) < 0 ∨ clM.slots.size ≤ (0 : Int32).toNatClampNeg)) (atM0 : clM.slots[(0 : Int32).toNatClampNeg]? = some (.long m0)) (inM1 : ¬ ((1 : Int32) < 0 ∨ clM.slots.size ≤ (1 : Int32).toNatClampNeg)) (atM1 : clM.slots[(1 : Int32).toNatClampNeg]? = some (.long m1)) (inM2 : ¬ ((2 : Int32) < 0 ∨ clM.slots.size ≤ (2 : Int32).toNatClampNeg)) (atM2 : clM.slots[(2 : Int32).toNatClampNeg]? = some (.long m2)) (hc48 : ¬ (cu < (0 : Int32))) (hc58 : ¬ ((lcmpW m0 sv) = (0 : Int32))) (h_nb : nb = (0 : Int64)) :
    ∀ target, Steps p.tables e below (T0.setTop (mkF m 73 (own_k7 a1 a2 len nb sv dv) [])) target → Steps p.tables e below (T0.setTop (mkF m 48 (own_k5 a1 a2 len bor sv dv) [(.int cu)])) target := by
  intro target kt
  rw [h_nb] at kt
  show Steps p.tables e below (T0.setTop (mkF m 48 (own_k5 a1 a2 len bor sv dv) [(.int cu)])) _
  refine XS.ifNo X0.here hx rfl (hb hby d3_48) rfl ((if0 _ _).trans (flt (hc48 : ¬ (cu < (0 : Int32)))).1) ?_
  show Steps p.tables e below (T0.setTop (mkF m 51 (own_k5 a1 a2 len bor sv dv) [])) _
  refine XS.aloadN X0.here hx rfl (hb hby d3_51) rfl rfl ?_
  show Steps p.tables e below (T0.setTop (mkF m 52 (own_k5 a1 a2 len bor sv dv) [(.ref a1)])) _
  refine XS.iload X0.here hx rfl (hb hby d3_52) rfl ?_
  show Steps p.tables e below (T0.setTop (mkF m 54 (own_k5 a1 a2 len bor sv dv) [(.int (0 : Int32)), (.ref a1)])) _
  refine X0.laload hx (j := (0 : Int32)) (v := (.long m0)) (by rw [e0]; exact ArM.1) (State.isArrayOf_alike hZ.alike ArM.2.1) ArM.2.2 inM0 atM0 (g := (mkF m 54 (own_k5 a1 a2 len bor sv dv) [(.int (0 : Int32)), (.ref a1)])) rfl rfl (hb hby d3_54) _ ?_
  show Steps p.tables e below (T0.setTop (mkF m 55 (own_k5 a1 a2 len bor sv dv) [(.long m0)])) _
  refine XS.lload X0.here hx rfl (hb hby d3_55) rfl ?_
  show Steps p.tables e below (T0.setTop (mkF m 57 (own_k5 a1 a2 len bor sv dv) [(.long sv), (.long m0)])) _
  refine XS.lcmp X0.here hx rfl (hb hby d3_57) rfl ?_
  show Steps p.tables e below (T0.setTop (mkF m 58 (own_k5 a1 a2 len bor sv dv) [(.int (lcmpW m0 sv))])) _
  refine XS.ifYes X0.here hx rfl (pc0 := 58) (pc' := 71) rfl (hb hby d3_58) rfl ((if0 _ _).trans (feq (hc58 : ¬ ((lcmpW m0 sv) = (0 : Int32)))).2) (by decide) (by decide) ?_
  show Steps p.tables e below (T0.setTop (mkF m 71 (own_k5 a1 a2 len bor sv dv) [])) _
  refine XS.lconst X0.here hx rfl (hb hby d3_71) ?_
  show Steps p.tables e below (T0.setTop (mkF m 72 (own_k5 a1 a2 len bor sv dv) [(.long (0 : Int64))])) _
  refine XS.lstoreN X0.here hx rfl (hb hby d3_72) rfl (l' := (own_k8 a1 a2 len sv dv)) rfl ?_
  exact kt

set_option maxRecDepth 65536 in
set_option maxHeartbeats 4000000 in
theorem sd0_z {p : Program} {l : Launch} {e : Env} {R : Room} {s : State} {m : MethodId} {args : Array Value} {below : List Frame} {meth : Method} {c : Code} {T0 : State} {locs : List Loc} {cells slots : Nat} {Z : State} {h0 : Heap} {clM : Cell} (a1 a2 : Addr) (len : Int32) (bor : Int64) (m0 m1 m2 w0 w1 w2 : Int64) (sv dv : Int64) (cu : Int32) (nb : Int64) (X0 : Stand p l e R s m args below meth c T0 locs cells slots) (hx : p.tables.exec = Jvm.exec) (hby : c.code = prog_35_method_5_code) (hZ : Z.Warmed39 s.vm) (e0 : T0.heap = h0) (ArM : Arr Z h0 a1 clM .long) (SM : clM.slots.size = (3 : Int32).toNatClampNeg) (inM0 : ¬ ((0 : Int32) < 0 ∨ clM.slots.size ≤ (0 : Int32).toNatClampNeg)) (atM0 : clM.slots[(0 : Int32).toNatClampNeg]? = some (.long m0)) (inM1 : ¬ ((1 : Int32) < 0 ∨ clM.slots.size ≤ (1 : Int32).toNatClampNeg)) (atM1 : clM.slots[(1 : Int32).toNatClampNeg]? = some (.long m1)) (inM2 : ¬ ((2 : Int32) < 0 ∨ clM.slots.size ≤ (2 : Int32).toNatClampNeg)) (atM2 : clM.slots[(2 : Int32).toNatClampNeg]? = some (.long m2)) (hc48 : ¬ (cu < (0 : Int32))) (hc58 : (lcmpW m0 sv) = (0 : Int32)) (hc64 : (lcmpW bor (0 : Int64)) = (0 : Int32)) (h_nb : nb = (0 : Int64)) :
    ∀ target, Steps p.tables e below (T0.setTop (mkF m 73 (own_k7 a1 a2 len nb sv dv) [])) target → Steps p.tables e below (T0.setTop (mkF m 48 (own_k5 a1 a2 len bor sv dv) [(.int cu)])) target := by
  intro target kt
  rw [h_nb] at kt
  show Steps p.tables e below (T0.setTop (mkF m 48 (own_k5 a1 a2 len bor sv dv) [(.int cu)])) _
  refine XS.ifNo X0.here hx rfl (hb hby d3_48) rfl ((if0 _ _).trans (flt (hc48 : ¬ (cu < (0 : Int32)))).1) ?_
  show Steps p.tables e below (T0.setTop (mkF m 51 (own_k5 a1 a2 len bor sv dv) [])) _
  refine XS.aloadN X0.here hx rfl (hb hby d3_51) rfl rfl ?_
  show Steps p.tables e below (T0.setTop (mkF m 52 (own_k5 a1 a2 len bor sv dv) [(.ref a1)])) _
  refine XS.iload X0.here hx rfl (hb hby d3_52) rfl ?_
  show Steps p.tables e below (T0.setTop (mkF m 54 (own_k5 a1 a2 len bor sv dv) [(.int (0 : Int32)), (.ref a1)])) _
  refine X0.laload hx (j := (0 : Int32)) (v := (.long m0)) (by rw [e0]; exact ArM.1) (State.isArrayOf_alike hZ.alike ArM.2.1) ArM.2.2 inM0 atM0 (g := (mkF m 54 (own_k5 a1 a2 len bor sv dv) [(.int (0 : Int32)), (.ref a1)])) rfl rfl (hb hby d3_54) _ ?_
  show Steps p.tables e below (T0.setTop (mkF m 55 (own_k5 a1 a2 len bor sv dv) [(.long m0)])) _
  refine XS.lload X0.here hx rfl (hb hby d3_55) rfl ?_
  show Steps p.tables e below (T0.setTop (mkF m 57 (own_k5 a1 a2 len bor sv dv) [(.long sv), (.long m0)])) _
  refine XS.lcmp X0.here hx rfl (hb hby d3_57) rfl ?_
  show Steps p.tables e below (T0.setTop (mkF m 58 (own_k5 a1 a2 len bor sv dv) [(.int (lcmpW m0 sv))])) _
  refine XS.ifNo X0.here hx rfl (hb hby d3_58) rfl ((if0 _ _).trans (teq (hc58 : (lcmpW m0 sv) = (0 : Int32))).2) ?_
  show Steps p.tables e below (T0.setTop (mkF m 61 (own_k5 a1 a2 len bor sv dv) [])) _
  refine XS.lloadN X0.here hx rfl (hb hby d3_61) rfl ?_
  show Steps p.tables e below (T0.setTop (mkF m 62 (own_k5 a1 a2 len bor sv dv) [(.long bor)])) _
  refine XS.lconst X0.here hx rfl (hb hby d3_62) ?_
  show Steps p.tables e below (T0.setTop (mkF m 63 (own_k5 a1 a2 len bor sv dv) [(.long (0 : Int64)), (.long bor)])) _
  refine XS.lcmp X0.here hx rfl (hb hby d3_63) rfl ?_
  show Steps p.tables e below (T0.setTop (mkF m 64 (own_k5 a1 a2 len bor sv dv) [(.int (lcmpW bor (0 : Int64)))])) _
  refine XS.ifYes X0.here hx rfl (pc0 := 64) (pc' := 71) rfl (hb hby d3_64) rfl ((if0 _ _).trans (teq (hc64 : (lcmpW bor (0 : Int64)) = (0 : Int32))).1) (by decide) (by decide) ?_
  show Steps p.tables e below (T0.setTop (mkF m 71 (own_k5 a1 a2 len bor sv dv) [])) _
  refine XS.lconst X0.here hx rfl (hb hby d3_71) ?_
  show Steps p.tables e below (T0.setTop (mkF m 72 (own_k5 a1 a2 len bor sv dv) [(.long (0 : Int64))])) _
  refine XS.lstoreN X0.here hx rfl (hb hby d3_72) rfl (l' := (own_k8 a1 a2 len sv dv)) rfl ?_
  exact kt

set_option maxRecDepth 65536 in
set_option maxHeartbeats 4000000 in
theorem sd0_nz {p : Program} {l : Launch} {e : Env} {R : Room} {s : State} {m : MethodId} {args : Array Value} {below : List Frame} {meth : Method} {c : Code} {T0 : State} {locs : List Loc} {cells slots : Nat} {Z : State} {h0 : Heap} {clM : Cell} (a1 a2 : Addr) (len : Int32) (bor : Int64) (m0 m1 m2 w0 w1 w2 : Int64) (sv dv : Int64) (cu : Int32) (nb : Int64) (X0 : Stand p l e R s m args below meth c T0 locs cells slots) (hx : p.tables.exec = Jvm.exec) (hby : c.code = prog_35_method_5_code) (hZ : Z.Warmed39 s.vm) (e0 : T0.heap = h0) (ArM : Arr Z h0 a1 clM .long) (SM : clM.slots.size = (3 : Int32).toNatClampNeg) (inM0 : ¬ ((0 : Int32) < 0 ∨ clM.slots.size ≤ (0 : Int32).toNatClampNeg)) (atM0 : clM.slots[(0 : Int32).toNatClampNeg]? = some (.long m0)) (inM1 : ¬ ((1 : Int32) < 0 ∨ clM.slots.size ≤ (1 : Int32).toNatClampNeg)) (atM1 : clM.slots[(1 : Int32).toNatClampNeg]? = some (.long m1)) (inM2 : ¬ ((2 : Int32) < 0 ∨ clM.slots.size ≤ (2 : Int32).toNatClampNeg)) (atM2 : clM.slots[(2 : Int32).toNatClampNeg]? = some (.long m2)) (hc48 : ¬ (cu < (0 : Int32))) (hc58 : (lcmpW m0 sv) = (0 : Int32)) (hc64 : ¬ ((lcmpW bor (0 : Int64)) = (0 : Int32))) (h_nb : nb = (1 : Int64)) :
    ∀ target, Steps p.tables e below (T0.setTop (mkF m 73 (own_k7 a1 a2 len nb sv dv) [])) target → Steps p.tables e below (T0.setTop (mkF m 48 (own_k5 a1 a2 len bor sv dv) [(.int cu)])) target := by
  intro target kt
  rw [h_nb] at kt
  show Steps p.tables e below (T0.setTop (mkF m 48 (own_k5 a1 a2 len bor sv dv) [(.int cu)])) _
  refine XS.ifNo X0.here hx rfl (hb hby d3_48) rfl ((if0 _ _).trans (flt (hc48 : ¬ (cu < (0 : Int32)))).1) ?_
  show Steps p.tables e below (T0.setTop (mkF m 51 (own_k5 a1 a2 len bor sv dv) [])) _
  refine XS.aloadN X0.here hx rfl (hb hby d3_51) rfl rfl ?_
  show Steps p.tables e below (T0.setTop (mkF m 52 (own_k5 a1 a2 len bor sv dv) [(.ref a1)])) _
  refine XS.iload X0.here hx rfl (hb hby d3_52) rfl ?_
  show Steps p.tables e below (T0.setTop (mkF m 54 (own_k5 a1 a2 len bor sv dv) [(.int (0 : Int32)), (.ref a1)])) _
  refine X0.laload hx (j := (0 : Int32)) (v := (.long m0)) (by rw [e0]; exact ArM.1) (State.isArrayOf_alike hZ.alike ArM.2.1) ArM.2.2 inM0 atM0 (g := (mkF m 54 (own_k5 a1 a2 len bor sv dv) [(.int (0 : Int32)), (.ref a1)])) rfl rfl (hb hby d3_54) _ ?_
  show Steps p.tables e below (T0.setTop (mkF m 55 (own_k5 a1 a2 len bor sv dv) [(.long m0)])) _
  refine XS.lload X0.here hx rfl (hb hby d3_55) rfl ?_
  show Steps p.tables e below (T0.setTop (mkF m 57 (own_k5 a1 a2 len bor sv dv) [(.long sv), (.long m0)])) _
  refine XS.lcmp X0.here hx rfl (hb hby d3_57) rfl ?_
  show Steps p.tables e below (T0.setTop (mkF m 58 (own_k5 a1 a2 len bor sv dv) [(.int (lcmpW m0 sv))])) _
  refine XS.ifNo X0.here hx rfl (hb hby d3_58) rfl ((if0 _ _).trans (teq (hc58 : (lcmpW m0 sv) = (0 : Int32))).2) ?_
  show Steps p.tables e below (T0.setTop (mkF m 61 (own_k5 a1 a2 len bor sv dv) [])) _
  refine XS.lloadN X0.here hx rfl (hb hby d3_61) rfl ?_
  show Steps p.tables e below (T0.setTop (mkF m 62 (own_k5 a1 a2 len bor sv dv) [(.long bor)])) _
  refine XS.lconst X0.here hx rfl (hb hby d3_62) ?_
  show Steps p.tables e below (T0.setTop (mkF m 63 (own_k5 a1 a2 len bor sv dv) [(.long (0 : Int64)), (.long bor)])) _
  refine XS.lcmp X0.here hx rfl (hb hby d3_63) rfl ?_
  show Steps p.tables e below (T0.setTop (mkF m 64 (own_k5 a1 a2 len bor sv dv) [(.int (lcmpW bor (0 : Int64)))])) _
  refine XS.ifNo X0.here hx rfl (hb hby d3_64) rfl ((if0 _ _).trans (feq (hc64 : ¬ ((lcmpW bor (0 : Int64)) = (0 : Int32)))).1) ?_
  show Steps p.tables e below (T0.setTop (mkF m 67 (own_k5 a1 a2 len bor sv dv) [])) _
  refine XS.lconst X0.here hx rfl (hb hby d3_67) ?_
  show Steps p.tables e below (T0.setTop (mkF m 68 (own_k5 a1 a2 len bor sv dv) [(.long (1 : Int64))])) _
  refine XS.goto X0.here hx rfl (pc0 := 68) (pc' := 72) rfl (hb hby d3_68) (by decide) (by decide) ?_
  show Steps p.tables e below (T0.setTop (mkF m 72 (own_k5 a1 a2 len bor sv dv) [(.long (1 : Int64))])) _
  refine XS.lstoreN X0.here hx rfl (hb hby d3_72) rfl (l' := (own_k6 a1 a2 len sv dv)) rfl ?_
  exact kt

set_option maxRecDepth 65536 in
set_option maxHeartbeats 4000000 in
theorem se0 {p : Program} {l : Launch} {e : Env} {R : Room} {s : State} {m : MethodId} {args : Array Value} {below : List Frame} {meth : Method} {c : Code} {T0 : State} {locs : List Loc} {cells slots : Nat} (a1 a2 : Addr) (len : Int32) (nb sv dv : Int64)  (X0 : Stand p l e R s m args below meth c T0 locs cells slots) (hx : p.tables.exec = Jvm.exec) (hby : c.code = prog_35_method_5_code) :
    ∀ target, Steps p.tables e below (T0.setTop (mkF m 78 (own_k7 a1 a2 len nb sv dv) [(.long dv), (.int (0 : Int32)), (.ref a2)])) target → Steps p.tables e below (T0.setTop (mkF m 73 (own_k7 a1 a2 len nb sv dv) [])) target := by
  intro target kt
  show Steps p.tables e below (T0.setTop (mkF m 73 (own_k7 a1 a2 len nb sv dv) [])) _
  refine XS.aloadN X0.here hx rfl (hb hby d3_73) rfl rfl ?_
  show Steps p.tables e below (T0.setTop (mkF m 74 (own_k7 a1 a2 len nb sv dv) [(.ref a2)])) _
  refine XS.iload X0.here hx rfl (hb hby d3_74) rfl ?_
  show Steps p.tables e below (T0.setTop (mkF m 76 (own_k7 a1 a2 len nb sv dv) [(.int (0 : Int32)), (.ref a2)])) _
  refine XS.lload X0.here hx rfl (hb hby d3_76) rfl ?_
  exact kt

set_option maxRecDepth 65536 in
set_option maxHeartbeats 4000000 in
theorem sf0 {p : Program} {l : Launch} {e : Env} {R : Room} {s : State} {m : MethodId} {args : Array Value} {below : List Frame} {meth : Method} {c : Code} {T0 : State} {locs : List Loc} {cells slots : Nat} (a1 a2 : Addr) (len : Int32) (nb sv dv : Int64)  (X0 : Stand p l e R s m args below meth c T0 locs cells slots) (hx : p.tables.exec = Jvm.exec) (hby : c.code = prog_35_method_5_code) :
    ∀ target, Steps p.tables e below (T0.setTop (mkF m 5 (own_k9 a1 a2 len nb sv dv) [])) target → Steps p.tables e below (T0.setTop (mkF m 79 (own_k7 a1 a2 len nb sv dv) [])) target := by
  intro target kt
  show Steps p.tables e below (T0.setTop (mkF m 79 (own_k7 a1 a2 len nb sv dv) [])) _
  refine XS.iinc X0.here hx rfl (hb hby d3_79) rfl (l' := (own_k9 a1 a2 len nb sv dv)) rfl ?_
  show Steps p.tables e below (T0.setTop (mkF m 82 (own_k9 a1 a2 len nb sv dv) [])) _
  refine XS.goto X0.here hx rfl (pc0 := 82) (pc' := 5) rfl (hb hby d3_82) (by decide) (by decide) ?_
  exact kt

set_option maxRecDepth 65536 in
set_option maxHeartbeats 40000000 in
theorem turn0 {p : Program} {l : Launch} {e : Env} {s : State} {m : MethodId} {args : Array Value} {below : List Frame} {meth : Method} {c : Code} {T0 : State} {locs : List Loc} {Z : State} {a0 : Array Value} {h0 : Heap} {n0 : Nat} {k1 k2 : ClassId} {d1 d2 : Value} (a1 a2 : Addr) (len : Int32) (bor : Int64) (m0 m1 m2 w0 w1 w2 : Int64)
    (X0 : Stand p l e ({ frames := 2, cells := 0, slots := 0, locals := 30 } : Room) s m args below meth c T0 locs 0 0) (hx : p.tables.exec = Jvm.exec) (hZ : Z.Warmed39 s.vm) (hw : ∀ d ∈ tables_1, d.before a0 Z = true) (hby : c.code = prog_35_method_5_code) (hml : c.maxLocals = 10) (hown : s.vm.findClass "ringfold/modular/Words" = some m.cls) (e0 : T0.heap = h0) (Z0 : n0 ≤ h0.size) (N0 : Fr n0 locs) (g_a2 : n0 ≤ a2) (ne : a1 ≠ a2)
    (VM : Arv Z h0 a1 k1 .long (3 : Int32) [.long m0, .long m1, .long m2] d1) (VW : Arv Z h0 a2 k2 .long (3 : Int32) [.long w0, .long w1, .long w2] d2) :
    ∃ (T' : State) (h' : Heap) (locs' : List Loc), Stand p l e ({ frames := 2, cells := 0, slots := 0, locals := 30 } : Room) s m args below meth c T' locs' 0 0 ∧ T'.heap = h' ∧ Fr n0 locs' ∧ Keep h0 h' [a2] ∧ Arv Z h' a1 k1 .long (3 : Int32) [.long m0, .long m1, .long m2] d1 ∧ Arv Z h' a2 k2 .long (3 : Int32) [.long (m0 - (pSub len (0 : Int32) w0) - bor), .long w1, .long w2] d2 ∧
      ∀ target, Steps p.tables e below (T'.setTop (mkF m 5 (own_k9 a1 a2 len (pBor m0 (pSub len (0 : Int32) w0) bor) (pSub len (0 : Int32) w0) (m0 - (pSub len (0 : Int32) w0) - bor)) [])) target → Steps p.tables e below (T0.setTop (mkF m 5 (own_k0 a1 a2 len bor) [])) target := by
  obtain ⟨clM, ArM, SM, ⟨inM0, atM0⟩, ⟨inM1, atM1⟩, ⟨inM2, atM2⟩⟩ := own_get VM
  obtain ⟨clW, ArW, SW, ⟨inW0, atW0⟩, ⟨inW1, atW1⟩, ⟨inW2, atW2⟩⟩ := own_get VW
  have ha : ∀ target, Steps p.tables e below (T0.setTop (mkF m 28 (own_k2 a1 a2 len bor (pSub len (0 : Int32) w0)) [])) target → Steps p.tables e below (T0.setTop (mkF m 5 (own_k0 a1 a2 len bor) [])) target := by
    by_cases hl : (0 : Int32) < len
    · exact sa0_f a1 a2 len bor m0 m1 m2 w0 w1 w2 _ X0 hx hby hZ e0 ArM SM inM0 atM0 inM1 atM1 inM2 atM2 ArW SW inW0 atW0 inW1 atW1 inW2 atW2 hl (by simp [pSub, hl])
    · exact sa0_t a1 a2 len bor m0 m1 m2 w0 w1 w2 _ X0 hx hby hZ e0 ArM SM inM0 atM0 inM1 atM1 inM2 atM2 ArW SW inW0 atW0 inW1 atW1 inW2 atW2 hl (by simp [pSub, hl])
  have hb2 : ∀ target, Steps p.tables e below (T0.setTop (mkF m 45 (own_k5 a1 a2 len bor (pSub len (0 : Int32) w0) (m0 - (pSub len (0 : Int32) w0) - bor)) [(.long (pSub len (0 : Int32) w0)), (.long m0)])) target → Steps p.tables e below (T0.setTop (mkF m 28 (own_k2 a1 a2 len bor (pSub len (0 : Int32) w0)) [])) target :=
    sb0 a1 a2 len bor m0 m1 m2 w0 w1 w2 (pSub len (0 : Int32) w0) _ X0 hx hby hZ e0 ArM SM inM0 atM0 inM1 atM1 inM2 atM2 rfl
  obtain ⟨_, _, ⟨T1, L1, c1, n1⟩, -, X1, ⟨Lc1, hQ1, l1, y1, z1⟩, st1⟩ := Jvm.LawKit.callS X0 hx (y := (⟨"java/lang/Long", "compareUnsigned", "(JJ)I"⟩ : MethodName)) hown (mvT hZ (hw _ (List.mem_of_getElem? (i := 15) rfl))) (mvT hZ (hw _ (List.mem_of_getElem? (i := 16) rfl))) (mvT hZ (hw _ (List.mem_of_getElem? (i := 17) rfl))) (mvT hZ (hw _ (List.mem_of_getElem? (i := 18) rfl))) (by decide) (backOf (W := 0) (rm4 l Z a0 hw [] m0 (pSub len (0 : Int32) w0) h0 n0 Z0) hZ (hw _ (List.mem_of_getElem? (i := 18) rfl)) (hw _ (List.mem_of_getElem? (i := 17) rfl)) (by decide) (by decide)) (g := (mkF m 45 (own_k5 a1 a2 len bor (pSub len (0 : Int32) w0) (m0 - (pSub len (0 : Int32) w0) - bor)) [(.long (pSub len (0 : Int32) w0)), (.long m0)])) rfl (by rw [hml]; rfl) (argsL := [(.long m0), (.long (pSub len (0 : Int32) w0))]) (rest := []) (lenOf pd_4_3 rfl) rfl (by show 2 * 0 + _ ≤ _; exact Nat.le_of_eq rfl) (hb hby d3_45) (fun _ _ => ⟨rfl, e0, (by decide : 0 + 0 ≤ _), (by decide : 0 + 0 ≤ _)⟩)
  dsimp only [Pt.U, Pt.locs, Pt.cells, Pt.slots] at X1 l1 y1 z1 st1 hQ1
  subst l1 y1 z1
  obtain ⟨rfl, N1q, e1⟩ := hQ1
  have N1 := Fr.app N0 N1q
  have hd : ∀ target, Steps p.tables e below (T1.setTop (mkF m 73 (own_k7 a1 a2 len (pBor m0 (pSub len (0 : Int32) w0) bor) (pSub len (0 : Int32) w0) (m0 - (pSub len (0 : Int32) w0) - bor)) [])) target → Steps p.tables e below (T1.setTop (mkF m 48 (own_k5 a1 a2 len bor (pSub len (0 : Int32) w0) (m0 - (pSub len (0 : Int32) w0) - bor)) [(.int (pCmp (m0 + (-9223372036854775808 : Int64)) ((pSub len (0 : Int32) w0) + (-9223372036854775808 : Int64))))])) target := by
    by_cases g1 : (pCmp (m0 + (-9223372036854775808 : Int64)) ((pSub len (0 : Int32) w0) + (-9223372036854775808 : Int64))) < 0
    · exact sd0_lt a1 a2 len bor m0 m1 m2 w0 w1 w2 (pSub len (0 : Int32) w0) (m0 - (pSub len (0 : Int32) w0) - bor) _ _ X1 hx hby hZ e1 ArM SM inM0 atM0 inM1 atM1 inM2 atM2 g1 (by simp [pBor, g1])
    · by_cases g2 : lcmpW m0 (pSub len (0 : Int32) w0) = 0
      · by_cases g3 : lcmpW bor (0 : Int64) = 0
        · exact sd0_z a1 a2 len bor m0 m1 m2 w0 w1 w2 (pSub len (0 : Int32) w0) (m0 - (pSub len (0 : Int32) w0) - bor) _ _ X1 hx hby hZ e1 ArM SM inM0 atM0 inM1 atM1 inM2 atM2 g1 g2 g3 (by simp [pBor, g1, g2, g3])
        · exact sd0_nz a1 a2 len bor m0 m1 m2 w0 w1 w2 (pSub len (0 : Int32) w0) (m0 - (pSub len (0 : Int32) w0) - bor) _ _ X1 hx hby hZ e1 ArM SM inM0 atM0 inM1 atM1 inM2 atM2 g1 g2 g3 (by simp [pBor, g1, g2, g3])
      · exact sd0_ne a1 a2 len bor m0 m1 m2 w0 w1 w2 (pSub len (0 : Int32) w0) (m0 - (pSub len (0 : Int32) w0) - bor) _ _ X1 hx hby hZ e1 ArM SM inM0 atM0 inM1 atM1 inM2 atM2 g1 g2 (by simp [pBor, g1, g2])
  obtain ⟨T2, h2, L2, X2, e2, V2, K2, N2, O2, st2⟩ := own_st X1 hx hZ e1 VW g_a2 N1 (j := (0 : Int32)) 0 rfl (by decide) (by first | (show 0 < 3; decide) | simp) (v := (m0 - (pSub len (0 : Int32) w0) - bor)) (pc := 78) (Ls := (own_k7 a1 a2 len (pBor m0 (pSub len (0 : Int32) w0) bor) (pSub len (0 : Int32) w0) (m0 - (pSub len (0 : Int32) w0) - bor))) (rest := []) (hb hby d3_78)
  refine ⟨T2, h2, L2, X2, e2, N2, K2, O2 a1 k1 _ d1 ne VM, V2, fun target kt => ?_⟩
  refine ha _ (hb2 _ ?_)
  refine st1 _ ?_
  refine hd _ ?_
  refine se0 a1 a2 len (pBor m0 (pSub len (0 : Int32) w0) bor) (pSub len (0 : Int32) w0) (m0 - (pSub len (0 : Int32) w0) - bor) X1 hx hby _ ?_
  refine st2 _ ?_
  exact sf0 a1 a2 len (pBor m0 (pSub len (0 : Int32) w0) bor) (pSub len (0 : Int32) w0) (m0 - (pSub len (0 : Int32) w0) - bor) X2 hx hby _ kt
set_option maxRecDepth 65536 in
set_option maxHeartbeats 4000000 in
theorem sa1_f {p : Program} {l : Launch} {e : Env} {R : Room} {s : State} {m : MethodId} {args : Array Value} {below : List Frame} {meth : Method} {c : Code} {T0 : State} {locs : List Loc} {cells slots : Nat} {Z : State} {h0 : Heap} {clM clW : Cell} (a1 a2 : Addr) (len : Int32) (bor : Int64) (sp dp : Int64) (m0 m1 m2 w0 w1 w2 : Int64) (sv : Int64) (X0 : Stand p l e R s m args below meth c T0 locs cells slots) (hx : p.tables.exec = Jvm.exec) (hby : c.code = prog_35_method_5_code) (hZ : Z.Warmed39 s.vm) (e0 : T0.heap = h0) (ArM : Arr Z h0 a1 clM .long) (SM : clM.slots.size = (3 : Int32).toNatClampNeg) (inM0 : ¬ ((0 : Int32) < 0 ∨ clM.slots.size ≤ (0 : Int32).toNatClampNeg)) (atM0 : clM.slots[(0 : Int32).toNatClampNeg]? = some (.long m0)) (inM1 : ¬ ((1 : Int32) < 0 ∨ clM.slots.size ≤ (1 : Int32).toNatClampNeg)) (atM1 : clM.slots[(1 : Int32).toNatClampNeg]? = some (.long m1)) (inM2 : ¬ ((2 : Int32) < 0 ∨ clM.slots.size ≤ (2 : Int32).toNatClampNeg)) (atM2 : clM.slots[(2 : Int32).toNatClampNeg]? = some (.long m2)) (ArW : Arr Z h0 a2 clW .long) (SW : clW.slots.size = (3 : Int32).toNatClampNeg) (inW0 : ¬ ((0 : Int32) < 0 ∨ clW.slots.size ≤ (0 : Int32).toNatClampNeg)) (atW0 : clW.slots[(0 : Int32).toNatClampNeg]? = some (.long w0)) (inW1 : ¬ ((1 : Int32) < 0 ∨ clW.slots.size ≤ (1 : Int32).toNatClampNeg)) (atW1 : clW.slots[(1 : Int32).toNatClampNeg]? = some (.long w1)) (inW2 : ¬ ((2 : Int32) < 0 ∨ clW.slots.size ≤ (2 : Int32).toNatClampNeg)) (atW2 : clW.slots[(2 : Int32).toNatClampNeg]? = some (.long w2)) (hc15 : (1 : Int32) < len) (h_sv : sv = w1) :
    ∀ target, Steps p.tables e below (T0.setTop (mkF m 28 (own_k12 a1 a2 len bor sv dp) [])) target → Steps p.tables e below (T0.setTop (mkF m 5 (own_k10 a1 a2 len bor sp dp) [])) target := by
  intro target kt
  rw [h_sv] at kt
  show Steps p.tables e below (T0.setTop (mkF m 5 (own_k10 a1 a2 len bor sp dp) [])) _
  refine XS.iload X0.here hx rfl (hb hby d3_5) rfl ?_
  show Steps p.tables e below (T0.setTop (mkF m 7 (own_k10 a1 a2 len bor sp dp) [(.int (1 : Int32))])) _
  refine XS.aloadN X0.here hx rfl (hb hby d3_7) rfl rfl ?_
  show Steps p.tables e below (T0.setTop (mkF m 8 (own_k10 a1 a2 len bor sp dp) [(.ref a1), (.int (1 : Int32))])) _
  refine X0.arraylength hx (by rw [e0]; exact ArM.1) (State.isArrayOf_alike hZ.alike ArM.2.1) (g := (mkF m 8 (own_k10 a1 a2 len bor sp dp) [(.ref a1), (.int (1 : Int32))])) rfl rfl (hb hby d3_8) _ ?_
  rw [len_of SM (by decide)]
  show Steps p.tables e below (T0.setTop (mkF m 9 (own_k10 a1 a2 len bor sp dp) [(.int (3 : Int32)), (.int (1 : Int32))])) _
  refine XS.icmpNo X0.here hx rfl (hb hby d3_9) rfl (tlt ((by decide) : (1 : Int32) < (3 : Int32))).2.1 ?_
  show Steps p.tables e below (T0.setTop (mkF m 12 (own_k10 a1 a2 len bor sp dp) [])) _
  refine XS.iload X0.here hx rfl (hb hby d3_12) rfl ?_
  show Steps p.tables e below (T0.setTop (mkF m 14 (own_k10 a1 a2 len bor sp dp) [(.int (1 : Int32))])) _
  refine XS.iloadN X0.here hx rfl (hb hby d3_14) rfl ?_
  show Steps p.tables e below (T0.setTop (mkF m 15 (own_k10 a1 a2 len bor sp dp) [(.int len), (.int (1 : Int32))])) _
  refine XS.icmpNo X0.here hx rfl (hb hby d3_15) rfl (tlt (hc15 : (1 : Int32) < len)).2.1 ?_
  show Steps p.tables e below (T0.setTop (mkF m 18 (own_k10 a1 a2 len bor sp dp) [])) _
  refine XS.aloadN X0.here hx rfl (hb hby d3_18) rfl rfl ?_
  show Steps p.tables e below (T0.setTop (mkF m 19 (own_k10 a1 a2 len bor sp dp) [(.ref a2)])) _
  refine XS.iload X0.here hx rfl (hb hby d3_19) rfl ?_
  show Steps p.tables e below (T0.setTop (mkF m 21 (own_k10 a1 a2 len bor sp dp) [(.int (1 : Int32)), (.ref a2)])) _
  refine X0.laload hx (j := (1 : Int32)) (v := (.long w1)) (by rw [e0]; exact ArW.1) (State.isArrayOf_alike hZ.alike ArW.2.1) ArW.2.2 inW1 atW1 (g := (mkF m 21 (own_k10 a1 a2 len bor sp dp) [(.int (1 : Int32)), (.ref a2)])) rfl rfl (hb hby d3_21) _ ?_
  show Steps p.tables e below (T0.setTop (mkF m 22 (own_k10 a1 a2 len bor sp dp) [(.long w1)])) _
  refine XS.goto X0.here hx rfl (pc0 := 22) (pc' := 26) rfl (hb hby d3_22) (by decide) (by decide) ?_
  show Steps p.tables e below (T0.setTop (mkF m 26 (own_k10 a1 a2 len bor sp dp) [(.long w1)])) _
  refine XS.lstore X0.here hx rfl (hb hby d3_26) rfl (l' := (own_k11 a1 a2 len bor w1 dp)) rfl ?_
  exact kt

set_option maxRecDepth 65536 in
set_option maxHeartbeats 4000000 in
theorem sa1_t {p : Program} {l : Launch} {e : Env} {R : Room} {s : State} {m : MethodId} {args : Array Value} {below : List Frame} {meth : Method} {c : Code} {T0 : State} {locs : List Loc} {cells slots : Nat} {Z : State} {h0 : Heap} {clM clW : Cell} (a1 a2 : Addr) (len : Int32) (bor : Int64) (sp dp : Int64) (m0 m1 m2 w0 w1 w2 : Int64) (sv : Int64) (X0 : Stand p l e R s m args below meth c T0 locs cells slots) (hx : p.tables.exec = Jvm.exec) (hby : c.code = prog_35_method_5_code) (hZ : Z.Warmed39 s.vm) (e0 : T0.heap = h0) (ArM : Arr Z h0 a1 clM .long) (SM : clM.slots.size = (3 : Int32).toNatClampNeg) (inM0 : ¬ ((0 : Int32) < 0 ∨ clM.slots.size ≤ (0 : Int32).toNatClampNeg)) (atM0 : clM.slots[(0 : Int32).toNatClampNeg]? = some (.long m0)) (inM1 : ¬ ((1 : Int32) < 0 ∨ clM.slots.size ≤ (1 : Int32).toNatClampNeg)) (atM1 : clM.slots[(1 : Int32).toNatClampNeg]? = some (.long m1)) (inM2 : ¬ ((2 : Int32) < 0 ∨ clM.slots.size ≤ (2 : Int32).toNatClampNeg)) (atM2 : clM.slots[(2 : Int32).toNatClampNeg]? = some (.long m2)) (ArW : Arr Z h0 a2 clW .long) (SW : clW.slots.size = (3 : Int32).toNatClampNeg) (inW0 : ¬ ((0 : Int32) < 0 ∨ clW.slots.size ≤ (0 : Int32).toNatClampNeg)) (atW0 : clW.slots[(0 : Int32).toNatClampNeg]? = some (.long w0)) (inW1 : ¬ ((1 : Int32) < 0 ∨ clW.slots.size ≤ (1 : Int32).toNatClampNeg)) (atW1 : clW.slots[(1 : Int32).toNatClampNeg]? = some (.long w1)) (inW2 : ¬ ((2 : Int32) < 0 ∨ clW.slots.size ≤ (2 : Int32).toNatClampNeg)) (atW2 : clW.slots[(2 : Int32).toNatClampNeg]? = some (.long w2)) (hc15 : ¬ ((1 : Int32) < len)) (h_sv : sv = (0 : Int64)) :
    ∀ target, Steps p.tables e below (T0.setTop (mkF m 28 (own_k12 a1 a2 len bor sv dp) [])) target → Steps p.tables e below (T0.setTop (mkF m 5 (own_k10 a1 a2 len bor sp dp) [])) target := by
  intro target kt
  rw [h_sv] at kt
  show Steps p.tables e below (T0.setTop (mkF m 5 (own_k10 a1 a2 len bor sp dp) [])) _
  refine XS.iload X0.here hx rfl (hb hby d3_5) rfl ?_
  show Steps p.tables e below (T0.setTop (mkF m 7 (own_k10 a1 a2 len bor sp dp) [(.int (1 : Int32))])) _
  refine XS.aloadN X0.here hx rfl (hb hby d3_7) rfl rfl ?_
  show Steps p.tables e below (T0.setTop (mkF m 8 (own_k10 a1 a2 len bor sp dp) [(.ref a1), (.int (1 : Int32))])) _
  refine X0.arraylength hx (by rw [e0]; exact ArM.1) (State.isArrayOf_alike hZ.alike ArM.2.1) (g := (mkF m 8 (own_k10 a1 a2 len bor sp dp) [(.ref a1), (.int (1 : Int32))])) rfl rfl (hb hby d3_8) _ ?_
  rw [len_of SM (by decide)]
  show Steps p.tables e below (T0.setTop (mkF m 9 (own_k10 a1 a2 len bor sp dp) [(.int (3 : Int32)), (.int (1 : Int32))])) _
  refine XS.icmpNo X0.here hx rfl (hb hby d3_9) rfl (tlt ((by decide) : (1 : Int32) < (3 : Int32))).2.1 ?_
  show Steps p.tables e below (T0.setTop (mkF m 12 (own_k10 a1 a2 len bor sp dp) [])) _
  refine XS.iload X0.here hx rfl (hb hby d3_12) rfl ?_
  show Steps p.tables e below (T0.setTop (mkF m 14 (own_k10 a1 a2 len bor sp dp) [(.int (1 : Int32))])) _
  refine XS.iloadN X0.here hx rfl (hb hby d3_14) rfl ?_
  show Steps p.tables e below (T0.setTop (mkF m 15 (own_k10 a1 a2 len bor sp dp) [(.int len), (.int (1 : Int32))])) _
  refine XS.icmpYes X0.here hx rfl (pc0 := 15) (pc' := 25) rfl (hb hby d3_15) rfl (flt (hc15 : ¬ ((1 : Int32) < len))).2.1 (by decide) (by decide) ?_
  show Steps p.tables e below (T0.setTop (mkF m 25 (own_k10 a1 a2 len bor sp dp) [])) _
  refine XS.lconst X0.here hx rfl (hb hby d3_25) ?_
  show Steps p.tables e below (T0.setTop (mkF m 26 (own_k10 a1 a2 len bor sp dp) [(.long (0 : Int64))])) _
  refine XS.lstore X0.here hx rfl (hb hby d3_26) rfl (l' := (own_k13 a1 a2 len bor dp)) rfl ?_
  exact kt

set_option maxRecDepth 65536 in
set_option maxHeartbeats 4000000 in
theorem sb1 {p : Program} {l : Launch} {e : Env} {R : Room} {s : State} {m : MethodId} {args : Array Value} {below : List Frame} {meth : Method} {c : Code} {T0 : State} {locs : List Loc} {cells slots : Nat} {Z : State} {h0 : Heap} {clM : Cell} (a1 a2 : Addr) (len : Int32) (bor : Int64) (sp dp : Int64) (m0 m1 m2 w0 w1 w2 : Int64) (sv : Int64) (dv : Int64) (X0 : Stand p l e R s m args below meth c T0 locs cells slots) (hx : p.tables.exec = Jvm.exec) (hby : c.code = prog_35_method_5_code) (hZ : Z.Warmed39 s.vm) (e0 : T0.heap = h0) (ArM : Arr Z h0 a1 clM .long) (SM : clM.slots.size = (3 : Int32).toNatClampNeg) (inM0 : ¬ ((0 : Int32) < 0 ∨ clM.slots.size ≤ (0 : Int32).toNatClampNeg)) (atM0 : clM.slots[(0 : Int32).toNatClampNeg]? = some (.long m0)) (inM1 : ¬ ((1 : Int32) < 0 ∨ clM.slots.size ≤ (1 : Int32).toNatClampNeg)) (atM1 : clM.slots[(1 : Int32).toNatClampNeg]? = some (.long m1)) (inM2 : ¬ ((2 : Int32) < 0 ∨ clM.slots.size ≤ (2 : Int32).toNatClampNeg)) (atM2 : clM.slots[(2 : Int32).toNatClampNeg]? = some (.long m2)) (h_dv : dv = ((m1 - sv) - bor)) :
    ∀ target, Steps p.tables e below (T0.setTop (mkF m 45 (own_k15 a1 a2 len bor sv dv) [(.long sv), (.long m1)])) target → Steps p.tables e below (T0.setTop (mkF m 28 (own_k12 a1 a2 len bor sv dp) [])) target := by
  intro target kt
  rw [h_dv] at kt
  show Steps p.tables e below (T0.setTop (mkF m 28 (own_k12 a1 a2 len bor sv dp) [])) _
  refine XS.aloadN X0.here hx rfl (hb hby d3_28) rfl rfl ?_
  show Steps p.tables e below (T0.setTop (mkF m 29 (own_k12 a1 a2 len bor sv dp) [(.ref a1)])) _
  refine XS.iload X0.here hx rfl (hb hby d3_29) rfl ?_
  show Steps p.tables e below (T0.setTop (mkF m 31 (own_k12 a1 a2 len bor sv dp) [(.int (1 : Int32)), (.ref a1)])) _
  refine X0.laload hx (j := (1 : Int32)) (v := (.long m1)) (by rw [e0]; exact ArM.1) (State.isArrayOf_alike hZ.alike ArM.2.1) ArM.2.2 inM1 atM1 (g := (mkF m 31 (own_k12 a1 a2 len bor sv dp) [(.int (1 : Int32)), (.ref a1)])) rfl rfl (hb hby d3_31) _ ?_
  show Steps p.tables e below (T0.setTop (mkF m 32 (own_k12 a1 a2 len bor sv dp) [(.long m1)])) _
  refine XS.lload X0.here hx rfl (hb hby d3_32) rfl ?_
  show Steps p.tables e below (T0.setTop (mkF m 34 (own_k12 a1 a2 len bor sv dp) [(.long sv), (.long m1)])) _
  refine XS.lsub X0.here hx rfl (hb hby d3_34) rfl ?_
  show Steps p.tables e below (T0.setTop (mkF m 35 (own_k12 a1 a2 len bor sv dp) [(.long (m1 - sv))])) _
  refine XS.lloadN X0.here hx rfl (hb hby d3_35) rfl ?_
  show Steps p.tables e below (T0.setTop (mkF m 36 (own_k12 a1 a2 len bor sv dp) [(.long bor), (.long (m1 - sv))])) _
  refine XS.lsub X0.here hx rfl (hb hby d3_36) rfl ?_
  show Steps p.tables e below (T0.setTop (mkF m 37 (own_k12 a1 a2 len bor sv dp) [(.long ((m1 - sv) - bor))])) _
  refine XS.lstore X0.here hx rfl (hb hby d3_37) rfl (l' := (own_k14 a1 a2 len bor sv m1)) rfl ?_
  show Steps p.tables e below (T0.setTop (mkF m 39 (own_k14 a1 a2 len bor sv m1) [])) _
  refine XS.aloadN X0.here hx rfl (hb hby d3_39) rfl rfl ?_
  show Steps p.tables e below (T0.setTop (mkF m 40 (own_k14 a1 a2 len bor sv m1) [(.ref a1)])) _
  refine XS.iload X0.here hx rfl (hb hby d3_40) rfl ?_
  show Steps p.tables e below (T0.setTop (mkF m 42 (own_k14 a1 a2 len bor sv m1) [(.int (1 : Int32)), (.ref a1)])) _
  refine X0.laload hx (j := (1 : Int32)) (v := (.long m1)) (by rw [e0]; exact ArM.1) (State.isArrayOf_alike hZ.alike ArM.2.1) ArM.2.2 inM1 atM1 (g := (mkF m 42 (own_k14 a1 a2 len bor sv m1) [(.int (1 : Int32)), (.ref a1)])) rfl rfl (hb hby d3_42) _ ?_
  show Steps p.tables e below (T0.setTop (mkF m 43 (own_k14 a1 a2 len bor sv m1) [(.long m1)])) _
  refine XS.lload X0.here hx rfl (hb hby d3_43) rfl ?_
  exact kt

set_option maxRecDepth 65536 in
set_option maxHeartbeats 4000000 in
theorem sd1_lt {p : Program} {l : Launch} {e : Env} {R : Room} {s : State} {m : MethodId} {args : Array Value} {below : List Frame} {meth : Method} {c : Code} {T0 : State} {locs : List Loc} {cells slots : Nat} {Z : State} {h0 : Heap} {clM : Cell} (a1 a2 : Addr) (len : Int32) (bor : Int64) (m0 m1 m2 w0 w1 w2 : Int64) (sv dv : Int64) (cu : Int32) (nb : Int64) (X0 : Stand p l e R s m args below meth c T0 locs cells slots) (hx : p.tables.exec = Jvm.exec) (hby : c.code = prog_35_method_5_code) (hZ : Z.Warmed39 s.vm) (e0 : T0.heap = h0) (ArM : Arr Z h0 a1 clM .long) (SM : clM.slots.size = (3 : Int32).toNatClampNeg) (inM0 : ¬ ((0 : Int32) < 0 ∨ clM.slots.size ≤ (0 : Int32).toNatClampNeg)) (atM0 : clM.slots[(0 : Int32).toNatClampNeg]? = some (.long m0)) (inM1 : ¬ ((1 : Int32) < 0 ∨ clM.slots.size ≤ (1 : Int32).toNatClampNeg)) (atM1 : clM.slots[(1 : Int32).toNatClampNeg]? = some (.long m1)) (inM2 : ¬ ((2 : Int32) < 0 ∨ clM.slots.size ≤ (2 : Int32).toNatClampNeg)) (atM2 : clM.slots[(2 : Int32).toNatClampNeg]? = some (.long m2)) (hc48 : cu < (0 : Int32)) (h_nb : nb = (1 : Int64)) :
    ∀ target, Steps p.tables e below (T0.setTop (mkF m 73 (own_k9 a1 a2 len nb sv dv) [])) target → Steps p.tables e below (T0.setTop (mkF m 48 (own_k15 a1 a2 len bor sv dv) [(.int cu)])) target := by
  intro target kt
  rw [h_nb] at kt
  show Steps p.tables e below (T0.setTop (mkF m 48 (own_k15 a1 a2 len bor sv dv) [(.int cu)])) _
  refine XS.ifYes X0.here hx rfl (pc0 := 48) (pc' := 67) rfl (hb hby d3_48) rfl ((if0 _ _).trans (tlt (hc48 : cu < (0 : Int32))).1) (by decide) (by decide) ?_
  show Steps p.tables e below (T0.setTop (mkF m 67 (own_k15 a1 a2 len bor sv dv) [])) _
  refine XS.lconst X0.here hx rfl (hb hby d3_67) ?_
  show Steps p.tables e below (T0.setTop (mkF m 68 (own_k15 a1 a2 len bor sv dv) [(.long (1 : Int64))])) _
  refine XS.goto X0.here hx rfl (pc0 := 68) (pc' := 72) rfl (hb hby d3_68) (by decide) (by decide) ?_
  show Steps p.tables e below (T0.setTop (mkF m 72 (own_k15 a1 a2 len bor sv dv) [(.long (1 : Int64))])) _
  refine XS.lstoreN X0.here hx rfl (hb hby d3_72) rfl (l' := (own_k16 a1 a2 len sv dv)) rfl ?_
  exact kt

set_option maxRecDepth 65536 in
set_option maxHeartbeats 4000000 in
theorem sd1_ne {p : Program} {l : Launch} {e : Env} {R : Room} {s : State} {m : MethodId} {args : Array Value} {below : List Frame} {meth : Method} {c : Code} {T0 : State} {locs : List Loc} {cells slots : Nat} {Z : State} {h0 : Heap} {clM : Cell} (a1 a2 : Addr) (len : Int32) (bor : Int64) (m0 m1 m2 w0 w1 w2 : Int64) (sv dv : Int64) (cu : Int32) (nb : Int64) (X0 : Stand p l e R s m args below meth c T0 locs cells slots) (hx : p.tables.exec = Jvm.exec) (hby : c.code = prog_35_method_5_code) (hZ : Z.Warmed39 s.vm) (e0 : T0.heap = h0) (ArM : Arr Z h0 a1 clM .long) (SM : clM.slots.size = (3 : Int32).toNatClampNeg) (inM0 : ¬ ((0 : Int32) < 0 ∨ clM.slots.size ≤ (0 : Int32).toNatClampNeg)) (atM0 : clM.slots[(0 : Int32).toNatClampNeg]? = some (.long m0)) (inM1 : ¬ ((1 : Int32) < 0 ∨ clM.slots.size ≤ (1 : Int32).toNatClampNeg)) (atM1 : clM.slots[(1 : Int32).toNatClampNeg]? = some (.long m1)) (inM2 : ¬ ((2 : Int32) < 0 ∨ clM.slots.size ≤ (2 : Int32).toNatClampNeg)) (atM2 : clM.slots[(2 : Int32).toNatClampNeg]? = some (.long m2)) (hc48 : ¬ (cu < (0 : Int32))) (hc58 : ¬ ((lcmpW m1 sv) = (0 : Int32))) (h_nb : nb = (0 : Int64)) :
    ∀ target, Steps p.tables e below (T0.setTop (mkF m 73 (own_k9 a1 a2 len nb sv dv) [])) target → Steps p.tables e below (T0.setTop (mkF m 48 (own_k15 a1 a2 len bor sv dv) [(.int cu)])) target := by
  intro target kt
  rw [h_nb] at kt
  show Steps p.tables e below (T0.setTop (mkF m 48 (own_k15 a1 a2 len bor sv dv) [(.int cu)])) _
  refine XS.ifNo X0.here hx rfl (hb hby d3_48) rfl ((if0 _ _).trans (flt (hc48 : ¬ (cu < (0 : Int32)))).1) ?_
  show Steps p.tables e below (T0.setTop (mkF m 51 (own_k15 a1 a2 len bor sv dv) [])) _
  refine XS.aloadN X0.here hx rfl (hb hby d3_51) rfl rfl ?_
  show Steps p.tables e below (T0.setTop (mkF m 52 (own_k15 a1 a2 len bor sv dv) [(.ref a1)])) _
  refine XS.iload X0.here hx rfl (hb hby d3_52) rfl ?_
  show Steps p.tables e below (T0.setTop (mkF m 54 (own_k15 a1 a2 len bor sv dv) [(.int (1 : Int32)), (.ref a1)])) _
  refine X0.laload hx (j := (1 : Int32)) (v := (.long m1)) (by rw [e0]; exact ArM.1) (State.isArrayOf_alike hZ.alike ArM.2.1) ArM.2.2 inM1 atM1 (g := (mkF m 54 (own_k15 a1 a2 len bor sv dv) [(.int (1 : Int32)), (.ref a1)])) rfl rfl (hb hby d3_54) _ ?_
  show Steps p.tables e below (T0.setTop (mkF m 55 (own_k15 a1 a2 len bor sv dv) [(.long m1)])) _
  refine XS.lload X0.here hx rfl (hb hby d3_55) rfl ?_
  show Steps p.tables e below (T0.setTop (mkF m 57 (own_k15 a1 a2 len bor sv dv) [(.long sv), (.long m1)])) _
  refine XS.lcmp X0.here hx rfl (hb hby d3_57) rfl ?_
  show Steps p.tables e below (T0.setTop (mkF m 58 (own_k15 a1 a2 len bor sv dv) [(.int (lcmpW m1 sv))])) _
  refine XS.ifYes X0.here hx rfl (pc0 := 58) (pc' := 71) rfl (hb hby d3_58) rfl ((if0 _ _).trans (feq (hc58 : ¬ ((lcmpW m1 sv) = (0 : Int32)))).2) (by decide) (by decide) ?_
  show Steps p.tables e below (T0.setTop (mkF m 71 (own_k15 a1 a2 len bor sv dv) [])) _
  refine XS.lconst X0.here hx rfl (hb hby d3_71) ?_
  show Steps p.tables e below (T0.setTop (mkF m 72 (own_k15 a1 a2 len bor sv dv) [(.long (0 : Int64))])) _
  refine XS.lstoreN X0.here hx rfl (hb hby d3_72) rfl (l' := (own_k17 a1 a2 len sv dv)) rfl ?_
  exact kt

set_option maxRecDepth 65536 in
set_option maxHeartbeats 4000000 in
theorem sd1_z {p : Program} {l : Launch} {e : Env} {R : Room} {s : State} {m : MethodId} {args : Array Value} {below : List Frame} {meth : Method} {c : Code} {T0 : State} {locs : List Loc} {cells slots : Nat} {Z : State} {h0 : Heap} {clM : Cell} (a1 a2 : Addr) (len : Int32) (bor : Int64) (m0 m1 m2 w0 w1 w2 : Int64) (sv dv : Int64) (cu : Int32) (nb : Int64) (X0 : Stand p l e R s m args below meth c T0 locs cells slots) (hx : p.tables.exec = Jvm.exec) (hby : c.code = prog_35_method_5_code) (hZ : Z.Warmed39 s.vm) (e0 : T0.heap = h0) (ArM : Arr Z h0 a1 clM .long) (SM : clM.slots.size = (3 : Int32).toNatClampNeg) (inM0 : ¬ ((0 : Int32) < 0 ∨ clM.slots.size ≤ (0 : Int32).toNatClampNeg)) (atM0 : clM.slots[(0 : Int32).toNatClampNeg]? = some (.long m0)) (inM1 : ¬ ((1 : Int32) < 0 ∨ clM.slots.size ≤ (1 : Int32).toNatClampNeg)) (atM1 : clM.slots[(1 : Int32).toNatClampNeg]? = some (.long m1)) (inM2 : ¬ ((2 : Int32) < 0 ∨ clM.slots.size ≤ (2 : Int32).toNatClampNeg)) (atM2 : clM.slots[(2 : Int32).toNatClampNeg]? = some (.long m2)) (hc48 : ¬ (cu < (0 : Int32))) (hc58 : (lcmpW m1 sv) = (0 : Int32)) (hc64 : (lcmpW bor (0 : Int64)) = (0 : Int32)) (h_nb : nb = (0 : Int64)) :
    ∀ target, Steps p.tables e below (T0.setTop (mkF m 73 (own_k9 a1 a2 len nb sv dv) [])) target → Steps p.tables e below (T0.setTop (mkF m 48 (own_k15 a1 a2 len bor sv dv) [(.int cu)])) target := by
  intro target kt
  rw [h_nb] at kt
  show Steps p.tables e below (T0.setTop (mkF m 48 (own_k15 a1 a2 len bor sv dv) [(.int cu)])) _
  refine XS.ifNo X0.here hx rfl (hb hby d3_48) rfl ((if0 _ _).trans (flt (hc48 : ¬ (cu < (0 : Int32)))).1) ?_
  show Steps p.tables e below (T0.setTop (mkF m 51 (own_k15 a1 a2 len bor sv dv) [])) _
  refine XS.aloadN X0.here hx rfl (hb hby d3_51) rfl rfl ?_
  show Steps p.tables e below (T0.setTop (mkF m 52 (own_k15 a1 a2 len bor sv dv) [(.ref a1)])) _
  refine XS.iload X0.here hx rfl (hb hby d3_52) rfl ?_
  show Steps p.tables e below (T0.setTop (mkF m 54 (own_k15 a1 a2 len bor sv dv) [(.int (1 : Int32)), (.ref a1)])) _
  refine X0.laload hx (j := (1 : Int32)) (v := (.long m1)) (by rw [e0]; exact ArM.1) (State.isArrayOf_alike hZ.alike ArM.2.1) ArM.2.2 inM1 atM1 (g := (mkF m 54 (own_k15 a1 a2 len bor sv dv) [(.int (1 : Int32)), (.ref a1)])) rfl rfl (hb hby d3_54) _ ?_
  show Steps p.tables e below (T0.setTop (mkF m 55 (own_k15 a1 a2 len bor sv dv) [(.long m1)])) _
  refine XS.lload X0.here hx rfl (hb hby d3_55) rfl ?_
  show Steps p.tables e below (T0.setTop (mkF m 57 (own_k15 a1 a2 len bor sv dv) [(.long sv), (.long m1)])) _
  refine XS.lcmp X0.here hx rfl (hb hby d3_57) rfl ?_
  show Steps p.tables e below (T0.setTop (mkF m 58 (own_k15 a1 a2 len bor sv dv) [(.int (lcmpW m1 sv))])) _
  refine XS.ifNo X0.here hx rfl (hb hby d3_58) rfl ((if0 _ _).trans (teq (hc58 : (lcmpW m1 sv) = (0 : Int32))).2) ?_
  show Steps p.tables e below (T0.setTop (mkF m 61 (own_k15 a1 a2 len bor sv dv) [])) _
  refine XS.lloadN X0.here hx rfl (hb hby d3_61) rfl ?_
  show Steps p.tables e below (T0.setTop (mkF m 62 (own_k15 a1 a2 len bor sv dv) [(.long bor)])) _
  refine XS.lconst X0.here hx rfl (hb hby d3_62) ?_
  show Steps p.tables e below (T0.setTop (mkF m 63 (own_k15 a1 a2 len bor sv dv) [(.long (0 : Int64)), (.long bor)])) _
  refine XS.lcmp X0.here hx rfl (hb hby d3_63) rfl ?_
  show Steps p.tables e below (T0.setTop (mkF m 64 (own_k15 a1 a2 len bor sv dv) [(.int (lcmpW bor (0 : Int64)))])) _
  refine XS.ifYes X0.here hx rfl (pc0 := 64) (pc' := 71) rfl (hb hby d3_64) rfl ((if0 _ _).trans (teq (hc64 : (lcmpW bor (0 : Int64)) = (0 : Int32))).1) (by decide) (by decide) ?_
  show Steps p.tables e below (T0.setTop (mkF m 71 (own_k15 a1 a2 len bor sv dv) [])) _
  refine XS.lconst X0.here hx rfl (hb hby d3_71) ?_
  show Steps p.tables e below (T0.setTop (mkF m 72 (own_k15 a1 a2 len bor sv dv) [(.long (0 : Int64))])) _
  refine XS.lstoreN X0.here hx rfl (hb hby d3_72) rfl (l' := (own_k17 a1 a2 len sv dv)) rfl ?_
  exact kt

set_option maxRecDepth 65536 in
set_option maxHeartbeats 4000000 in
theorem sd1_nz {p : Program} {l : Launch} {e : Env} {R : Room} {s : State} {m : MethodId} {args : Array Value} {below : List Frame} {meth : Method} {c : Code} {T0 : State} {locs : List Loc} {cells slots : Nat} {Z : State} {h0 : Heap} {clM : Cell} (a1 a2 : Addr) (len : Int32) (bor : Int64) (m0 m1 m2 w0 w1 w2 : Int64) (sv dv : Int64) (cu : Int32) (nb : Int64) (X0 : Stand p l e R s m args below meth c T0 locs cells slots) (hx : p.tables.exec = Jvm.exec) (hby : c.code = prog_35_method_5_code) (hZ : Z.Warmed39 s.vm) (e0 : T0.heap = h0) (ArM : Arr Z h0 a1 clM .long) (SM : clM.slots.size = (3 : Int32).toNatClampNeg) (inM0 : ¬ ((0 : Int32) < 0 ∨ clM.slots.size ≤ (0 : Int32).toNatClampNeg)) (atM0 : clM.slots[(0 : Int32).toNatClampNeg]? = some (.long m0)) (inM1 : ¬ ((1 : Int32) < 0 ∨ clM.slots.size ≤ (1 : Int32).toNatClampNeg)) (atM1 : clM.slots[(1 : Int32).toNatClampNeg]? = some (.long m1)) (inM2 : ¬ ((2 : Int32) < 0 ∨ clM.slots.size ≤ (2 : Int32).toNatClampNeg)) (atM2 : clM.slots[(2 : Int32).toNatClampNeg]? = some (.long m2)) (hc48 : ¬ (cu < (0 : Int32))) (hc58 : (lcmpW m1 sv) = (0 : Int32)) (hc64 : ¬ ((lcmpW bor (0 : Int64)) = (0 : Int32))) (h_nb : nb = (1 : Int64)) :
    ∀ target, Steps p.tables e below (T0.setTop (mkF m 73 (own_k9 a1 a2 len nb sv dv) [])) target → Steps p.tables e below (T0.setTop (mkF m 48 (own_k15 a1 a2 len bor sv dv) [(.int cu)])) target := by
  intro target kt
  rw [h_nb] at kt
  show Steps p.tables e below (T0.setTop (mkF m 48 (own_k15 a1 a2 len bor sv dv) [(.int cu)])) _
  refine XS.ifNo X0.here hx rfl (hb hby d3_48) rfl ((if0 _ _).trans (flt (hc48 : ¬ (cu < (0 : Int32)))).1) ?_
  show Steps p.tables e below (T0.setTop (mkF m 51 (own_k15 a1 a2 len bor sv dv) [])) _
  refine XS.aloadN X0.here hx rfl (hb hby d3_51) rfl rfl ?_
  show Steps p.tables e below (T0.setTop (mkF m 52 (own_k15 a1 a2 len bor sv dv) [(.ref a1)])) _
  refine XS.iload X0.here hx rfl (hb hby d3_52) rfl ?_
  show Steps p.tables e below (T0.setTop (mkF m 54 (own_k15 a1 a2 len bor sv dv) [(.int (1 : Int32)), (.ref a1)])) _
  refine X0.laload hx (j := (1 : Int32)) (v := (.long m1)) (by rw [e0]; exact ArM.1) (State.isArrayOf_alike hZ.alike ArM.2.1) ArM.2.2 inM1 atM1 (g := (mkF m 54 (own_k15 a1 a2 len bor sv dv) [(.int (1 : Int32)), (.ref a1)])) rfl rfl (hb hby d3_54) _ ?_
  show Steps p.tables e below (T0.setTop (mkF m 55 (own_k15 a1 a2 len bor sv dv) [(.long m1)])) _
  refine XS.lload X0.here hx rfl (hb hby d3_55) rfl ?_
  show Steps p.tables e below (T0.setTop (mkF m 57 (own_k15 a1 a2 len bor sv dv) [(.long sv), (.long m1)])) _
  refine XS.lcmp X0.here hx rfl (hb hby d3_57) rfl ?_
  show Steps p.tables e below (T0.setTop (mkF m 58 (own_k15 a1 a2 len bor sv dv) [(.int (lcmpW m1 sv))])) _
  refine XS.ifNo X0.here hx rfl (hb hby d3_58) rfl ((if0 _ _).trans (teq (hc58 : (lcmpW m1 sv) = (0 : Int32))).2) ?_
  show Steps p.tables e below (T0.setTop (mkF m 61 (own_k15 a1 a2 len bor sv dv) [])) _
  refine XS.lloadN X0.here hx rfl (hb hby d3_61) rfl ?_
  show Steps p.tables e below (T0.setTop (mkF m 62 (own_k15 a1 a2 len bor sv dv) [(.long bor)])) _
  refine XS.lconst X0.here hx rfl (hb hby d3_62) ?_
  show Steps p.tables e below (T0.setTop (mkF m 63 (own_k15 a1 a2 len bor sv dv) [(.long (0 : Int64)), (.long bor)])) _
  refine XS.lcmp X0.here hx rfl (hb hby d3_63) rfl ?_
  show Steps p.tables e below (T0.setTop (mkF m 64 (own_k15 a1 a2 len bor sv dv) [(.int (lcmpW bor (0 : Int64)))])) _
  refine XS.ifNo X0.here hx rfl (hb hby d3_64) rfl ((if0 _ _).trans (feq (hc64 : ¬ ((lcmpW bor (0 : Int64)) = (0 : Int32)))).1) ?_
  show Steps p.tables e below (T0.setTop (mkF m 67 (own_k15 a1 a2 len bor sv dv) [])) _
  refine XS.lconst X0.here hx rfl (hb hby d3_67) ?_
  show Steps p.tables e below (T0.setTop (mkF m 68 (own_k15 a1 a2 len bor sv dv) [(.long (1 : Int64))])) _
  refine XS.goto X0.here hx rfl (pc0 := 68) (pc' := 72) rfl (hb hby d3_68) (by decide) (by decide) ?_
  show Steps p.tables e below (T0.setTop (mkF m 72 (own_k15 a1 a2 len bor sv dv) [(.long (1 : Int64))])) _
  refine XS.lstoreN X0.here hx rfl (hb hby d3_72) rfl (l' := (own_k16 a1 a2 len sv dv)) rfl ?_
  exact kt

set_option maxRecDepth 65536 in
set_option maxHeartbeats 4000000 in
theorem se1 {p : Program} {l : Launch} {e : Env} {R : Room} {s : State} {m : MethodId} {args : Array Value} {below : List Frame} {meth : Method} {c : Code} {T0 : State} {locs : List Loc} {cells slots : Nat} (a1 a2 : Addr) (len : Int32) (nb sv dv : Int64)  (X0 : Stand p l e R s m args below meth c T0 locs cells slots) (hx : p.tables.exec = Jvm.exec) (hby : c.code = prog_35_method_5_code) :
    ∀ target, Steps p.tables e below (T0.setTop (mkF m 78 (own_k9 a1 a2 len nb sv dv) [(.long dv), (.int (1 : Int32)), (.ref a2)])) target → Steps p.tables e below (T0.setTop (mkF m 73 (own_k9 a1 a2 len nb sv dv) [])) target := by
  intro target kt
  show Steps p.tables e below (T0.setTop (mkF m 73 (own_k9 a1 a2 len nb sv dv) [])) _
  refine XS.aloadN X0.here hx rfl (hb hby d3_73) rfl rfl ?_
  show Steps p.tables e below (T0.setTop (mkF m 74 (own_k9 a1 a2 len nb sv dv) [(.ref a2)])) _
  refine XS.iload X0.here hx rfl (hb hby d3_74) rfl ?_
  show Steps p.tables e below (T0.setTop (mkF m 76 (own_k9 a1 a2 len nb sv dv) [(.int (1 : Int32)), (.ref a2)])) _
  refine XS.lload X0.here hx rfl (hb hby d3_76) rfl ?_
  exact kt

set_option maxRecDepth 65536 in
set_option maxHeartbeats 4000000 in
theorem sf1 {p : Program} {l : Launch} {e : Env} {R : Room} {s : State} {m : MethodId} {args : Array Value} {below : List Frame} {meth : Method} {c : Code} {T0 : State} {locs : List Loc} {cells slots : Nat} (a1 a2 : Addr) (len : Int32) (nb sv dv : Int64)  (X0 : Stand p l e R s m args below meth c T0 locs cells slots) (hx : p.tables.exec = Jvm.exec) (hby : c.code = prog_35_method_5_code) :
    ∀ target, Steps p.tables e below (T0.setTop (mkF m 5 (own_k18 a1 a2 len nb sv dv) [])) target → Steps p.tables e below (T0.setTop (mkF m 79 (own_k9 a1 a2 len nb sv dv) [])) target := by
  intro target kt
  show Steps p.tables e below (T0.setTop (mkF m 79 (own_k9 a1 a2 len nb sv dv) [])) _
  refine XS.iinc X0.here hx rfl (hb hby d3_79) rfl (l' := (own_k18 a1 a2 len nb sv dv)) rfl ?_
  show Steps p.tables e below (T0.setTop (mkF m 82 (own_k18 a1 a2 len nb sv dv) [])) _
  refine XS.goto X0.here hx rfl (pc0 := 82) (pc' := 5) rfl (hb hby d3_82) (by decide) (by decide) ?_
  exact kt

set_option maxRecDepth 65536 in
set_option maxHeartbeats 40000000 in
theorem turn1 {p : Program} {l : Launch} {e : Env} {s : State} {m : MethodId} {args : Array Value} {below : List Frame} {meth : Method} {c : Code} {T0 : State} {locs : List Loc} {Z : State} {a0 : Array Value} {h0 : Heap} {n0 : Nat} {k1 k2 : ClassId} {d1 d2 : Value} (a1 a2 : Addr) (len : Int32) (bor : Int64) (sp dp : Int64) (m0 m1 m2 w0 w1 w2 : Int64)
    (X0 : Stand p l e ({ frames := 2, cells := 0, slots := 0, locals := 30 } : Room) s m args below meth c T0 locs 0 0) (hx : p.tables.exec = Jvm.exec) (hZ : Z.Warmed39 s.vm) (hw : ∀ d ∈ tables_1, d.before a0 Z = true) (hby : c.code = prog_35_method_5_code) (hml : c.maxLocals = 10) (hown : s.vm.findClass "ringfold/modular/Words" = some m.cls) (e0 : T0.heap = h0) (Z0 : n0 ≤ h0.size) (N0 : Fr n0 locs) (g_a2 : n0 ≤ a2) (ne : a1 ≠ a2)
    (VM : Arv Z h0 a1 k1 .long (3 : Int32) [.long m0, .long m1, .long m2] d1) (VW : Arv Z h0 a2 k2 .long (3 : Int32) [.long w0, .long w1, .long w2] d2) :
    ∃ (T' : State) (h' : Heap) (locs' : List Loc), Stand p l e ({ frames := 2, cells := 0, slots := 0, locals := 30 } : Room) s m args below meth c T' locs' 0 0 ∧ T'.heap = h' ∧ Fr n0 locs' ∧ Keep h0 h' [a2] ∧ Arv Z h' a1 k1 .long (3 : Int32) [.long m0, .long m1, .long m2] d1 ∧ Arv Z h' a2 k2 .long (3 : Int32) [.long w0, .long (m1 - (pSub len (1 : Int32) w1) - bor), .long w2] d2 ∧
      ∀ target, Steps p.tables e below (T'.setTop (mkF m 5 (own_k18 a1 a2 len (pBor m1 (pSub len (1 : Int32) w1) bor) (pSub len (1 : Int32) w1) (m1 - (pSub len (1 : Int32) w1) - bor)) [])) target → Steps p.tables e below (T0.setTop (mkF m 5 (own_k10 a1 a2 len bor sp dp) [])) target := by
  obtain ⟨clM, ArM, SM, ⟨inM0, atM0⟩, ⟨inM1, atM1⟩, ⟨inM2, atM2⟩⟩ := own_get VM
  obtain ⟨clW, ArW, SW, ⟨inW0, atW0⟩, ⟨inW1, atW1⟩, ⟨inW2, atW2⟩⟩ := own_get VW
  have ha : ∀ target, Steps p.tables e below (T0.setTop (mkF m 28 (own_k12 a1 a2 len bor (pSub len (1 : Int32) w1) dp) [])) target → Steps p.tables e below (T0.setTop (mkF m 5 (own_k10 a1 a2 len bor sp dp) [])) target := by
    by_cases hl : (1 : Int32) < len
    · exact sa1_f a1 a2 len bor sp dp m0 m1 m2 w0 w1 w2 _ X0 hx hby hZ e0 ArM SM inM0 atM0 inM1 atM1 inM2 atM2 ArW SW inW0 atW0 inW1 atW1 inW2 atW2 hl (by simp [pSub, hl])
    · exact sa1_t a1 a2 len bor sp dp m0 m1 m2 w0 w1 w2 _ X0 hx hby hZ e0 ArM SM inM0 atM0 inM1 atM1 inM2 atM2 ArW SW inW0 atW0 inW1 atW1 inW2 atW2 hl (by simp [pSub, hl])
  have hb2 : ∀ target, Steps p.tables e below (T0.setTop (mkF m 45 (own_k15 a1 a2 len bor (pSub len (1 : Int32) w1) (m1 - (pSub len (1 : Int32) w1) - bor)) [(.long (pSub len (1 : Int32) w1)), (.long m1)])) target → Steps p.tables e below (T0.setTop (mkF m 28 (own_k12 a1 a2 len bor (pSub len (1 : Int32) w1) dp) [])) target :=
    sb1 a1 a2 len bor sp dp m0 m1 m2 w0 w1 w2 (pSub len (1 : Int32) w1) _ X0 hx hby hZ e0 ArM SM inM0 atM0 inM1 atM1 inM2 atM2 rfl
  obtain ⟨_, _, ⟨T1, L1, c1, n1⟩, -, X1, ⟨Lc1, hQ1, l1, y1, z1⟩, st1⟩ := Jvm.LawKit.callS X0 hx (y := (⟨"java/lang/Long", "compareUnsigned", "(JJ)I"⟩ : MethodName)) hown (mvT hZ (hw _ (List.mem_of_getElem? (i := 15) rfl))) (mvT hZ (hw _ (List.mem_of_getElem? (i := 16) rfl))) (mvT hZ (hw _ (List.mem_of_getElem? (i := 17) rfl))) (mvT hZ (hw _ (List.mem_of_getElem? (i := 18) rfl))) (by decide) (backOf (W := 0) (rm4 l Z a0 hw [] m1 (pSub len (1 : Int32) w1) h0 n0 Z0) hZ (hw _ (List.mem_of_getElem? (i := 18) rfl)) (hw _ (List.mem_of_getElem? (i := 17) rfl)) (by decide) (by decide)) (g := (mkF m 45 (own_k15 a1 a2 len bor (pSub len (1 : Int32) w1) (m1 - (pSub len (1 : Int32) w1) - bor)) [(.long (pSub len (1 : Int32) w1)), (.long m1)])) rfl (by rw [hml]; rfl) (argsL := [(.long m1), (.long (pSub len (1 : Int32) w1))]) (rest := []) (lenOf pd_4_3 rfl) rfl (by show 2 * 0 + _ ≤ _; exact Nat.le_of_eq rfl) (hb hby d3_45) (fun _ _ => ⟨rfl, e0, (by decide : 0 + 0 ≤ _), (by decide : 0 + 0 ≤ _)⟩)
  dsimp only [Pt.U, Pt.locs, Pt.cells, Pt.slots] at X1 l1 y1 z1 st1 hQ1
  subst l1 y1 z1
  obtain ⟨rfl, N1q, e1⟩ := hQ1
  have N1 := Fr.app N0 N1q
  have hd : ∀ target, Steps p.tables e below (T1.setTop (mkF m 73 (own_k9 a1 a2 len (pBor m1 (pSub len (1 : Int32) w1) bor) (pSub len (1 : Int32) w1) (m1 - (pSub len (1 : Int32) w1) - bor)) [])) target → Steps p.tables e below (T1.setTop (mkF m 48 (own_k15 a1 a2 len bor (pSub len (1 : Int32) w1) (m1 - (pSub len (1 : Int32) w1) - bor)) [(.int (pCmp (m1 + (-9223372036854775808 : Int64)) ((pSub len (1 : Int32) w1) + (-9223372036854775808 : Int64))))])) target := by
    by_cases g1 : (pCmp (m1 + (-9223372036854775808 : Int64)) ((pSub len (1 : Int32) w1) + (-9223372036854775808 : Int64))) < 0
    · exact sd1_lt a1 a2 len bor m0 m1 m2 w0 w1 w2 (pSub len (1 : Int32) w1) (m1 - (pSub len (1 : Int32) w1) - bor) _ _ X1 hx hby hZ e1 ArM SM inM0 atM0 inM1 atM1 inM2 atM2 g1 (by simp [pBor, g1])
    · by_cases g2 : lcmpW m1 (pSub len (1 : Int32) w1) = 0
      · by_cases g3 : lcmpW bor (0 : Int64) = 0
        · exact sd1_z a1 a2 len bor m0 m1 m2 w0 w1 w2 (pSub len (1 : Int32) w1) (m1 - (pSub len (1 : Int32) w1) - bor) _ _ X1 hx hby hZ e1 ArM SM inM0 atM0 inM1 atM1 inM2 atM2 g1 g2 g3 (by simp [pBor, g1, g2, g3])
        · exact sd1_nz a1 a2 len bor m0 m1 m2 w0 w1 w2 (pSub len (1 : Int32) w1) (m1 - (pSub len (1 : Int32) w1) - bor) _ _ X1 hx hby hZ e1 ArM SM inM0 atM0 inM1 atM1 inM2 atM2 g1 g2 g3 (by simp [pBor, g1, g2, g3])
      · exact sd1_ne a1 a2 len bor m0 m1 m2 w0 w1 w2 (pSub len (1 : Int32) w1) (m1 - (pSub len (1 : Int32) w1) - bor) _ _ X1 hx hby hZ e1 ArM SM inM0 atM0 inM1 atM1 inM2 atM2 g1 g2 (by simp [pBor, g1, g2])
  obtain ⟨T2, h2, L2, X2, e2, V2, K2, N2, O2, st2⟩ := own_st X1 hx hZ e1 VW g_a2 N1 (j := (1 : Int32)) 1 rfl (by decide) (by first | (show 1 < 3; decide) | simp) (v := (m1 - (pSub len (1 : Int32) w1) - bor)) (pc := 78) (Ls := (own_k9 a1 a2 len (pBor m1 (pSub len (1 : Int32) w1) bor) (pSub len (1 : Int32) w1) (m1 - (pSub len (1 : Int32) w1) - bor))) (rest := []) (hb hby d3_78)
  refine ⟨T2, h2, L2, X2, e2, N2, K2, O2 a1 k1 _ d1 ne VM, V2, fun target kt => ?_⟩
  refine ha _ (hb2 _ ?_)
  refine st1 _ ?_
  refine hd _ ?_
  refine se1 a1 a2 len (pBor m1 (pSub len (1 : Int32) w1) bor) (pSub len (1 : Int32) w1) (m1 - (pSub len (1 : Int32) w1) - bor) X1 hx hby _ ?_
  refine st2 _ ?_
  exact sf1 a1 a2 len (pBor m1 (pSub len (1 : Int32) w1) bor) (pSub len (1 : Int32) w1) (m1 - (pSub len (1 : Int32) w1) - bor) X2 hx hby _ kt
set_option maxRecDepth 65536 in
set_option maxHeartbeats 4000000 in
theorem sa2_f {p : Program} {l : Launch} {e : Env} {R : Room} {s : State} {m : MethodId} {args : Array Value} {below : List Frame} {meth : Method} {c : Code} {T0 : State} {locs : List Loc} {cells slots : Nat} {Z : State} {h0 : Heap} {clM clW : Cell} (a1 a2 : Addr) (len : Int32) (bor : Int64) (sp dp : Int64) (m0 m1 m2 w0 w1 w2 : Int64) (sv : Int64) (X0 : Stand p l e R s m args below meth c T0 locs cells slots) (hx : p.tables.exec = Jvm.exec) (hby : c.code = prog_35_method_5_code) (hZ : Z.Warmed39 s.vm) (e0 : T0.heap = h0) (ArM : Arr Z h0 a1 clM .long) (SM : clM.slots.size = (3 : Int32).toNatClampNeg) (inM0 : ¬ ((0 : Int32) < 0 ∨ clM.slots.size ≤ (0 : Int32).toNatClampNeg)) (atM0 : clM.slots[(0 : Int32).toNatClampNeg]? = some (.long m0)) (inM1 : ¬ ((1 : Int32) < 0 ∨ clM.slots.size ≤ (1 : Int32).toNatClampNeg)) (atM1 : clM.slots[(1 : Int32).toNatClampNeg]? = some (.long m1)) (inM2 : ¬ ((2 : Int32) < 0 ∨ clM.slots.size ≤ (2 : Int32).toNatClampNeg)) (atM2 : clM.slots[(2 : Int32).toNatClampNeg]? = some (.long m2)) (ArW : Arr Z h0 a2 clW .long) (SW : clW.slots.size = (3 : Int32).toNatClampNeg) (inW0 : ¬ ((0 : Int32) < 0 ∨ clW.slots.size ≤ (0 : Int32).toNatClampNeg)) (atW0 : clW.slots[(0 : Int32).toNatClampNeg]? = some (.long w0)) (inW1 : ¬ ((1 : Int32) < 0 ∨ clW.slots.size ≤ (1 : Int32).toNatClampNeg)) (atW1 : clW.slots[(1 : Int32).toNatClampNeg]? = some (.long w1)) (inW2 : ¬ ((2 : Int32) < 0 ∨ clW.slots.size ≤ (2 : Int32).toNatClampNeg)) (atW2 : clW.slots[(2 : Int32).toNatClampNeg]? = some (.long w2)) (hc15 : (2 : Int32) < len) (h_sv : sv = w2) :
    ∀ target, Steps p.tables e below (T0.setTop (mkF m 28 (own_k21 a1 a2 len bor sv dp) [])) target → Steps p.tables e below (T0.setTop (mkF m 5 (own_k19 a1 a2 len bor sp dp) [])) target := by
  intro target kt
  rw [h_sv] at kt
  show Steps p.tables e below (T0.setTop (mkF m 5 (own_k19 a1 a2 len bor sp dp) [])) _
  refine XS.iload X0.here hx rfl (hb hby d3_5) rfl ?_
  show Steps p.tables e below (T0.setTop (mkF m 7 (own_k19 a1 a2 len bor sp dp) [(.int (2 : Int32))])) _
  refine XS.aloadN X0.here hx rfl (hb hby d3_7) rfl rfl ?_
  show Steps p.tables e below (T0.setTop (mkF m 8 (own_k19 a1 a2 len bor sp dp) [(.ref a1), (.int (2 : Int32))])) _
  refine X0.arraylength hx (by rw [e0]; exact ArM.1) (State.isArrayOf_alike hZ.alike ArM.2.1) (g := (mkF m 8 (own_k19 a1 a2 len bor sp dp) [(.ref a1), (.int (2 : Int32))])) rfl rfl (hb hby d3_8) _ ?_
  rw [len_of SM (by decide)]
  show Steps p.tables e below (T0.setTop (mkF m 9 (own_k19 a1 a2 len bor sp dp) [(.int (3 : Int32)), (.int (2 : Int32))])) _
  refine XS.icmpNo X0.here hx rfl (hb hby d3_9) rfl (tlt ((by decide) : (2 : Int32) < (3 : Int32))).2.1 ?_
  show Steps p.tables e below (T0.setTop (mkF m 12 (own_k19 a1 a2 len bor sp dp) [])) _
  refine XS.iload X0.here hx rfl (hb hby d3_12) rfl ?_
  show Steps p.tables e below (T0.setTop (mkF m 14 (own_k19 a1 a2 len bor sp dp) [(.int (2 : Int32))])) _
  refine XS.iloadN X0.here hx rfl (hb hby d3_14) rfl ?_
  show Steps p.tables e below (T0.setTop (mkF m 15 (own_k19 a1 a2 len bor sp dp) [(.int len), (.int (2 : Int32))])) _
  refine XS.icmpNo X0.here hx rfl (hb hby d3_15) rfl (tlt (hc15 : (2 : Int32) < len)).2.1 ?_
  show Steps p.tables e below (T0.setTop (mkF m 18 (own_k19 a1 a2 len bor sp dp) [])) _
  refine XS.aloadN X0.here hx rfl (hb hby d3_18) rfl rfl ?_
  show Steps p.tables e below (T0.setTop (mkF m 19 (own_k19 a1 a2 len bor sp dp) [(.ref a2)])) _
  refine XS.iload X0.here hx rfl (hb hby d3_19) rfl ?_
  show Steps p.tables e below (T0.setTop (mkF m 21 (own_k19 a1 a2 len bor sp dp) [(.int (2 : Int32)), (.ref a2)])) _
  refine X0.laload hx (j := (2 : Int32)) (v := (.long w2)) (by rw [e0]; exact ArW.1) (State.isArrayOf_alike hZ.alike ArW.2.1) ArW.2.2 inW2 atW2 (g := (mkF m 21 (own_k19 a1 a2 len bor sp dp) [(.int (2 : Int32)), (.ref a2)])) rfl rfl (hb hby d3_21) _ ?_
  show Steps p.tables e below (T0.setTop (mkF m 22 (own_k19 a1 a2 len bor sp dp) [(.long w2)])) _
  refine XS.goto X0.here hx rfl (pc0 := 22) (pc' := 26) rfl (hb hby d3_22) (by decide) (by decide) ?_
  show Steps p.tables e below (T0.setTop (mkF m 26 (own_k19 a1 a2 len bor sp dp) [(.long w2)])) _
  refine XS.lstore X0.here hx rfl (hb hby d3_26) rfl (l' := (own_k20 a1 a2 len bor w2 dp)) rfl ?_
  exact kt

set_option maxRecDepth 65536 in
set_option maxHeartbeats 4000000 in
theorem sa2_t {p : Program} {l : Launch} {e : Env} {R : Room} {s : State} {m : MethodId} {args : Array Value} {below : List Frame} {meth : Method} {c : Code} {T0 : State} {locs : List Loc} {cells slots : Nat} {Z : State} {h0 : Heap} {clM clW : Cell} (a1 a2 : Addr) (len : Int32) (bor : Int64) (sp dp : Int64) (m0 m1 m2 w0 w1 w2 : Int64) (sv : Int64) (X0 : Stand p l e R s m args below meth c T0 locs cells slots) (hx : p.tables.exec = Jvm.exec) (hby : c.code = prog_35_method_5_code) (hZ : Z.Warmed39 s.vm) (e0 : T0.heap = h0) (ArM : Arr Z h0 a1 clM .long) (SM : clM.slots.size = (3 : Int32).toNatClampNeg) (inM0 : ¬ ((0 : Int32) < 0 ∨ clM.slots.size ≤ (0 : Int32).toNatClampNeg)) (atM0 : clM.slots[(0 : Int32).toNatClampNeg]? = some (.long m0)) (inM1 : ¬ ((1 : Int32) < 0 ∨ clM.slots.size ≤ (1 : Int32).toNatClampNeg)) (atM1 : clM.slots[(1 : Int32).toNatClampNeg]? = some (.long m1)) (inM2 : ¬ ((2 : Int32) < 0 ∨ clM.slots.size ≤ (2 : Int32).toNatClampNeg)) (atM2 : clM.slots[(2 : Int32).toNatClampNeg]? = some (.long m2)) (ArW : Arr Z h0 a2 clW .long) (SW : clW.slots.size = (3 : Int32).toNatClampNeg) (inW0 : ¬ ((0 : Int32) < 0 ∨ clW.slots.size ≤ (0 : Int32).toNatClampNeg)) (atW0 : clW.slots[(0 : Int32).toNatClampNeg]? = some (.long w0)) (inW1 : ¬ ((1 : Int32) < 0 ∨ clW.slots.size ≤ (1 : Int32).toNatClampNeg)) (atW1 : clW.slots[(1 : Int32).toNatClampNeg]? = some (.long w1)) (inW2 : ¬ ((2 : Int32) < 0 ∨ clW.slots.size ≤ (2 : Int32).toNatClampNeg)) (atW2 : clW.slots[(2 : Int32).toNatClampNeg]? = some (.long w2)) (hc15 : ¬ ((2 : Int32) < len)) (h_sv : sv = (0 : Int64)) :
    ∀ target, Steps p.tables e below (T0.setTop (mkF m 28 (own_k21 a1 a2 len bor sv dp) [])) target → Steps p.tables e below (T0.setTop (mkF m 5 (own_k19 a1 a2 len bor sp dp) [])) target := by
  intro target kt
  rw [h_sv] at kt
  show Steps p.tables e below (T0.setTop (mkF m 5 (own_k19 a1 a2 len bor sp dp) [])) _
  refine XS.iload X0.here hx rfl (hb hby d3_5) rfl ?_
  show Steps p.tables e below (T0.setTop (mkF m 7 (own_k19 a1 a2 len bor sp dp) [(.int (2 : Int32))])) _
  refine XS.aloadN X0.here hx rfl (hb hby d3_7) rfl rfl ?_
  show Steps p.tables e below (T0.setTop (mkF m 8 (own_k19 a1 a2 len bor sp dp) [(.ref a1), (.int (2 : Int32))])) _
  refine X0.arraylength hx (by rw [e0]; exact ArM.1) (State.isArrayOf_alike hZ.alike ArM.2.1) (g := (mkF m 8 (own_k19 a1 a2 len bor sp dp) [(.ref a1), (.int (2 : Int32))])) rfl rfl (hb hby d3_8) _ ?_
  rw [len_of SM (by decide)]
  show Steps p.tables e below (T0.setTop (mkF m 9 (own_k19 a1 a2 len bor sp dp) [(.int (3 : Int32)), (.int (2 : Int32))])) _
  refine XS.icmpNo X0.here hx rfl (hb hby d3_9) rfl (tlt ((by decide) : (2 : Int32) < (3 : Int32))).2.1 ?_
  show Steps p.tables e below (T0.setTop (mkF m 12 (own_k19 a1 a2 len bor sp dp) [])) _
  refine XS.iload X0.here hx rfl (hb hby d3_12) rfl ?_
  show Steps p.tables e below (T0.setTop (mkF m 14 (own_k19 a1 a2 len bor sp dp) [(.int (2 : Int32))])) _
  refine XS.iloadN X0.here hx rfl (hb hby d3_14) rfl ?_
  show Steps p.tables e below (T0.setTop (mkF m 15 (own_k19 a1 a2 len bor sp dp) [(.int len), (.int (2 : Int32))])) _
  refine XS.icmpYes X0.here hx rfl (pc0 := 15) (pc' := 25) rfl (hb hby d3_15) rfl (flt (hc15 : ¬ ((2 : Int32) < len))).2.1 (by decide) (by decide) ?_
  show Steps p.tables e below (T0.setTop (mkF m 25 (own_k19 a1 a2 len bor sp dp) [])) _
  refine XS.lconst X0.here hx rfl (hb hby d3_25) ?_
  show Steps p.tables e below (T0.setTop (mkF m 26 (own_k19 a1 a2 len bor sp dp) [(.long (0 : Int64))])) _
  refine XS.lstore X0.here hx rfl (hb hby d3_26) rfl (l' := (own_k22 a1 a2 len bor dp)) rfl ?_
  exact kt

set_option maxRecDepth 65536 in
set_option maxHeartbeats 4000000 in
theorem sb2 {p : Program} {l : Launch} {e : Env} {R : Room} {s : State} {m : MethodId} {args : Array Value} {below : List Frame} {meth : Method} {c : Code} {T0 : State} {locs : List Loc} {cells slots : Nat} {Z : State} {h0 : Heap} {clM : Cell} (a1 a2 : Addr) (len : Int32) (bor : Int64) (sp dp : Int64) (m0 m1 m2 w0 w1 w2 : Int64) (sv : Int64) (dv : Int64) (X0 : Stand p l e R s m args below meth c T0 locs cells slots) (hx : p.tables.exec = Jvm.exec) (hby : c.code = prog_35_method_5_code) (hZ : Z.Warmed39 s.vm) (e0 : T0.heap = h0) (ArM : Arr Z h0 a1 clM .long) (SM : clM.slots.size = (3 : Int32).toNatClampNeg) (inM0 : ¬ ((0 : Int32) < 0 ∨ clM.slots.size ≤ (0 : Int32).toNatClampNeg)) (atM0 : clM.slots[(0 : Int32).toNatClampNeg]? = some (.long m0)) (inM1 : ¬ ((1 : Int32) < 0 ∨ clM.slots.size ≤ (1 : Int32).toNatClampNeg)) (atM1 : clM.slots[(1 : Int32).toNatClampNeg]? = some (.long m1)) (inM2 : ¬ ((2 : Int32) < 0 ∨ clM.slots.size ≤ (2 : Int32).toNatClampNeg)) (atM2 : clM.slots[(2 : Int32).toNatClampNeg]? = some (.long m2)) (h_dv : dv = ((m2 - sv) - bor)) :
    ∀ target, Steps p.tables e below (T0.setTop (mkF m 45 (own_k24 a1 a2 len bor sv dv) [(.long sv), (.long m2)])) target → Steps p.tables e below (T0.setTop (mkF m 28 (own_k21 a1 a2 len bor sv dp) [])) target := by
  intro target kt
  rw [h_dv] at kt
  show Steps p.tables e below (T0.setTop (mkF m 28 (own_k21 a1 a2 len bor sv dp) [])) _
  refine XS.aloadN X0.here hx rfl (hb hby d3_28) rfl rfl ?_
  show Steps p.tables e below (T0.setTop (mkF m 29 (own_k21 a1 a2 len bor sv dp) [(.ref a1)])) _
  refine XS.iload X0.here hx rfl (hb hby d3_29) rfl ?_
  show Steps p.tables e below (T0.setTop (mkF m 31 (own_k21 a1 a2 len bor sv dp) [(.int (2 : Int32)), (.ref a1)])) _
  refine X0.laload hx (j := (2 : Int32)) (v := (.long m2)) (by rw [e0]; exact ArM.1) (State.isArrayOf_alike hZ.alike ArM.2.1) ArM.2.2 inM2 atM2 (g := (mkF m 31 (own_k21 a1 a2 len bor sv dp) [(.int (2 : Int32)), (.ref a1)])) rfl rfl (hb hby d3_31) _ ?_
  show Steps p.tables e below (T0.setTop (mkF m 32 (own_k21 a1 a2 len bor sv dp) [(.long m2)])) _
  refine XS.lload X0.here hx rfl (hb hby d3_32) rfl ?_
  show Steps p.tables e below (T0.setTop (mkF m 34 (own_k21 a1 a2 len bor sv dp) [(.long sv), (.long m2)])) _
  refine XS.lsub X0.here hx rfl (hb hby d3_34) rfl ?_
  show Steps p.tables e below (T0.setTop (mkF m 35 (own_k21 a1 a2 len bor sv dp) [(.long (m2 - sv))])) _
  refine XS.lloadN X0.here hx rfl (hb hby d3_35) rfl ?_
  show Steps p.tables e below (T0.setTop (mkF m 36 (own_k21 a1 a2 len bor sv dp) [(.long bor), (.long (m2 - sv))])) _
  refine XS.lsub X0.here hx rfl (hb hby d3_36) rfl ?_
  show Steps p.tables e below (T0.setTop (mkF m 37 (own_k21 a1 a2 len bor sv dp) [(.long ((m2 - sv) - bor))])) _
  refine XS.lstore X0.here hx rfl (hb hby d3_37) rfl (l' := (own_k23 a1 a2 len bor sv m2)) rfl ?_
  show Steps p.tables e below (T0.setTop (mkF m 39 (own_k23 a1 a2 len bor sv m2) [])) _
  refine XS.aloadN X0.here hx rfl (hb hby d3_39) rfl rfl ?_
  show Steps p.tables e below (T0.setTop (mkF m 40 (own_k23 a1 a2 len bor sv m2) [(.ref a1)])) _
  refine XS.iload X0.here hx rfl (hb hby d3_40) rfl ?_
  show Steps p.tables e below (T0.setTop (mkF m 42 (own_k23 a1 a2 len bor sv m2) [(.int (2 : Int32)), (.ref a1)])) _
  refine X0.laload hx (j := (2 : Int32)) (v := (.long m2)) (by rw [e0]; exact ArM.1) (State.isArrayOf_alike hZ.alike ArM.2.1) ArM.2.2 inM2 atM2 (g := (mkF m 42 (own_k23 a1 a2 len bor sv m2) [(.int (2 : Int32)), (.ref a1)])) rfl rfl (hb hby d3_42) _ ?_
  show Steps p.tables e below (T0.setTop (mkF m 43 (own_k23 a1 a2 len bor sv m2) [(.long m2)])) _
  refine XS.lload X0.here hx rfl (hb hby d3_43) rfl ?_
  exact kt

set_option maxRecDepth 65536 in
set_option maxHeartbeats 4000000 in
theorem sd2_lt {p : Program} {l : Launch} {e : Env} {R : Room} {s : State} {m : MethodId} {args : Array Value} {below : List Frame} {meth : Method} {c : Code} {T0 : State} {locs : List Loc} {cells slots : Nat} {Z : State} {h0 : Heap} {clM : Cell} (a1 a2 : Addr) (len : Int32) (bor : Int64) (m0 m1 m2 w0 w1 w2 : Int64) (sv dv : Int64) (cu : Int32) (nb : Int64) (X0 : Stand p l e R s m args below meth c T0 locs cells slots) (hx : p.tables.exec = Jvm.exec) (hby : c.code = prog_35_method_5_code) (hZ : Z.Warmed39 s.vm) (e0 : T0.heap = h0) (ArM : Arr Z h0 a1 clM .long) (SM : clM.slots.size = (3 : Int32).toNatClampNeg) (inM0 : ¬ ((0 : Int32) < 0 ∨ clM.slots.size ≤ (0 : Int32).toNatClampNeg)) (atM0 : clM.slots[(0 : Int32).toNatClampNeg]? = some (.long m0)) (inM1 : ¬ ((1 : Int32) < 0 ∨ clM.slots.size ≤ (1 : Int32).toNatClampNeg)) (atM1 : clM.slots[(1 : Int32).toNatClampNeg]? = some (.long m1)) (inM2 : ¬ ((2 : Int32) < 0 ∨ clM.slots.size ≤ (2 : Int32).toNatClampNeg)) (atM2 : clM.slots[(2 : Int32).toNatClampNeg]? = some (.long m2)) (hc48 : cu < (0 : Int32)) (h_nb : nb = (1 : Int64)) :
    ∀ target, Steps p.tables e below (T0.setTop (mkF m 73 (own_k18 a1 a2 len nb sv dv) [])) target → Steps p.tables e below (T0.setTop (mkF m 48 (own_k24 a1 a2 len bor sv dv) [(.int cu)])) target := by
  intro target kt
  rw [h_nb] at kt
  show Steps p.tables e below (T0.setTop (mkF m 48 (own_k24 a1 a2 len bor sv dv) [(.int cu)])) _
  refine XS.ifYes X0.here hx rfl (pc0 := 48) (pc' := 67) rfl (hb hby d3_48) rfl ((if0 _ _).trans (tlt (hc48 : cu < (0 : Int32))).1) (by decide) (by decide) ?_
  show Steps p.tables e below (T0.setTop (mkF m 67 (own_k24 a1 a2 len bor sv dv) [])) _
  refine XS.lconst X0.here hx rfl (hb hby d3_67) ?_
  show Steps p.tables e below (T0.setTop (mkF m 68 (own_k24 a1 a2 len bor sv dv) [(.long (1 : Int64))])) _
  refine XS.goto X0.here hx rfl (pc0 := 68) (pc' := 72) rfl (hb hby d3_68) (by decide) (by decide) ?_
  show Steps p.tables e below (T0.setTop (mkF m 72 (own_k24 a1 a2 len bor sv dv) [(.long (1 : Int64))])) _
  refine XS.lstoreN X0.here hx rfl (hb hby d3_72) rfl (l' := (own_k25 a1 a2 len sv dv)) rfl ?_
  exact kt

set_option maxRecDepth 65536 in
set_option maxHeartbeats 4000000 in
theorem sd2_ne {p : Program} {l : Launch} {e : Env} {R : Room} {s : State} {m : MethodId} {args : Array Value} {below : List Frame} {meth : Method} {c : Code} {T0 : State} {locs : List Loc} {cells slots : Nat} {Z : State} {h0 : Heap} {clM : Cell} (a1 a2 : Addr) (len : Int32) (bor : Int64) (m0 m1 m2 w0 w1 w2 : Int64) (sv dv : Int64) (cu : Int32) (nb : Int64) (X0 : Stand p l e R s m args below meth c T0 locs cells slots) (hx : p.tables.exec = Jvm.exec) (hby : c.code = prog_35_method_5_code) (hZ : Z.Warmed39 s.vm) (e0 : T0.heap = h0) (ArM : Arr Z h0 a1 clM .long) (SM : clM.slots.size = (3 : Int32).toNatClampNeg) (inM0 : ¬ ((0 : Int32) < 0 ∨ clM.slots.size ≤ (0 : Int32).toNatClampNeg)) (atM0 : clM.slots[(0 : Int32).toNatClampNeg]? = some (.long m0)) (inM1 : ¬ ((1 : Int32) < 0 ∨ clM.slots.size ≤ (1 : Int32).toNatClampNeg)) (atM1 : clM.slots[(1 : Int32).toNatClampNeg]? = some (.long m1)) (inM2 : ¬ ((2 : Int32) < 0 ∨ clM.slots.size ≤ (2 : Int32).toNatClampNeg)) (atM2 : clM.slots[(2 : Int32).toNatClampNeg]? = some (.long m2)) (hc48 : ¬ (cu < (0 : Int32))) (hc58 : ¬ ((lcmpW m2 sv) = (0 : Int32))) (h_nb : nb = (0 : Int64)) :
    ∀ target, Steps p.tables e below (T0.setTop (mkF m 73 (own_k18 a1 a2 len nb sv dv) [])) target → Steps p.tables e below (T0.setTop (mkF m 48 (own_k24 a1 a2 len bor sv dv) [(.int cu)])) target := by
  intro target kt
  rw [h_nb] at kt
  show Steps p.tables e below (T0.setTop (mkF m 48 (own_k24 a1 a2 len bor sv dv) [(.int cu)])) _
  refine XS.ifNo X0.here hx rfl (hb hby d3_48) rfl ((if0 _ _).trans (flt (hc48 : ¬ (cu < (0 : Int32)))).1) ?_
  show Steps p.tables e below (T0.setTop (mkF m 51 (own_k24 a1 a2 len bor sv dv) [])) _
  refine XS.aloadN X0.here hx rfl (hb hby d3_51) rfl rfl ?_
  show Steps p.tables e below (T0.setTop (mkF m 52 (own_k24 a1 a2 len bor sv dv) [(.ref a1)])) _
  refine XS.iload X0.here hx rfl (hb hby d3_52) rfl ?_
  show Steps p.tables e below (T0.setTop (mkF m 54 (own_k24 a1 a2 len bor sv dv) [(.int (2 : Int32)), (.ref a1)])) _
  refine X0.laload hx (j := (2 : Int32)) (v := (.long m2)) (by rw [e0]; exact ArM.1) (State.isArrayOf_alike hZ.alike ArM.2.1) ArM.2.2 inM2 atM2 (g := (mkF m 54 (own_k24 a1 a2 len bor sv dv) [(.int (2 : Int32)), (.ref a1)])) rfl rfl (hb hby d3_54) _ ?_
  show Steps p.tables e below (T0.setTop (mkF m 55 (own_k24 a1 a2 len bor sv dv) [(.long m2)])) _
  refine XS.lload X0.here hx rfl (hb hby d3_55) rfl ?_
  show Steps p.tables e below (T0.setTop (mkF m 57 (own_k24 a1 a2 len bor sv dv) [(.long sv), (.long m2)])) _
  refine XS.lcmp X0.here hx rfl (hb hby d3_57) rfl ?_
  show Steps p.tables e below (T0.setTop (mkF m 58 (own_k24 a1 a2 len bor sv dv) [(.int (lcmpW m2 sv))])) _
  refine XS.ifYes X0.here hx rfl (pc0 := 58) (pc' := 71) rfl (hb hby d3_58) rfl ((if0 _ _).trans (feq (hc58 : ¬ ((lcmpW m2 sv) = (0 : Int32)))).2) (by decide) (by decide) ?_
  show Steps p.tables e below (T0.setTop (mkF m 71 (own_k24 a1 a2 len bor sv dv) [])) _
  refine XS.lconst X0.here hx rfl (hb hby d3_71) ?_
  show Steps p.tables e below (T0.setTop (mkF m 72 (own_k24 a1 a2 len bor sv dv) [(.long (0 : Int64))])) _
  refine XS.lstoreN X0.here hx rfl (hb hby d3_72) rfl (l' := (own_k26 a1 a2 len sv dv)) rfl ?_
  exact kt

set_option maxRecDepth 65536 in
set_option maxHeartbeats 4000000 in
theorem sd2_z {p : Program} {l : Launch} {e : Env} {R : Room} {s : State} {m : MethodId} {args : Array Value} {below : List Frame} {meth : Method} {c : Code} {T0 : State} {locs : List Loc} {cells slots : Nat} {Z : State} {h0 : Heap} {clM : Cell} (a1 a2 : Addr) (len : Int32) (bor : Int64) (m0 m1 m2 w0 w1 w2 : Int64) (sv dv : Int64) (cu : Int32) (nb : Int64) (X0 : Stand p l e R s m args below meth c T0 locs cells slots) (hx : p.tables.exec = Jvm.exec) (hby : c.code = prog_35_method_5_code) (hZ : Z.Warmed39 s.vm) (e0 : T0.heap = h0) (ArM : Arr Z h0 a1 clM .long) (SM : clM.slots.size = (3 : Int32).toNatClampNeg) (inM0 : ¬ ((0 : Int32) < 0 ∨ clM.slots.size ≤ (0 : Int32).toNatClampNeg)) (atM0 : clM.slots[(0 : Int32).toNatClampNeg]? = some (.long m0)) (inM1 : ¬ ((1 : Int32) < 0 ∨ clM.slots.size ≤ (1 : Int32).toNatClampNeg)) (atM1 : clM.slots[(1 : Int32).toNatClampNeg]? = some (.long m1)) (inM2 : ¬ ((2 : Int32) < 0 ∨ clM.slots.size ≤ (2 : Int32).toNatClampNeg)) (atM2 : clM.slots[(2 : Int32).toNatClampNeg]? = some (.long m2)) (hc48 : ¬ (cu < (0 : Int32))) (hc58 : (lcmpW m2 sv) = (0 : Int32)) (hc64 : (lcmpW bor (0 : Int64)) = (0 : Int32)) (h_nb : nb = (0 : Int64)) :
    ∀ target, Steps p.tables e below (T0.setTop (mkF m 73 (own_k18 a1 a2 len nb sv dv) [])) target → Steps p.tables e below (T0.setTop (mkF m 48 (own_k24 a1 a2 len bor sv dv) [(.int cu)])) target := by
  intro target kt
  rw [h_nb] at kt
  show Steps p.tables e below (T0.setTop (mkF m 48 (own_k24 a1 a2 len bor sv dv) [(.int cu)])) _
  refine XS.ifNo X0.here hx rfl (hb hby d3_48) rfl ((if0 _ _).trans (flt (hc48 : ¬ (cu < (0 : Int32)))).1) ?_
  show Steps p.tables e below (T0.setTop (mkF m 51 (own_k24 a1 a2 len bor sv dv) [])) _
  refine XS.aloadN X0.here hx rfl (hb hby d3_51) rfl rfl ?_
  show Steps p.tables e below (T0.setTop (mkF m 52 (own_k24 a1 a2 len bor sv dv) [(.ref a1)])) _
  refine XS.iload X0.here hx rfl (hb hby d3_52) rfl ?_
  show Steps p.tables e below (T0.setTop (mkF m 54 (own_k24 a1 a2 len bor sv dv) [(.int (2 : Int32)), (.ref a1)])) _
  refine X0.laload hx (j := (2 : Int32)) (v := (.long m2)) (by rw [e0]; exact ArM.1) (State.isArrayOf_alike hZ.alike ArM.2.1) ArM.2.2 inM2 atM2 (g := (mkF m 54 (own_k24 a1 a2 len bor sv dv) [(.int (2 : Int32)), (.ref a1)])) rfl rfl (hb hby d3_54) _ ?_
  show Steps p.tables e below (T0.setTop (mkF m 55 (own_k24 a1 a2 len bor sv dv) [(.long m2)])) _
  refine XS.lload X0.here hx rfl (hb hby d3_55) rfl ?_
  show Steps p.tables e below (T0.setTop (mkF m 57 (own_k24 a1 a2 len bor sv dv) [(.long sv), (.long m2)])) _
  refine XS.lcmp X0.here hx rfl (hb hby d3_57) rfl ?_
  show Steps p.tables e below (T0.setTop (mkF m 58 (own_k24 a1 a2 len bor sv dv) [(.int (lcmpW m2 sv))])) _
  refine XS.ifNo X0.here hx rfl (hb hby d3_58) rfl ((if0 _ _).trans (teq (hc58 : (lcmpW m2 sv) = (0 : Int32))).2) ?_
  show Steps p.tables e below (T0.setTop (mkF m 61 (own_k24 a1 a2 len bor sv dv) [])) _
  refine XS.lloadN X0.here hx rfl (hb hby d3_61) rfl ?_
  show Steps p.tables e below (T0.setTop (mkF m 62 (own_k24 a1 a2 len bor sv dv) [(.long bor)])) _
  refine XS.lconst X0.here hx rfl (hb hby d3_62) ?_
  show Steps p.tables e below (T0.setTop (mkF m 63 (own_k24 a1 a2 len bor sv dv) [(.long (0 : Int64)), (.long bor)])) _
  refine XS.lcmp X0.here hx rfl (hb hby d3_63) rfl ?_
  show Steps p.tables e below (T0.setTop (mkF m 64 (own_k24 a1 a2 len bor sv dv) [(.int (lcmpW bor (0 : Int64)))])) _
  refine XS.ifYes X0.here hx rfl (pc0 := 64) (pc' := 71) rfl (hb hby d3_64) rfl ((if0 _ _).trans (teq (hc64 : (lcmpW bor (0 : Int64)) = (0 : Int32))).1) (by decide) (by decide) ?_
  show Steps p.tables e below (T0.setTop (mkF m 71 (own_k24 a1 a2 len bor sv dv) [])) _
  refine XS.lconst X0.here hx rfl (hb hby d3_71) ?_
  show Steps p.tables e below (T0.setTop (mkF m 72 (own_k24 a1 a2 len bor sv dv) [(.long (0 : Int64))])) _
  refine XS.lstoreN X0.here hx rfl (hb hby d3_72) rfl (l' := (own_k26 a1 a2 len sv dv)) rfl ?_
  exact kt

set_option maxRecDepth 65536 in
set_option maxHeartbeats 4000000 in
theorem sd2_nz {p : Program} {l : Launch} {e : Env} {R : Room} {s : State} {m : MethodId} {args : Array Value} {below : List Frame} {meth : Method} {c : Code} {T0 : State} {locs : List Loc} {cells slots : Nat} {Z : State} {h0 : Heap} {clM : Cell} (a1 a2 : Addr) (len : Int32) (bor : Int64) (m0 m1 m2 w0 w1 w2 : Int64) (sv dv : Int64) (cu : Int32) (nb : Int64) (X0 : Stand p l e R s m args below meth c T0 locs cells slots) (hx : p.tables.exec = Jvm.exec) (hby : c.code = prog_35_method_5_code) (hZ : Z.Warmed39 s.vm) (e0 : T0.heap = h0) (ArM : Arr Z h0 a1 clM .long) (SM : clM.slots.size = (3 : Int32).toNatClampNeg) (inM0 : ¬ ((0 : Int32) < 0 ∨ clM.slots.size ≤ (0 : Int32).toNatClampNeg)) (atM0 : clM.slots[(0 : Int32).toNatClampNeg]? = some (.long m0)) (inM1 : ¬ ((1 : Int32) < 0 ∨ clM.slots.size ≤ (1 : Int32).toNatClampNeg)) (atM1 : clM.slots[(1 : Int32).toNatClampNeg]? = some (.long m1)) (inM2 : ¬ ((2 : Int32) < 0 ∨ clM.slots.size ≤ (2 : Int32).toNatClampNeg)) (atM2 : clM.slots[(2 : Int32).toNatClampNeg]? = some (.long m2)) (hc48 : ¬ (cu < (0 : Int32))) (hc58 : (lcmpW m2 sv) = (0 : Int32)) (hc64 : ¬ ((lcmpW bor (0 : Int64)) = (0 : Int32))) (h_nb : nb = (1 : Int64)) :
    ∀ target, Steps p.tables e below (T0.setTop (mkF m 73 (own_k18 a1 a2 len nb sv dv) [])) target → Steps p.tables e below (T0.setTop (mkF m 48 (own_k24 a1 a2 len bor sv dv) [(.int cu)])) target := by
  intro target kt
  rw [h_nb] at kt
  show Steps p.tables e below (T0.setTop (mkF m 48 (own_k24 a1 a2 len bor sv dv) [(.int cu)])) _
  refine XS.ifNo X0.here hx rfl (hb hby d3_48) rfl ((if0 _ _).trans (flt (hc48 : ¬ (cu < (0 : Int32)))).1) ?_
  show Steps p.tables e below (T0.setTop (mkF m 51 (own_k24 a1 a2 len bor sv dv) [])) _
  refine XS.aloadN X0.here hx rfl (hb hby d3_51) rfl rfl ?_
  show Steps p.tables e below (T0.setTop (mkF m 52 (own_k24 a1 a2 len bor sv dv) [(.ref a1)])) _
  refine XS.iload X0.here hx rfl (hb hby d3_52) rfl ?_
  show Steps p.tables e below (T0.setTop (mkF m 54 (own_k24 a1 a2 len bor sv dv) [(.int (2 : Int32)), (.ref a1)])) _
  refine X0.laload hx (j := (2 : Int32)) (v := (.long m2)) (by rw [e0]; exact ArM.1) (State.isArrayOf_alike hZ.alike ArM.2.1) ArM.2.2 inM2 atM2 (g := (mkF m 54 (own_k24 a1 a2 len bor sv dv) [(.int (2 : Int32)), (.ref a1)])) rfl rfl (hb hby d3_54) _ ?_
  show Steps p.tables e below (T0.setTop (mkF m 55 (own_k24 a1 a2 len bor sv dv) [(.long m2)])) _
  refine XS.lload X0.here hx rfl (hb hby d3_55) rfl ?_
  show Steps p.tables e below (T0.setTop (mkF m 57 (own_k24 a1 a2 len bor sv dv) [(.long sv), (.long m2)])) _
  refine XS.lcmp X0.here hx rfl (hb hby d3_57) rfl ?_
  show Steps p.tables e below (T0.setTop (mkF m 58 (own_k24 a1 a2 len bor sv dv) [(.int (lcmpW m2 sv))])) _
  refine XS.ifNo X0.here hx rfl (hb hby d3_58) rfl ((if0 _ _).trans (teq (hc58 : (lcmpW m2 sv) = (0 : Int32))).2) ?_
  show Steps p.tables e below (T0.setTop (mkF m 61 (own_k24 a1 a2 len bor sv dv) [])) _
  refine XS.lloadN X0.here hx rfl (hb hby d3_61) rfl ?_
  show Steps p.tables e below (T0.setTop (mkF m 62 (own_k24 a1 a2 len bor sv dv) [(.long bor)])) _
  refine XS.lconst X0.here hx rfl (hb hby d3_62) ?_
  show Steps p.tables e below (T0.setTop (mkF m 63 (own_k24 a1 a2 len bor sv dv) [(.long (0 : Int64)), (.long bor)])) _
  refine XS.lcmp X0.here hx rfl (hb hby d3_63) rfl ?_
  show Steps p.tables e below (T0.setTop (mkF m 64 (own_k24 a1 a2 len bor sv dv) [(.int (lcmpW bor (0 : Int64)))])) _
  refine XS.ifNo X0.here hx rfl (hb hby d3_64) rfl ((if0 _ _).trans (feq (hc64 : ¬ ((lcmpW bor (0 : Int64)) = (0 : Int32)))).1) ?_
  show Steps p.tables e below (T0.setTop (mkF m 67 (own_k24 a1 a2 len bor sv dv) [])) _
  refine XS.lconst X0.here hx rfl (hb hby d3_67) ?_
  show Steps p.tables e below (T0.setTop (mkF m 68 (own_k24 a1 a2 len bor sv dv) [(.long (1 : Int64))])) _
  refine XS.goto X0.here hx rfl (pc0 := 68) (pc' := 72) rfl (hb hby d3_68) (by decide) (by decide) ?_
  show Steps p.tables e below (T0.setTop (mkF m 72 (own_k24 a1 a2 len bor sv dv) [(.long (1 : Int64))])) _
  refine XS.lstoreN X0.here hx rfl (hb hby d3_72) rfl (l' := (own_k25 a1 a2 len sv dv)) rfl ?_
  exact kt

set_option maxRecDepth 65536 in
set_option maxHeartbeats 4000000 in
theorem se2 {p : Program} {l : Launch} {e : Env} {R : Room} {s : State} {m : MethodId} {args : Array Value} {below : List Frame} {meth : Method} {c : Code} {T0 : State} {locs : List Loc} {cells slots : Nat} (a1 a2 : Addr) (len : Int32) (nb sv dv : Int64)  (X0 : Stand p l e R s m args below meth c T0 locs cells slots) (hx : p.tables.exec = Jvm.exec) (hby : c.code = prog_35_method_5_code) :
    ∀ target, Steps p.tables e below (T0.setTop (mkF m 78 (own_k18 a1 a2 len nb sv dv) [(.long dv), (.int (2 : Int32)), (.ref a2)])) target → Steps p.tables e below (T0.setTop (mkF m 73 (own_k18 a1 a2 len nb sv dv) [])) target := by
  intro target kt
  show Steps p.tables e below (T0.setTop (mkF m 73 (own_k18 a1 a2 len nb sv dv) [])) _
  refine XS.aloadN X0.here hx rfl (hb hby d3_73) rfl rfl ?_
  show Steps p.tables e below (T0.setTop (mkF m 74 (own_k18 a1 a2 len nb sv dv) [(.ref a2)])) _
  refine XS.iload X0.here hx rfl (hb hby d3_74) rfl ?_
  show Steps p.tables e below (T0.setTop (mkF m 76 (own_k18 a1 a2 len nb sv dv) [(.int (2 : Int32)), (.ref a2)])) _
  refine XS.lload X0.here hx rfl (hb hby d3_76) rfl ?_
  exact kt

set_option maxRecDepth 65536 in
set_option maxHeartbeats 4000000 in
theorem sf2 {p : Program} {l : Launch} {e : Env} {R : Room} {s : State} {m : MethodId} {args : Array Value} {below : List Frame} {meth : Method} {c : Code} {T0 : State} {locs : List Loc} {cells slots : Nat} (a1 a2 : Addr) (len : Int32) (nb sv dv : Int64)  (X0 : Stand p l e R s m args below meth c T0 locs cells slots) (hx : p.tables.exec = Jvm.exec) (hby : c.code = prog_35_method_5_code) :
    ∀ target, Steps p.tables e below (T0.setTop (mkF m 5 (own_k27 a1 a2 len nb sv dv) [])) target → Steps p.tables e below (T0.setTop (mkF m 79 (own_k18 a1 a2 len nb sv dv) [])) target := by
  intro target kt
  show Steps p.tables e below (T0.setTop (mkF m 79 (own_k18 a1 a2 len nb sv dv) [])) _
  refine XS.iinc X0.here hx rfl (hb hby d3_79) rfl (l' := (own_k27 a1 a2 len nb sv dv)) rfl ?_
  show Steps p.tables e below (T0.setTop (mkF m 82 (own_k27 a1 a2 len nb sv dv) [])) _
  refine XS.goto X0.here hx rfl (pc0 := 82) (pc' := 5) rfl (hb hby d3_82) (by decide) (by decide) ?_
  exact kt

set_option maxRecDepth 65536 in
set_option maxHeartbeats 40000000 in
theorem turn2 {p : Program} {l : Launch} {e : Env} {s : State} {m : MethodId} {args : Array Value} {below : List Frame} {meth : Method} {c : Code} {T0 : State} {locs : List Loc} {Z : State} {a0 : Array Value} {h0 : Heap} {n0 : Nat} {k1 k2 : ClassId} {d1 d2 : Value} (a1 a2 : Addr) (len : Int32) (bor : Int64) (sp dp : Int64) (m0 m1 m2 w0 w1 w2 : Int64)
    (X0 : Stand p l e ({ frames := 2, cells := 0, slots := 0, locals := 30 } : Room) s m args below meth c T0 locs 0 0) (hx : p.tables.exec = Jvm.exec) (hZ : Z.Warmed39 s.vm) (hw : ∀ d ∈ tables_1, d.before a0 Z = true) (hby : c.code = prog_35_method_5_code) (hml : c.maxLocals = 10) (hown : s.vm.findClass "ringfold/modular/Words" = some m.cls) (e0 : T0.heap = h0) (Z0 : n0 ≤ h0.size) (N0 : Fr n0 locs) (g_a2 : n0 ≤ a2) (ne : a1 ≠ a2)
    (VM : Arv Z h0 a1 k1 .long (3 : Int32) [.long m0, .long m1, .long m2] d1) (VW : Arv Z h0 a2 k2 .long (3 : Int32) [.long w0, .long w1, .long w2] d2) :
    ∃ (T' : State) (h' : Heap) (locs' : List Loc), Stand p l e ({ frames := 2, cells := 0, slots := 0, locals := 30 } : Room) s m args below meth c T' locs' 0 0 ∧ T'.heap = h' ∧ Fr n0 locs' ∧ Keep h0 h' [a2] ∧ Arv Z h' a1 k1 .long (3 : Int32) [.long m0, .long m1, .long m2] d1 ∧ Arv Z h' a2 k2 .long (3 : Int32) [.long w0, .long w1, .long (m2 - (pSub len (2 : Int32) w2) - bor)] d2 ∧
      ∀ target, Steps p.tables e below (T'.setTop (mkF m 5 (own_k27 a1 a2 len (pBor m2 (pSub len (2 : Int32) w2) bor) (pSub len (2 : Int32) w2) (m2 - (pSub len (2 : Int32) w2) - bor)) [])) target → Steps p.tables e below (T0.setTop (mkF m 5 (own_k19 a1 a2 len bor sp dp) [])) target := by
  obtain ⟨clM, ArM, SM, ⟨inM0, atM0⟩, ⟨inM1, atM1⟩, ⟨inM2, atM2⟩⟩ := own_get VM
  obtain ⟨clW, ArW, SW, ⟨inW0, atW0⟩, ⟨inW1, atW1⟩, ⟨inW2, atW2⟩⟩ := own_get VW
  have ha : ∀ target, Steps p.tables e below (T0.setTop (mkF m 28 (own_k21 a1 a2 len bor (pSub len (2 : Int32) w2) dp) [])) target → Steps p.tables e below (T0.setTop (mkF m 5 (own_k19 a1 a2 len bor sp dp) [])) target := by
    by_cases hl : (2 : Int32) < len
    · exact sa2_f a1 a2 len bor sp dp m0 m1 m2 w0 w1 w2 _ X0 hx hby hZ e0 ArM SM inM0 atM0 inM1 atM1 inM2 atM2 ArW SW inW0 atW0 inW1 atW1 inW2 atW2 hl (by simp [pSub, hl])
    · exact sa2_t a1 a2 len bor sp dp m0 m1 m2 w0 w1 w2 _ X0 hx hby hZ e0 ArM SM inM0 atM0 inM1 atM1 inM2 atM2 ArW SW inW0 atW0 inW1 atW1 inW2 atW2 hl (by simp [pSub, hl])
  have hb2 : ∀ target, Steps p.tables e below (T0.setTop (mkF m 45 (own_k24 a1 a2 len bor (pSub len (2 : Int32) w2) (m2 - (pSub len (2 : Int32) w2) - bor)) [(.long (pSub len (2 : Int32) w2)), (.long m2)])) target → Steps p.tables e below (T0.setTop (mkF m 28 (own_k21 a1 a2 len bor (pSub len (2 : Int32) w2) dp) [])) target :=
    sb2 a1 a2 len bor sp dp m0 m1 m2 w0 w1 w2 (pSub len (2 : Int32) w2) _ X0 hx hby hZ e0 ArM SM inM0 atM0 inM1 atM1 inM2 atM2 rfl
  obtain ⟨_, _, ⟨T1, L1, c1, n1⟩, -, X1, ⟨Lc1, hQ1, l1, y1, z1⟩, st1⟩ := Jvm.LawKit.callS X0 hx (y := (⟨"java/lang/Long", "compareUnsigned", "(JJ)I"⟩ : MethodName)) hown (mvT hZ (hw _ (List.mem_of_getElem? (i := 15) rfl))) (mvT hZ (hw _ (List.mem_of_getElem? (i := 16) rfl))) (mvT hZ (hw _ (List.mem_of_getElem? (i := 17) rfl))) (mvT hZ (hw _ (List.mem_of_getElem? (i := 18) rfl))) (by decide) (backOf (W := 0) (rm4 l Z a0 hw [] m2 (pSub len (2 : Int32) w2) h0 n0 Z0) hZ (hw _ (List.mem_of_getElem? (i := 18) rfl)) (hw _ (List.mem_of_getElem? (i := 17) rfl)) (by decide) (by decide)) (g := (mkF m 45 (own_k24 a1 a2 len bor (pSub len (2 : Int32) w2) (m2 - (pSub len (2 : Int32) w2) - bor)) [(.long (pSub len (2 : Int32) w2)), (.long m2)])) rfl (by rw [hml]; rfl) (argsL := [(.long m2), (.long (pSub len (2 : Int32) w2))]) (rest := []) (lenOf pd_4_3 rfl) rfl (by show 2 * 0 + _ ≤ _; exact Nat.le_of_eq rfl) (hb hby d3_45) (fun _ _ => ⟨rfl, e0, (by decide : 0 + 0 ≤ _), (by decide : 0 + 0 ≤ _)⟩)
  dsimp only [Pt.U, Pt.locs, Pt.cells, Pt.slots] at X1 l1 y1 z1 st1 hQ1
  subst l1 y1 z1
  obtain ⟨rfl, N1q, e1⟩ := hQ1
  have N1 := Fr.app N0 N1q
  have hd : ∀ target, Steps p.tables e below (T1.setTop (mkF m 73 (own_k18 a1 a2 len (pBor m2 (pSub len (2 : Int32) w2) bor) (pSub len (2 : Int32) w2) (m2 - (pSub len (2 : Int32) w2) - bor)) [])) target → Steps p.tables e below (T1.setTop (mkF m 48 (own_k24 a1 a2 len bor (pSub len (2 : Int32) w2) (m2 - (pSub len (2 : Int32) w2) - bor)) [(.int (pCmp (m2 + (-9223372036854775808 : Int64)) ((pSub len (2 : Int32) w2) + (-9223372036854775808 : Int64))))])) target := by
    by_cases g1 : (pCmp (m2 + (-9223372036854775808 : Int64)) ((pSub len (2 : Int32) w2) + (-9223372036854775808 : Int64))) < 0
    · exact sd2_lt a1 a2 len bor m0 m1 m2 w0 w1 w2 (pSub len (2 : Int32) w2) (m2 - (pSub len (2 : Int32) w2) - bor) _ _ X1 hx hby hZ e1 ArM SM inM0 atM0 inM1 atM1 inM2 atM2 g1 (by simp [pBor, g1])
    · by_cases g2 : lcmpW m2 (pSub len (2 : Int32) w2) = 0
      · by_cases g3 : lcmpW bor (0 : Int64) = 0
        · exact sd2_z a1 a2 len bor m0 m1 m2 w0 w1 w2 (pSub len (2 : Int32) w2) (m2 - (pSub len (2 : Int32) w2) - bor) _ _ X1 hx hby hZ e1 ArM SM inM0 atM0 inM1 atM1 inM2 atM2 g1 g2 g3 (by simp [pBor, g1, g2, g3])
        · exact sd2_nz a1 a2 len bor m0 m1 m2 w0 w1 w2 (pSub len (2 : Int32) w2) (m2 - (pSub len (2 : Int32) w2) - bor) _ _ X1 hx hby hZ e1 ArM SM inM0 atM0 inM1 atM1 inM2 atM2 g1 g2 g3 (by simp [pBor, g1, g2, g3])
      · exact sd2_ne a1 a2 len bor m0 m1 m2 w0 w1 w2 (pSub len (2 : Int32) w2) (m2 - (pSub len (2 : Int32) w2) - bor) _ _ X1 hx hby hZ e1 ArM SM inM0 atM0 inM1 atM1 inM2 atM2 g1 g2 (by simp [pBor, g1, g2])
  obtain ⟨T2, h2, L2, X2, e2, V2, K2, N2, O2, st2⟩ := own_st X1 hx hZ e1 VW g_a2 N1 (j := (2 : Int32)) 2 rfl (by decide) (by first | (show 2 < 3; decide) | simp) (v := (m2 - (pSub len (2 : Int32) w2) - bor)) (pc := 78) (Ls := (own_k18 a1 a2 len (pBor m2 (pSub len (2 : Int32) w2) bor) (pSub len (2 : Int32) w2) (m2 - (pSub len (2 : Int32) w2) - bor))) (rest := []) (hb hby d3_78)
  refine ⟨T2, h2, L2, X2, e2, N2, K2, O2 a1 k1 _ d1 ne VM, V2, fun target kt => ?_⟩
  refine ha _ (hb2 _ ?_)
  refine st1 _ ?_
  refine hd _ ?_
  refine se2 a1 a2 len (pBor m2 (pSub len (2 : Int32) w2) bor) (pSub len (2 : Int32) w2) (m2 - (pSub len (2 : Int32) w2) - bor) X1 hx hby _ ?_
  refine st2 _ ?_
  exact sf2 a1 a2 len (pBor m2 (pSub len (2 : Int32) w2) bor) (pSub len (2 : Int32) w2) (m2 - (pSub len (2 : Int32) w2) - bor) X2 hx hby _ kt
set_option maxRecDepth 65536 in
set_option maxHeartbeats 4000000 in
theorem s3_0 {p : Program} {l : Launch} {e : Env} {R : Room} {s : State} {m : MethodId} {args : Array Value} {below : List Frame} {meth : Method} {c : Code} {T0 : State} {locs : List Loc} {cells slots : Nat} (a1 a2 : Addr) (len : Int32)  (X0 : Stand p l e R s m args below meth c T0 locs cells slots) (hx : p.tables.exec = Jvm.exec) (hby : c.code = prog_35_method_5_code) :
    ∀ target, Steps p.tables e below (T0.setTop (mkF m 5 (own_k30 a1 a2 len) [])) target → Steps p.tables e below (T0.setTop (mkF m 0 (own_k28 a1 a2 len) [])) target := by
  intro target kt
  show Steps p.tables e below (T0.setTop (mkF m 0 (own_k28 a1 a2 len) [])) _
  refine XS.lconst X0.here hx rfl (hb hby d3_0) ?_
  show Steps p.tables e below (T0.setTop (mkF m 1 (own_k28 a1 a2 len) [(.long (0 : Int64))])) _
  refine XS.lstoreN X0.here hx rfl (hb hby d3_1) rfl (l' := (own_k29 a1 a2 len)) rfl ?_
  show Steps p.tables e below (T0.setTop (mkF m 2 (own_k29 a1 a2 len) [])) _
  refine XS.iconst X0.here hx rfl (hb hby d3_2) ?_
  show Steps p.tables e below (T0.setTop (mkF m 3 (own_k29 a1 a2 len) [(.int (0 : Int32))])) _
  refine XS.istore X0.here hx rfl (hb hby d3_3) rfl (l' := (own_k30 a1 a2 len)) rfl ?_
  exact kt

set_option maxRecDepth 65536 in
set_option maxHeartbeats 4000000 in
theorem s3_9 {p : Program} {l : Launch} {e : Env} {R : Room} {s : State} {m : MethodId} {args : Array Value} {below : List Frame} {meth : Method} {c : Code} {T0 : State} {locs : List Loc} {cells slots : Nat} {Z : State} {h0 : Heap} {clM : Cell} (a1 a2 : Addr) (len : Int32) (bor : Int64) (sp dp : Int64) (m0 m1 m2 : Int64)  (X0 : Stand p l e R s m args below meth c T0 locs cells slots) (hx : p.tables.exec = Jvm.exec) (hby : c.code = prog_35_method_5_code) (hZ : Z.Warmed39 s.vm) (e0 : T0.heap = h0) (ArM : Arr Z h0 a1 clM .long) (SM : clM.slots.size = (3 : Int32).toNatClampNeg) (inM0 : ¬ ((0 : Int32) < 0 ∨ clM.slots.size ≤ (0 : Int32).toNatClampNeg)) (atM0 : clM.slots[(0 : Int32).toNatClampNeg]? = some (.long m0)) (inM1 : ¬ ((1 : Int32) < 0 ∨ clM.slots.size ≤ (1 : Int32).toNatClampNeg)) (atM1 : clM.slots[(1 : Int32).toNatClampNeg]? = some (.long m1)) (inM2 : ¬ ((2 : Int32) < 0 ∨ clM.slots.size ≤ (2 : Int32).toNatClampNeg)) (atM2 : clM.slots[(2 : Int32).toNatClampNeg]? = some (.long m2)) :
    ∀ target, Steps p.tables e below (T0.setTop (mkF m 88 (own_k31 a1 a2 len bor sp dp) [(.int (3 : Int32)), (.ref a2)])) target → Steps p.tables e below (T0.setTop (mkF m 5 (own_k31 a1 a2 len bor sp dp) [])) target := by
  intro target kt
  show Steps p.tables e below (T0.setTop (mkF m 5 (own_k31 a1 a2 len bor sp dp) [])) _
  refine XS.iload X0.here hx rfl (hb hby d3_5) rfl ?_
  show Steps p.tables e below (T0.setTop (mkF m 7 (own_k31 a1 a2 len bor sp dp) [(.int (3 : Int32))])) _
  refine XS.aloadN X0.here hx rfl (hb hby d3_7) rfl rfl ?_
  show Steps p.tables e below (T0.setTop (mkF m 8 (own_k31 a1 a2 len bor sp dp) [(.ref a1), (.int (3 : Int32))])) _
  refine X0.arraylength hx (by rw [e0]; exact ArM.1) (State.isArrayOf_alike hZ.alike ArM.2.1) (g := (mkF m 8 (own_k31 a1 a2 len bor sp dp) [(.ref a1), (.int (3 : Int32))])) rfl rfl (hb hby d3_8) _ ?_
  rw [len_of SM (by decide)]
  show Steps p.tables e below (T0.setTop (mkF m 9 (own_k31 a1 a2 len bor sp dp) [(.int (3 : Int32)), (.int (3 : Int32))])) _
  refine XS.icmpYes X0.here hx rfl (pc0 := 9) (pc' := 85) rfl (hb hby d3_9) rfl (flt ((by decide) : ¬ ((3 : Int32) < (3 : Int32)))).2.1 (by decide) (by decide) ?_
  show Steps p.tables e below (T0.setTop (mkF m 85 (own_k31 a1 a2 len bor sp dp) [])) _
  refine XS.aloadN X0.here hx rfl (hb hby d3_85) rfl rfl ?_
  show Steps p.tables e below (T0.setTop (mkF m 86 (own_k31 a1 a2 len bor sp dp) [(.ref a2)])) _
  refine XS.aloadN X0.here hx rfl (hb hby d3_86) rfl rfl ?_
  show Steps p.tables e below (T0.setTop (mkF m 87 (own_k31 a1 a2 len bor sp dp) [(.ref a1), (.ref a2)])) _
  refine X0.arraylength hx (by rw [e0]; exact ArM.1) (State.isArrayOf_alike hZ.alike ArM.2.1) (g := (mkF m 87 (own_k31 a1 a2 len bor sp dp) [(.ref a1), (.ref a2)])) rfl rfl (hb hby d3_87) _ ?_
  rw [len_of SM (by decide)]
  exact kt

theorem ef_3 (m : MethodId) (a1 : Addr) (a2 : Addr) (len : Int32) : entryFrame m #[(.ref a1), (.ref a2), (.int len)] 10 = (mkF m 0 (own_k28 a1 a2 len) []) := by first | (simp [entryFrame, mkF, argsToLocals, Value.category]; done) | rfl
theorem pd_3_6 : parseMethodDescriptor "([JI)I" = some ⟨[(.array .long), .int], some .int⟩ := by decide +kernel
def Q3 (Z : State) (a1 a2 : Addr) (len : Int32) (m0 m1 m2 w0 w1 w2 : Int64) (k1 k2 : ClassId) (d1 d2 : Value) (h0 : Heap) (n0 : Nat) (v : Option Value) (h : Heap) (L : List Loc) : Prop :=
  v = some (.int (pSig (m0 - (pSub len (0 : Int32) w0) - (0 : Int64)) (m1 - (pSub len (1 : Int32) w1) - (pBor m0 (pSub len (0 : Int32) w0) (0 : Int64))) (m2 - (pSub len (2 : Int32) w2) - (pBor m1 (pSub len (1 : Int32) w1) (pBor m0 (pSub len (0 : Int32) w0) (0 : Int64)))))) ∧ Fr n0 L ∧ Keep h0 h [a2] ∧ Arv Z h a1 k1 .long (3 : Int32) [.long m0, .long m1, .long m2] d1 ∧ Arv Z h a2 k2 .long (3 : Int32) [.long (m0 - (pSub len (0 : Int32) w0) - (0 : Int64)), .long (m1 - (pSub len (1 : Int32) w1) - (pBor m0 (pSub len (0 : Int32) w0) (0 : Int64))), .long (m2 - (pSub len (2 : Int32) w2) - (pBor m1 (pSub len (1 : Int32) w1) (pBor m0 (pSub len (0 : Int32) w0) (0 : Int64))))] d2
set_option maxRecDepth 65536 in
set_option maxHeartbeats 40000000 in
theorem rm3 (l : Launch) (Z : State) (a0 : Array Value) (hw : ∀ d ∈ tables_1, d.before a0 Z = true) (ws : List Jvm.Cond) (a1 a2 : Addr) (len : Int32) (m0 m1 m2 w0 w1 w2 : Int64) (k1 k2 : ClassId) (d1 d2 : Value) (h0 : Heap) (n0 : Nat) (Z0 : n0 ≤ h0.size) (g_a2 : n0 ≤ a2) (ne : a1 ≠ a2)
    (VM : Arv Z h0 a1 k1 .long (3 : Int32) [.long m0, .long m1, .long m2] d1) (VW : Arv Z h0 a2 k2 .long (3 : Int32) [.long w0, .long w1, .long w2] d2) :
    MetFree l (⟨"ringfold/modular/Words", "subtractFrom", "([J[JI)I"⟩ : MethodName) (head1 (Jvm.Cond.code (⟨"ringfold/modular/Words", "subtractFrom", "([J[JI)I"⟩ : MethodName) prog_35_method_5_code 10 (some .int) :: ws) ({ frames := 2, cells := 0, slots := 0, locals := 30 } : Room)) (fun a U => a = #[(.ref a1), (.ref a2), (.int len)] ∧ Z.Warmed39 U.vm ∧ U.heap = h0) (fun _ _ _ _ _ => True) (fun _ U o U' => ∃ v L, o = .returned v ∧ Q3 Z a1 a2 len m0 m1 m2 w0 w1 w2 k1 k2 d1 d2 h0 n0 v U'.heap L ∧ FrameEnd U o U' L ({ frames := 2, cells := 0, slots := 0, locals := 30 } : Room).cells ({ frames := 2, cells := 0, slots := 0, locals := 30 } : Room).slots) := by
  refine MetFree.of_bodySF (plainFor_of_name pn_6) hisR ?_
  intro p e s m args below meth c s₁ Bd hml0 hP hK
  obtain ⟨rfl, hZ, hh⟩ := hP
  have hx := Bd.exec
  have hby := Bd.bytes
  have hml : c.maxLocals = 10 := hml0
  have hown : s.vm.findClass "ringfold/modular/Words" = some m.cls := findClass_of_methodNamed Bd.named
  have X0 : Stand p l e ({ frames := 2, cells := 0, slots := 0, locals := 30 } : Room) s m #[(.ref a1), (.ref a2), (.int len)] below meth c s₁ [] 0 0 := Stand.of_body Bd
  have e0 : s₁.heap = h0 := by rw [← hh, Bd.state]; rfl
  have N0 := Fr.nil n0
  have pre0 : ∀ t, Steps p.tables e below (s₁.setTop (mkF m 0 (own_k28 a1 a2 len) [])) t → Steps p.tables e below (s₁.setTop (entryFrame m #[(.ref a1), (.ref a2), (.int len)] 10)) t := fun t k => castTop (ef_3 m a1 a2 len) k
  obtain ⟨T1, h1, L1, X1, e1, N1, K1, M1, W1, st1⟩ := turn0 a1 a2 len (0 : Int64) m0 m1 m2 w0 w1 w2 X0 hx hZ hw hby hml hown e0 Z0 N0 g_a2 ne VM VW
  have Z1 : n0 ≤ h1.size := Nat.le_trans Z0 K1.1
  obtain ⟨T2, h2, L2, X2, e2, N2, K2, M2, W2, st2⟩ := turn1 a1 a2 len (pBor m0 (pSub len (0 : Int32) w0) (0 : Int64)) (pSub len (0 : Int32) w0) (m0 - (pSub len (0 : Int32) w0) - (0 : Int64)) m0 m1 m2 (m0 - (pSub len (0 : Int32) w0) - (0 : Int64)) w1 w2 X1 hx hZ hw hby hml hown e1 Z1 N1 g_a2 ne M1 W1
  have Z2 : n0 ≤ h2.size := Nat.le_trans Z1 K2.1
  obtain ⟨T3, h3, L3, X3, e3, N3, K3, M3, W3, st3⟩ := turn2 a1 a2 len (pBor m1 (pSub len (1 : Int32) w1) (pBor m0 (pSub len (0 : Int32) w0) (0 : Int64))) (pSub len (1 : Int32) w1) (m1 - (pSub len (1 : Int32) w1) - (pBor m0 (pSub len (0 : Int32) w0) (0 : Int64))) m0 m1 m2 (m0 - (pSub len (0 : Int32) w0) - (0 : Int64)) (m1 - (pSub len (1 : Int32) w1) - (pBor m0 (pSub len (0 : Int32) w0) (0 : Int64))) w2 X2 hx hZ hw hby hml hown e2 Z2 N2 g_a2 ne M2 W2
  have Z3 : n0 ≤ h3.size := Nat.le_trans Z2 K3.1
  have K03 : Keep h0 h3 [a2] := (K1.trans K2 (allS (Or.inl (List.mem_of_getElem? (i := 0) rfl)) all0)).trans K3 (allS (Or.inl (List.mem_of_getElem? (i := 0) rfl)) all0)
  obtain ⟨clM, ArM, SM, ⟨inM0, atM0⟩, ⟨inM1, atM1⟩, ⟨inM2, atM2⟩⟩ := own_get M3
  obtain ⟨_, _, ⟨T4, L4, c4, n4⟩, -, X4, ⟨Lc4, hQ4, l4, y4, z4⟩, st4⟩ := Jvm.LawKit.callS X3 hx (y := (⟨"ringfold/modular/Words", "significant", "([JI)I"⟩ : MethodName)) hown (mvT hZ (hw _ (List.mem_of_getElem? (i := 23) rfl))) (mvT hZ (hw _ (List.mem_of_getElem? (i := 24) rfl))) (mvT hZ (hw _ (List.mem_of_getElem? (i := 13) rfl))) (mvT hZ (hw _ (List.mem_of_getElem? (i := 25) rfl))) (by decide) (backOf (W := 0) (rm6 l Z a0 hw [] a2 (m0 - (pSub len (0 : Int32) w0) - (0 : Int64)) (m1 - (pSub len (1 : Int32) w1) - (pBor m0 (pSub len (0 : Int32) w0) (0 : Int64))) (m2 - (pSub len (2 : Int32) w2) - (pBor m1 (pSub len (1 : Int32) w1) (pBor m0 (pSub len (0 : Int32) w0) (0 : Int64)))) k2 d2 h3 n0 Z3 W3) hZ (hw _ (List.mem_of_getElem? (i := 25) rfl)) (hw _ (List.mem_of_getElem? (i := 13) rfl)) (by decide) (by decide)) (g := (mkF m 88 (own_k31 a1 a2 len (pBor m2 (pSub len (2 : Int32) w2) (pBor m1 (pSub len (1 : Int32) w1) (pBor m0 (pSub len (0 : Int32) w0) (0 : Int64)))) (pSub len (2 : Int32) w2) (m2 - (pSub len (2 : Int32) w2) - (pBor m1 (pSub len (1 : Int32) w1) (pBor m0 (pSub len (0 : Int32) w0) (0 : Int64))))) [(.int (3 : Int32)), (.ref a2)])) rfl (by rw [hml]; rfl) (argsL := [(.ref a2), (.int (3 : Int32))]) (rest := []) (lenOf pd_3_6 rfl) rfl (by show 2 * 0 + _ ≤ _; exact Nat.le_of_eq rfl) (hb hby d3_88) (fun _ _ => ⟨rfl, e3, (by decide : 0 + 0 ≤ _), (by decide : 0 + 0 ≤ _)⟩)
  dsimp only [Pt.U, Pt.locs, Pt.cells, Pt.slots] at X4 l4 y4 z4 st4 hQ4
  subst l4 y4 z4
  obtain ⟨rfl, N4q, e4⟩ := hQ4
  have N4 := Fr.app N3 N4q
  obtain ⟨fs, hr, hrun, hended, hW, hsame⟩ := X4.leave (v := some (.int (pSig (m0 - (pSub len (0 : Int32) w0) - (0 : Int64)) (m1 - (pSub len (1 : Int32) w1) - (pBor m0 (pSub len (0 : Int32) w0) (0 : Int64))) (m2 - (pSub len (2 : Int32) w2) - (pBor m1 (pSub len (1 : Int32) w1) (pBor m0 (pSub len (0 : Int32) w0) (0 : Int64))))))) (fun h => by rw [Bd.returns] at h; cases h)
  refine ⟨_, _, pre0 _ ?_, hrun, hended, _, _, rfl, ?_, ⟨_, rfl⟩, hW, hsame.mono (by decide) (by decide)⟩
  · refine s3_0 a1 a2 len X0 hx hby _ ?_
    refine st1 _ (st2 _ (st3 _ ?_))
    refine s3_9 a1 a2 len (pBor m2 (pSub len (2 : Int32) w2) (pBor m1 (pSub len (1 : Int32) w1) (pBor m0 (pSub len (0 : Int32) w0) (0 : Int64)))) (pSub len (2 : Int32) w2) (m2 - (pSub len (2 : Int32) w2) - (pBor m1 (pSub len (1 : Int32) w1) (pBor m0 (pSub len (0 : Int32) w0) (0 : Int64)))) m0 m1 m2 X3 hx hby hZ e3 ArM SM inM0 atM0 inM1 atM1 inM2 atM2 _ ?_
    refine st4 _ ?_
    show Steps p.tables e below (T4.setTop (mkF m 91 (own_k31 a1 a2 len (pBor m2 (pSub len (2 : Int32) w2) (pBor m1 (pSub len (1 : Int32) w1) (pBor m0 (pSub len (0 : Int32) w0) (0 : Int64)))) (pSub len (2 : Int32) w2) (m2 - (pSub len (2 : Int32) w2) - (pBor m1 (pSub len (1 : Int32) w1) (pBor m0 (pSub len (0 : Int32) w0) (0 : Int64))))) [(.int (pSig (m0 - (pSub len (0 : Int32) w0) - (0 : Int64)) (m1 - (pSub len (1 : Int32) w1) - (pBor m0 (pSub len (0 : Int32) w0) (0 : Int64))) (m2 - (pSub len (2 : Int32) w2) - (pBor m1 (pSub len (1 : Int32) w1) (pBor m0 (pSub len (0 : Int32) w0) (0 : Int64))))))])) _
    exact retI X4 hx Bd.returns (hb hby d3_91) hr
  · show Q3 Z a1 a2 len m0 m1 m2 w0 w1 w2 k1 k2 d1 d2 h0 n0 _ T4.heap _
    rw [e4]
    exact ⟨rfl, N4, K03, M3, W3⟩
abbrev own_l0 (x0 : Int64) (x1 : Int64) (x2 : Int64) (y0 : Int64) (y1 : Int64) (yc : Int64) : Array Slot := #[.val (.long x0), .second, .val (.long x1), .second, .val (.long x2), .second, .val (.long y0), .second, .val (.long y1), .second, .val (.long yc), .second, .unset, .unset, .unset, .unset, .unset, .unset, .unset, .unset, .unset, .unset, .unset, .unset, .unset, .unset, .unset, .unset, .unset, .unset, .unset, .unset, .unset, .unset, .unset, .unset, .unset, .unset, .unset, .unset, .unset, .unset, .unset, .unset, .unset, .unset, .unset, .unset, .unset, .unset, .unset, .unset, .unset, .unset, .unset, .unset, .unset, .unset, .unset]
abbrev own_l1 (x0 : Int64) (x1 : Int64) (x2 : Int64) (y0 : Int64) (y1 : Int64) (yc : Int64) : Array Slot := #[.val (.long x0), .second, .val (.long x1), .second, .val (.long x2), .second, .val (.long y0), .second, .val (.long y1), .second, .val (.long yc), .second, .val (.int ((yc &&& (3 : Int64)).toInt32)), .unset, .unset, .unset, .unset, .unset, .unset, .unset, .unset, .unset, .unset, .unset, .unset, .unset, .unset, .unset, .unset, .unset, .unset, .unset, .unset, .unset, .unset, .unset, .unset, .unset, .unset, .unset, .unset, .unset, .unset, .unset, .unset, .unset, .unset, .unset, .unset, .unset, .unset, .unset, .unset, .unset, .unset, .unset, .unset, .unset, .unset]
abbrev own_l2 (x0 : Int64) (x1 : Int64) (x2 : Int64) (y0 : Int64) (y1 : Int64) (yc : Int64) : Array Slot := #[.val (.long x0), .second, .val (.long x1), .second, .val (.long x2), .second, .val (.long y0), .second, .val (.long y1), .second, .val (.long yc), .second, .val (.int ((yc &&& (3 : Int64)).toInt32)), .val (.long (yc &&& (-4 : Int64))), .second, .unset, .unset, .unset, .unset, .unset, .unset, .unset, .unset, .unset, .unset, .unset, .unset, .unset, .unset, .unset, .unset, .unset, .unset, .unset, .unset, .unset, .unset, .unset, .unset, .unset, .unset, .unset, .unset, .unset, .unset, .unset, .unset, .unset, .unset, .unset, .unset, .unset, .unset, .unset, .unset, .unset, .unset, .unset, .unset]
abbrev own_l3 (x0 : Int64) (x1 : Int64) (x2 : Int64) (y0 : Int64) (y1 : Int64) (yc : Int64) (len : Int32) (y2 : Int64) : Array Slot := #[.val (.long x0), .second, .val (.long x1), .second, .val (.long x2), .second, .val (.long y0), .second, .val (.long y1), .second, .val (.long yc), .second, .val (.int len), .val (.long y2), .second, .unset, .unset, .unset, .unset, .unset, .unset, .unset, .unset, .unset, .unset, .unset, .unset, .unset, .unset, .unset, .unset, .unset, .unset, .unset, .unset, .unset, .unset, .unset, .unset, .unset, .unset, .unset, .unset, .unset, .unset, .unset, .unset, .unset, .unset, .unset, .unset, .unset, .unset, .unset, .unset, .unset, .unset, .unset, .unset]
abbrev own_l4 (x0 : Int64) (x1 : Int64) (x2 : Int64) (y0 : Int64) (y1 : Int64) (yc : Int64) (len : Int32) (y2 : Int64) : Array Slot := #[.val (.long x0), .second, .val (.long x1), .second, .val (.long x2), .second, .val (.long y0), .second, .val (.long y1), .second, .val (.long yc), .second, .val (.int len), .val (.long y2), .second, .val (.long y0), .second, .unset, .unset, .unset, .unset, .unset, .unset, .unset, .unset, .unset, .unset, .unset, .unset, .unset, .unset, .unset, .unset, .unset, .unset, .unset, .unset, .unset, .unset, .unset, .unset, .unset, .unset, .unset, .unset, .unset, .unset, .unset, .unset, .unset, .unset, .unset, .unset, .unset, .unset, .unset, .unset, .unset, .unset]
abbrev own_l5 (x0 : Int64) (x1 : Int64) (x2 : Int64) (y0 : Int64) (y1 : Int64) (yc : Int64) (len : Int32) (y2 : Int64) (g0 : Int64) : Array Slot := #[.val (.long x0), .second, .val (.long x1), .second, .val (.long x2), .second, .val (.long y0), .second, .val (.long y1), .second, .val (.long yc), .second, .val (.int len), .val (.long y2), .second, .val (.long g0), .second, .unset, .unset, .unset, .unset, .unset, .unset, .unset, .unset, .unset, .unset, .unset, .unset, .unset, .unset, .unset, .unset, .unset, .unset, .unset, .unset, .unset, .unset, .unset, .unset, .unset, .unset, .unset, .unset, .unset, .unset, .unset, .unset, .unset, .unset, .unset, .unset, .unset, .unset, .unset, .unset, .unset, .unset]
abbrev own_l6 (x0 : Int64) (x1 : Int64) (x2 : Int64) (y0 : Int64) (y1 : Int64) (yc : Int64) (len : Int32) (y2 : Int64) : Array Slot := #[.val (.long x0), .second, .val (.long x1), .second, .val (.long x2), .second, .val (.long y0), .second, .val (.long y1), .second, .val (.long yc), .second, .val (.int len), .val (.long y2), .second, .val (.long (0 : Int64)), .second, .unset, .unset, .unset, .unset, .unset, .unset, .unset, .unset, .unset, .unset, .unset, .unset, .unset, .unset, .unset, .unset, .unset, .unset, .unset, .unset, .unset, .unset, .unset, .unset, .unset, .unset, .unset, .unset, .unset, .unset, .unset, .unset, .unset, .unset, .unset, .unset, .unset, .unset, .unset, .unset, .unset, .unset]
abbrev own_l7 (x0 : Int64) (x1 : Int64) (x2 : Int64) (y0 : Int64) (y1 : Int64) (yc : Int64) (len : Int32) (y2 : Int64) (g0 : Int64) : Array Slot := #[.val (.long x0), .second, .val (.long x1), .second, .val (.long x2), .second, .val (.long y0), .second, .val (.long y1), .second, .val (.long yc), .second, .val (.int len), .val (.long y2), .second, .val (.long g0), .second, .val (.long y1), .second, .unset, .unset, .unset, .unset, .unset, .unset, .unset, .unset, .unset, .unset, .unset, .unset, .unset, .unset, .unset, .unset, .unset, .unset, .unset, .unset, .unset, .unset, .unset, .unset, .unset, .unset, .unset, .unset, .unset, .unset, .unset, .unset, .unset, .unset, .unset, .unset, .unset, .unset, .unset, .unset]
abbrev own_l8 (x0 : Int64) (x1 : Int64) (x2 : Int64) (y0 : Int64) (y1 : Int64) (yc : Int64) (len : Int32) (y2 : Int64) (g0 : Int64) (g1 : Int64) : Array Slot := #[.val (.long x0), .second, .val (.long x1), .second, .val (.long x2), .second, .val (.long y0), .second, .val (.long y1), .second, .val (.long yc), .second, .val (.int len), .val (.long y2), .second, .val (.long g0), .second, .val (.long g1), .second, .unset, .unset, .unset, .unset, .unset, .unset, .unset, .unset, .unset, .unset, .unset, .unset, .unset, .unset, .unset, .unset, .unset, .unset, .unset, .unset, .unset, .unset, .unset, .unset, .unset, .unset, .unset, .unset, .unset, .unset, .unset, .unset, .unset, .unset, .unset, .unset, .unset, .unset, .unset, .unset]
abbrev own_l9 (x0 : Int64) (x1 : Int64) (x2 : Int64) (y0 : Int64) (y1 : Int64) (yc : Int64) (len : Int32) (y2 : Int64) (g0 : Int64) : Array Slot := #[.val (.long x0), .second, .val (.long x1), .second, .val (.long x2), .second, .val (.long y0), .second, .val (.long y1), .second, .val (.long yc), .second, .val (.int len), .val (.long y2), .second, .val (.long g0), .second, .val (.long (0 : Int64)), .second, .unset, .unset, .unset, .unset, .unset, .unset, .unset, .unset, .unset, .unset, .unset, .unset, .unset, .unset, .unset, .unset, .unset, .unset, .unset, .unset, .unset, .unset, .unset, .unset, .unset, .unset, .unset, .unset, .unset, .unset, .unset, .unset, .unset, .unset, .unset, .unset, .unset, .unset, .unset, .unset]
abbrev own_l10 (x0 : Int64) (x1 : Int64) (x2 : Int64) (y0 : Int64) (y1 : Int64) (yc : Int64) (len : Int32) (y2 : Int64) (g0 : Int64) (g1 : Int64) : Array Slot := #[.val (.long x0), .second, .val (.long x1), .second, .val (.long x2), .second, .val (.long y0), .second, .val (.long y1), .second, .val (.long yc), .second, .val (.int len), .val (.long y2), .second, .val (.long g0), .second, .val (.long g1), .second, .val (.long y2), .second, .unset, .unset, .unset, .unset, .unset, .unset, .unset, .unset, .unset, .unset, .unset, .unset, .unset, .unset, .unset, .unset, .unset, .unset, .unset, .unset, .unset, .unset, .unset, .unset, .unset, .unset, .unset, .unset, .unset, .unset, .unset, .unset, .unset, .unset, .unset, .unset, .unset, .unset]
abbrev own_l11 (x0 : Int64) (x1 : Int64) (x2 : Int64) (y0 : Int64) (y1 : Int64) (yc : Int64) (len : Int32) (y2 : Int64) (g0 : Int64) (g1 : Int64) (g2 : Int64) : Array Slot := #[.val (.long x0), .second, .val (.long x1), .second, .val (.long x2), .second, .val (.long y0), .second, .val (.long y1), .second, .val (.long yc), .second, .val (.int len), .val (.long y2), .second, .val (.long g0), .second, .val (.long g1), .second, .val (.long g2), .second, .unset, .unset, .unset, .unset, .unset, .unset, .unset, .unset, .unset, .unset, .unset, .unset, .unset, .unset, .unset, .unset, .unset, .unset, .unset, .unset, .unset, .unset, .unset, .unset, .unset, .unset, .unset, .unset, .unset, .unset, .unset, .unset, .unset, .unset, .unset, .unset, .unset, .unset]
abbrev own_l12 (x0 : Int64) (x1 : Int64) (x2 : Int64) (y0 : Int64) (y1 : Int64) (yc : Int64) (len : Int32) (y2 : Int64) (g0 : Int64) (g1 : Int64) : Array Slot := #[.val (.long x0), .second, .val (.long x1), .second, .val (.long x2), .second, .val (.long y0), .second, .val (.long y1), .second, .val (.long yc), .second, .val (.int len), .val (.long y2), .second, .val (.long g0), .second, .val (.long g1), .second, .val (.long (0 : Int64)), .second, .unset, .unset, .unset, .unset, .unset, .unset, .unset, .unset, .unset, .unset, .unset, .unset, .unset, .unset, .unset, .unset, .unset, .unset, .unset, .unset, .unset, .unset, .unset, .unset, .unset, .unset, .unset, .unset, .unset, .unset, .unset, .unset, .unset, .unset, .unset, .unset, .unset, .unset]
abbrev own_l13 (x0 : Int64) (x1 : Int64) (x2 : Int64) (y0 : Int64) (y1 : Int64) (yc : Int64) (len : Int32) (y2 : Int64) (g0 : Int64) (g1 : Int64) (g2 : Int64) : Array Slot := #[.val (.long x0), .second, .val (.long x1), .second, .val (.long x2), .second, .val (.long y0), .second, .val (.long y1), .second, .val (.long yc), .second, .val (.int len), .val (.long y2), .second, .val (.long g0), .second, .val (.long g1), .second, .val (.long g2), .second, .val (.long g0), .second, .unset, .unset, .unset, .unset, .unset, .unset, .unset, .unset, .unset, .unset, .unset, .unset, .unset, .unset, .unset, .unset, .unset, .unset, .unset, .unset, .unset, .unset, .unset, .unset, .unset, .unset, .unset, .unset, .unset, .unset, .unset, .unset, .unset, .unset, .unset, .unset]
abbrev own_l14 (x0 : Int64) (x1 : Int64) (x2 : Int64) (y0 : Int64) (y1 : Int64) (yc : Int64) (len : Int32) (y2 : Int64) (g0 : Int64) (g1 : Int64) (g2 : Int64) : Array Slot := #[.val (.long x0), .second, .val (.long x1), .second, .val (.long x2), .second, .val (.long y0), .second, .val (.long y1), .second, .val (.long yc), .second, .val (.int len), .val (.long y2), .second, .val (.long g0), .second, .val (.long g1), .second, .val (.long g2), .second, .val (.long g0), .second, .val (.long g1), .second, .unset, .unset, .unset, .unset, .unset, .unset, .unset, .unset, .unset, .unset, .unset, .unset, .unset, .unset, .unset, .unset, .unset, .unset, .unset, .unset, .unset, .unset, .unset, .unset, .unset, .unset, .unset, .unset, .unset, .unset, .unset, .unset, .unset, .unset]
abbrev own_l15 (x0 : Int64) (x1 : Int64) (x2 : Int64) (y0 : Int64) (y1 : Int64) (yc : Int64) (len : Int32) (y2 : Int64) (g0 : Int64) (g1 : Int64) (g2 : Int64) : Array Slot := #[.val (.long x0), .second, .val (.long x1), .second, .val (.long x2), .second, .val (.long y0), .second, .val (.long y1), .second, .val (.long yc), .second, .val (.int len), .val (.long y2), .second, .val (.long g0), .second, .val (.long g1), .second, .val (.long g2), .second, .val (.long g0), .second, .val (.long g1), .second, .val (.long g2), .second, .unset, .unset, .unset, .unset, .unset, .unset, .unset, .unset, .unset, .unset, .unset, .unset, .unset, .unset, .unset, .unset, .unset, .unset, .unset, .unset, .unset, .unset, .unset, .unset, .unset, .unset, .unset, .unset, .unset, .unset, .unset, .unset]
abbrev own_l16 (x0 : Int64) (x1 : Int64) (x2 : Int64) (y0 : Int64) (y1 : Int64) (yc : Int64) (len : Int32) (y2 : Int64) (g0 : Int64) (g1 : Int64) (g2 : Int64) : Array Slot := #[.val (.long x0), .second, .val (.long x1), .second, .val (.long x2), .second, .val (.long y0), .second, .val (.long y1), .second, .val (.long yc), .second, .val (.int len), .val (.long y2), .second, .val (.long g0), .second, .val (.long g1), .second, .val (.long g2), .second, .val (.long g0), .second, .val (.long g1), .second, .val (.long g2), .second, .val (.long x0), .second, .unset, .unset, .unset, .unset, .unset, .unset, .unset, .unset, .unset, .unset, .unset, .unset, .unset, .unset, .unset, .unset, .unset, .unset, .unset, .unset, .unset, .unset, .unset, .unset, .unset, .unset, .unset, .unset, .unset, .unset]
abbrev own_l17 (x0 : Int64) (x1 : Int64) (x2 : Int64) (y0 : Int64) (y1 : Int64) (yc : Int64) (len : Int32) (y2 : Int64) (g0 : Int64) (g1 : Int64) (g2 : Int64) : Array Slot := #[.val (.long x0), .second, .val (.long x1), .second, .val (.long x2), .second, .val (.long y0), .second, .val (.long y1), .second, .val (.long yc), .second, .val (.int len), .val (.long y2), .second, .val (.long g0), .second, .val (.long g1), .second, .val (.long g2), .second, .val (.long g0), .second, .val (.long g1), .second, .val (.long g2), .second, .val (.long x0), .second, .val (.long x1), .second, .unset, .unset, .unset, .unset, .unset, .unset, .unset, .unset, .unset, .unset, .unset, .unset, .unset, .unset, .unset, .unset, .unset, .unset, .unset, .unset, .unset, .unset, .unset, .unset, .unset, .unset, .unset, .unset]
abbrev own_l18 (x0 : Int64) (x1 : Int64) (x2 : Int64) (y0 : Int64) (y1 : Int64) (yc : Int64) (len : Int32) (y2 : Int64) (g0 : Int64) (g1 : Int64) (g2 : Int64) : Array Slot := #[.val (.long x0), .second, .val (.long x1), .second, .val (.long x2), .second, .val (.long y0), .second, .val (.long y1), .second, .val (.long yc), .second, .val (.int len), .val (.long y2), .second, .val (.long g0), .second, .val (.long g1), .second, .val (.long g2), .second, .val (.long g0), .second, .val (.long g1), .second, .val (.long g2), .second, .val (.long x0), .second, .val (.long x1), .second, .val (.long x2), .second, .unset, .unset, .unset, .unset, .unset, .unset, .unset, .unset, .unset, .unset, .unset, .unset, .unset, .unset, .unset, .unset, .unset, .unset, .unset, .unset, .unset, .unset, .unset, .unset, .unset, .unset]
abbrev own_l19 (x0 : Int64) (x1 : Int64) (x2 : Int64) (y0 : Int64) (y1 : Int64) (yc : Int64) (len : Int32) (y2 : Int64) (g0 : Int64) (g1 : Int64) (g2 : Int64) : Array Slot := #[.val (.long x0), .second, .val (.long x1), .second, .val (.long x2), .second, .val (.long y0), .second, .val (.long y1), .second, .val (.long yc), .second, .val (.int len), .val (.long y2), .second, .val (.long g0), .second, .val (.long g1), .second, .val (.long g2), .second, .val (.long x0), .second, .unset, .unset, .unset, .unset, .unset, .unset, .unset, .unset, .unset, .unset, .unset, .unset, .unset, .unset, .unset, .unset, .unset, .unset, .unset, .unset, .unset, .unset, .unset, .unset, .unset, .unset, .unset, .unset, .unset, .unset, .unset, .unset, .unset, .unset, .unset, .unset]
abbrev own_l20 (x0 : Int64) (x1 : Int64) (x2 : Int64) (y0 : Int64) (y1 : Int64) (yc : Int64) (len : Int32) (y2 : Int64) (g0 : Int64) (g1 : Int64) (g2 : Int64) : Array Slot := #[.val (.long x0), .second, .val (.long x1), .second, .val (.long x2), .second, .val (.long y0), .second, .val (.long y1), .second, .val (.long yc), .second, .val (.int len), .val (.long y2), .second, .val (.long g0), .second, .val (.long g1), .second, .val (.long g2), .second, .val (.long x0), .second, .val (.long x1), .second, .unset, .unset, .unset, .unset, .unset, .unset, .unset, .unset, .unset, .unset, .unset, .unset, .unset, .unset, .unset, .unset, .unset, .unset, .unset, .unset, .unset, .unset, .unset, .unset, .unset, .unset, .unset, .unset, .unset, .unset, .unset, .unset, .unset, .unset]
abbrev own_l21 (x0 : Int64) (x1 : Int64) (x2 : Int64) (y0 : Int64) (y1 : Int64) (yc : Int64) (len : Int32) (y2 : Int64) (g0 : Int64) (g1 : Int64) (g2 : Int64) : Array Slot := #[.val (.long x0), .second, .val (.long x1), .second, .val (.long x2), .second, .val (.long y0), .second, .val (.long y1), .second, .val (.long yc), .second, .val (.int len), .val (.long y2), .second, .val (.long g0), .second, .val (.long g1), .second, .val (.long g2), .second, .val (.long x0), .second, .val (.long x1), .second, .val (.long x2), .second, .unset, .unset, .unset, .unset, .unset, .unset, .unset, .unset, .unset, .unset, .unset, .unset, .unset, .unset, .unset, .unset, .unset, .unset, .unset, .unset, .unset, .unset, .unset, .unset, .unset, .unset, .unset, .unset, .unset, .unset, .unset, .unset]
abbrev own_l22 (x0 : Int64) (x1 : Int64) (x2 : Int64) (y0 : Int64) (y1 : Int64) (yc : Int64) (len : Int32) (y2 : Int64) (g0 : Int64) (g1 : Int64) (g2 : Int64) : Array Slot := #[.val (.long x0), .second, .val (.long x1), .second, .val (.long x2), .second, .val (.long y0), .second, .val (.long y1), .second, .val (.long yc), .second, .val (.int len), .val (.long y2), .second, .val (.long g0), .second, .val (.long g1), .second, .val (.long g2), .second, .val (.long x0), .second, .val (.long x1), .second, .val (.long x2), .second, .val (.long g0), .second, .unset, .unset, .unset, .unset, .unset, .unset, .unset, .unset, .unset, .unset, .unset, .unset, .unset, .unset, .unset, .unset, .unset, .unset, .unset, .unset, .unset, .unset, .unset, .unset, .unset, .unset, .unset, .unset, .unset, .unset]
abbrev own_l23 (x0 : Int64) (x1 : Int64) (x2 : Int64) (y0 : Int64) (y1 : Int64) (yc : Int64) (len : Int32) (y2 : Int64) (g0 : Int64) (g1 : Int64) (g2 : Int64) : Array Slot := #[.val (.long x0), .second, .val (.long x1), .second, .val (.long x2), .second, .val (.long y0), .second, .val (.long y1), .second, .val (.long yc), .second, .val (.int len), .val (.long y2), .second, .val (.long g0), .second, .val (.long g1), .second, .val (.long g2), .second, .val (.long x0), .second, .val (.long x1), .second, .val (.long x2), .second, .val (.long g0), .second, .val (.long g1), .second, .unset, .unset, .unset, .unset, .unset, .unset, .unset, .unset, .unset, .unset, .unset, .unset, .unset, .unset, .unset, .unset, .unset, .unset, .unset, .unset, .unset, .unset, .unset, .unset, .unset, .unset, .unset, .unset]
abbrev own_l24 (x0 : Int64) (x1 : Int64) (x2 : Int64) (y0 : Int64) (y1 : Int64) (yc : Int64) (len : Int32) (y2 : Int64) (g0 : Int64) (g1 : Int64) (g2 : Int64) : Array Slot := #[.val (.long x0), .second, .val (.long x1), .second, .val (.long x2), .second, .val (.long y0), .second, .val (.long y1), .second, .val (.long yc), .second, .val (.int len), .val (.long y2), .second, .val (.long g0), .second, .val (.long g1), .second, .val (.long g2), .second, .val (.long x0), .second, .val (.long x1), .second, .val (.long x2), .second, .val (.long g0), .second, .val (.long g1), .second, .val (.long g2), .second, .unset, .unset, .unset, .unset, .unset, .unset, .unset, .unset, .unset, .unset, .unset, .unset, .unset, .unset, .unset, .unset, .unset, .unset, .unset, .unset, .unset, .unset, .unset, .unset, .unset, .unset]
abbrev own_l25 (x0 : Int64) (x1 : Int64) (x2 : Int64) (y0 : Int64) (y1 : Int64) (yc : Int64) (len : Int32) (y2 : Int64) (g0 : Int64) (g1 : Int64) (g2 : Int64) (bw : Addr) : Array Slot := #[.val (.long x0), .second, .val (.long x1), .second, .val (.long x2), .second, .val (.long y0), .second, .val (.long y1), .second, .val (.long yc), .second, .val (.int len), .val (.long y2), .second, .val (.long g0), .second, .val (.long g1), .second, .val (.long g2), .second, .val (.long g0), .second, .val (.long g1), .second, .val (.long g2), .second, .val (.long x0), .second, .val (.long x1), .second, .val (.long x2), .second, .val (.ref bw), .unset, .unset, .unset, .unset, .unset, .unset, .unset, .unset, .unset, .unset, .unset, .unset, .unset, .unset, .unset, .unset, .unset, .unset, .unset, .unset, .unset, .unset, .unset, .unset, .unset]
abbrev own_l26 (x0 : Int64) (x1 : Int64) (x2 : Int64) (y0 : Int64) (y1 : Int64) (yc : Int64) (len : Int32) (y2 : Int64) (g0 : Int64) (g1 : Int64) (g2 : Int64) (bw : Addr) : Array Slot := #[.val (.long x0), .second, .val (.long x1), .second, .val (.long x2), .second, .val (.long y0), .second, .val (.long y1), .second, .val (.long yc), .second, .val (.int len), .val (.long y2), .second, .val (.long g0), .second, .val (.long g1), .second, .val (.long g2), .second, .val (.long x0), .second, .val (.long x1), .second, .val (.long x2), .second, .val (.long g0), .second, .val (.long g1), .second, .val (.long g2), .second, .val (.ref bw), .unset, .unset, .unset, .unset, .unset, .unset, .unset, .unset, .unset, .unset, .unset, .unset, .unset, .unset, .unset, .unset, .unset, .unset, .unset, .unset, .unset, .unset, .unset, .unset, .unset]
abbrev own_l27 (x0 : Int64) (x1 : Int64) (x2 : Int64) (y0 : Int64) (y1 : Int64) (yc : Int64) (len : Int32) (y2 : Int64) (g0 : Int64) (g1 : Int64) (g2 : Int64) (m0 : Int64) (m1 : Int64) (m2 : Int64) (s0 : Int64) (s1 : Int64) (s2 : Int64) (bw : Addr) : Array Slot := #[.val (.long x0), .second, .val (.long x1), .second, .val (.long x2), .second, .val (.long y0), .second, .val (.long y1), .second, .val (.long yc), .second, .val (.int len), .val (.long y2), .second, .val (.long g0), .second, .val (.long g1), .second, .val (.long g2), .second, .val (.long m0), .second, .val (.long m1), .second, .val (.long m2), .second, .val (.long s0), .second, .val (.long s1), .second, .val (.long s2), .second, .val (.ref bw), .unset, .unset, .unset, .unset, .unset, .unset, .unset, .unset, .unset, .unset, .unset, .unset, .unset, .unset, .unset, .unset, .unset, .unset, .unset, .unset, .unset, .unset, .unset, .unset, .unset]
abbrev own_l28 (x0 : Int64) (x1 : Int64) (x2 : Int64) (y0 : Int64) (y1 : Int64) (yc : Int64) (len : Int32) (y2 : Int64) (g0 : Int64) (g1 : Int64) (g2 : Int64) (m0 : Int64) (m1 : Int64) (m2 : Int64) (s0 : Int64) (s1 : Int64) (s2 : Int64) (bw : Addr) (bm : Addr) : Array Slot := #[.val (.long x0), .second, .val (.long x1), .second, .val (.long x2), .second, .val (.long y0), .second, .val (.long y1), .second, .val (.long yc), .second, .val (.int len), .val (.long y2), .second, .val (.long g0), .second, .val (.long g1), .second, .val (.long g2), .second, .val (.long m0), .second, .val (.long m1), .second, .val (.long m2), .second, .val (.long s0), .second, .val (.long s1), .second, .val (.long s2), .second, .val (.ref bw), .val (.ref bm), .unset, .unset, .unset, .unset, .unset, .unset, .unset, .unset, .unset, .unset, .unset, .unset, .unset, .unset, .unset, .unset, .unset, .unset, .unset, .unset, .unset, .unset, .unset, .unset]
abbrev own_l29 (x0 : Int64) (x1 : Int64) (x2 : Int64) (y0 : Int64) (y1 : Int64) (yc : Int64) (len : Int32) (y2 : Int64) (g0 : Int64) (g1 : Int64) (g2 : Int64) (m0 : Int64) (m1 : Int64) (m2 : Int64) (s0 : Int64) (s1 : Int64) (s2 : Int64) (bw : Addr) (bm : Addr) (cnt : Int32) : Array Slot := #[.val (.long x0), .second, .val (.long x1), .second, .val (.long x2), .second, .val (.long y0), .second, .val (.long y1), .second, .val (.long yc), .second, .val (.int len), .val (.long y2), .second, .val (.long g0), .second, .val (.long g1), .second, .val (.long g2), .second, .val (.long m0), .second, .val (.long m1), .second, .val (.long m2), .second, .val (.long s0), .second, .val (.long s1), .second, .val (.long s2), .second, .val (.ref bw), .val (.ref bm), .val (.int cnt), .unset, .unset, .unset, .unset, .unset, .unset, .unset, .unset, .unset, .unset, .unset, .unset, .unset, .unset, .unset, .unset, .unset, .unset, .unset, .unset, .unset, .unset, .unset]
abbrev own_l30 (x0 : Int64) (x1 : Int64) (x2 : Int64) (y0 : Int64) (y1 : Int64) (yc : Int64) (len : Int32) (y2 : Int64) (g0 : Int64) (g1 : Int64) (g2 : Int64) (m0 : Int64) (m1 : Int64) (m2 : Int64) (s0 : Int64) (s1 : Int64) (s2 : Int64) (bw : Addr) (bm : Addr) (cnt : Int32) (w0 : Int64) : Array Slot := #[.val (.long x0), .second, .val (.long x1), .second, .val (.long x2), .second, .val (.long y0), .second, .val (.long y1), .second, .val (.long yc), .second, .val (.int len), .val (.long y2), .second, .val (.long g0), .second, .val (.long g1), .second, .val (.long g2), .second, .val (.long m0), .second, .val (.long m1), .second, .val (.long m2), .second, .val (.long s0), .second, .val (.long s1), .second, .val (.long s2), .second, .val (.ref bw), .val (.ref bm), .val (.int cnt), .val (.long w0), .second, .unset, .unset, .unset, .unset, .unset, .unset, .unset, .unset, .unset, .unset, .unset, .unset, .unset, .unset, .unset, .unset, .unset, .unset, .unset, .unset, .unset]
abbrev own_l31 (x0 : Int64) (x1 : Int64) (x2 : Int64) (y0 : Int64) (y1 : Int64) (yc : Int64) (len : Int32) (y2 : Int64) (g0 : Int64) (g1 : Int64) (g2 : Int64) (m0 : Int64) (m1 : Int64) (m2 : Int64) (s0 : Int64) (s1 : Int64) (s2 : Int64) (bw : Addr) (bm : Addr) (cnt : Int32) (w0 : Int64) (w1 : Int64) : Array Slot := #[.val (.long x0), .second, .val (.long x1), .second, .val (.long x2), .second, .val (.long y0), .second, .val (.long y1), .second, .val (.long yc), .second, .val (.int len), .val (.long y2), .second, .val (.long g0), .second, .val (.long g1), .second, .val (.long g2), .second, .val (.long m0), .second, .val (.long m1), .second, .val (.long m2), .second, .val (.long s0), .second, .val (.long s1), .second, .val (.long s2), .second, .val (.ref bw), .val (.ref bm), .val (.int cnt), .val (.long w0), .second, .val (.long w1), .second, .unset, .unset, .unset, .unset, .unset, .unset, .unset, .unset, .unset, .unset, .unset, .unset, .unset, .unset, .unset, .unset, .unset, .unset, .unset]
abbrev own_l32 (x0 : Int64) (x1 : Int64) (x2 : Int64) (y0 : Int64) (y1 : Int64) (yc : Int64) (len : Int32) (y2 : Int64) (g0 : Int64) (g1 : Int64) (g2 : Int64) (m0 : Int64) (m1 : Int64) (m2 : Int64) (s0 : Int64) (s1 : Int64) (s2 : Int64) (bw : Addr) (bm : Addr) (cnt : Int32) (w0 : Int64) (w1 : Int64) (w2 : Int64) : Array Slot := #[.val (.long x0), .second, .val (.long x1), .second, .val (.long x2), .second, .val (.long y0), .second, .val (.long y1), .second, .val (.long yc), .second, .val (.int len), .val (.long y2), .second, .val (.long g0), .second, .val (.long g1), .second, .val (.long g2), .second, .val (.long m0), .second, .val (.long m1), .second, .val (.long m2), .second, .val (.long s0), .second, .val (.long s1), .second, .val (.long s2), .second, .val (.ref bw), .val (.ref bm), .val (.int cnt), .val (.long w0), .second, .val (.long w1), .second, .val (.long w2), .second, .unset, .unset, .unset, .unset, .unset, .unset, .unset, .unset, .unset, .unset, .unset, .unset, .unset, .unset, .unset, .unset, .unset]
abbrev own_l33 (x0 : Int64) (x1 : Int64) (x2 : Int64) (y0 : Int64) (y1 : Int64) (yc : Int64) (len : Int32) (y2 : Int64) (g0 : Int64) (g1 : Int64) (g2 : Int64) (m0 : Int64) (m1 : Int64) (m2 : Int64) (s0 : Int64) (s1 : Int64) (s2 : Int64) (bw : Addr) (bm : Addr) (cnt : Int32) (w0 : Int64) (w1 : Int64) (w2 : Int64) : Array Slot := #[.val (.long x0), .second, .val (.long x1), .second, .val (.long x2), .second, .val (.long y0), .second, .val (.long y1), .second, .val (.long yc), .second, .val (.int len), .val (.long y2), .second, .val (.long g0), .second, .val (.long g1), .second, .val (.long g2), .second, .val (.long m0), .second, .val (.long m1), .second, .val (.long m2), .second, .val (.long s0), .second, .val (.long s1), .second, .val (.long s2), .second, .val (.ref bw), .val (.ref bm), .val (.int cnt), .val (.long w0), .second, .val (.long w1), .second, .val (.long w2), .second, .val (.long (w0 + s0)), .second, .unset, .unset, .unset, .unset, .unset, .unset, .unset, .unset, .unset, .unset, .unset, .unset, .unset, .unset, .unset]
abbrev own_l34 (x0 : Int64) (x1 : Int64) (x2 : Int64) (y0 : Int64) (y1 : Int64) (yc : Int64) (len : Int32) (y2 : Int64) (g0 : Int64) (g1 : Int64) (g2 : Int64) (m0 : Int64) (m1 : Int64) (m2 : Int64) (s0 : Int64) (s1 : Int64) (s2 : Int64) (bw : Addr) (bm : Addr) (cnt : Int32) (w0 : Int64) (w1 : Int64) (w2 : Int64) : Array Slot := #[.val (.long x0), .second, .val (.long x1), .second, .val (.long x2), .second, .val (.long y0), .second, .val (.long y1), .second, .val (.long yc), .second, .val (.int len), .val (.long y2), .second, .val (.long g0), .second, .val (.long g1), .second, .val (.long g2), .second, .val (.long m0), .second, .val (.long m1), .second, .val (.long m2), .second, .val (.long s0), .second, .val (.long s1), .second, .val (.long s2), .second, .val (.ref bw), .val (.ref bm), .val (.int cnt), .val (.long w0), .second, .val (.long w1), .second, .val (.long w2), .second, .val (.long (w0 + s0)), .second, .val (.long (1 : Int64)), .second, .unset, .unset, .unset, .unset, .unset, .unset, .unset, .unset, .unset, .unset, .unset, .unset, .unset]
abbrev own_l35 (x0 : Int64) (x1 : Int64) (x2 : Int64) (y0 : Int64) (y1 : Int64) (yc : Int64) (len : Int32) (y2 : Int64) (g0 : Int64) (g1 : Int64) (g2 : Int64) (m0 : Int64) (m1 : Int64) (m2 : Int64) (s0 : Int64) (s1 : Int64) (s2 : Int64) (bw : Addr) (bm : Addr) (cnt : Int32) (w0 : Int64) (w1 : Int64) (w2 : Int64) (c0 : Int64) : Array Slot := #[.val (.long x0), .second, .val (.long x1), .second, .val (.long x2), .second, .val (.long y0), .second, .val (.long y1), .second, .val (.long yc), .second, .val (.int len), .val (.long y2), .second, .val (.long g0), .second, .val (.long g1), .second, .val (.long g2), .second, .val (.long m0), .second, .val (.long m1), .second, .val (.long m2), .second, .val (.long s0), .second, .val (.long s1), .second, .val (.long s2), .second, .val (.ref bw), .val (.ref bm), .val (.int cnt), .val (.long w0), .second, .val (.long w1), .second, .val (.long w2), .second, .val (.long (w0 + s0)), .second, .val (.long c0), .second, .unset, .unset, .unset, .unset, .unset, .unset, .unset, .unset, .unset, .unset, .unset, .unset, .unset]
abbrev own_l36 (x0 : Int64) (x1 : Int64) (x2 : Int64) (y0 : Int64) (y1 : Int64) (yc : Int64) (len : Int32) (y2 : Int64) (g0 : Int64) (g1 : Int64) (g2 : Int64) (m0 : Int64) (m1 : Int64) (m2 : Int64) (s0 : Int64) (s1 : Int64) (s2 : Int64) (bw : Addr) (bm : Addr) (cnt : Int32) (w0 : Int64) (w1 : Int64) (w2 : Int64) : Array Slot := #[.val (.long x0), .second, .val (.long x1), .second, .val (.long x2), .second, .val (.long y0), .second, .val (.long y1), .second, .val (.long yc), .second, .val (.int len), .val (.long y2), .second, .val (.long g0), .second, .val (.long g1), .second, .val (.long g2), .second, .val (.long m0), .second, .val (.long m1), .second, .val (.long m2), .second, .val (.long s0), .second, .val (.long s1), .second, .val (.long s2), .second, .val (.ref bw), .val (.ref bm), .val (.int cnt), .val (.long w0), .second, .val (.long w1), .second, .val (.long w2), .second, .val (.long (w0 + s0)), .second, .val (.long (0 : Int64)), .second, .unset, .unset, .unset, .unset, .unset, .unset, .unset, .unset, .unset, .unset, .unset, .unset, .unset]
abbrev own_l37 (x0 : Int64) (x1 : Int64) (x2 : Int64) (y0 : Int64) (y1 : Int64) (yc : Int64) (len : Int32) (y2 : Int64) (g0 : Int64) (g1 : Int64) (g2 : Int64) (m0 : Int64) (m1 : Int64) (m2 : Int64) (s0 : Int64) (s1 : Int64) (s2 : Int64) (bw : Addr) (bm : Addr) (cnt : Int32) (w0 : Int64) (w1 : Int64) (w2 : Int64) (c0 : Int64) : Array Slot := #[.val (.long x0), .second, .val (.long x1), .second, .val (.long x2), .second, .val (.long y0), .second, .val (.long y1), .second, .val (.long yc), .second, .val (.int len), .val (.long y2), .second, .val (.long g0), .second, .val (.long g1), .second, .val (.long g2), .second, .val (.long m0), .second, .val (.long m1), .second, .val (.long m2), .second, .val (.long s0), .second, .val (.long s1), .second, .val (.long s2), .second, .val (.ref bw), .val (.ref bm), .val (.int cnt), .val (.long w0), .second, .val (.long w1), .second, .val (.long w2), .second, .val (.long (w0 + s0)), .second, .val (.long c0), .second, .val (.long (w1 + s1)), .second, .unset, .unset, .unset, .unset, .unset, .unset, .unset, .unset, .unset, .unset, .unset]
abbrev own_l38 (x0 : Int64) (x1 : Int64) (x2 : Int64) (y0 : Int64) (y1 : Int64) (yc : Int64) (len : Int32) (y2 : Int64) (g0 : Int64) (g1 : Int64) (g2 : Int64) (m0 : Int64) (m1 : Int64) (m2 : Int64) (s0 : Int64) (s1 : Int64) (s2 : Int64) (bw : Addr) (bm : Addr) (cnt : Int32) (w0 : Int64) (w1 : Int64) (w2 : Int64) (c0 : Int64) (ca : Int32) : Array Slot := #[.val (.long x0), .second, .val (.long x1), .second, .val (.long x2), .second, .val (.long y0), .second, .val (.long y1), .second, .val (.long yc), .second, .val (.int len), .val (.long y2), .second, .val (.long g0), .second, .val (.long g1), .second, .val (.long g2), .second, .val (.long m0), .second, .val (.long m1), .second, .val (.long m2), .second, .val (.long s0), .second, .val (.long s1), .second, .val (.long s2), .second, .val (.ref bw), .val (.ref bm), .val (.int cnt), .val (.long w0), .second, .val (.long w1), .second, .val (.long w2), .second, .val (.long (w0 + s0)), .second, .val (.long c0), .second, .val (.long (w1 + s1)), .second, .val (.int ca), .unset, .unset, .unset, .unset, .unset, .unset, .unset, .unset, .unset, .unset]
abbrev own_l39 (x0 : Int64) (x1 : Int64) (x2 : Int64) (y0 : Int64) (y1 : Int64) (yc : Int64) (len : Int32) (y2 : Int64) (g0 : Int64) (g1 : Int64) (g2 : Int64) (m0 : Int64) (m1 : Int64) (m2 : Int64) (s0 : Int64) (s1 : Int64) (s2 : Int64) (bw : Addr) (bm : Addr) (cnt : Int32) (w0 : Int64) (w1 : Int64) (w2 : Int64) (c0 : Int64) (ca : Int32) : Array Slot := #[.val (.long x0), .second, .val (.long x1), .second, .val (.long x2), .second, .val (.long y0), .second, .val (.long y1), .second, .val (.long yc), .second, .val (.int len), .val (.long y2), .second, .val (.long g0), .second, .val (.long g1), .second, .val (.long g2), .second, .val (.long m0), .second, .val (.long m1), .second, .val (.long m2), .second, .val (.long s0), .second, .val (.long s1), .second, .val (.long s2), .second, .val (.ref bw), .val (.ref bm), .val (.int cnt), .val (.long w0), .second, .val (.long w1), .second, .val (.long w2), .second, .val (.long (w0 + s0)), .second, .val (.long c0), .second, .val (.long (w1 + s1)), .second, .val (.int ca), .val (.long ((w1 + s1) + c0)), .second, .unset, .unset, .unset, .unset, .unset, .unset, .unset, .unset]
abbrev own_l40 (x0 : Int64) (x1 : Int64) (x2 : Int64) (y0 : Int64) (y1 : Int64) (yc : Int64) (len : Int32) (y2 : Int64) (g0 : Int64) (g1 : Int64) (g2 : Int64) (m0 : Int64) (m1 : Int64) (m2 : Int64) (s0 : Int64) (s1 : Int64) (s2 : Int64) (bw : Addr) (bm : Addr) (cnt : Int32) (w0 : Int64) (w1 : Int64) (w2 : Int64) (c0 : Int64) (ca : Int32) : Array Slot := #[.val (.long x0), .second, .val (.long x1), .second, .val (.long x2), .second, .val (.long y0), .second, .val (.long y1), .second, .val (.long yc), .second, .val (.int len), .val (.long y2), .second, .val (.long g0), .second, .val (.long g1), .second, .val (.long g2), .second, .val (.long m0), .second, .val (.long m1), .second, .val (.long m2), .second, .val (.long s0), .second, .val (.long s1), .second, .val (.long s2), .second, .val (.ref bw), .val (.ref bm), .val (.int cnt), .val (.long w0), .second, .val (.long w1), .second, .val (.long w2), .second, .val (.long (w0 + s0)), .second, .val (.long c0), .second, .val (.long (w1 + s1)), .second, .val (.int ca), .val (.long ((w1 + s1) + c0)), .second, .val (.int (0 : Int32)), .unset, .unset, .unset, .unset, .unset, .unset, .unset]
abbrev own_l41 (x0 : Int64) (x1 : Int64) (x2 : Int64) (y0 : Int64) (y1 : Int64) (yc : Int64) (len : Int32) (y2 : Int64) (g0 : Int64) (g1 : Int64) (g2 : Int64) (m0 : Int64) (m1 : Int64) (m2 : Int64) (s0 : Int64) (s1 : Int64) (s2 : Int64) (bw : Addr) (bm : Addr) (cnt : Int32) (w0 : Int64) (w1 : Int64) (w2 : Int64) (c0 : Int64) (ca : Int32) (cb : Int32) : Array Slot := #[.val (.long x0), .second, .val (.long x1), .second, .val (.long x2), .second, .val (.long y0), .second, .val (.long y1), .second, .val (.long yc), .second, .val (.int len), .val (.long y2), .second, .val (.long g0), .second, .val (.long g1), .second, .val (.long g2), .second, .val (.long m0), .second, .val (.long m1), .second, .val (.long m2), .second, .val (.long s0), .second, .val (.long s1), .second, .val (.long s2), .second, .val (.ref bw), .val (.ref bm), .val (.int cnt), .val (.long w0), .second, .val (.long w1), .second, .val (.long w2), .second, .val (.long (w0 + s0)), .second, .val (.long c0), .second, .val (.long (w1 + s1)), .second, .val (.int ca), .val (.long ((w1 + s1) + c0)), .second, .val (.int cb), .unset, .unset, .unset, .unset, .unset, .unset, .unset]
abbrev own_l42 (x0 : Int64) (x1 : Int64) (x2 : Int64) (y0 : Int64) (y1 : Int64) (yc : Int64) (len : Int32) (y2 : Int64) (g0 : Int64) (g1 : Int64) (g2 : Int64) (m0 : Int64) (m1 : Int64) (m2 : Int64) (s0 : Int64) (s1 : Int64) (s2 : Int64) (bw : Addr) (bm : Addr) (cnt : Int32) (w0 : Int64) (w1 : Int64) (w2 : Int64) (c0 : Int64) (ca : Int32) : Array Slot := #[.val (.long x0), .second, .val (.long x1), .second, .val (.long x2), .second, .val (.long y0), .second, .val (.long y1), .second, .val (.long yc), .second, .val (.int len), .val (.long y2), .second, .val (.long g0), .second, .val (.long g1), .second, .val (.long g2), .second, .val (.long m0), .second, .val (.long m1), .second, .val (.long m2), .second, .val (.long s0), .second, .val (.long s1), .second, .val (.long s2), .second, .val (.ref bw), .val (.ref bm), .val (.int cnt), .val (.long w0), .second, .val (.long w1), .second, .val (.long w2), .second, .val (.long (w0 + s0)), .second, .val (.long c0), .second, .val (.long (w1 + s1)), .second, .val (.int ca), .val (.long ((w1 + s1) + c0)), .second, .val (.int (1 : Int32)), .unset, .unset, .unset, .unset, .unset, .unset, .unset]
abbrev own_l43 (x0 : Int64) (x1 : Int64) (x2 : Int64) (y0 : Int64) (y1 : Int64) (yc : Int64) (len : Int32) (y2 : Int64) (g0 : Int64) (g1 : Int64) (g2 : Int64) (m0 : Int64) (m1 : Int64) (m2 : Int64) (s0 : Int64) (s1 : Int64) (s2 : Int64) (bw : Addr) (bm : Addr) (cnt : Int32) (w0 : Int64) (w1 : Int64) (w2 : Int64) (c0 : Int64) (ca : Int32) (cb : Int32) : Array Slot := #[.val (.long x0), .second, .val (.long x1), .second, .val (.long x2), .second, .val (.long y0), .second, .val (.long y1), .second, .val (.long yc), .second, .val (.int len), .val (.long y2), .second, .val (.long g0), .second, .val (.long g1), .second, .val (.long g2), .second, .val (.long m0), .second, .val (.long m1), .second, .val (.long m2), .second, .val (.long s0), .second, .val (.long s1), .second, .val (.long s2), .second, .val (.ref bw), .val (.ref bm), .val (.int cnt), .val (.long w0), .second, .val (.long w1), .second, .val (.long w2), .second, .val (.long (w0 + s0)), .second, .val (.long c0), .second, .val (.long (w1 + s1)), .second, .val (.int ca), .val (.long ((w1 + s1) + c0)), .second, .val (.int cb), .val (.long (1 : Int64)), .second, .unset, .unset, .unset, .unset, .unset]
abbrev own_l44 (x0 : Int64) (x1 : Int64) (x2 : Int64) (y0 : Int64) (y1 : Int64) (yc : Int64) (len : Int32) (y2 : Int64) (g0 : Int64) (g1 : Int64) (g2 : Int64) (m0 : Int64) (m1 : Int64) (m2 : Int64) (s0 : Int64) (s1 : Int64) (s2 : Int64) (bw : Addr) (bm : Addr) (cnt : Int32) (w0 : Int64) (w1 : Int64) (w2 : Int64) (c0 : Int64) (ca : Int32) (cb : Int32) (c1 : Int64) : Array Slot := #[.val (.long x0), .second, .val (.long x1), .second, .val (.long x2), .second, .val (.long y0), .second, .val (.long y1), .second, .val (.long yc), .second, .val (.int len), .val (.long y2), .second, .val (.long g0), .second, .val (.long g1), .second, .val (.long g2), .second, .val (.long m0), .second, .val (.long m1), .second, .val (.long m2), .second, .val (.long s0), .second, .val (.long s1), .second, .val (.long s2), .second, .val (.ref bw), .val (.ref bm), .val (.int cnt), .val (.long w0), .second, .val (.long w1), .second, .val (.long w2), .second, .val (.long (w0 + s0)), .second, .val (.long c0), .second, .val (.long (w1 + s1)), .second, .val (.int ca), .val (.long ((w1 + s1) + c0)), .second, .val (.int cb), .val (.long c1), .second, .unset, .unset, .unset, .unset, .unset]
abbrev own_l45 (x0 : Int64) (x1 : Int64) (x2 : Int64) (y0 : Int64) (y1 : Int64) (yc : Int64) (len : Int32) (y2 : Int64) (g0 : Int64) (g1 : Int64) (g2 : Int64) (m0 : Int64) (m1 : Int64) (m2 : Int64) (s0 : Int64) (s1 : Int64) (s2 : Int64) (bw : Addr) (bm : Addr) (cnt : Int32) (w0 : Int64) (w1 : Int64) (w2 : Int64) (c0 : Int64) (ca : Int32) (cb : Int32) : Array Slot := #[.val (.long x0), .second, .val (.long x1), .second, .val (.long x2), .second, .val (.long y0), .second, .val (.long y1), .second, .val (.long yc), .second, .val (.int len), .val (.long y2), .second, .val (.long g0), .second, .val (.long g1), .second, .val (.long g2), .second, .val (.long m0), .second, .val (.long m1), .second, .val (.long m2), .second, .val (.long s0), .second, .val (.long s1), .second, .val (.long s2), .second, .val (.ref bw), .val (.ref bm), .val (.int cnt), .val (.long w0), .second, .val (.long w1), .second, .val (.long w2), .second, .val (.long (w0 + s0)), .second, .val (.long c0), .second, .val (.long (w1 + s1)), .second, .val (.int ca), .val (.long ((w1 + s1) + c0)), .second, .val (.int cb), .val (.long (0 : Int64)), .second, .unset, .unset, .unset, .unset, .unset]
abbrev own_l46 (x0 : Int64) (x1 : Int64) (x2 : Int64) (y0 : Int64) (y1 : Int64) (yc : Int64) (len : Int32) (y2 : Int64) (g0 : Int64) (g1 : Int64) (g2 : Int64) (m0 : Int64) (m1 : Int64) (m2 : Int64) (s0 : Int64) (s1 : Int64) (s2 : Int64) (bw : Addr) (bm : Addr) (cnt : Int32) (w0 : Int64) (w1 : Int64) (w2 : Int64) (c0 : Int64) (ca : Int32) (cb : Int32) (c1 : Int64) : Array Slot := #[.val (.long x0), .second, .val (.long x1), .second, .val (.long x2), .second, .val (.long y0), .second, .val (.long y1), .second, .val (.long yc), .second, .val (.int len), .val (.long y2), .second, .val (.long g0), .second, .val (.long g1), .second, .val (.long g2), .second, .val (.long m0), .second, .val (.long m1), .second, .val (.long m2), .second, .val (.long s0), .second, .val (.long s1), .second, .val (.long s2), .second, .val (.ref bw), .val (.ref bm), .val (.int cnt), .val (.long w0), .second, .val (.long w1), .second, .val (.long w2), .second, .val (.long (w0 + s0)), .second, .val (.long c0), .second, .val (.long (w1 + s1)), .second, .val (.int ca), .val (.long ((w1 + s1) + c0)), .second, .val (.int cb), .val (.long c1), .second, .val (.long ((w2 + s2) + c1)), .second, .unset, .unset, .unset]
abbrev own_l47 (x0 : Int64) (x1 : Int64) (x2 : Int64) (y0 : Int64) (y1 : Int64) (yc : Int64) (len : Int32) (y2 : Int64) (g0 : Int64) (g1 : Int64) (g2 : Int64) (m0 : Int64) (m1 : Int64) (m2 : Int64) (s0 : Int64) (s1 : Int64) (s2 : Int64) (bw : Addr) (bm : Addr) (cnt : Int32) (w0 : Int64) (w1 : Int64) (w2 : Int64) (c0 : Int64) (ca : Int32) (cb : Int32) (c1 : Int64) : Array Slot := #[.val (.long x0), .second, .val (.long x1), .second, .val (.long x2), .second, .val (.long y0), .second, .val (.long y1), .second, .val (.long yc), .second, .val (.int len), .val (.long y2), .second, .val (.long g0), .second, .val (.long g1), .second, .val (.long g2), .second, .val (.long m0), .second, .val (.long m1), .second, .val (.long m2), .second, .val (.long s0), .second, .val (.long s1), .second, .val (.long s2), .second, .val (.ref bw), .val (.ref bm), .val (.int cnt), .val (.long w0), .second, .val (.long w1), .second, .val (.long w2), .second, .val (.long (w0 + s0)), .second, .val (.long c0), .second, .val (.long (w1 + s1)), .second, .val (.int ca), .val (.long ((w1 + s1) + c0)), .second, .val (.int cb), .val (.long c1), .second, .val (.long ((w2 + s2) + c1)), .second, .val (.int (1 : Int32)), .unset, .unset]
abbrev own_l48 (x0 : Int64) (x1 : Int64) (x2 : Int64) (y0 : Int64) (y1 : Int64) (yc : Int64) (len : Int32) (y2 : Int64) (g0 : Int64) (g1 : Int64) (g2 : Int64) (m0 : Int64) (m1 : Int64) (m2 : Int64) (s0 : Int64) (s1 : Int64) (s2 : Int64) (bw : Addr) (bm : Addr) (cnt : Int32) (w0 : Int64) (w1 : Int64) (w2 : Int64) (c0 : Int64) (ca : Int32) (cb : Int32) (c1 : Int64) : Array Slot := #[.val (.long x0), .second, .val (.long x1), .second, .val (.long x2), .second, .val (.long y0), .second, .val (.long y1), .second, .val (.long yc), .second, .val (.int len), .val (.long y2), .second, .val (.long g0), .second, .val (.long g1), .second, .val (.long g2), .second, .val (.long m0), .second, .val (.long m1), .second, .val (.long m2), .second, .val (.long s0), .second, .val (.long s1), .second, .val (.long s2), .second, .val (.ref bw), .val (.ref bm), .val (.int cnt), .val (.long w0), .second, .val (.long w1), .second, .val (.long w2), .second, .val (.long (w0 + s0)), .second, .val (.long c0), .second, .val (.long (w1 + s1)), .second, .val (.int ca), .val (.long ((w1 + s1) + c0)), .second, .val (.int cb), .val (.long c1), .second, .val (.long ((w2 + s2) + c1)), .second, .val (.int (1 : Int32)), .val (.int (3 : Int32)), .unset]
abbrev own_l49 (x0 : Int64) (x1 : Int64) (x2 : Int64) (y0 : Int64) (y1 : Int64) (yc : Int64) (len : Int32) (y2 : Int64) (g0 : Int64) (g1 : Int64) (g2 : Int64) (m0 : Int64) (m1 : Int64) (m2 : Int64) (s0 : Int64) (s1 : Int64) (s2 : Int64) (bw : Addr) (bm : Addr) (cnt : Int32) (w0 : Int64) (w1 : Int64) (w2 : Int64) (c0 : Int64) (ca : Int32) (cb : Int32) (c1 : Int64) (ex : Int32) : Array Slot := #[.val (.long x0), .second, .val (.long x1), .second, .val (.long x2), .second, .val (.long y0), .second, .val (.long y1), .second, .val (.long yc), .second, .val (.int len), .val (.long y2), .second, .val (.long g0), .second, .val (.long g1), .second, .val (.long g2), .second, .val (.long m0), .second, .val (.long m1), .second, .val (.long m2), .second, .val (.long s0), .second, .val (.long s1), .second, .val (.long s2), .second, .val (.ref bw), .val (.ref bm), .val (.int cnt), .val (.long w0), .second, .val (.long w1), .second, .val (.long w2), .second, .val (.long (w0 + s0)), .second, .val (.long c0), .second, .val (.long (w1 + s1)), .second, .val (.int ca), .val (.long ((w1 + s1) + c0)), .second, .val (.int cb), .val (.long c1), .second, .val (.long ((w2 + s2) + c1)), .second, .val (.int (1 : Int32)), .val (.int ex), .unset]
abbrev own_l50 (x0 : Int64) (x1 : Int64) (x2 : Int64) (y0 : Int64) (y1 : Int64) (yc : Int64) (len : Int32) (y2 : Int64) (g0 : Int64) (g1 : Int64) (g2 : Int64) (m0 : Int64) (m1 : Int64) (m2 : Int64) (s0 : Int64) (s1 : Int64) (s2 : Int64) (bw : Addr) (bm : Addr) (cnt : Int32) (w0 : Int64) (w1 : Int64) (w2 : Int64) (c0 : Int64) (ca : Int32) (cb : Int32) (c1 : Int64) : Array Slot := #[.val (.long x0), .second, .val (.long x1), .second, .val (.long x2), .second, .val (.long y0), .second, .val (.long y1), .second, .val (.long yc), .second, .val (.int len), .val (.long y2), .second, .val (.long g0), .second, .val (.long g1), .second, .val (.long g2), .second, .val (.long m0), .second, .val (.long m1), .second, .val (.long m2), .second, .val (.long s0), .second, .val (.long s1), .second, .val (.long s2), .second, .val (.ref bw), .val (.ref bm), .val (.int cnt), .val (.long w0), .second, .val (.long w1), .second, .val (.long w2), .second, .val (.long (w0 + s0)), .second, .val (.long c0), .second, .val (.long (w1 + s1)), .second, .val (.int ca), .val (.long ((w1 + s1) + c0)), .second, .val (.int cb), .val (.long c1), .second, .val (.long ((w2 + s2) + c1)), .second, .val (.int (1 : Int32)), .val (.int (2 : Int32)), .unset]
abbrev own_l51 (x0 : Int64) (x1 : Int64) (x2 : Int64) (y0 : Int64) (y1 : Int64) (yc : Int64) (len : Int32) (y2 : Int64) (g0 : Int64) (g1 : Int64) (g2 : Int64) (m0 : Int64) (m1 : Int64) (m2 : Int64) (s0 : Int64) (s1 : Int64) (s2 : Int64) (bw : Addr) (bm : Addr) (cnt : Int32) (w0 : Int64) (w1 : Int64) (w2 : Int64) (c0 : Int64) (ca : Int32) (cb : Int32) (c1 : Int64) : Array Slot := #[.val (.long x0), .second, .val (.long x1), .second, .val (.long x2), .second, .val (.long y0), .second, .val (.long y1), .second, .val (.long yc), .second, .val (.int len), .val (.long y2), .second, .val (.long g0), .second, .val (.long g1), .second, .val (.long g2), .second, .val (.long m0), .second, .val (.long m1), .second, .val (.long m2), .second, .val (.long s0), .second, .val (.long s1), .second, .val (.long s2), .second, .val (.ref bw), .val (.ref bm), .val (.int cnt), .val (.long w0), .second, .val (.long w1), .second, .val (.long w2), .second, .val (.long (w0 + s0)), .second, .val (.long c0), .second, .val (.long (w1 + s1)), .second, .val (.int ca), .val (.long ((w1 + s1) + c0)), .second, .val (.int cb), .val (.long c1), .second, .val (.long ((w2 + s2) + c1)), .second, .val (.int (1 : Int32)), .val (.int (1 : Int32)), .unset]
abbrev own_l52 (x0 : Int64) (x1 : Int64) (x2 : Int64) (y0 : Int64) (y1 : Int64) (yc : Int64) (len : Int32) (y2 : Int64) (g0 : Int64) (g1 : Int64) (g2 : Int64) (m0 : Int64) (m1 : Int64) (m2 : Int64) (s0 : Int64) (s1 : Int64) (s2 : Int64) (bw : Addr) (bm : Addr) (cnt : Int32) (w0 : Int64) (w1 : Int64) (w2 : Int64) (c0 : Int64) (ca : Int32) (cb : Int32) (c1 : Int64) : Array Slot := #[.val (.long x0), .second, .val (.long x1), .second, .val (.long x2), .second, .val (.long y0), .second, .val (.long y1), .second, .val (.long yc), .second, .val (.int len), .val (.long y2), .second, .val (.long g0), .second, .val (.long g1), .second, .val (.long g2), .second, .val (.long m0), .second, .val (.long m1), .second, .val (.long m2), .second, .val (.long s0), .second, .val (.long s1), .second, .val (.long s2), .second, .val (.ref bw), .val (.ref bm), .val (.int cnt), .val (.long w0), .second, .val (.long w1), .second, .val (.long w2), .second, .val (.long (w0 + s0)), .second, .val (.long c0), .second, .val (.long (w1 + s1)), .second, .val (.int ca), .val (.long ((w1 + s1) + c0)), .second, .val (.int cb), .val (.long c1), .second, .val (.long ((w2 + s2) + c1)), .second, .val (.int (1 : Int32)), .val (.int (0 : Int32)), .unset]
abbrev own_l53 (x0 : Int64) (x1 : Int64) (x2 : Int64) (y0 : Int64) (y1 : Int64) (yc : Int64) (len : Int32) (y2 : Int64) (g0 : Int64) (g1 : Int64) (g2 : Int64) (m0 : Int64) (m1 : Int64) (m2 : Int64) (s0 : Int64) (s1 : Int64) (s2 : Int64) (bw : Addr) (bm : Addr) (cnt : Int32) (w0 : Int64) (w1 : Int64) (w2 : Int64) (c0 : Int64) (ca : Int32) (cb : Int32) (c1 : Int64) (ex : Int32) : Array Slot := #[.val (.long x0), .second, .val (.long x1), .second, .val (.long x2), .second, .val (.long y0), .second, .val (.long y1), .second, .val (.long yc), .second, .val (.int len), .val (.long y2), .second, .val (.long g0), .second, .val (.long g1), .second, .val (.long g2), .second, .val (.long m0), .second, .val (.long m1), .second, .val (.long m2), .second, .val (.long s0), .second, .val (.long s1), .second, .val (.long s2), .second, .val (.ref bw), .val (.ref bm), .val (.int cnt), .val (.long w0), .second, .val (.long w1), .second, .val (.long w2), .second, .val (.long (w0 + s0)), .second, .val (.long c0), .second, .val (.long (w1 + s1)), .second, .val (.int ca), .val (.long ((w1 + s1) + c0)), .second, .val (.int cb), .val (.long c1), .second, .val (.long ((w2 + s2) + c1)), .second, .val (.int (1 : Int32)), .val (.int ex), .val (.int (1 : Int32))]
set_option maxRecDepth 65536 in
set_option maxHeartbeats 4000000 in
theorem qa1 {p : Program} {l : Launch} {e : Env} {R : Room} {s : State} {m : MethodId} {args : Array Value} {below : List Frame} {meth : Method} {c : Code} {T0 : State} {locs : List Loc} {cells slots : Nat} {Z : State} {a0 : Array Value} (x0 x1 x2 y0 y1 yc : Int64) (len : Int32) (y2 : Int64) (X0 : Stand p l e R s m args below meth c T0 locs cells slots) (hx : p.tables.exec = Jvm.exec) (hby : c.code = code) (hZ : Z.Warmed39 s.vm) (hw : ∀ d ∈ tables_1, d.before a0 Z = true) (hown : s.vm.findClass "ringfold/modular/WordsSubtractFromPinLaw" = some m.cls) (h_len : len = ((yc &&& (3 : Int64)).toInt32)) (h_y2 : y2 = (yc &&& (-4 : Int64))) :
    ∀ target, Steps p.tables e below (T0.setTop (mkF m 17 (own_l3 x0 x1 x2 y0 y1 yc len y2) [])) target → Steps p.tables e below (T0.setTop (mkF m 0 (own_l0 x0 x1 x2 y0 y1 yc) [])) target := by
  intro target kt
  rw [h_len] at kt
  rw [h_y2] at kt
  show Steps p.tables e below (T0.setTop (mkF m 0 (own_l0 x0 x1 x2 y0 y1 yc) [])) _
  refine XS.lload X0.here hx rfl (hb hby at_0) rfl ?_
  show Steps p.tables e below (T0.setTop (mkF m 2 (own_l0 x0 x1 x2 y0 y1 yc) [(.long yc)])) _
  refine X0.ldc2Long hx hown (mvT hZ (hw _ (List.mem_of_getElem? (i := 0) rfl))) (g := (mkF m 2 (own_l0 x0 x1 x2 y0 y1 yc) [(.long yc)])) rfl (hb hby at_2) _ ?_
  show Steps p.tables e below (T0.setTop (mkF m 5 (own_l0 x0 x1 x2 y0 y1 yc) [(.long (3 : Int64)), (.long yc)])) _
  refine XS.land X0.here hx rfl (hb hby at_5) rfl ?_
  show Steps p.tables e below (T0.setTop (mkF m 6 (own_l0 x0 x1 x2 y0 y1 yc) [(.long (yc &&& (3 : Int64)))])) _
  refine XS.l2i X0.here hx rfl (hb hby at_6) rfl ?_
  show Steps p.tables e below (T0.setTop (mkF m 7 (own_l0 x0 x1 x2 y0 y1 yc) [(.int ((yc &&& (3 : Int64)).toInt32))])) _
  refine XS.istore X0.here hx rfl (hb hby at_7) rfl (l' := (own_l1 x0 x1 x2 y0 y1 yc)) rfl ?_
  show Steps p.tables e below (T0.setTop (mkF m 9 (own_l1 x0 x1 x2 y0 y1 yc) [])) _
  refine XS.lload X0.here hx rfl (hb hby at_9) rfl ?_
  show Steps p.tables e below (T0.setTop (mkF m 11 (own_l1 x0 x1 x2 y0 y1 yc) [(.long yc)])) _
  refine X0.ldc2Long hx hown (mvT hZ (hw _ (List.mem_of_getElem? (i := 1) rfl))) (g := (mkF m 11 (own_l1 x0 x1 x2 y0 y1 yc) [(.long yc)])) rfl (hb hby at_11) _ ?_
  show Steps p.tables e below (T0.setTop (mkF m 14 (own_l1 x0 x1 x2 y0 y1 yc) [(.long (-4 : Int64)), (.long yc)])) _
  refine XS.land X0.here hx rfl (hb hby at_14) rfl ?_
  show Steps p.tables e below (T0.setTop (mkF m 15 (own_l1 x0 x1 x2 y0 y1 yc) [(.long (yc &&& (-4 : Int64)))])) _
  refine XS.lstore X0.here hx rfl (hb hby at_15) rfl (l' := (own_l2 x0 x1 x2 y0 y1 yc)) rfl ?_
  exact kt

set_option maxRecDepth 65536 in
set_option maxHeartbeats 4000000 in
theorem qa2_f {p : Program} {l : Launch} {e : Env} {R : Room} {s : State} {m : MethodId} {args : Array Value} {below : List Frame} {meth : Method} {c : Code} {T0 : State} {locs : List Loc} {cells slots : Nat} (x0 x1 x2 y0 y1 yc : Int64) (len : Int32) (y2 : Int64) (g0 : Int64) (X0 : Stand p l e R s m args below meth c T0 locs cells slots) (hx : p.tables.exec = Jvm.exec) (hby : c.code = code) (hc19 : (0 : Int32) < len) (h_g0 : g0 = y0) :
    ∀ target, Steps p.tables e below (T0.setTop (mkF m 30 (own_l5 x0 x1 x2 y0 y1 yc len y2 g0) [])) target → Steps p.tables e below (T0.setTop (mkF m 17 (own_l3 x0 x1 x2 y0 y1 yc len y2) [])) target := by
  intro target kt
  rw [h_g0] at kt
  show Steps p.tables e below (T0.setTop (mkF m 17 (own_l3 x0 x1 x2 y0 y1 yc len y2) [])) _
  refine XS.iload X0.here hx rfl (hb hby at_17) rfl ?_
  show Steps p.tables e below (T0.setTop (mkF m 19 (own_l3 x0 x1 x2 y0 y1 yc len y2) [(.int len)])) _
  refine XS.ifNo X0.here hx rfl (hb hby at_19) rfl ((if0 _ _).trans (tlt (hc19 : (0 : Int32) < len)).2.2.2) ?_
  show Steps p.tables e below (T0.setTop (mkF m 22 (own_l3 x0 x1 x2 y0 y1 yc len y2) [])) _
  refine XS.lload X0.here hx rfl (hb hby at_22) rfl ?_
  show Steps p.tables e below (T0.setTop (mkF m 24 (own_l3 x0 x1 x2 y0 y1 yc len y2) [(.long y0)])) _
  refine XS.goto X0.here hx rfl (pc0 := 24) (pc' := 28) rfl (hb hby at_24) (by decide) (by decide) ?_
  show Steps p.tables e below (T0.setTop (mkF m 28 (own_l3 x0 x1 x2 y0 y1 yc len y2) [(.long y0)])) _
  refine XS.lstore X0.here hx rfl (hb hby at_28) rfl (l' := (own_l4 x0 x1 x2 y0 y1 yc len y2)) rfl ?_
  exact kt

set_option maxRecDepth 65536 in
set_option maxHeartbeats 4000000 in
theorem qa2_t {p : Program} {l : Launch} {e : Env} {R : Room} {s : State} {m : MethodId} {args : Array Value} {below : List Frame} {meth : Method} {c : Code} {T0 : State} {locs : List Loc} {cells slots : Nat} (x0 x1 x2 y0 y1 yc : Int64) (len : Int32) (y2 : Int64) (g0 : Int64) (X0 : Stand p l e R s m args below meth c T0 locs cells slots) (hx : p.tables.exec = Jvm.exec) (hby : c.code = code) (hc19 : ¬ ((0 : Int32) < len)) (h_g0 : g0 = (0 : Int64)) :
    ∀ target, Steps p.tables e below (T0.setTop (mkF m 30 (own_l5 x0 x1 x2 y0 y1 yc len y2 g0) [])) target → Steps p.tables e below (T0.setTop (mkF m 17 (own_l3 x0 x1 x2 y0 y1 yc len y2) [])) target := by
  intro target kt
  rw [h_g0] at kt
  show Steps p.tables e below (T0.setTop (mkF m 17 (own_l3 x0 x1 x2 y0 y1 yc len y2) [])) _
  refine XS.iload X0.here hx rfl (hb hby at_17) rfl ?_
  show Steps p.tables e below (T0.setTop (mkF m 19 (own_l3 x0 x1 x2 y0 y1 yc len y2) [(.int len)])) _
  refine XS.ifYes X0.here hx rfl (pc0 := 19) (pc' := 27) rfl (hb hby at_19) rfl ((if0 _ _).trans (flt (hc19 : ¬ ((0 : Int32) < len))).2.2.2) (by decide) (by decide) ?_
  show Steps p.tables e below (T0.setTop (mkF m 27 (own_l3 x0 x1 x2 y0 y1 yc len y2) [])) _
  refine XS.lconst X0.here hx rfl (hb hby at_27) ?_
  show Steps p.tables e below (T0.setTop (mkF m 28 (own_l3 x0 x1 x2 y0 y1 yc len y2) [(.long (0 : Int64))])) _
  refine XS.lstore X0.here hx rfl (hb hby at_28) rfl (l' := (own_l6 x0 x1 x2 y0 y1 yc len y2)) rfl ?_
  exact kt

set_option maxRecDepth 65536 in
set_option maxHeartbeats 4000000 in
theorem qa3_f {p : Program} {l : Launch} {e : Env} {R : Room} {s : State} {m : MethodId} {args : Array Value} {below : List Frame} {meth : Method} {c : Code} {T0 : State} {locs : List Loc} {cells slots : Nat} (x0 x1 x2 y0 y1 yc : Int64) (len : Int32) (y2 : Int64) (g0 : Int64) (g1 : Int64) (X0 : Stand p l e R s m args below meth c T0 locs cells slots) (hx : p.tables.exec = Jvm.exec) (hby : c.code = code) (hc33 : (1 : Int32) < len) (h_g1 : g1 = y1) :
    ∀ target, Steps p.tables e below (T0.setTop (mkF m 44 (own_l8 x0 x1 x2 y0 y1 yc len y2 g0 g1) [])) target → Steps p.tables e below (T0.setTop (mkF m 30 (own_l5 x0 x1 x2 y0 y1 yc len y2 g0) [])) target := by
  intro target kt
  rw [h_g1] at kt
  show Steps p.tables e below (T0.setTop (mkF m 30 (own_l5 x0 x1 x2 y0 y1 yc len y2 g0) [])) _
  refine XS.iload X0.here hx rfl (hb hby at_30) rfl ?_
  show Steps p.tables e below (T0.setTop (mkF m 32 (own_l5 x0 x1 x2 y0 y1 yc len y2 g0) [(.int len)])) _
  refine XS.iconst X0.here hx rfl (hb hby at_32) ?_
  show Steps p.tables e below (T0.setTop (mkF m 33 (own_l5 x0 x1 x2 y0 y1 yc len y2 g0) [(.int (1 : Int32)), (.int len)])) _
  refine XS.icmpNo X0.here hx rfl (hb hby at_33) rfl (tlt (hc33 : (1 : Int32) < len)).2.2.2 ?_
  show Steps p.tables e below (T0.setTop (mkF m 36 (own_l5 x0 x1 x2 y0 y1 yc len y2 g0) [])) _
  refine XS.lload X0.here hx rfl (hb hby at_36) rfl ?_
  show Steps p.tables e below (T0.setTop (mkF m 38 (own_l5 x0 x1 x2 y0 y1 yc len y2 g0) [(.long y1)])) _
  refine XS.goto X0.here hx rfl (pc0 := 38) (pc' := 42) rfl (hb hby at_38) (by decide) (by decide) ?_
  show Steps p.tables e below (T0.setTop (mkF m 42 (own_l5 x0 x1 x2 y0 y1 yc len y2 g0) [(.long y1)])) _
  refine XS.lstore X0.here hx rfl (hb hby at_42) rfl (l' := (own_l7 x0 x1 x2 y0 y1 yc len y2 g0)) rfl ?_
  exact kt

set_option maxRecDepth 65536 in
set_option maxHeartbeats 4000000 in
theorem qa3_t {p : Program} {l : Launch} {e : Env} {R : Room} {s : State} {m : MethodId} {args : Array Value} {below : List Frame} {meth : Method} {c : Code} {T0 : State} {locs : List Loc} {cells slots : Nat} (x0 x1 x2 y0 y1 yc : Int64) (len : Int32) (y2 : Int64) (g0 : Int64) (g1 : Int64) (X0 : Stand p l e R s m args below meth c T0 locs cells slots) (hx : p.tables.exec = Jvm.exec) (hby : c.code = code) (hc33 : ¬ ((1 : Int32) < len)) (h_g1 : g1 = (0 : Int64)) :
    ∀ target, Steps p.tables e below (T0.setTop (mkF m 44 (own_l8 x0 x1 x2 y0 y1 yc len y2 g0 g1) [])) target → Steps p.tables e below (T0.setTop (mkF m 30 (own_l5 x0 x1 x2 y0 y1 yc len y2 g0) [])) target := by
  intro target kt
  rw [h_g1] at kt
  show Steps p.tables e below (T0.setTop (mkF m 30 (own_l5 x0 x1 x2 y0 y1 yc len y2 g0) [])) _
  refine XS.iload X0.here hx rfl (hb hby at_30) rfl ?_
  show Steps p.tables e below (T0.setTop (mkF m 32 (own_l5 x0 x1 x2 y0 y1 yc len y2 g0) [(.int len)])) _
  refine XS.iconst X0.here hx rfl (hb hby at_32) ?_
  show Steps p.tables e below (T0.setTop (mkF m 33 (own_l5 x0 x1 x2 y0 y1 yc len y2 g0) [(.int (1 : Int32)), (.int len)])) _
  refine XS.icmpYes X0.here hx rfl (pc0 := 33) (pc' := 41) rfl (hb hby at_33) rfl (flt (hc33 : ¬ ((1 : Int32) < len))).2.2.2 (by decide) (by decide) ?_
  show Steps p.tables e below (T0.setTop (mkF m 41 (own_l5 x0 x1 x2 y0 y1 yc len y2 g0) [])) _
  refine XS.lconst X0.here hx rfl (hb hby at_41) ?_
  show Steps p.tables e below (T0.setTop (mkF m 42 (own_l5 x0 x1 x2 y0 y1 yc len y2 g0) [(.long (0 : Int64))])) _
  refine XS.lstore X0.here hx rfl (hb hby at_42) rfl (l' := (own_l9 x0 x1 x2 y0 y1 yc len y2 g0)) rfl ?_
  exact kt

set_option maxRecDepth 65536 in
set_option maxHeartbeats 4000000 in
theorem qa4_f {p : Program} {l : Launch} {e : Env} {R : Room} {s : State} {m : MethodId} {args : Array Value} {below : List Frame} {meth : Method} {c : Code} {T0 : State} {locs : List Loc} {cells slots : Nat} (x0 x1 x2 y0 y1 yc : Int64) (len : Int32) (y2 : Int64) (g0 g1 : Int64) (g2 : Int64) (X0 : Stand p l e R s m args below meth c T0 locs cells slots) (hx : p.tables.exec = Jvm.exec) (hby : c.code = code) (hc47 : (2 : Int32) < len) (h_g2 : g2 = y2) :
    ∀ target, Steps p.tables e below (T0.setTop (mkF m 58 (own_l11 x0 x1 x2 y0 y1 yc len y2 g0 g1 g2) [])) target → Steps p.tables e below (T0.setTop (mkF m 44 (own_l8 x0 x1 x2 y0 y1 yc len y2 g0 g1) [])) target := by
  intro target kt
  rw [h_g2] at kt
  show Steps p.tables e below (T0.setTop (mkF m 44 (own_l8 x0 x1 x2 y0 y1 yc len y2 g0 g1) [])) _
  refine XS.iload X0.here hx rfl (hb hby at_44) rfl ?_
  show Steps p.tables e below (T0.setTop (mkF m 46 (own_l8 x0 x1 x2 y0 y1 yc len y2 g0 g1) [(.int len)])) _
  refine XS.iconst X0.here hx rfl (hb hby at_46) ?_
  show Steps p.tables e below (T0.setTop (mkF m 47 (own_l8 x0 x1 x2 y0 y1 yc len y2 g0 g1) [(.int (2 : Int32)), (.int len)])) _
  refine XS.icmpNo X0.here hx rfl (hb hby at_47) rfl (tlt (hc47 : (2 : Int32) < len)).2.2.2 ?_
  show Steps p.tables e below (T0.setTop (mkF m 50 (own_l8 x0 x1 x2 y0 y1 yc len y2 g0 g1) [])) _
  refine XS.lload X0.here hx rfl (hb hby at_50) rfl ?_
  show Steps p.tables e below (T0.setTop (mkF m 52 (own_l8 x0 x1 x2 y0 y1 yc len y2 g0 g1) [(.long y2)])) _
  refine XS.goto X0.here hx rfl (pc0 := 52) (pc' := 56) rfl (hb hby at_52) (by decide) (by decide) ?_
  show Steps p.tables e below (T0.setTop (mkF m 56 (own_l8 x0 x1 x2 y0 y1 yc len y2 g0 g1) [(.long y2)])) _
  refine XS.lstore X0.here hx rfl (hb hby at_56) rfl (l' := (own_l10 x0 x1 x2 y0 y1 yc len y2 g0 g1)) rfl ?_
  exact kt

set_option maxRecDepth 65536 in
set_option maxHeartbeats 4000000 in
theorem qa4_t {p : Program} {l : Launch} {e : Env} {R : Room} {s : State} {m : MethodId} {args : Array Value} {below : List Frame} {meth : Method} {c : Code} {T0 : State} {locs : List Loc} {cells slots : Nat} (x0 x1 x2 y0 y1 yc : Int64) (len : Int32) (y2 : Int64) (g0 g1 : Int64) (g2 : Int64) (X0 : Stand p l e R s m args below meth c T0 locs cells slots) (hx : p.tables.exec = Jvm.exec) (hby : c.code = code) (hc47 : ¬ ((2 : Int32) < len)) (h_g2 : g2 = (0 : Int64)) :
    ∀ target, Steps p.tables e below (T0.setTop (mkF m 58 (own_l11 x0 x1 x2 y0 y1 yc len y2 g0 g1 g2) [])) target → Steps p.tables e below (T0.setTop (mkF m 44 (own_l8 x0 x1 x2 y0 y1 yc len y2 g0 g1) [])) target := by
  intro target kt
  rw [h_g2] at kt
  show Steps p.tables e below (T0.setTop (mkF m 44 (own_l8 x0 x1 x2 y0 y1 yc len y2 g0 g1) [])) _
  refine XS.iload X0.here hx rfl (hb hby at_44) rfl ?_
  show Steps p.tables e below (T0.setTop (mkF m 46 (own_l8 x0 x1 x2 y0 y1 yc len y2 g0 g1) [(.int len)])) _
  refine XS.iconst X0.here hx rfl (hb hby at_46) ?_
  show Steps p.tables e below (T0.setTop (mkF m 47 (own_l8 x0 x1 x2 y0 y1 yc len y2 g0 g1) [(.int (2 : Int32)), (.int len)])) _
  refine XS.icmpYes X0.here hx rfl (pc0 := 47) (pc' := 55) rfl (hb hby at_47) rfl (flt (hc47 : ¬ ((2 : Int32) < len))).2.2.2 (by decide) (by decide) ?_
  show Steps p.tables e below (T0.setTop (mkF m 55 (own_l8 x0 x1 x2 y0 y1 yc len y2 g0 g1) [])) _
  refine XS.lconst X0.here hx rfl (hb hby at_55) ?_
  show Steps p.tables e below (T0.setTop (mkF m 56 (own_l8 x0 x1 x2 y0 y1 yc len y2 g0 g1) [(.long (0 : Int64))])) _
  refine XS.lstore X0.here hx rfl (hb hby at_56) rfl (l' := (own_l12 x0 x1 x2 y0 y1 yc len y2 g0 g1)) rfl ?_
  exact kt

set_option maxRecDepth 65536 in
set_option maxHeartbeats 4000000 in
theorem qb {p : Program} {l : Launch} {e : Env} {R : Room} {s : State} {m : MethodId} {args : Array Value} {below : List Frame} {meth : Method} {c : Code} {T0 : State} {locs : List Loc} {cells slots : Nat} (x0 x1 x2 y0 y1 yc : Int64) (len : Int32) (y2 : Int64) (g0 g1 g2 : Int64)  (X0 : Stand p l e R s m args below meth c T0 locs cells slots) (hx : p.tables.exec = Jvm.exec) (hby : c.code = code) :
    ∀ target, Steps p.tables e below (T0.setTop (mkF m 68 (own_l11 x0 x1 x2 y0 y1 yc len y2 g0 g1 g2) [(.long g2), (.long g1), (.long g0), (.long x2), (.long x1), (.long x0)])) target → Steps p.tables e below (T0.setTop (mkF m 58 (own_l11 x0 x1 x2 y0 y1 yc len y2 g0 g1 g2) [])) target := by
  intro target kt
  show Steps p.tables e below (T0.setTop (mkF m 58 (own_l11 x0 x1 x2 y0 y1 yc len y2 g0 g1 g2) [])) _
  refine XS.lloadN X0.here hx rfl (hb hby at_58) rfl ?_
  show Steps p.tables e below (T0.setTop (mkF m 59 (own_l11 x0 x1 x2 y0 y1 yc len y2 g0 g1 g2) [(.long x0)])) _
  refine XS.lloadN X0.here hx rfl (hb hby at_59) rfl ?_
  show Steps p.tables e below (T0.setTop (mkF m 60 (own_l11 x0 x1 x2 y0 y1 yc len y2 g0 g1 g2) [(.long x1), (.long x0)])) _
  refine XS.lload X0.here hx rfl (hb hby at_60) rfl ?_
  show Steps p.tables e below (T0.setTop (mkF m 62 (own_l11 x0 x1 x2 y0 y1 yc len y2 g0 g1 g2) [(.long x2), (.long x1), (.long x0)])) _
  refine XS.lload X0.here hx rfl (hb hby at_62) rfl ?_
  show Steps p.tables e below (T0.setTop (mkF m 64 (own_l11 x0 x1 x2 y0 y1 yc len y2 g0 g1 g2) [(.long g0), (.long x2), (.long x1), (.long x0)])) _
  refine XS.lload X0.here hx rfl (hb hby at_64) rfl ?_
  show Steps p.tables e below (T0.setTop (mkF m 66 (own_l11 x0 x1 x2 y0 y1 yc len y2 g0 g1 g2) [(.long g1), (.long g0), (.long x2), (.long x1), (.long x0)])) _
  refine XS.lload X0.here hx rfl (hb hby at_66) rfl ?_
  exact kt

theorem own_A {p : Program} {l : Launch} {e : Env} {R : Room} {s : State} {m : MethodId} {args : Array Value} {below : List Frame} {meth : Method} {c : Code} {T0 : State} {locs : List Loc} {cells slots : Nat} {Z : State} {a0 : Array Value} (x0 x1 x2 y0 y1 yc : Int64) (X0 : Stand p l e R s m args below meth c T0 locs cells slots) (hx : p.tables.exec = Jvm.exec) (hby : c.code = code) (hZ : Z.Warmed39 s.vm) (hw : ∀ d ∈ tables_1, d.before a0 Z = true) (hown : s.vm.findClass "ringfold/modular/WordsSubtractFromPinLaw" = some m.cls) :
    ∃ (len : Int32) (y2 g0 g1 g2 : Int64), len = (yc &&& (3 : Int64)).toInt32 ∧ y2 = yc &&& (-4 : Int64) ∧ g0 = pSub len 0 y0 ∧ g1 = pSub len 1 y1 ∧ g2 = pSub len 2 y2 ∧ ∀ target, Steps p.tables e below (T0.setTop (mkF m 68 (own_l11 x0 x1 x2 y0 y1 yc len y2 g0 g1 g2) [(.long g2), (.long g1), (.long g0), (.long x2), (.long x1), (.long x0)])) target → Steps p.tables e below (T0.setTop (mkF m 0 (own_l0 x0 x1 x2 y0 y1 yc) [])) target := by
  obtain ⟨len, hlen⟩ : ∃ len : Int32, len = (yc &&& (3 : Int64)).toInt32 := ⟨_, rfl⟩
  obtain ⟨y2, hy2⟩ : ∃ y2 : Int64, y2 = yc &&& (-4 : Int64) := ⟨_, rfl⟩
  have h1 := qa1 x0 x1 x2 y0 y1 yc len y2 X0 hx hby hZ hw hown hlen hy2
  have h2 : ∀ target, Steps p.tables e below (T0.setTop (mkF m 30 (own_l5 x0 x1 x2 y0 y1 yc len y2 (pSub len 0 y0)) [])) target → Steps p.tables e below (T0.setTop (mkF m 17 (own_l3 x0 x1 x2 y0 y1 yc len y2) [])) target := by
    by_cases hl : (0 : Int32) < len
    · exact qa2_f x0 x1 x2 y0 y1 yc len y2 _ X0 hx hby hl (by simp [pSub, hl])
    · exact qa2_t x0 x1 x2 y0 y1 yc len y2 _ X0 hx hby hl (by simp [pSub, hl])
  have h3 : ∀ target, Steps p.tables e below (T0.setTop (mkF m 44 (own_l8 x0 x1 x2 y0 y1 yc len y2 (pSub len 0 y0) (pSub len 1 y1)) [])) target → Steps p.tables e below (T0.setTop (mkF m 30 (own_l5 x0 x1 x2 y0 y1 yc len y2 (pSub len 0 y0)) [])) target := by
    by_cases hl : (1 : Int32) < len
    · exact qa3_f x0 x1 x2 y0 y1 yc len y2 _ _ X0 hx hby hl (by simp [pSub, hl])
    · exact qa3_t x0 x1 x2 y0 y1 yc len y2 _ _ X0 hx hby hl (by simp [pSub, hl])
  have h4 : ∀ target, Steps p.tables e below (T0.setTop (mkF m 58 (own_l11 x0 x1 x2 y0 y1 yc len y2 (pSub len 0 y0) (pSub len 1 y1) (pSub len 2 y2)) [])) target → Steps p.tables e below (T0.setTop (mkF m 44 (own_l8 x0 x1 x2 y0 y1 yc len y2 (pSub len 0 y0) (pSub len 1 y1)) [])) target := by
    by_cases hl : (2 : Int32) < len
    · exact qa4_f x0 x1 x2 y0 y1 yc len y2 _ _ _ X0 hx hby hl (by simp [pSub, hl])
    · exact qa4_t x0 x1 x2 y0 y1 yc len y2 _ _ _ X0 hx hby hl (by simp [pSub, hl])
  exact ⟨len, y2, _, _, _, hlen, hy2, rfl, rfl, rfl, fun target kt => h1 _ (h2 _ (h3 _ (h4 _ (qb x0 x1 x2 y0 y1 yc len y2 _ _ _ X0 hx hby _ kt))))⟩

set_option maxRecDepth 65536 in
set_option maxHeartbeats 4000000 in
theorem qcl {p : Program} {l : Launch} {e : Env} {R : Room} {s : State} {m : MethodId} {args : Array Value} {below : List Frame} {meth : Method} {c : Code} {T0 : State} {locs : List Loc} {cells slots : Nat} (x0 x1 x2 y0 y1 yc : Int64) (len : Int32) (y2 : Int64) (g0 g1 g2 : Int64) (r : Int32)  (X0 : Stand p l e R s m args below meth c T0 locs cells slots) (hx : p.tables.exec = Jvm.exec) (hby : c.code = code) (hc71 : ¬ (r = (0 : Int32))) :
    ∀ target, Steps p.tables e below (T0.setTop (mkF m 97 (own_l18 x0 x1 x2 y0 y1 yc len y2 g0 g1 g2) [(.int (3 : Int32))])) target → Steps p.tables e below (T0.setTop (mkF m 71 (own_l11 x0 x1 x2 y0 y1 yc len y2 g0 g1 g2) [(.int r)])) target := by
  intro target kt
  show Steps p.tables e below (T0.setTop (mkF m 71 (own_l11 x0 x1 x2 y0 y1 yc len y2 g0 g1 g2) [(.int r)])) _
  refine XS.ifNo X0.here hx rfl (hb hby at_71) rfl ((if0 _ _).trans (feq (hc71 : ¬ (r = (0 : Int32)))).1) ?_
  show Steps p.tables e below (T0.setTop (mkF m 74 (own_l11 x0 x1 x2 y0 y1 yc len y2 g0 g1 g2) [])) _
  refine XS.lload X0.here hx rfl (hb hby at_74) rfl ?_
  show Steps p.tables e below (T0.setTop (mkF m 76 (own_l11 x0 x1 x2 y0 y1 yc len y2 g0 g1 g2) [(.long g0)])) _
  refine XS.lstore X0.here hx rfl (hb hby at_76) rfl (l' := (own_l13 x0 x1 x2 y0 y1 yc len y2 g0 g1 g2)) rfl ?_
  show Steps p.tables e below (T0.setTop (mkF m 78 (own_l13 x0 x1 x2 y0 y1 yc len y2 g0 g1 g2) [])) _
  refine XS.lload X0.here hx rfl (hb hby at_78) rfl ?_
  show Steps p.tables e below (T0.setTop (mkF m 80 (own_l13 x0 x1 x2 y0 y1 yc len y2 g0 g1 g2) [(.long g1)])) _
  refine XS.lstore X0.here hx rfl (hb hby at_80) rfl (l' := (own_l14 x0 x1 x2 y0 y1 yc len y2 g0 g1 g2)) rfl ?_
  show Steps p.tables e below (T0.setTop (mkF m 82 (own_l14 x0 x1 x2 y0 y1 yc len y2 g0 g1 g2) [])) _
  refine XS.lload X0.here hx rfl (hb hby at_82) rfl ?_
  show Steps p.tables e below (T0.setTop (mkF m 84 (own_l14 x0 x1 x2 y0 y1 yc len y2 g0 g1 g2) [(.long g2)])) _
  refine XS.lstore X0.here hx rfl (hb hby at_84) rfl (l' := (own_l15 x0 x1 x2 y0 y1 yc len y2 g0 g1 g2)) rfl ?_
  show Steps p.tables e below (T0.setTop (mkF m 86 (own_l15 x0 x1 x2 y0 y1 yc len y2 g0 g1 g2) [])) _
  refine XS.lloadN X0.here hx rfl (hb hby at_86) rfl ?_
  show Steps p.tables e below (T0.setTop (mkF m 87 (own_l15 x0 x1 x2 y0 y1 yc len y2 g0 g1 g2) [(.long x0)])) _
  refine XS.lstore X0.here hx rfl (hb hby at_87) rfl (l' := (own_l16 x0 x1 x2 y0 y1 yc len y2 g0 g1 g2)) rfl ?_
  show Steps p.tables e below (T0.setTop (mkF m 89 (own_l16 x0 x1 x2 y0 y1 yc len y2 g0 g1 g2) [])) _
  refine XS.lloadN X0.here hx rfl (hb hby at_89) rfl ?_
  show Steps p.tables e below (T0.setTop (mkF m 90 (own_l16 x0 x1 x2 y0 y1 yc len y2 g0 g1 g2) [(.long x1)])) _
  refine XS.lstore X0.here hx rfl (hb hby at_90) rfl (l' := (own_l17 x0 x1 x2 y0 y1 yc len y2 g0 g1 g2)) rfl ?_
  show Steps p.tables e below (T0.setTop (mkF m 92 (own_l17 x0 x1 x2 y0 y1 yc len y2 g0 g1 g2) [])) _
  refine XS.lload X0.here hx rfl (hb hby at_92) rfl ?_
  show Steps p.tables e below (T0.setTop (mkF m 94 (own_l17 x0 x1 x2 y0 y1 yc len y2 g0 g1 g2) [(.long x2)])) _
  refine XS.lstore X0.here hx rfl (hb hby at_94) rfl (l' := (own_l18 x0 x1 x2 y0 y1 yc len y2 g0 g1 g2)) rfl ?_
  show Steps p.tables e below (T0.setTop (mkF m 96 (own_l18 x0 x1 x2 y0 y1 yc len y2 g0 g1 g2) [])) _
  refine XS.iconst X0.here hx rfl (hb hby at_96) ?_
  exact kt

set_option maxRecDepth 65536 in
set_option maxHeartbeats 4000000 in
theorem qcg {p : Program} {l : Launch} {e : Env} {R : Room} {s : State} {m : MethodId} {args : Array Value} {below : List Frame} {meth : Method} {c : Code} {T0 : State} {locs : List Loc} {cells slots : Nat} (x0 x1 x2 y0 y1 yc : Int64) (len : Int32) (y2 : Int64) (g0 g1 g2 : Int64) (r : Int32)  (X0 : Stand p l e R s m args below meth c T0 locs cells slots) (hx : p.tables.exec = Jvm.exec) (hby : c.code = code) (hc71 : r = (0 : Int32)) :
    ∀ target, Steps p.tables e below (T0.setTop (mkF m 172 (own_l24 x0 x1 x2 y0 y1 yc len y2 g0 g1 g2) [(.int (3 : Int32))])) target → Steps p.tables e below (T0.setTop (mkF m 71 (own_l11 x0 x1 x2 y0 y1 yc len y2 g0 g1 g2) [(.int r)])) target := by
  intro target kt
  show Steps p.tables e below (T0.setTop (mkF m 71 (own_l11 x0 x1 x2 y0 y1 yc len y2 g0 g1 g2) [(.int r)])) _
  refine XS.ifYes X0.here hx rfl (pc0 := 71) (pc' := 149) rfl (hb hby at_71) rfl ((if0 _ _).trans (teq (hc71 : r = (0 : Int32))).1) (by decide) (by decide) ?_
  show Steps p.tables e below (T0.setTop (mkF m 149 (own_l11 x0 x1 x2 y0 y1 yc len y2 g0 g1 g2) [])) _
  refine XS.lloadN X0.here hx rfl (hb hby at_149) rfl ?_
  show Steps p.tables e below (T0.setTop (mkF m 150 (own_l11 x0 x1 x2 y0 y1 yc len y2 g0 g1 g2) [(.long x0)])) _
  refine XS.lstore X0.here hx rfl (hb hby at_150) rfl (l' := (own_l19 x0 x1 x2 y0 y1 yc len y2 g0 g1 g2)) rfl ?_
  show Steps p.tables e below (T0.setTop (mkF m 152 (own_l19 x0 x1 x2 y0 y1 yc len y2 g0 g1 g2) [])) _
  refine XS.lloadN X0.here hx rfl (hb hby at_152) rfl ?_
  show Steps p.tables e below (T0.setTop (mkF m 153 (own_l19 x0 x1 x2 y0 y1 yc len y2 g0 g1 g2) [(.long x1)])) _
  refine XS.lstore X0.here hx rfl (hb hby at_153) rfl (l' := (own_l20 x0 x1 x2 y0 y1 yc len y2 g0 g1 g2)) rfl ?_
  show Steps p.tables e below (T0.setTop (mkF m 155 (own_l20 x0 x1 x2 y0 y1 yc len y2 g0 g1 g2) [])) _
  refine XS.lload X0.here hx rfl (hb hby at_155) rfl ?_
  show Steps p.tables e below (T0.setTop (mkF m 157 (own_l20 x0 x1 x2 y0 y1 yc len y2 g0 g1 g2) [(.long x2)])) _
  refine XS.lstore X0.here hx rfl (hb hby at_157) rfl (l' := (own_l21 x0 x1 x2 y0 y1 yc len y2 g0 g1 g2)) rfl ?_
  show Steps p.tables e below (T0.setTop (mkF m 159 (own_l21 x0 x1 x2 y0 y1 yc len y2 g0 g1 g2) [])) _
  refine XS.lload X0.here hx rfl (hb hby at_159) rfl ?_
  show Steps p.tables e below (T0.setTop (mkF m 161 (own_l21 x0 x1 x2 y0 y1 yc len y2 g0 g1 g2) [(.long g0)])) _
  refine XS.lstore X0.here hx rfl (hb hby at_161) rfl (l' := (own_l22 x0 x1 x2 y0 y1 yc len y2 g0 g1 g2)) rfl ?_
  show Steps p.tables e below (T0.setTop (mkF m 163 (own_l22 x0 x1 x2 y0 y1 yc len y2 g0 g1 g2) [])) _
  refine XS.lload X0.here hx rfl (hb hby at_163) rfl ?_
  show Steps p.tables e below (T0.setTop (mkF m 165 (own_l22 x0 x1 x2 y0 y1 yc len y2 g0 g1 g2) [(.long g1)])) _
  refine XS.lstore X0.here hx rfl (hb hby at_165) rfl (l' := (own_l23 x0 x1 x2 y0 y1 yc len y2 g0 g1 g2)) rfl ?_
  show Steps p.tables e below (T0.setTop (mkF m 167 (own_l23 x0 x1 x2 y0 y1 yc len y2 g0 g1 g2) [])) _
  refine XS.lload X0.here hx rfl (hb hby at_167) rfl ?_
  show Steps p.tables e below (T0.setTop (mkF m 169 (own_l23 x0 x1 x2 y0 y1 yc len y2 g0 g1 g2) [(.long g2)])) _
  refine XS.lstore X0.here hx rfl (hb hby at_169) rfl (l' := (own_l24 x0 x1 x2 y0 y1 yc len y2 g0 g1 g2)) rfl ?_
  show Steps p.tables e below (T0.setTop (mkF m 171 (own_l24 x0 x1 x2 y0 y1 yc len y2 g0 g1 g2) [])) _
  refine XS.iconst X0.here hx rfl (hb hby at_171) ?_
  exact kt

set_option maxRecDepth 65536 in
set_option maxHeartbeats 4000000 in
theorem ql0_f {p : Program} {l : Launch} {e : Env} {R : Room} {s : State} {m : MethodId} {args : Array Value} {below : List Frame} {meth : Method} {c : Code} {T0 : State} {locs : List Loc} {cells slots : Nat} (x0 x1 x2 y0 y1 yc : Int64) (len : Int32) (y2 : Int64) (g0 g1 g2 : Int64) (bw : Addr) (v0 : Int64) (X0 : Stand p l e R s m args below meth c T0 locs cells slots) (hx : p.tables.exec = Jvm.exec) (hby : c.code = code) (hc103 : (0 : Int32) < len) (h_v0 : v0 = x0) :
    ∀ target, Steps p.tables e below (T0.setTop (mkF m 112 (own_l18 x0 x1 x2 y0 y1 yc len y2 g0 g1 g2) [(.long v0), (.int (0 : Int32)), (.ref bw), (.ref bw)])) target → Steps p.tables e below (T0.setTop (mkF m 99 (own_l18 x0 x1 x2 y0 y1 yc len y2 g0 g1 g2) [(.ref bw)])) target := by
  intro target kt
  rw [h_v0] at kt
  show Steps p.tables e below (T0.setTop (mkF m 99 (own_l18 x0 x1 x2 y0 y1 yc len y2 g0 g1 g2) [(.ref bw)])) _
  refine XS.dup X0.here hx rfl (hb hby at_99) rfl rfl ?_
  show Steps p.tables e below (T0.setTop (mkF m 100 (own_l18 x0 x1 x2 y0 y1 yc len y2 g0 g1 g2) [(.ref bw), (.ref bw)])) _
  refine XS.iconst X0.here hx rfl (hb hby at_100) ?_
  show Steps p.tables e below (T0.setTop (mkF m 101 (own_l18 x0 x1 x2 y0 y1 yc len y2 g0 g1 g2) [(.int (0 : Int32)), (.ref bw), (.ref bw)])) _
  refine XS.iload X0.here hx rfl (hb hby at_101) rfl ?_
  show Steps p.tables e below (T0.setTop (mkF m 103 (own_l18 x0 x1 x2 y0 y1 yc len y2 g0 g1 g2) [(.int len), (.int (0 : Int32)), (.ref bw), (.ref bw)])) _
  refine XS.ifNo X0.here hx rfl (hb hby at_103) rfl ((if0 _ _).trans (tlt (hc103 : (0 : Int32) < len)).2.2.2) ?_
  show Steps p.tables e below (T0.setTop (mkF m 106 (own_l18 x0 x1 x2 y0 y1 yc len y2 g0 g1 g2) [(.int (0 : Int32)), (.ref bw), (.ref bw)])) _
  refine XS.lloadN X0.here hx rfl (hb hby at_106) rfl ?_
  show Steps p.tables e below (T0.setTop (mkF m 107 (own_l18 x0 x1 x2 y0 y1 yc len y2 g0 g1 g2) [(.long x0), (.int (0 : Int32)), (.ref bw), (.ref bw)])) _
  refine XS.goto X0.here hx rfl (pc0 := 107) (pc' := 112) rfl (hb hby at_107) (by decide) (by decide) ?_
  exact kt

set_option maxRecDepth 65536 in
set_option maxHeartbeats 4000000 in
theorem ql0_t {p : Program} {l : Launch} {e : Env} {R : Room} {s : State} {m : MethodId} {args : Array Value} {below : List Frame} {meth : Method} {c : Code} {T0 : State} {locs : List Loc} {cells slots : Nat} (x0 x1 x2 y0 y1 yc : Int64) (len : Int32) (y2 : Int64) (g0 g1 g2 : Int64) (bw : Addr) (v0 : Int64) (X0 : Stand p l e R s m args below meth c T0 locs cells slots) (hx : p.tables.exec = Jvm.exec) (hby : c.code = code) (hc103 : ¬ ((0 : Int32) < len)) (h_v0 : v0 = y0) :
    ∀ target, Steps p.tables e below (T0.setTop (mkF m 112 (own_l18 x0 x1 x2 y0 y1 yc len y2 g0 g1 g2) [(.long v0), (.int (0 : Int32)), (.ref bw), (.ref bw)])) target → Steps p.tables e below (T0.setTop (mkF m 99 (own_l18 x0 x1 x2 y0 y1 yc len y2 g0 g1 g2) [(.ref bw)])) target := by
  intro target kt
  rw [h_v0] at kt
  show Steps p.tables e below (T0.setTop (mkF m 99 (own_l18 x0 x1 x2 y0 y1 yc len y2 g0 g1 g2) [(.ref bw)])) _
  refine XS.dup X0.here hx rfl (hb hby at_99) rfl rfl ?_
  show Steps p.tables e below (T0.setTop (mkF m 100 (own_l18 x0 x1 x2 y0 y1 yc len y2 g0 g1 g2) [(.ref bw), (.ref bw)])) _
  refine XS.iconst X0.here hx rfl (hb hby at_100) ?_
  show Steps p.tables e below (T0.setTop (mkF m 101 (own_l18 x0 x1 x2 y0 y1 yc len y2 g0 g1 g2) [(.int (0 : Int32)), (.ref bw), (.ref bw)])) _
  refine XS.iload X0.here hx rfl (hb hby at_101) rfl ?_
  show Steps p.tables e below (T0.setTop (mkF m 103 (own_l18 x0 x1 x2 y0 y1 yc len y2 g0 g1 g2) [(.int len), (.int (0 : Int32)), (.ref bw), (.ref bw)])) _
  refine XS.ifYes X0.here hx rfl (pc0 := 103) (pc' := 110) rfl (hb hby at_103) rfl ((if0 _ _).trans (flt (hc103 : ¬ ((0 : Int32) < len))).2.2.2) (by decide) (by decide) ?_
  show Steps p.tables e below (T0.setTop (mkF m 110 (own_l18 x0 x1 x2 y0 y1 yc len y2 g0 g1 g2) [(.int (0 : Int32)), (.ref bw), (.ref bw)])) _
  refine XS.lload X0.here hx rfl (hb hby at_110) rfl ?_
  exact kt

set_option maxRecDepth 65536 in
set_option maxHeartbeats 4000000 in
theorem ql1_f {p : Program} {l : Launch} {e : Env} {R : Room} {s : State} {m : MethodId} {args : Array Value} {below : List Frame} {meth : Method} {c : Code} {T0 : State} {locs : List Loc} {cells slots : Nat} (x0 x1 x2 y0 y1 yc : Int64) (len : Int32) (y2 : Int64) (g0 g1 g2 : Int64) (bw : Addr) (v1 : Int64) (X0 : Stand p l e R s m args below meth c T0 locs cells slots) (hx : p.tables.exec = Jvm.exec) (hby : c.code = code) (hc118 : (1 : Int32) < len) (h_v1 : v1 = x1) :
    ∀ target, Steps p.tables e below (T0.setTop (mkF m 127 (own_l18 x0 x1 x2 y0 y1 yc len y2 g0 g1 g2) [(.long v1), (.int (1 : Int32)), (.ref bw), (.ref bw)])) target → Steps p.tables e below (T0.setTop (mkF m 113 (own_l18 x0 x1 x2 y0 y1 yc len y2 g0 g1 g2) [(.ref bw)])) target := by
  intro target kt
  rw [h_v1] at kt
  show Steps p.tables e below (T0.setTop (mkF m 113 (own_l18 x0 x1 x2 y0 y1 yc len y2 g0 g1 g2) [(.ref bw)])) _
  refine XS.dup X0.here hx rfl (hb hby at_113) rfl rfl ?_
  show Steps p.tables e below (T0.setTop (mkF m 114 (own_l18 x0 x1 x2 y0 y1 yc len y2 g0 g1 g2) [(.ref bw), (.ref bw)])) _
  refine XS.iconst X0.here hx rfl (hb hby at_114) ?_
  show Steps p.tables e below (T0.setTop (mkF m 115 (own_l18 x0 x1 x2 y0 y1 yc len y2 g0 g1 g2) [(.int (1 : Int32)), (.ref bw), (.ref bw)])) _
  refine XS.iload X0.here hx rfl (hb hby at_115) rfl ?_
  show Steps p.tables e below (T0.setTop (mkF m 117 (own_l18 x0 x1 x2 y0 y1 yc len y2 g0 g1 g2) [(.int len), (.int (1 : Int32)), (.ref bw), (.ref bw)])) _
  refine XS.iconst X0.here hx rfl (hb hby at_117) ?_
  show Steps p.tables e below (T0.setTop (mkF m 118 (own_l18 x0 x1 x2 y0 y1 yc len y2 g0 g1 g2) [(.int (1 : Int32)), (.int len), (.int (1 : Int32)), (.ref bw), (.ref bw)])) _
  refine XS.icmpNo X0.here hx rfl (hb hby at_118) rfl (tlt (hc118 : (1 : Int32) < len)).2.2.2 ?_
  show Steps p.tables e below (T0.setTop (mkF m 121 (own_l18 x0 x1 x2 y0 y1 yc len y2 g0 g1 g2) [(.int (1 : Int32)), (.ref bw), (.ref bw)])) _
  refine XS.lloadN X0.here hx rfl (hb hby at_121) rfl ?_
  show Steps p.tables e below (T0.setTop (mkF m 122 (own_l18 x0 x1 x2 y0 y1 yc len y2 g0 g1 g2) [(.long x1), (.int (1 : Int32)), (.ref bw), (.ref bw)])) _
  refine XS.goto X0.here hx rfl (pc0 := 122) (pc' := 127) rfl (hb hby at_122) (by decide) (by decide) ?_
  exact kt

set_option maxRecDepth 65536 in
set_option maxHeartbeats 4000000 in
theorem ql1_t {p : Program} {l : Launch} {e : Env} {R : Room} {s : State} {m : MethodId} {args : Array Value} {below : List Frame} {meth : Method} {c : Code} {T0 : State} {locs : List Loc} {cells slots : Nat} (x0 x1 x2 y0 y1 yc : Int64) (len : Int32) (y2 : Int64) (g0 g1 g2 : Int64) (bw : Addr) (v1 : Int64) (X0 : Stand p l e R s m args below meth c T0 locs cells slots) (hx : p.tables.exec = Jvm.exec) (hby : c.code = code) (hc118 : ¬ ((1 : Int32) < len)) (h_v1 : v1 = y1) :
    ∀ target, Steps p.tables e below (T0.setTop (mkF m 127 (own_l18 x0 x1 x2 y0 y1 yc len y2 g0 g1 g2) [(.long v1), (.int (1 : Int32)), (.ref bw), (.ref bw)])) target → Steps p.tables e below (T0.setTop (mkF m 113 (own_l18 x0 x1 x2 y0 y1 yc len y2 g0 g1 g2) [(.ref bw)])) target := by
  intro target kt
  rw [h_v1] at kt
  show Steps p.tables e below (T0.setTop (mkF m 113 (own_l18 x0 x1 x2 y0 y1 yc len y2 g0 g1 g2) [(.ref bw)])) _
  refine XS.dup X0.here hx rfl (hb hby at_113) rfl rfl ?_
  show Steps p.tables e below (T0.setTop (mkF m 114 (own_l18 x0 x1 x2 y0 y1 yc len y2 g0 g1 g2) [(.ref bw), (.ref bw)])) _
  refine XS.iconst X0.here hx rfl (hb hby at_114) ?_
  show Steps p.tables e below (T0.setTop (mkF m 115 (own_l18 x0 x1 x2 y0 y1 yc len y2 g0 g1 g2) [(.int (1 : Int32)), (.ref bw), (.ref bw)])) _
  refine XS.iload X0.here hx rfl (hb hby at_115) rfl ?_
  show Steps p.tables e below (T0.setTop (mkF m 117 (own_l18 x0 x1 x2 y0 y1 yc len y2 g0 g1 g2) [(.int len), (.int (1 : Int32)), (.ref bw), (.ref bw)])) _
  refine XS.iconst X0.here hx rfl (hb hby at_117) ?_
  show Steps p.tables e below (T0.setTop (mkF m 118 (own_l18 x0 x1 x2 y0 y1 yc len y2 g0 g1 g2) [(.int (1 : Int32)), (.int len), (.int (1 : Int32)), (.ref bw), (.ref bw)])) _
  refine XS.icmpYes X0.here hx rfl (pc0 := 118) (pc' := 125) rfl (hb hby at_118) rfl (flt (hc118 : ¬ ((1 : Int32) < len))).2.2.2 (by decide) (by decide) ?_
  show Steps p.tables e below (T0.setTop (mkF m 125 (own_l18 x0 x1 x2 y0 y1 yc len y2 g0 g1 g2) [(.int (1 : Int32)), (.ref bw), (.ref bw)])) _
  refine XS.lload X0.here hx rfl (hb hby at_125) rfl ?_
  exact kt

set_option maxRecDepth 65536 in
set_option maxHeartbeats 4000000 in
theorem ql2_f {p : Program} {l : Launch} {e : Env} {R : Room} {s : State} {m : MethodId} {args : Array Value} {below : List Frame} {meth : Method} {c : Code} {T0 : State} {locs : List Loc} {cells slots : Nat} (x0 x1 x2 y0 y1 yc : Int64) (len : Int32) (y2 : Int64) (g0 g1 g2 : Int64) (bw : Addr) (v2 : Int64) (X0 : Stand p l e R s m args below meth c T0 locs cells slots) (hx : p.tables.exec = Jvm.exec) (hby : c.code = code) (hc133 : (2 : Int32) < len) (h_v2 : v2 = x2) :
    ∀ target, Steps p.tables e below (T0.setTop (mkF m 143 (own_l18 x0 x1 x2 y0 y1 yc len y2 g0 g1 g2) [(.long v2), (.int (2 : Int32)), (.ref bw), (.ref bw)])) target → Steps p.tables e below (T0.setTop (mkF m 128 (own_l18 x0 x1 x2 y0 y1 yc len y2 g0 g1 g2) [(.ref bw)])) target := by
  intro target kt
  rw [h_v2] at kt
  show Steps p.tables e below (T0.setTop (mkF m 128 (own_l18 x0 x1 x2 y0 y1 yc len y2 g0 g1 g2) [(.ref bw)])) _
  refine XS.dup X0.here hx rfl (hb hby at_128) rfl rfl ?_
  show Steps p.tables e below (T0.setTop (mkF m 129 (own_l18 x0 x1 x2 y0 y1 yc len y2 g0 g1 g2) [(.ref bw), (.ref bw)])) _
  refine XS.iconst X0.here hx rfl (hb hby at_129) ?_
  show Steps p.tables e below (T0.setTop (mkF m 130 (own_l18 x0 x1 x2 y0 y1 yc len y2 g0 g1 g2) [(.int (2 : Int32)), (.ref bw), (.ref bw)])) _
  refine XS.iload X0.here hx rfl (hb hby at_130) rfl ?_
  show Steps p.tables e below (T0.setTop (mkF m 132 (own_l18 x0 x1 x2 y0 y1 yc len y2 g0 g1 g2) [(.int len), (.int (2 : Int32)), (.ref bw), (.ref bw)])) _
  refine XS.iconst X0.here hx rfl (hb hby at_132) ?_
  show Steps p.tables e below (T0.setTop (mkF m 133 (own_l18 x0 x1 x2 y0 y1 yc len y2 g0 g1 g2) [(.int (2 : Int32)), (.int len), (.int (2 : Int32)), (.ref bw), (.ref bw)])) _
  refine XS.icmpNo X0.here hx rfl (hb hby at_133) rfl (tlt (hc133 : (2 : Int32) < len)).2.2.2 ?_
  show Steps p.tables e below (T0.setTop (mkF m 136 (own_l18 x0 x1 x2 y0 y1 yc len y2 g0 g1 g2) [(.int (2 : Int32)), (.ref bw), (.ref bw)])) _
  refine XS.lload X0.here hx rfl (hb hby at_136) rfl ?_
  show Steps p.tables e below (T0.setTop (mkF m 138 (own_l18 x0 x1 x2 y0 y1 yc len y2 g0 g1 g2) [(.long x2), (.int (2 : Int32)), (.ref bw), (.ref bw)])) _
  refine XS.goto X0.here hx rfl (pc0 := 138) (pc' := 143) rfl (hb hby at_138) (by decide) (by decide) ?_
  exact kt

set_option maxRecDepth 65536 in
set_option maxHeartbeats 4000000 in
theorem ql2_t {p : Program} {l : Launch} {e : Env} {R : Room} {s : State} {m : MethodId} {args : Array Value} {below : List Frame} {meth : Method} {c : Code} {T0 : State} {locs : List Loc} {cells slots : Nat} (x0 x1 x2 y0 y1 yc : Int64) (len : Int32) (y2 : Int64) (g0 g1 g2 : Int64) (bw : Addr) (v2 : Int64) (X0 : Stand p l e R s m args below meth c T0 locs cells slots) (hx : p.tables.exec = Jvm.exec) (hby : c.code = code) (hc133 : ¬ ((2 : Int32) < len)) (h_v2 : v2 = y2) :
    ∀ target, Steps p.tables e below (T0.setTop (mkF m 143 (own_l18 x0 x1 x2 y0 y1 yc len y2 g0 g1 g2) [(.long v2), (.int (2 : Int32)), (.ref bw), (.ref bw)])) target → Steps p.tables e below (T0.setTop (mkF m 128 (own_l18 x0 x1 x2 y0 y1 yc len y2 g0 g1 g2) [(.ref bw)])) target := by
  intro target kt
  rw [h_v2] at kt
  show Steps p.tables e below (T0.setTop (mkF m 128 (own_l18 x0 x1 x2 y0 y1 yc len y2 g0 g1 g2) [(.ref bw)])) _
  refine XS.dup X0.here hx rfl (hb hby at_128) rfl rfl ?_
  show Steps p.tables e below (T0.setTop (mkF m 129 (own_l18 x0 x1 x2 y0 y1 yc len y2 g0 g1 g2) [(.ref bw), (.ref bw)])) _
  refine XS.iconst X0.here hx rfl (hb hby at_129) ?_
  show Steps p.tables e below (T0.setTop (mkF m 130 (own_l18 x0 x1 x2 y0 y1 yc len y2 g0 g1 g2) [(.int (2 : Int32)), (.ref bw), (.ref bw)])) _
  refine XS.iload X0.here hx rfl (hb hby at_130) rfl ?_
  show Steps p.tables e below (T0.setTop (mkF m 132 (own_l18 x0 x1 x2 y0 y1 yc len y2 g0 g1 g2) [(.int len), (.int (2 : Int32)), (.ref bw), (.ref bw)])) _
  refine XS.iconst X0.here hx rfl (hb hby at_132) ?_
  show Steps p.tables e below (T0.setTop (mkF m 133 (own_l18 x0 x1 x2 y0 y1 yc len y2 g0 g1 g2) [(.int (2 : Int32)), (.int len), (.int (2 : Int32)), (.ref bw), (.ref bw)])) _
  refine XS.icmpYes X0.here hx rfl (pc0 := 133) (pc' := 141) rfl (hb hby at_133) rfl (flt (hc133 : ¬ ((2 : Int32) < len))).2.2.2 (by decide) (by decide) ?_
  show Steps p.tables e below (T0.setTop (mkF m 141 (own_l18 x0 x1 x2 y0 y1 yc len y2 g0 g1 g2) [(.int (2 : Int32)), (.ref bw), (.ref bw)])) _
  refine XS.lload X0.here hx rfl (hb hby at_141) rfl ?_
  exact kt

set_option maxRecDepth 65536 in
set_option maxHeartbeats 4000000 in
theorem ql3 {p : Program} {l : Launch} {e : Env} {R : Room} {s : State} {m : MethodId} {args : Array Value} {below : List Frame} {meth : Method} {c : Code} {T0 : State} {locs : List Loc} {cells slots : Nat} (x0 x1 x2 y0 y1 yc : Int64) (len : Int32) (y2 : Int64) (g0 g1 g2 : Int64) (bw : Addr)  (X0 : Stand p l e R s m args below meth c T0 locs cells slots) (hx : p.tables.exec = Jvm.exec) (hby : c.code = code) :
    ∀ target, Steps p.tables e below (T0.setTop (mkF m 191 (own_l25 x0 x1 x2 y0 y1 yc len y2 g0 g1 g2 bw) [])) target → Steps p.tables e below (T0.setTop (mkF m 144 (own_l18 x0 x1 x2 y0 y1 yc len y2 g0 g1 g2) [(.ref bw)])) target := by
  intro target kt
  show Steps p.tables e below (T0.setTop (mkF m 144 (own_l18 x0 x1 x2 y0 y1 yc len y2 g0 g1 g2) [(.ref bw)])) _
  refine XS.astore X0.here hx rfl (hb hby at_144) rfl rfl (l' := (own_l25 x0 x1 x2 y0 y1 yc len y2 g0 g1 g2 bw)) rfl ?_
  show Steps p.tables e below (T0.setTop (mkF m 146 (own_l25 x0 x1 x2 y0 y1 yc len y2 g0 g1 g2 bw) [])) _
  refine XS.goto X0.here hx rfl (pc0 := 146) (pc' := 191) rfl (hb hby at_146) (by decide) (by decide) ?_
  exact kt

set_option maxRecDepth 65536 in
set_option maxHeartbeats 4000000 in
theorem qg0 {p : Program} {l : Launch} {e : Env} {R : Room} {s : State} {m : MethodId} {args : Array Value} {below : List Frame} {meth : Method} {c : Code} {T0 : State} {locs : List Loc} {cells slots : Nat} (x0 x1 x2 y0 y1 yc : Int64) (len : Int32) (y2 : Int64) (g0 g1 g2 : Int64) (bw : Addr)  (X0 : Stand p l e R s m args below meth c T0 locs cells slots) (hx : p.tables.exec = Jvm.exec) (hby : c.code = code) :
    ∀ target, Steps p.tables e below (T0.setTop (mkF m 178 (own_l24 x0 x1 x2 y0 y1 yc len y2 g0 g1 g2) [(.long y0), (.int (0 : Int32)), (.ref bw), (.ref bw)])) target → Steps p.tables e below (T0.setTop (mkF m 174 (own_l24 x0 x1 x2 y0 y1 yc len y2 g0 g1 g2) [(.ref bw)])) target := by
  intro target kt
  show Steps p.tables e below (T0.setTop (mkF m 174 (own_l24 x0 x1 x2 y0 y1 yc len y2 g0 g1 g2) [(.ref bw)])) _
  refine XS.dup X0.here hx rfl (hb hby at_174) rfl rfl ?_
  show Steps p.tables e below (T0.setTop (mkF m 175 (own_l24 x0 x1 x2 y0 y1 yc len y2 g0 g1 g2) [(.ref bw), (.ref bw)])) _
  refine XS.iconst X0.here hx rfl (hb hby at_175) ?_
  show Steps p.tables e below (T0.setTop (mkF m 176 (own_l24 x0 x1 x2 y0 y1 yc len y2 g0 g1 g2) [(.int (0 : Int32)), (.ref bw), (.ref bw)])) _
  refine XS.lload X0.here hx rfl (hb hby at_176) rfl ?_
  exact kt

set_option maxRecDepth 65536 in
set_option maxHeartbeats 4000000 in
theorem qg1 {p : Program} {l : Launch} {e : Env} {R : Room} {s : State} {m : MethodId} {args : Array Value} {below : List Frame} {meth : Method} {c : Code} {T0 : State} {locs : List Loc} {cells slots : Nat} (x0 x1 x2 y0 y1 yc : Int64) (len : Int32) (y2 : Int64) (g0 g1 g2 : Int64) (bw : Addr)  (X0 : Stand p l e R s m args below meth c T0 locs cells slots) (hx : p.tables.exec = Jvm.exec) (hby : c.code = code) :
    ∀ target, Steps p.tables e below (T0.setTop (mkF m 183 (own_l24 x0 x1 x2 y0 y1 yc len y2 g0 g1 g2) [(.long y1), (.int (1 : Int32)), (.ref bw), (.ref bw)])) target → Steps p.tables e below (T0.setTop (mkF m 179 (own_l24 x0 x1 x2 y0 y1 yc len y2 g0 g1 g2) [(.ref bw)])) target := by
  intro target kt
  show Steps p.tables e below (T0.setTop (mkF m 179 (own_l24 x0 x1 x2 y0 y1 yc len y2 g0 g1 g2) [(.ref bw)])) _
  refine XS.dup X0.here hx rfl (hb hby at_179) rfl rfl ?_
  show Steps p.tables e below (T0.setTop (mkF m 180 (own_l24 x0 x1 x2 y0 y1 yc len y2 g0 g1 g2) [(.ref bw), (.ref bw)])) _
  refine XS.iconst X0.here hx rfl (hb hby at_180) ?_
  show Steps p.tables e below (T0.setTop (mkF m 181 (own_l24 x0 x1 x2 y0 y1 yc len y2 g0 g1 g2) [(.int (1 : Int32)), (.ref bw), (.ref bw)])) _
  refine XS.lload X0.here hx rfl (hb hby at_181) rfl ?_
  exact kt

set_option maxRecDepth 65536 in
set_option maxHeartbeats 4000000 in
theorem qg2 {p : Program} {l : Launch} {e : Env} {R : Room} {s : State} {m : MethodId} {args : Array Value} {below : List Frame} {meth : Method} {c : Code} {T0 : State} {locs : List Loc} {cells slots : Nat} (x0 x1 x2 y0 y1 yc : Int64) (len : Int32) (y2 : Int64) (g0 g1 g2 : Int64) (bw : Addr)  (X0 : Stand p l e R s m args below meth c T0 locs cells slots) (hx : p.tables.exec = Jvm.exec) (hby : c.code = code) :
    ∀ target, Steps p.tables e below (T0.setTop (mkF m 188 (own_l24 x0 x1 x2 y0 y1 yc len y2 g0 g1 g2) [(.long y2), (.int (2 : Int32)), (.ref bw), (.ref bw)])) target → Steps p.tables e below (T0.setTop (mkF m 184 (own_l24 x0 x1 x2 y0 y1 yc len y2 g0 g1 g2) [(.ref bw)])) target := by
  intro target kt
  show Steps p.tables e below (T0.setTop (mkF m 184 (own_l24 x0 x1 x2 y0 y1 yc len y2 g0 g1 g2) [(.ref bw)])) _
  refine XS.dup X0.here hx rfl (hb hby at_184) rfl rfl ?_
  show Steps p.tables e below (T0.setTop (mkF m 185 (own_l24 x0 x1 x2 y0 y1 yc len y2 g0 g1 g2) [(.ref bw), (.ref bw)])) _
  refine XS.iconst X0.here hx rfl (hb hby at_185) ?_
  show Steps p.tables e below (T0.setTop (mkF m 186 (own_l24 x0 x1 x2 y0 y1 yc len y2 g0 g1 g2) [(.int (2 : Int32)), (.ref bw), (.ref bw)])) _
  refine XS.lload X0.here hx rfl (hb hby at_186) rfl ?_
  exact kt

set_option maxRecDepth 65536 in
set_option maxHeartbeats 4000000 in
theorem qg3 {p : Program} {l : Launch} {e : Env} {R : Room} {s : State} {m : MethodId} {args : Array Value} {below : List Frame} {meth : Method} {c : Code} {T0 : State} {locs : List Loc} {cells slots : Nat} (x0 x1 x2 y0 y1 yc : Int64) (len : Int32) (y2 : Int64) (g0 g1 g2 : Int64) (bw : Addr)  (X0 : Stand p l e R s m args below meth c T0 locs cells slots) (hx : p.tables.exec = Jvm.exec) (hby : c.code = code) :
    ∀ target, Steps p.tables e below (T0.setTop (mkF m 191 (own_l26 x0 x1 x2 y0 y1 yc len y2 g0 g1 g2 bw) [])) target → Steps p.tables e below (T0.setTop (mkF m 189 (own_l24 x0 x1 x2 y0 y1 yc len y2 g0 g1 g2) [(.ref bw)])) target := by
  intro target kt
  show Steps p.tables e below (T0.setTop (mkF m 189 (own_l24 x0 x1 x2 y0 y1 yc len y2 g0 g1 g2) [(.ref bw)])) _
  refine XS.astore X0.here hx rfl (hb hby at_189) rfl rfl (l' := (own_l26 x0 x1 x2 y0 y1 yc len y2 g0 g1 g2 bw)) rfl ?_
  exact kt

set_option maxRecDepth 65536 in
set_option maxHeartbeats 40000000 in
theorem own_Cl {p : Program} {l : Launch} {e : Env} {s : State} {m : MethodId} {args : Array Value} {below : List Frame} {meth : Method} {c : Code} {T0 : State} {locs : List Loc} {Z : State} {a0 : Array Value} {h0 : Heap} {n0 : Nat} (x0 x1 x2 y0 y1 yc : Int64) (len : Int32) (y2 : Int64) (g0 g1 g2 : Int64) (r : Int32) (X0 : Stand p l e room_1 s m args below meth c T0 locs 0 0) (hx : p.tables.exec = Jvm.exec) (hZ : Z.Warmed39 s.vm) (hw : ∀ d ∈ tables_1, d.before a0 Z = true) (hby : c.code = code) (e0 : T0.heap = h0) (Z0 : n0 ≤ h0.size) (N0 : Fr n0 locs) (hr : ¬ (r = (0 : Int32))) :
    ∃ (T' : State) (h' : Heap) (locs' : List Loc) (k : ClassId) (bw : Addr), Stand p l e room_1 s m args below meth c T' locs' 1 3 ∧ T'.heap = h' ∧ Fr n0 locs' ∧ n0 ≤ h'.size ∧ n0 ≤ bw ∧ Arv Z h' bw k .long (3 : Int32) [.long (if (0 : Int32) < len then x0 else y0), .long (if (1 : Int32) < len then x1 else y1), .long (if (2 : Int32) < len then x2 else y2)] (.long (0 : Int64)) ∧
      ∀ target, Steps p.tables e below (T'.setTop (mkF m 191 (own_l25 x0 x1 x2 y0 y1 yc len y2 g0 g1 g2 bw) [])) target → Steps p.tables e below (T0.setTop (mkF m 71 (own_l11 x0 x1 x2 y0 y1 yc len y2 g0 g1 g2) [(.int r)])) target := by
  obtain ⟨T1, h1, k, bw, hbw, X1, e1, E1, V1, st1⟩ := own_newA X0 hx hZ (hw _ (List.mem_of_getElem? (i := 10) rfl)) e0 (pc := 97) (Ls := (own_l18 x0 x1 x2 y0 y1 yc len y2 g0 g1 g2)) (rest := []) (hb hby at_97) (by decide) (by decide)
  have g_bw : n0 ≤ bw := Nat.le_trans Z0 (Nat.le_of_eq hbw.symm)
  obtain ⟨T2, h2, L2, X2, e2, V2, K2, N2, -, st2⟩ := own_st X1 hx hZ e1 V1 g_bw N0 (j := (0 : Int32)) 0 rfl (by decide) (by first | (show 0 < 3; decide) | simp) (v := (if (0 : Int32) < len then x0 else y0)) (pc := 112) (Ls := (own_l18 x0 x1 x2 y0 y1 yc len y2 g0 g1 g2)) (rest := [(.ref bw)]) (hb hby at_112)
  obtain ⟨T3, h3, L3, X3, e3, V3, K3, N3, -, st3⟩ := own_st X2 hx hZ e2 V2 g_bw N2 (j := (1 : Int32)) 1 rfl (by decide) (by first | (show 1 < 3; decide) | simp) (v := (if (1 : Int32) < len then x1 else y1)) (pc := 127) (Ls := (own_l18 x0 x1 x2 y0 y1 yc len y2 g0 g1 g2)) (rest := [(.ref bw)]) (hb hby at_127)
  obtain ⟨T4, h4, L4, X4, e4, V4, K4, N4, -, st4⟩ := own_st X3 hx hZ e3 V3 g_bw N3 (j := (2 : Int32)) 2 rfl (by decide) (by first | (show 2 < 3; decide) | simp) (v := (if (2 : Int32) < len then x2 else y2)) (pc := 143) (Ls := (own_l18 x0 x1 x2 y0 y1 yc len y2 g0 g1 g2)) (rest := [(.ref bw)]) (hb hby at_143)
  have Z4 : n0 ≤ h4.size := Nat.le_trans (Nat.le_trans (Nat.le_trans (Nat.le_trans Z0 E1.1) K2.1) K3.1) K4.1
  refine ⟨T4, h4, L4, k, bw, X4, e4, N4, Z4, g_bw, V4, fun target kt => ?_⟩
  refine qcl x0 x1 x2 y0 y1 yc len y2 g0 g1 g2 r X0 hx hby hr _ ?_
  refine st1 _ ?_
  have q0 : ∀ target, Steps p.tables e below (T1.setTop (mkF m 112 (own_l18 x0 x1 x2 y0 y1 yc len y2 g0 g1 g2) [(.long (if (0 : Int32) < len then x0 else y0)), (.int (0 : Int32)), (.ref bw), (.ref bw)])) target → Steps p.tables e below (T1.setTop (mkF m 99 (own_l18 x0 x1 x2 y0 y1 yc len y2 g0 g1 g2) [(.ref bw)])) target := by
    by_cases hl : (0 : Int32) < len
    · exact ql0_f x0 x1 x2 y0 y1 yc len y2 g0 g1 g2 bw _ X1 hx hby hl (by simp [hl])
    · exact ql0_t x0 x1 x2 y0 y1 yc len y2 g0 g1 g2 bw _ X1 hx hby hl (by simp [hl])
  have q1 : ∀ target, Steps p.tables e below (T2.setTop (mkF m 127 (own_l18 x0 x1 x2 y0 y1 yc len y2 g0 g1 g2) [(.long (if (1 : Int32) < len then x1 else y1)), (.int (1 : Int32)), (.ref bw), (.ref bw)])) target → Steps p.tables e below (T2.setTop (mkF m 113 (own_l18 x0 x1 x2 y0 y1 yc len y2 g0 g1 g2) [(.ref bw)])) target := by
    by_cases hl : (1 : Int32) < len
    · exact ql1_f x0 x1 x2 y0 y1 yc len y2 g0 g1 g2 bw _ X2 hx hby hl (by simp [hl])
    · exact ql1_t x0 x1 x2 y0 y1 yc len y2 g0 g1 g2 bw _ X2 hx hby hl (by simp [hl])
  have q2 : ∀ target, Steps p.tables e below (T3.setTop (mkF m 143 (own_l18 x0 x1 x2 y0 y1 yc len y2 g0 g1 g2) [(.long (if (2 : Int32) < len then x2 else y2)), (.int (2 : Int32)), (.ref bw), (.ref bw)])) target → Steps p.tables e below (T3.setTop (mkF m 128 (own_l18 x0 x1 x2 y0 y1 yc len y2 g0 g1 g2) [(.ref bw)])) target := by
    by_cases hl : (2 : Int32) < len
    · exact ql2_f x0 x1 x2 y0 y1 yc len y2 g0 g1 g2 bw _ X3 hx hby hl (by simp [hl])
    · exact ql2_t x0 x1 x2 y0 y1 yc len y2 g0 g1 g2 bw _ X3 hx hby hl (by simp [hl])
  exact q0 _ (st2 _ (q1 _ (st3 _ (q2 _ (st4 _ (ql3 x0 x1 x2 y0 y1 yc len y2 g0 g1 g2 bw X4 hx hby _ kt))))))

set_option maxRecDepth 65536 in
set_option maxHeartbeats 40000000 in
theorem own_Cg {p : Program} {l : Launch} {e : Env} {s : State} {m : MethodId} {args : Array Value} {below : List Frame} {meth : Method} {c : Code} {T0 : State} {locs : List Loc} {Z : State} {a0 : Array Value} {h0 : Heap} {n0 : Nat} (x0 x1 x2 y0 y1 yc : Int64) (len : Int32) (y2 : Int64) (g0 g1 g2 : Int64) (r : Int32) (X0 : Stand p l e room_1 s m args below meth c T0 locs 0 0) (hx : p.tables.exec = Jvm.exec) (hZ : Z.Warmed39 s.vm) (hw : ∀ d ∈ tables_1, d.before a0 Z = true) (hby : c.code = code) (e0 : T0.heap = h0) (Z0 : n0 ≤ h0.size) (N0 : Fr n0 locs) (hr : r = (0 : Int32)) :
    ∃ (T' : State) (h' : Heap) (locs' : List Loc) (k : ClassId) (bw : Addr), Stand p l e room_1 s m args below meth c T' locs' 1 3 ∧ T'.heap = h' ∧ Fr n0 locs' ∧ n0 ≤ h'.size ∧ n0 ≤ bw ∧ Arv Z h' bw k .long (3 : Int32) [.long y0, .long y1, .long y2] (.long (0 : Int64)) ∧
      ∀ target, Steps p.tables e below (T'.setTop (mkF m 191 (own_l26 x0 x1 x2 y0 y1 yc len y2 g0 g1 g2 bw) [])) target → Steps p.tables e below (T0.setTop (mkF m 71 (own_l11 x0 x1 x2 y0 y1 yc len y2 g0 g1 g2) [(.int r)])) target := by
  obtain ⟨T1, h1, k, bw, hbw, X1, e1, E1, V1, st1⟩ := own_newA X0 hx hZ (hw _ (List.mem_of_getElem? (i := 10) rfl)) e0 (pc := 172) (Ls := (own_l24 x0 x1 x2 y0 y1 yc len y2 g0 g1 g2)) (rest := []) (hb hby at_172) (by decide) (by decide)
  have g_bw : n0 ≤ bw := Nat.le_trans Z0 (Nat.le_of_eq hbw.symm)
  obtain ⟨T2, h2, L2, X2, e2, V2, K2, N2, -, st2⟩ := own_st X1 hx hZ e1 V1 g_bw N0 (j := (0 : Int32)) 0 rfl (by decide) (by first | (show 0 < 3; decide) | simp) (v := y0) (pc := 178) (Ls := (own_l24 x0 x1 x2 y0 y1 yc len y2 g0 g1 g2)) (rest := [(.ref bw)]) (hb hby at_178)
  obtain ⟨T3, h3, L3, X3, e3, V3, K3, N3, -, st3⟩ := own_st X2 hx hZ e2 V2 g_bw N2 (j := (1 : Int32)) 1 rfl (by decide) (by first | (show 1 < 3; decide) | simp) (v := y1) (pc := 183) (Ls := (own_l24 x0 x1 x2 y0 y1 yc len y2 g0 g1 g2)) (rest := [(.ref bw)]) (hb hby at_183)
  obtain ⟨T4, h4, L4, X4, e4, V4, K4, N4, -, st4⟩ := own_st X3 hx hZ e3 V3 g_bw N3 (j := (2 : Int32)) 2 rfl (by decide) (by first | (show 2 < 3; decide) | simp) (v := y2) (pc := 188) (Ls := (own_l24 x0 x1 x2 y0 y1 yc len y2 g0 g1 g2)) (rest := [(.ref bw)]) (hb hby at_188)
  have Z4 : n0 ≤ h4.size := Nat.le_trans (Nat.le_trans (Nat.le_trans (Nat.le_trans Z0 E1.1) K2.1) K3.1) K4.1
  refine ⟨T4, h4, L4, k, bw, X4, e4, N4, Z4, g_bw, V4, fun target kt => ?_⟩
  refine qcg x0 x1 x2 y0 y1 yc len y2 g0 g1 g2 r X0 hx hby hr _ ?_
  refine st1 _ ?_
  exact qg0 x0 x1 x2 y0 y1 yc len y2 g0 g1 g2 bw X1 hx hby _ (st2 _ (qg1 x0 x1 x2 y0 y1 yc len y2 g0 g1 g2 bw X2 hx hby _ (st3 _ (qg2 x0 x1 x2 y0 y1 yc len y2 g0 g1 g2 bw X3 hx hby _ (st4 _ (qg3 x0 x1 x2 y0 y1 yc len y2 g0 g1 g2 bw X4 hx hby _ kt))))))

set_option maxRecDepth 65536 in
set_option maxHeartbeats 4000000 in
theorem qd0 {p : Program} {l : Launch} {e : Env} {R : Room} {s : State} {m : MethodId} {args : Array Value} {below : List Frame} {meth : Method} {c : Code} {T0 : State} {locs : List Loc} {cells slots : Nat} (x0 x1 x2 y0 y1 yc : Int64) (len : Int32) (y2 : Int64) (g0 g1 g2 : Int64) (m0 m1 m2 s0 s1 s2 : Int64) (bw : Addr)  (X0 : Stand p l e R s m args below meth c T0 locs cells slots) (hx : p.tables.exec = Jvm.exec) (hby : c.code = code) :
    ∀ target, Steps p.tables e below (T0.setTop (mkF m 192 (own_l27 x0 x1 x2 y0 y1 yc len y2 g0 g1 g2 m0 m1 m2 s0 s1 s2 bw) [(.int (3 : Int32))])) target → Steps p.tables e below (T0.setTop (mkF m 191 (own_l27 x0 x1 x2 y0 y1 yc len y2 g0 g1 g2 m0 m1 m2 s0 s1 s2 bw) [])) target := by
  intro target kt
  show Steps p.tables e below (T0.setTop (mkF m 191 (own_l27 x0 x1 x2 y0 y1 yc len y2 g0 g1 g2 m0 m1 m2 s0 s1 s2 bw) [])) _
  refine XS.iconst X0.here hx rfl (hb hby at_191) ?_
  exact kt

set_option maxRecDepth 65536 in
set_option maxHeartbeats 4000000 in
theorem qd1 {p : Program} {l : Launch} {e : Env} {R : Room} {s : State} {m : MethodId} {args : Array Value} {below : List Frame} {meth : Method} {c : Code} {T0 : State} {locs : List Loc} {cells slots : Nat} (x0 x1 x2 y0 y1 yc : Int64) (len : Int32) (y2 : Int64) (g0 g1 g2 : Int64) (m0 m1 m2 s0 s1 s2 : Int64) (bw : Addr) (bm : Addr)  (X0 : Stand p l e R s m args below meth c T0 locs cells slots) (hx : p.tables.exec = Jvm.exec) (hby : c.code = code) :
    ∀ target, Steps p.tables e below (T0.setTop (mkF m 198 (own_l27 x0 x1 x2 y0 y1 yc len y2 g0 g1 g2 m0 m1 m2 s0 s1 s2 bw) [(.long m0), (.int (0 : Int32)), (.ref bm), (.ref bm)])) target → Steps p.tables e below (T0.setTop (mkF m 194 (own_l27 x0 x1 x2 y0 y1 yc len y2 g0 g1 g2 m0 m1 m2 s0 s1 s2 bw) [(.ref bm)])) target := by
  intro target kt
  show Steps p.tables e below (T0.setTop (mkF m 194 (own_l27 x0 x1 x2 y0 y1 yc len y2 g0 g1 g2 m0 m1 m2 s0 s1 s2 bw) [(.ref bm)])) _
  refine XS.dup X0.here hx rfl (hb hby at_194) rfl rfl ?_
  show Steps p.tables e below (T0.setTop (mkF m 195 (own_l27 x0 x1 x2 y0 y1 yc len y2 g0 g1 g2 m0 m1 m2 s0 s1 s2 bw) [(.ref bm), (.ref bm)])) _
  refine XS.iconst X0.here hx rfl (hb hby at_195) ?_
  show Steps p.tables e below (T0.setTop (mkF m 196 (own_l27 x0 x1 x2 y0 y1 yc len y2 g0 g1 g2 m0 m1 m2 s0 s1 s2 bw) [(.int (0 : Int32)), (.ref bm), (.ref bm)])) _
  refine XS.lload X0.here hx rfl (hb hby at_196) rfl ?_
  exact kt

set_option maxRecDepth 65536 in
set_option maxHeartbeats 4000000 in
theorem qd2 {p : Program} {l : Launch} {e : Env} {R : Room} {s : State} {m : MethodId} {args : Array Value} {below : List Frame} {meth : Method} {c : Code} {T0 : State} {locs : List Loc} {cells slots : Nat} (x0 x1 x2 y0 y1 yc : Int64) (len : Int32) (y2 : Int64) (g0 g1 g2 : Int64) (m0 m1 m2 s0 s1 s2 : Int64) (bw : Addr) (bm : Addr)  (X0 : Stand p l e R s m args below meth c T0 locs cells slots) (hx : p.tables.exec = Jvm.exec) (hby : c.code = code) :
    ∀ target, Steps p.tables e below (T0.setTop (mkF m 203 (own_l27 x0 x1 x2 y0 y1 yc len y2 g0 g1 g2 m0 m1 m2 s0 s1 s2 bw) [(.long m1), (.int (1 : Int32)), (.ref bm), (.ref bm)])) target → Steps p.tables e below (T0.setTop (mkF m 199 (own_l27 x0 x1 x2 y0 y1 yc len y2 g0 g1 g2 m0 m1 m2 s0 s1 s2 bw) [(.ref bm)])) target := by
  intro target kt
  show Steps p.tables e below (T0.setTop (mkF m 199 (own_l27 x0 x1 x2 y0 y1 yc len y2 g0 g1 g2 m0 m1 m2 s0 s1 s2 bw) [(.ref bm)])) _
  refine XS.dup X0.here hx rfl (hb hby at_199) rfl rfl ?_
  show Steps p.tables e below (T0.setTop (mkF m 200 (own_l27 x0 x1 x2 y0 y1 yc len y2 g0 g1 g2 m0 m1 m2 s0 s1 s2 bw) [(.ref bm), (.ref bm)])) _
  refine XS.iconst X0.here hx rfl (hb hby at_200) ?_
  show Steps p.tables e below (T0.setTop (mkF m 201 (own_l27 x0 x1 x2 y0 y1 yc len y2 g0 g1 g2 m0 m1 m2 s0 s1 s2 bw) [(.int (1 : Int32)), (.ref bm), (.ref bm)])) _
  refine XS.lload X0.here hx rfl (hb hby at_201) rfl ?_
  exact kt

set_option maxRecDepth 65536 in
set_option maxHeartbeats 4000000 in
theorem qd3 {p : Program} {l : Launch} {e : Env} {R : Room} {s : State} {m : MethodId} {args : Array Value} {below : List Frame} {meth : Method} {c : Code} {T0 : State} {locs : List Loc} {cells slots : Nat} (x0 x1 x2 y0 y1 yc : Int64) (len : Int32) (y2 : Int64) (g0 g1 g2 : Int64) (m0 m1 m2 s0 s1 s2 : Int64) (bw : Addr) (bm : Addr)  (X0 : Stand p l e R s m args below meth c T0 locs cells slots) (hx : p.tables.exec = Jvm.exec) (hby : c.code = code) :
    ∀ target, Steps p.tables e below (T0.setTop (mkF m 208 (own_l27 x0 x1 x2 y0 y1 yc len y2 g0 g1 g2 m0 m1 m2 s0 s1 s2 bw) [(.long m2), (.int (2 : Int32)), (.ref bm), (.ref bm)])) target → Steps p.tables e below (T0.setTop (mkF m 204 (own_l27 x0 x1 x2 y0 y1 yc len y2 g0 g1 g2 m0 m1 m2 s0 s1 s2 bw) [(.ref bm)])) target := by
  intro target kt
  show Steps p.tables e below (T0.setTop (mkF m 204 (own_l27 x0 x1 x2 y0 y1 yc len y2 g0 g1 g2 m0 m1 m2 s0 s1 s2 bw) [(.ref bm)])) _
  refine XS.dup X0.here hx rfl (hb hby at_204) rfl rfl ?_
  show Steps p.tables e below (T0.setTop (mkF m 205 (own_l27 x0 x1 x2 y0 y1 yc len y2 g0 g1 g2 m0 m1 m2 s0 s1 s2 bw) [(.ref bm), (.ref bm)])) _
  refine XS.iconst X0.here hx rfl (hb hby at_205) ?_
  show Steps p.tables e below (T0.setTop (mkF m 206 (own_l27 x0 x1 x2 y0 y1 yc len y2 g0 g1 g2 m0 m1 m2 s0 s1 s2 bw) [(.int (2 : Int32)), (.ref bm), (.ref bm)])) _
  refine XS.lload X0.here hx rfl (hb hby at_206) rfl ?_
  exact kt

set_option maxRecDepth 65536 in
set_option maxHeartbeats 4000000 in
theorem qd4 {p : Program} {l : Launch} {e : Env} {R : Room} {s : State} {m : MethodId} {args : Array Value} {below : List Frame} {meth : Method} {c : Code} {T0 : State} {locs : List Loc} {cells slots : Nat} (x0 x1 x2 y0 y1 yc : Int64) (len : Int32) (y2 : Int64) (g0 g1 g2 : Int64) (m0 m1 m2 s0 s1 s2 : Int64) (bw : Addr) (bm : Addr)  (X0 : Stand p l e R s m args below meth c T0 locs cells slots) (hx : p.tables.exec = Jvm.exec) (hby : c.code = code) :
    ∀ target, Steps p.tables e below (T0.setTop (mkF m 217 (own_l28 x0 x1 x2 y0 y1 yc len y2 g0 g1 g2 m0 m1 m2 s0 s1 s2 bw bm) [(.int len), (.ref bw), (.ref bm)])) target → Steps p.tables e below (T0.setTop (mkF m 209 (own_l27 x0 x1 x2 y0 y1 yc len y2 g0 g1 g2 m0 m1 m2 s0 s1 s2 bw) [(.ref bm)])) target := by
  intro target kt
  show Steps p.tables e below (T0.setTop (mkF m 209 (own_l27 x0 x1 x2 y0 y1 yc len y2 g0 g1 g2 m0 m1 m2 s0 s1 s2 bw) [(.ref bm)])) _
  refine XS.astore X0.here hx rfl (hb hby at_209) rfl rfl (l' := (own_l28 x0 x1 x2 y0 y1 yc len y2 g0 g1 g2 m0 m1 m2 s0 s1 s2 bw bm)) rfl ?_
  show Steps p.tables e below (T0.setTop (mkF m 211 (own_l28 x0 x1 x2 y0 y1 yc len y2 g0 g1 g2 m0 m1 m2 s0 s1 s2 bw bm) [])) _
  refine XS.aload X0.here hx rfl (hb hby at_211) rfl rfl ?_
  show Steps p.tables e below (T0.setTop (mkF m 213 (own_l28 x0 x1 x2 y0 y1 yc len y2 g0 g1 g2 m0 m1 m2 s0 s1 s2 bw bm) [(.ref bm)])) _
  refine XS.aload X0.here hx rfl (hb hby at_213) rfl rfl ?_
  show Steps p.tables e below (T0.setTop (mkF m 215 (own_l28 x0 x1 x2 y0 y1 yc len y2 g0 g1 g2 m0 m1 m2 s0 s1 s2 bw bm) [(.ref bw), (.ref bm)])) _
  refine XS.iload X0.here hx rfl (hb hby at_215) rfl ?_
  exact kt

set_option maxRecDepth 65536 in
set_option maxHeartbeats 4000000 in
theorem qe1 {p : Program} {l : Launch} {e : Env} {R : Room} {s : State} {m : MethodId} {args : Array Value} {below : List Frame} {meth : Method} {c : Code} {T0 : State} {locs : List Loc} {cells slots : Nat} {Z : State} {h0 : Heap} {clW : Cell} (x0 x1 x2 y0 y1 yc : Int64) (len : Int32) (y2 : Int64) (g0 g1 g2 : Int64) (m0 m1 m2 s0 s1 s2 : Int64) (bw : Addr) (bm : Addr) (cnt : Int32) (w0 w1 w2 : Int64)  (X0 : Stand p l e R s m args below meth c T0 locs cells slots) (hx : p.tables.exec = Jvm.exec) (hby : c.code = code) (hZ : Z.Warmed39 s.vm) (e0 : T0.heap = h0) (ArW : Arr Z h0 bw clW .long) (SW : clW.slots.size = (3 : Int32).toNatClampNeg) (inW0 : ¬ ((0 : Int32) < 0 ∨ clW.slots.size ≤ (0 : Int32).toNatClampNeg)) (atW0 : clW.slots[(0 : Int32).toNatClampNeg]? = some (.long w0)) (inW1 : ¬ ((1 : Int32) < 0 ∨ clW.slots.size ≤ (1 : Int32).toNatClampNeg)) (atW1 : clW.slots[(1 : Int32).toNatClampNeg]? = some (.long w1)) (inW2 : ¬ ((2 : Int32) < 0 ∨ clW.slots.size ≤ (2 : Int32).toNatClampNeg)) (atW2 : clW.slots[(2 : Int32).toNatClampNeg]? = some (.long w2)) :
    ∀ target, Steps p.tables e below (T0.setTop (mkF m 240 (own_l32 x0 x1 x2 y0 y1 yc len y2 g0 g1 g2 m0 m1 m2 s0 s1 s2 bw bm cnt w0 w1 w2) [])) target → Steps p.tables e below (T0.setTop (mkF m 220 (own_l28 x0 x1 x2 y0 y1 yc len y2 g0 g1 g2 m0 m1 m2 s0 s1 s2 bw bm) [(.int cnt)])) target := by
  intro target kt
  show Steps p.tables e below (T0.setTop (mkF m 220 (own_l28 x0 x1 x2 y0 y1 yc len y2 g0 g1 g2 m0 m1 m2 s0 s1 s2 bw bm) [(.int cnt)])) _
  refine XS.istore X0.here hx rfl (hb hby at_220) rfl (l' := (own_l29 x0 x1 x2 y0 y1 yc len y2 g0 g1 g2 m0 m1 m2 s0 s1 s2 bw bm cnt)) rfl ?_
  show Steps p.tables e below (T0.setTop (mkF m 222 (own_l29 x0 x1 x2 y0 y1 yc len y2 g0 g1 g2 m0 m1 m2 s0 s1 s2 bw bm cnt) [])) _
  refine XS.aload X0.here hx rfl (hb hby at_222) rfl rfl ?_
  show Steps p.tables e below (T0.setTop (mkF m 224 (own_l29 x0 x1 x2 y0 y1 yc len y2 g0 g1 g2 m0 m1 m2 s0 s1 s2 bw bm cnt) [(.ref bw)])) _
  refine XS.iconst X0.here hx rfl (hb hby at_224) ?_
  show Steps p.tables e below (T0.setTop (mkF m 225 (own_l29 x0 x1 x2 y0 y1 yc len y2 g0 g1 g2 m0 m1 m2 s0 s1 s2 bw bm cnt) [(.int (0 : Int32)), (.ref bw)])) _
  refine X0.laload hx (j := (0 : Int32)) (v := (.long w0)) (by rw [e0]; exact ArW.1) (State.isArrayOf_alike hZ.alike ArW.2.1) ArW.2.2 inW0 atW0 (g := (mkF m 225 (own_l29 x0 x1 x2 y0 y1 yc len y2 g0 g1 g2 m0 m1 m2 s0 s1 s2 bw bm cnt) [(.int (0 : Int32)), (.ref bw)])) rfl rfl (hb hby at_225) _ ?_
  show Steps p.tables e below (T0.setTop (mkF m 226 (own_l29 x0 x1 x2 y0 y1 yc len y2 g0 g1 g2 m0 m1 m2 s0 s1 s2 bw bm cnt) [(.long w0)])) _
  refine XS.lstore X0.here hx rfl (hb hby at_226) rfl (l' := (own_l30 x0 x1 x2 y0 y1 yc len y2 g0 g1 g2 m0 m1 m2 s0 s1 s2 bw bm cnt w0)) rfl ?_
  show Steps p.tables e below (T0.setTop (mkF m 228 (own_l30 x0 x1 x2 y0 y1 yc len y2 g0 g1 g2 m0 m1 m2 s0 s1 s2 bw bm cnt w0) [])) _
  refine XS.aload X0.here hx rfl (hb hby at_228) rfl rfl ?_
  show Steps p.tables e below (T0.setTop (mkF m 230 (own_l30 x0 x1 x2 y0 y1 yc len y2 g0 g1 g2 m0 m1 m2 s0 s1 s2 bw bm cnt w0) [(.ref bw)])) _
  refine XS.iconst X0.here hx rfl (hb hby at_230) ?_
  show Steps p.tables e below (T0.setTop (mkF m 231 (own_l30 x0 x1 x2 y0 y1 yc len y2 g0 g1 g2 m0 m1 m2 s0 s1 s2 bw bm cnt w0) [(.int (1 : Int32)), (.ref bw)])) _
  refine X0.laload hx (j := (1 : Int32)) (v := (.long w1)) (by rw [e0]; exact ArW.1) (State.isArrayOf_alike hZ.alike ArW.2.1) ArW.2.2 inW1 atW1 (g := (mkF m 231 (own_l30 x0 x1 x2 y0 y1 yc len y2 g0 g1 g2 m0 m1 m2 s0 s1 s2 bw bm cnt w0) [(.int (1 : Int32)), (.ref bw)])) rfl rfl (hb hby at_231) _ ?_
  show Steps p.tables e below (T0.setTop (mkF m 232 (own_l30 x0 x1 x2 y0 y1 yc len y2 g0 g1 g2 m0 m1 m2 s0 s1 s2 bw bm cnt w0) [(.long w1)])) _
  refine XS.lstore X0.here hx rfl (hb hby at_232) rfl (l' := (own_l31 x0 x1 x2 y0 y1 yc len y2 g0 g1 g2 m0 m1 m2 s0 s1 s2 bw bm cnt w0 w1)) rfl ?_
  show Steps p.tables e below (T0.setTop (mkF m 234 (own_l31 x0 x1 x2 y0 y1 yc len y2 g0 g1 g2 m0 m1 m2 s0 s1 s2 bw bm cnt w0 w1) [])) _
  refine XS.aload X0.here hx rfl (hb hby at_234) rfl rfl ?_
  show Steps p.tables e below (T0.setTop (mkF m 236 (own_l31 x0 x1 x2 y0 y1 yc len y2 g0 g1 g2 m0 m1 m2 s0 s1 s2 bw bm cnt w0 w1) [(.ref bw)])) _
  refine XS.iconst X0.here hx rfl (hb hby at_236) ?_
  show Steps p.tables e below (T0.setTop (mkF m 237 (own_l31 x0 x1 x2 y0 y1 yc len y2 g0 g1 g2 m0 m1 m2 s0 s1 s2 bw bm cnt w0 w1) [(.int (2 : Int32)), (.ref bw)])) _
  refine X0.laload hx (j := (2 : Int32)) (v := (.long w2)) (by rw [e0]; exact ArW.1) (State.isArrayOf_alike hZ.alike ArW.2.1) ArW.2.2 inW2 atW2 (g := (mkF m 237 (own_l31 x0 x1 x2 y0 y1 yc len y2 g0 g1 g2 m0 m1 m2 s0 s1 s2 bw bm cnt w0 w1) [(.int (2 : Int32)), (.ref bw)])) rfl rfl (hb hby at_237) _ ?_
  show Steps p.tables e below (T0.setTop (mkF m 238 (own_l31 x0 x1 x2 y0 y1 yc len y2 g0 g1 g2 m0 m1 m2 s0 s1 s2 bw bm cnt w0 w1) [(.long w2)])) _
  refine XS.lstore X0.here hx rfl (hb hby at_238) rfl (l' := (own_l32 x0 x1 x2 y0 y1 yc len y2 g0 g1 g2 m0 m1 m2 s0 s1 s2 bw bm cnt w0 w1 w2)) rfl ?_
  exact kt

set_option maxRecDepth 65536 in
set_option maxHeartbeats 4000000 in
theorem qe2 {p : Program} {l : Launch} {e : Env} {R : Room} {s : State} {m : MethodId} {args : Array Value} {below : List Frame} {meth : Method} {c : Code} {T0 : State} {locs : List Loc} {cells slots : Nat} (x0 x1 x2 y0 y1 yc : Int64) (len : Int32) (y2 : Int64) (g0 g1 g2 : Int64) (m0 m1 m2 s0 s1 s2 : Int64) (bw : Addr) (bm : Addr) (cnt : Int32) (w0 w1 w2 : Int64)  (X0 : Stand p l e R s m args below meth c T0 locs cells slots) (hx : p.tables.exec = Jvm.exec) (hby : c.code = code) :
    ∀ target, Steps p.tables e below (T0.setTop (mkF m 251 (own_l33 x0 x1 x2 y0 y1 yc len y2 g0 g1 g2 m0 m1 m2 s0 s1 s2 bw bm cnt w0 w1 w2) [(.long w0), (.long (w0 + s0))])) target → Steps p.tables e below (T0.setTop (mkF m 240 (own_l32 x0 x1 x2 y0 y1 yc len y2 g0 g1 g2 m0 m1 m2 s0 s1 s2 bw bm cnt w0 w1 w2) [])) target := by
  intro target kt
  show Steps p.tables e below (T0.setTop (mkF m 240 (own_l32 x0 x1 x2 y0 y1 yc len y2 g0 g1 g2 m0 m1 m2 s0 s1 s2 bw bm cnt w0 w1 w2) [])) _
  refine XS.lload X0.here hx rfl (hb hby at_240) rfl ?_
  show Steps p.tables e below (T0.setTop (mkF m 242 (own_l32 x0 x1 x2 y0 y1 yc len y2 g0 g1 g2 m0 m1 m2 s0 s1 s2 bw bm cnt w0 w1 w2) [(.long w0)])) _
  refine XS.lload X0.here hx rfl (hb hby at_242) rfl ?_
  show Steps p.tables e below (T0.setTop (mkF m 244 (own_l32 x0 x1 x2 y0 y1 yc len y2 g0 g1 g2 m0 m1 m2 s0 s1 s2 bw bm cnt w0 w1 w2) [(.long s0), (.long w0)])) _
  refine XS.ladd X0.here hx rfl (hb hby at_244) rfl ?_
  show Steps p.tables e below (T0.setTop (mkF m 245 (own_l32 x0 x1 x2 y0 y1 yc len y2 g0 g1 g2 m0 m1 m2 s0 s1 s2 bw bm cnt w0 w1 w2) [(.long (w0 + s0))])) _
  refine XS.lstore X0.here hx rfl (hb hby at_245) rfl (l' := (own_l33 x0 x1 x2 y0 y1 yc len y2 g0 g1 g2 m0 m1 m2 s0 s1 s2 bw bm cnt w0 w1 w2)) rfl ?_
  show Steps p.tables e below (T0.setTop (mkF m 247 (own_l33 x0 x1 x2 y0 y1 yc len y2 g0 g1 g2 m0 m1 m2 s0 s1 s2 bw bm cnt w0 w1 w2) [])) _
  refine XS.lload X0.here hx rfl (hb hby at_247) rfl ?_
  show Steps p.tables e below (T0.setTop (mkF m 249 (own_l33 x0 x1 x2 y0 y1 yc len y2 g0 g1 g2 m0 m1 m2 s0 s1 s2 bw bm cnt w0 w1 w2) [(.long (w0 + s0))])) _
  refine XS.lload X0.here hx rfl (hb hby at_249) rfl ?_
  exact kt

set_option maxRecDepth 65536 in
set_option maxHeartbeats 4000000 in
theorem qe3_f {p : Program} {l : Launch} {e : Env} {R : Room} {s : State} {m : MethodId} {args : Array Value} {below : List Frame} {meth : Method} {c : Code} {T0 : State} {locs : List Loc} {cells slots : Nat} (x0 x1 x2 y0 y1 yc : Int64) (len : Int32) (y2 : Int64) (g0 g1 g2 : Int64) (m0 m1 m2 s0 s1 s2 : Int64) (bw : Addr) (bm : Addr) (cnt : Int32) (w0 w1 w2 : Int64) (b0 : Int32) (c0 : Int64) (X0 : Stand p l e R s m args below meth c T0 locs cells slots) (hx : p.tables.exec = Jvm.exec) (hby : c.code = code) (hc254 : ¬ (b0 = (0 : Int32))) (h_c0 : c0 = (1 : Int64)) :
    ∀ target, Steps p.tables e below (T0.setTop (mkF m 264 (own_l35 x0 x1 x2 y0 y1 yc len y2 g0 g1 g2 m0 m1 m2 s0 s1 s2 bw bm cnt w0 w1 w2 c0) [])) target → Steps p.tables e below (T0.setTop (mkF m 254 (own_l33 x0 x1 x2 y0 y1 yc len y2 g0 g1 g2 m0 m1 m2 s0 s1 s2 bw bm cnt w0 w1 w2) [(.int b0)])) target := by
  intro target kt
  rw [h_c0] at kt
  show Steps p.tables e below (T0.setTop (mkF m 254 (own_l33 x0 x1 x2 y0 y1 yc len y2 g0 g1 g2 m0 m1 m2 s0 s1 s2 bw bm cnt w0 w1 w2) [(.int b0)])) _
  refine XS.ifNo X0.here hx rfl (hb hby at_254) rfl ((if0 _ _).trans (feq (hc254 : ¬ (b0 = (0 : Int32)))).1) ?_
  show Steps p.tables e below (T0.setTop (mkF m 257 (own_l33 x0 x1 x2 y0 y1 yc len y2 g0 g1 g2 m0 m1 m2 s0 s1 s2 bw bm cnt w0 w1 w2) [])) _
  refine XS.lconst X0.here hx rfl (hb hby at_257) ?_
  show Steps p.tables e below (T0.setTop (mkF m 258 (own_l33 x0 x1 x2 y0 y1 yc len y2 g0 g1 g2 m0 m1 m2 s0 s1 s2 bw bm cnt w0 w1 w2) [(.long (1 : Int64))])) _
  refine XS.goto X0.here hx rfl (pc0 := 258) (pc' := 262) rfl (hb hby at_258) (by decide) (by decide) ?_
  show Steps p.tables e below (T0.setTop (mkF m 262 (own_l33 x0 x1 x2 y0 y1 yc len y2 g0 g1 g2 m0 m1 m2 s0 s1 s2 bw bm cnt w0 w1 w2) [(.long (1 : Int64))])) _
  refine XS.lstore X0.here hx rfl (hb hby at_262) rfl (l' := (own_l34 x0 x1 x2 y0 y1 yc len y2 g0 g1 g2 m0 m1 m2 s0 s1 s2 bw bm cnt w0 w1 w2)) rfl ?_
  exact kt

set_option maxRecDepth 65536 in
set_option maxHeartbeats 4000000 in
theorem qe3_t {p : Program} {l : Launch} {e : Env} {R : Room} {s : State} {m : MethodId} {args : Array Value} {below : List Frame} {meth : Method} {c : Code} {T0 : State} {locs : List Loc} {cells slots : Nat} (x0 x1 x2 y0 y1 yc : Int64) (len : Int32) (y2 : Int64) (g0 g1 g2 : Int64) (m0 m1 m2 s0 s1 s2 : Int64) (bw : Addr) (bm : Addr) (cnt : Int32) (w0 w1 w2 : Int64) (b0 : Int32) (c0 : Int64) (X0 : Stand p l e R s m args below meth c T0 locs cells slots) (hx : p.tables.exec = Jvm.exec) (hby : c.code = code) (hc254 : b0 = (0 : Int32)) (h_c0 : c0 = (0 : Int64)) :
    ∀ target, Steps p.tables e below (T0.setTop (mkF m 264 (own_l35 x0 x1 x2 y0 y1 yc len y2 g0 g1 g2 m0 m1 m2 s0 s1 s2 bw bm cnt w0 w1 w2 c0) [])) target → Steps p.tables e below (T0.setTop (mkF m 254 (own_l33 x0 x1 x2 y0 y1 yc len y2 g0 g1 g2 m0 m1 m2 s0 s1 s2 bw bm cnt w0 w1 w2) [(.int b0)])) target := by
  intro target kt
  rw [h_c0] at kt
  show Steps p.tables e below (T0.setTop (mkF m 254 (own_l33 x0 x1 x2 y0 y1 yc len y2 g0 g1 g2 m0 m1 m2 s0 s1 s2 bw bm cnt w0 w1 w2) [(.int b0)])) _
  refine XS.ifYes X0.here hx rfl (pc0 := 254) (pc' := 261) rfl (hb hby at_254) rfl ((if0 _ _).trans (teq (hc254 : b0 = (0 : Int32))).1) (by decide) (by decide) ?_
  show Steps p.tables e below (T0.setTop (mkF m 261 (own_l33 x0 x1 x2 y0 y1 yc len y2 g0 g1 g2 m0 m1 m2 s0 s1 s2 bw bm cnt w0 w1 w2) [])) _
  refine XS.lconst X0.here hx rfl (hb hby at_261) ?_
  show Steps p.tables e below (T0.setTop (mkF m 262 (own_l33 x0 x1 x2 y0 y1 yc len y2 g0 g1 g2 m0 m1 m2 s0 s1 s2 bw bm cnt w0 w1 w2) [(.long (0 : Int64))])) _
  refine XS.lstore X0.here hx rfl (hb hby at_262) rfl (l' := (own_l36 x0 x1 x2 y0 y1 yc len y2 g0 g1 g2 m0 m1 m2 s0 s1 s2 bw bm cnt w0 w1 w2)) rfl ?_
  exact kt

set_option maxRecDepth 65536 in
set_option maxHeartbeats 4000000 in
theorem qe4 {p : Program} {l : Launch} {e : Env} {R : Room} {s : State} {m : MethodId} {args : Array Value} {below : List Frame} {meth : Method} {c : Code} {T0 : State} {locs : List Loc} {cells slots : Nat} (x0 x1 x2 y0 y1 yc : Int64) (len : Int32) (y2 : Int64) (g0 g1 g2 : Int64) (m0 m1 m2 s0 s1 s2 : Int64) (bw : Addr) (bm : Addr) (cnt : Int32) (w0 w1 w2 : Int64) (c0 : Int64)  (X0 : Stand p l e R s m args below meth c T0 locs cells slots) (hx : p.tables.exec = Jvm.exec) (hby : c.code = code) :
    ∀ target, Steps p.tables e below (T0.setTop (mkF m 275 (own_l37 x0 x1 x2 y0 y1 yc len y2 g0 g1 g2 m0 m1 m2 s0 s1 s2 bw bm cnt w0 w1 w2 c0) [(.long w1), (.long (w1 + s1))])) target → Steps p.tables e below (T0.setTop (mkF m 264 (own_l35 x0 x1 x2 y0 y1 yc len y2 g0 g1 g2 m0 m1 m2 s0 s1 s2 bw bm cnt w0 w1 w2 c0) [])) target := by
  intro target kt
  show Steps p.tables e below (T0.setTop (mkF m 264 (own_l35 x0 x1 x2 y0 y1 yc len y2 g0 g1 g2 m0 m1 m2 s0 s1 s2 bw bm cnt w0 w1 w2 c0) [])) _
  refine XS.lload X0.here hx rfl (hb hby at_264) rfl ?_
  show Steps p.tables e below (T0.setTop (mkF m 266 (own_l35 x0 x1 x2 y0 y1 yc len y2 g0 g1 g2 m0 m1 m2 s0 s1 s2 bw bm cnt w0 w1 w2 c0) [(.long w1)])) _
  refine XS.lload X0.here hx rfl (hb hby at_266) rfl ?_
  show Steps p.tables e below (T0.setTop (mkF m 268 (own_l35 x0 x1 x2 y0 y1 yc len y2 g0 g1 g2 m0 m1 m2 s0 s1 s2 bw bm cnt w0 w1 w2 c0) [(.long s1), (.long w1)])) _
  refine XS.ladd X0.here hx rfl (hb hby at_268) rfl ?_
  show Steps p.tables e below (T0.setTop (mkF m 269 (own_l35 x0 x1 x2 y0 y1 yc len y2 g0 g1 g2 m0 m1 m2 s0 s1 s2 bw bm cnt w0 w1 w2 c0) [(.long (w1 + s1))])) _
  refine XS.lstore X0.here hx rfl (hb hby at_269) rfl (l' := (own_l37 x0 x1 x2 y0 y1 yc len y2 g0 g1 g2 m0 m1 m2 s0 s1 s2 bw bm cnt w0 w1 w2 c0)) rfl ?_
  show Steps p.tables e below (T0.setTop (mkF m 271 (own_l37 x0 x1 x2 y0 y1 yc len y2 g0 g1 g2 m0 m1 m2 s0 s1 s2 bw bm cnt w0 w1 w2 c0) [])) _
  refine XS.lload X0.here hx rfl (hb hby at_271) rfl ?_
  show Steps p.tables e below (T0.setTop (mkF m 273 (own_l37 x0 x1 x2 y0 y1 yc len y2 g0 g1 g2 m0 m1 m2 s0 s1 s2 bw bm cnt w0 w1 w2 c0) [(.long (w1 + s1))])) _
  refine XS.lload X0.here hx rfl (hb hby at_273) rfl ?_
  exact kt

set_option maxRecDepth 65536 in
set_option maxHeartbeats 4000000 in
theorem qe5 {p : Program} {l : Launch} {e : Env} {R : Room} {s : State} {m : MethodId} {args : Array Value} {below : List Frame} {meth : Method} {c : Code} {T0 : State} {locs : List Loc} {cells slots : Nat} (x0 x1 x2 y0 y1 yc : Int64) (len : Int32) (y2 : Int64) (g0 g1 g2 : Int64) (m0 m1 m2 s0 s1 s2 : Int64) (bw : Addr) (bm : Addr) (cnt : Int32) (w0 w1 w2 : Int64) (c0 : Int64) (ca : Int32)  (X0 : Stand p l e R s m args below meth c T0 locs cells slots) (hx : p.tables.exec = Jvm.exec) (hby : c.code = code) :
    ∀ target, Steps p.tables e below (T0.setTop (mkF m 287 (own_l39 x0 x1 x2 y0 y1 yc len y2 g0 g1 g2 m0 m1 m2 s0 s1 s2 bw bm cnt w0 w1 w2 c0 ca) [])) target → Steps p.tables e below (T0.setTop (mkF m 278 (own_l37 x0 x1 x2 y0 y1 yc len y2 g0 g1 g2 m0 m1 m2 s0 s1 s2 bw bm cnt w0 w1 w2 c0) [(.int ca)])) target := by
  intro target kt
  show Steps p.tables e below (T0.setTop (mkF m 278 (own_l37 x0 x1 x2 y0 y1 yc len y2 g0 g1 g2 m0 m1 m2 s0 s1 s2 bw bm cnt w0 w1 w2 c0) [(.int ca)])) _
  refine XS.istore X0.here hx rfl (hb hby at_278) rfl (l' := (own_l38 x0 x1 x2 y0 y1 yc len y2 g0 g1 g2 m0 m1 m2 s0 s1 s2 bw bm cnt w0 w1 w2 c0 ca)) rfl ?_
  show Steps p.tables e below (T0.setTop (mkF m 280 (own_l38 x0 x1 x2 y0 y1 yc len y2 g0 g1 g2 m0 m1 m2 s0 s1 s2 bw bm cnt w0 w1 w2 c0 ca) [])) _
  refine XS.lload X0.here hx rfl (hb hby at_280) rfl ?_
  show Steps p.tables e below (T0.setTop (mkF m 282 (own_l38 x0 x1 x2 y0 y1 yc len y2 g0 g1 g2 m0 m1 m2 s0 s1 s2 bw bm cnt w0 w1 w2 c0 ca) [(.long (w1 + s1))])) _
  refine XS.lload X0.here hx rfl (hb hby at_282) rfl ?_
  show Steps p.tables e below (T0.setTop (mkF m 284 (own_l38 x0 x1 x2 y0 y1 yc len y2 g0 g1 g2 m0 m1 m2 s0 s1 s2 bw bm cnt w0 w1 w2 c0 ca) [(.long c0), (.long (w1 + s1))])) _
  refine XS.ladd X0.here hx rfl (hb hby at_284) rfl ?_
  show Steps p.tables e below (T0.setTop (mkF m 285 (own_l38 x0 x1 x2 y0 y1 yc len y2 g0 g1 g2 m0 m1 m2 s0 s1 s2 bw bm cnt w0 w1 w2 c0 ca) [(.long ((w1 + s1) + c0))])) _
  refine XS.lstore X0.here hx rfl (hb hby at_285) rfl (l' := (own_l39 x0 x1 x2 y0 y1 yc len y2 g0 g1 g2 m0 m1 m2 s0 s1 s2 bw bm cnt w0 w1 w2 c0 ca)) rfl ?_
  exact kt

set_option maxRecDepth 65536 in
set_option maxHeartbeats 4000000 in
theorem qe6_t {p : Program} {l : Launch} {e : Env} {R : Room} {s : State} {m : MethodId} {args : Array Value} {below : List Frame} {meth : Method} {c : Code} {T0 : State} {locs : List Loc} {cells slots : Nat} (x0 x1 x2 y0 y1 yc : Int64) (len : Int32) (y2 : Int64) (g0 g1 g2 : Int64) (m0 m1 m2 s0 s1 s2 : Int64) (bw : Addr) (bm : Addr) (cnt : Int32) (w0 w1 w2 : Int64) (c0 : Int64) (ca : Int32) (cb : Int32) (X0 : Stand p l e R s m args below meth c T0 locs cells slots) (hx : p.tables.exec = Jvm.exec) (hby : c.code = code) (hc291 : ¬ ((lcmpW c0 (1 : Int64)) = (0 : Int32))) (h_cb : cb = (0 : Int32)) :
    ∀ target, Steps p.tables e below (T0.setTop (mkF m 308 (own_l41 x0 x1 x2 y0 y1 yc len y2 g0 g1 g2 m0 m1 m2 s0 s1 s2 bw bm cnt w0 w1 w2 c0 ca cb) [])) target → Steps p.tables e below (T0.setTop (mkF m 287 (own_l39 x0 x1 x2 y0 y1 yc len y2 g0 g1 g2 m0 m1 m2 s0 s1 s2 bw bm cnt w0 w1 w2 c0 ca) [])) target := by
  intro target kt
  rw [h_cb] at kt
  show Steps p.tables e below (T0.setTop (mkF m 287 (own_l39 x0 x1 x2 y0 y1 yc len y2 g0 g1 g2 m0 m1 m2 s0 s1 s2 bw bm cnt w0 w1 w2 c0 ca) [])) _
  refine XS.lload X0.here hx rfl (hb hby at_287) rfl ?_
  show Steps p.tables e below (T0.setTop (mkF m 289 (own_l39 x0 x1 x2 y0 y1 yc len y2 g0 g1 g2 m0 m1 m2 s0 s1 s2 bw bm cnt w0 w1 w2 c0 ca) [(.long c0)])) _
  refine XS.lconst X0.here hx rfl (hb hby at_289) ?_
  show Steps p.tables e below (T0.setTop (mkF m 290 (own_l39 x0 x1 x2 y0 y1 yc len y2 g0 g1 g2 m0 m1 m2 s0 s1 s2 bw bm cnt w0 w1 w2 c0 ca) [(.long (1 : Int64)), (.long c0)])) _
  refine XS.lcmp X0.here hx rfl (hb hby at_290) rfl ?_
  show Steps p.tables e below (T0.setTop (mkF m 291 (own_l39 x0 x1 x2 y0 y1 yc len y2 g0 g1 g2 m0 m1 m2 s0 s1 s2 bw bm cnt w0 w1 w2 c0 ca) [(.int (lcmpW c0 (1 : Int64)))])) _
  refine XS.ifYes X0.here hx rfl (pc0 := 291) (pc' := 305) rfl (hb hby at_291) rfl ((if0 _ _).trans (feq (hc291 : ¬ ((lcmpW c0 (1 : Int64)) = (0 : Int32)))).2) (by decide) (by decide) ?_
  show Steps p.tables e below (T0.setTop (mkF m 305 (own_l39 x0 x1 x2 y0 y1 yc len y2 g0 g1 g2 m0 m1 m2 s0 s1 s2 bw bm cnt w0 w1 w2 c0 ca) [])) _
  refine XS.iconst X0.here hx rfl (hb hby at_305) ?_
  show Steps p.tables e below (T0.setTop (mkF m 306 (own_l39 x0 x1 x2 y0 y1 yc len y2 g0 g1 g2 m0 m1 m2 s0 s1 s2 bw bm cnt w0 w1 w2 c0 ca) [(.int (0 : Int32))])) _
  refine XS.istore X0.here hx rfl (hb hby at_306) rfl (l' := (own_l40 x0 x1 x2 y0 y1 yc len y2 g0 g1 g2 m0 m1 m2 s0 s1 s2 bw bm cnt w0 w1 w2 c0 ca)) rfl ?_
  exact kt

set_option maxRecDepth 65536 in
set_option maxHeartbeats 4000000 in
theorem qe6_ft {p : Program} {l : Launch} {e : Env} {R : Room} {s : State} {m : MethodId} {args : Array Value} {below : List Frame} {meth : Method} {c : Code} {T0 : State} {locs : List Loc} {cells slots : Nat} (x0 x1 x2 y0 y1 yc : Int64) (len : Int32) (y2 : Int64) (g0 g1 g2 : Int64) (m0 m1 m2 s0 s1 s2 : Int64) (bw : Addr) (bm : Addr) (cnt : Int32) (w0 w1 w2 : Int64) (c0 : Int64) (ca : Int32) (cb : Int32) (X0 : Stand p l e R s m args below meth c T0 locs cells slots) (hx : p.tables.exec = Jvm.exec) (hby : c.code = code) (hc291 : (lcmpW c0 (1 : Int64)) = (0 : Int32)) (hc298 : ¬ ((lcmpW ((w1 + s1) + c0) (0 : Int64)) = (0 : Int32))) (h_cb : cb = (0 : Int32)) :
    ∀ target, Steps p.tables e below (T0.setTop (mkF m 308 (own_l41 x0 x1 x2 y0 y1 yc len y2 g0 g1 g2 m0 m1 m2 s0 s1 s2 bw bm cnt w0 w1 w2 c0 ca cb) [])) target → Steps p.tables e below (T0.setTop (mkF m 287 (own_l39 x0 x1 x2 y0 y1 yc len y2 g0 g1 g2 m0 m1 m2 s0 s1 s2 bw bm cnt w0 w1 w2 c0 ca) [])) target := by
  intro target kt
  rw [h_cb] at kt
  show Steps p.tables e below (T0.setTop (mkF m 287 (own_l39 x0 x1 x2 y0 y1 yc len y2 g0 g1 g2 m0 m1 m2 s0 s1 s2 bw bm cnt w0 w1 w2 c0 ca) [])) _
  refine XS.lload X0.here hx rfl (hb hby at_287) rfl ?_
  show Steps p.tables e below (T0.setTop (mkF m 289 (own_l39 x0 x1 x2 y0 y1 yc len y2 g0 g1 g2 m0 m1 m2 s0 s1 s2 bw bm cnt w0 w1 w2 c0 ca) [(.long c0)])) _
  refine XS.lconst X0.here hx rfl (hb hby at_289) ?_
  show Steps p.tables e below (T0.setTop (mkF m 290 (own_l39 x0 x1 x2 y0 y1 yc len y2 g0 g1 g2 m0 m1 m2 s0 s1 s2 bw bm cnt w0 w1 w2 c0 ca) [(.long (1 : Int64)), (.long c0)])) _
  refine XS.lcmp X0.here hx rfl (hb hby at_290) rfl ?_
  show Steps p.tables e below (T0.setTop (mkF m 291 (own_l39 x0 x1 x2 y0 y1 yc len y2 g0 g1 g2 m0 m1 m2 s0 s1 s2 bw bm cnt w0 w1 w2 c0 ca) [(.int (lcmpW c0 (1 : Int64)))])) _
  refine XS.ifNo X0.here hx rfl (hb hby at_291) rfl ((if0 _ _).trans (teq (hc291 : (lcmpW c0 (1 : Int64)) = (0 : Int32))).2) ?_
  show Steps p.tables e below (T0.setTop (mkF m 294 (own_l39 x0 x1 x2 y0 y1 yc len y2 g0 g1 g2 m0 m1 m2 s0 s1 s2 bw bm cnt w0 w1 w2 c0 ca) [])) _
  refine XS.lload X0.here hx rfl (hb hby at_294) rfl ?_
  show Steps p.tables e below (T0.setTop (mkF m 296 (own_l39 x0 x1 x2 y0 y1 yc len y2 g0 g1 g2 m0 m1 m2 s0 s1 s2 bw bm cnt w0 w1 w2 c0 ca) [(.long ((w1 + s1) + c0))])) _
  refine XS.lconst X0.here hx rfl (hb hby at_296) ?_
  show Steps p.tables e below (T0.setTop (mkF m 297 (own_l39 x0 x1 x2 y0 y1 yc len y2 g0 g1 g2 m0 m1 m2 s0 s1 s2 bw bm cnt w0 w1 w2 c0 ca) [(.long (0 : Int64)), (.long ((w1 + s1) + c0))])) _
  refine XS.lcmp X0.here hx rfl (hb hby at_297) rfl ?_
  show Steps p.tables e below (T0.setTop (mkF m 298 (own_l39 x0 x1 x2 y0 y1 yc len y2 g0 g1 g2 m0 m1 m2 s0 s1 s2 bw bm cnt w0 w1 w2 c0 ca) [(.int (lcmpW ((w1 + s1) + c0) (0 : Int64)))])) _
  refine XS.ifYes X0.here hx rfl (pc0 := 298) (pc' := 305) rfl (hb hby at_298) rfl ((if0 _ _).trans (feq (hc298 : ¬ ((lcmpW ((w1 + s1) + c0) (0 : Int64)) = (0 : Int32)))).2) (by decide) (by decide) ?_
  show Steps p.tables e below (T0.setTop (mkF m 305 (own_l39 x0 x1 x2 y0 y1 yc len y2 g0 g1 g2 m0 m1 m2 s0 s1 s2 bw bm cnt w0 w1 w2 c0 ca) [])) _
  refine XS.iconst X0.here hx rfl (hb hby at_305) ?_
  show Steps p.tables e below (T0.setTop (mkF m 306 (own_l39 x0 x1 x2 y0 y1 yc len y2 g0 g1 g2 m0 m1 m2 s0 s1 s2 bw bm cnt w0 w1 w2 c0 ca) [(.int (0 : Int32))])) _
  refine XS.istore X0.here hx rfl (hb hby at_306) rfl (l' := (own_l40 x0 x1 x2 y0 y1 yc len y2 g0 g1 g2 m0 m1 m2 s0 s1 s2 bw bm cnt w0 w1 w2 c0 ca)) rfl ?_
  exact kt

set_option maxRecDepth 65536 in
set_option maxHeartbeats 4000000 in
theorem qe6_ff {p : Program} {l : Launch} {e : Env} {R : Room} {s : State} {m : MethodId} {args : Array Value} {below : List Frame} {meth : Method} {c : Code} {T0 : State} {locs : List Loc} {cells slots : Nat} (x0 x1 x2 y0 y1 yc : Int64) (len : Int32) (y2 : Int64) (g0 g1 g2 : Int64) (m0 m1 m2 s0 s1 s2 : Int64) (bw : Addr) (bm : Addr) (cnt : Int32) (w0 w1 w2 : Int64) (c0 : Int64) (ca : Int32) (cb : Int32) (X0 : Stand p l e R s m args below meth c T0 locs cells slots) (hx : p.tables.exec = Jvm.exec) (hby : c.code = code) (hc291 : (lcmpW c0 (1 : Int64)) = (0 : Int32)) (hc298 : (lcmpW ((w1 + s1) + c0) (0 : Int64)) = (0 : Int32)) (h_cb : cb = (1 : Int32)) :
    ∀ target, Steps p.tables e below (T0.setTop (mkF m 308 (own_l41 x0 x1 x2 y0 y1 yc len y2 g0 g1 g2 m0 m1 m2 s0 s1 s2 bw bm cnt w0 w1 w2 c0 ca cb) [])) target → Steps p.tables e below (T0.setTop (mkF m 287 (own_l39 x0 x1 x2 y0 y1 yc len y2 g0 g1 g2 m0 m1 m2 s0 s1 s2 bw bm cnt w0 w1 w2 c0 ca) [])) target := by
  intro target kt
  rw [h_cb] at kt
  show Steps p.tables e below (T0.setTop (mkF m 287 (own_l39 x0 x1 x2 y0 y1 yc len y2 g0 g1 g2 m0 m1 m2 s0 s1 s2 bw bm cnt w0 w1 w2 c0 ca) [])) _
  refine XS.lload X0.here hx rfl (hb hby at_287) rfl ?_
  show Steps p.tables e below (T0.setTop (mkF m 289 (own_l39 x0 x1 x2 y0 y1 yc len y2 g0 g1 g2 m0 m1 m2 s0 s1 s2 bw bm cnt w0 w1 w2 c0 ca) [(.long c0)])) _
  refine XS.lconst X0.here hx rfl (hb hby at_289) ?_
  show Steps p.tables e below (T0.setTop (mkF m 290 (own_l39 x0 x1 x2 y0 y1 yc len y2 g0 g1 g2 m0 m1 m2 s0 s1 s2 bw bm cnt w0 w1 w2 c0 ca) [(.long (1 : Int64)), (.long c0)])) _
  refine XS.lcmp X0.here hx rfl (hb hby at_290) rfl ?_
  show Steps p.tables e below (T0.setTop (mkF m 291 (own_l39 x0 x1 x2 y0 y1 yc len y2 g0 g1 g2 m0 m1 m2 s0 s1 s2 bw bm cnt w0 w1 w2 c0 ca) [(.int (lcmpW c0 (1 : Int64)))])) _
  refine XS.ifNo X0.here hx rfl (hb hby at_291) rfl ((if0 _ _).trans (teq (hc291 : (lcmpW c0 (1 : Int64)) = (0 : Int32))).2) ?_
  show Steps p.tables e below (T0.setTop (mkF m 294 (own_l39 x0 x1 x2 y0 y1 yc len y2 g0 g1 g2 m0 m1 m2 s0 s1 s2 bw bm cnt w0 w1 w2 c0 ca) [])) _
  refine XS.lload X0.here hx rfl (hb hby at_294) rfl ?_
  show Steps p.tables e below (T0.setTop (mkF m 296 (own_l39 x0 x1 x2 y0 y1 yc len y2 g0 g1 g2 m0 m1 m2 s0 s1 s2 bw bm cnt w0 w1 w2 c0 ca) [(.long ((w1 + s1) + c0))])) _
  refine XS.lconst X0.here hx rfl (hb hby at_296) ?_
  show Steps p.tables e below (T0.setTop (mkF m 297 (own_l39 x0 x1 x2 y0 y1 yc len y2 g0 g1 g2 m0 m1 m2 s0 s1 s2 bw bm cnt w0 w1 w2 c0 ca) [(.long (0 : Int64)), (.long ((w1 + s1) + c0))])) _
  refine XS.lcmp X0.here hx rfl (hb hby at_297) rfl ?_
  show Steps p.tables e below (T0.setTop (mkF m 298 (own_l39 x0 x1 x2 y0 y1 yc len y2 g0 g1 g2 m0 m1 m2 s0 s1 s2 bw bm cnt w0 w1 w2 c0 ca) [(.int (lcmpW ((w1 + s1) + c0) (0 : Int64)))])) _
  refine XS.ifNo X0.here hx rfl (hb hby at_298) rfl ((if0 _ _).trans (teq (hc298 : (lcmpW ((w1 + s1) + c0) (0 : Int64)) = (0 : Int32))).2) ?_
  show Steps p.tables e below (T0.setTop (mkF m 301 (own_l39 x0 x1 x2 y0 y1 yc len y2 g0 g1 g2 m0 m1 m2 s0 s1 s2 bw bm cnt w0 w1 w2 c0 ca) [])) _
  refine XS.iconst X0.here hx rfl (hb hby at_301) ?_
  show Steps p.tables e below (T0.setTop (mkF m 302 (own_l39 x0 x1 x2 y0 y1 yc len y2 g0 g1 g2 m0 m1 m2 s0 s1 s2 bw bm cnt w0 w1 w2 c0 ca) [(.int (1 : Int32))])) _
  refine XS.goto X0.here hx rfl (pc0 := 302) (pc' := 306) rfl (hb hby at_302) (by decide) (by decide) ?_
  show Steps p.tables e below (T0.setTop (mkF m 306 (own_l39 x0 x1 x2 y0 y1 yc len y2 g0 g1 g2 m0 m1 m2 s0 s1 s2 bw bm cnt w0 w1 w2 c0 ca) [(.int (1 : Int32))])) _
  refine XS.istore X0.here hx rfl (hb hby at_306) rfl (l' := (own_l42 x0 x1 x2 y0 y1 yc len y2 g0 g1 g2 m0 m1 m2 s0 s1 s2 bw bm cnt w0 w1 w2 c0 ca)) rfl ?_
  exact kt

set_option maxRecDepth 65536 in
set_option maxHeartbeats 4000000 in
theorem qe7_t {p : Program} {l : Launch} {e : Env} {R : Room} {s : State} {m : MethodId} {args : Array Value} {below : List Frame} {meth : Method} {c : Code} {T0 : State} {locs : List Loc} {cells slots : Nat} (x0 x1 x2 y0 y1 yc : Int64) (len : Int32) (y2 : Int64) (g0 g1 g2 : Int64) (m0 m1 m2 s0 s1 s2 : Int64) (bw : Addr) (bm : Addr) (cnt : Int32) (w0 w1 w2 : Int64) (c0 : Int64) (ca : Int32) (cb : Int32) (c1 : Int64) (X0 : Stand p l e R s m args below meth c T0 locs cells slots) (hx : p.tables.exec = Jvm.exec) (hby : c.code = code) (hc310 : ¬ (ca = (0 : Int32))) (h_c1 : c1 = (1 : Int64)) :
    ∀ target, Steps p.tables e below (T0.setTop (mkF m 325 (own_l44 x0 x1 x2 y0 y1 yc len y2 g0 g1 g2 m0 m1 m2 s0 s1 s2 bw bm cnt w0 w1 w2 c0 ca cb c1) [])) target → Steps p.tables e below (T0.setTop (mkF m 308 (own_l41 x0 x1 x2 y0 y1 yc len y2 g0 g1 g2 m0 m1 m2 s0 s1 s2 bw bm cnt w0 w1 w2 c0 ca cb) [])) target := by
  intro target kt
  rw [h_c1] at kt
  show Steps p.tables e below (T0.setTop (mkF m 308 (own_l41 x0 x1 x2 y0 y1 yc len y2 g0 g1 g2 m0 m1 m2 s0 s1 s2 bw bm cnt w0 w1 w2 c0 ca cb) [])) _
  refine XS.iload X0.here hx rfl (hb hby at_308) rfl ?_
  show Steps p.tables e below (T0.setTop (mkF m 310 (own_l41 x0 x1 x2 y0 y1 yc len y2 g0 g1 g2 m0 m1 m2 s0 s1 s2 bw bm cnt w0 w1 w2 c0 ca cb) [(.int ca)])) _
  refine XS.ifYes X0.here hx rfl (pc0 := 310) (pc' := 318) rfl (hb hby at_310) rfl ((if0 _ _).trans (feq (hc310 : ¬ (ca = (0 : Int32)))).2) (by decide) (by decide) ?_
  show Steps p.tables e below (T0.setTop (mkF m 318 (own_l41 x0 x1 x2 y0 y1 yc len y2 g0 g1 g2 m0 m1 m2 s0 s1 s2 bw bm cnt w0 w1 w2 c0 ca cb) [])) _
  refine XS.lconst X0.here hx rfl (hb hby at_318) ?_
  show Steps p.tables e below (T0.setTop (mkF m 319 (own_l41 x0 x1 x2 y0 y1 yc len y2 g0 g1 g2 m0 m1 m2 s0 s1 s2 bw bm cnt w0 w1 w2 c0 ca cb) [(.long (1 : Int64))])) _
  refine XS.goto X0.here hx rfl (pc0 := 319) (pc' := 323) rfl (hb hby at_319) (by decide) (by decide) ?_
  show Steps p.tables e below (T0.setTop (mkF m 323 (own_l41 x0 x1 x2 y0 y1 yc len y2 g0 g1 g2 m0 m1 m2 s0 s1 s2 bw bm cnt w0 w1 w2 c0 ca cb) [(.long (1 : Int64))])) _
  refine XS.lstore X0.here hx rfl (hb hby at_323) rfl (l' := (own_l43 x0 x1 x2 y0 y1 yc len y2 g0 g1 g2 m0 m1 m2 s0 s1 s2 bw bm cnt w0 w1 w2 c0 ca cb)) rfl ?_
  exact kt

set_option maxRecDepth 65536 in
set_option maxHeartbeats 4000000 in
theorem qe7_ft {p : Program} {l : Launch} {e : Env} {R : Room} {s : State} {m : MethodId} {args : Array Value} {below : List Frame} {meth : Method} {c : Code} {T0 : State} {locs : List Loc} {cells slots : Nat} (x0 x1 x2 y0 y1 yc : Int64) (len : Int32) (y2 : Int64) (g0 g1 g2 : Int64) (m0 m1 m2 s0 s1 s2 : Int64) (bw : Addr) (bm : Addr) (cnt : Int32) (w0 w1 w2 : Int64) (c0 : Int64) (ca : Int32) (cb : Int32) (c1 : Int64) (X0 : Stand p l e R s m args below meth c T0 locs cells slots) (hx : p.tables.exec = Jvm.exec) (hby : c.code = code) (hc310 : ca = (0 : Int32)) (hc315 : cb = (0 : Int32)) (h_c1 : c1 = (0 : Int64)) :
    ∀ target, Steps p.tables e below (T0.setTop (mkF m 325 (own_l44 x0 x1 x2 y0 y1 yc len y2 g0 g1 g2 m0 m1 m2 s0 s1 s2 bw bm cnt w0 w1 w2 c0 ca cb c1) [])) target → Steps p.tables e below (T0.setTop (mkF m 308 (own_l41 x0 x1 x2 y0 y1 yc len y2 g0 g1 g2 m0 m1 m2 s0 s1 s2 bw bm cnt w0 w1 w2 c0 ca cb) [])) target := by
  intro target kt
  rw [h_c1] at kt
  show Steps p.tables e below (T0.setTop (mkF m 308 (own_l41 x0 x1 x2 y0 y1 yc len y2 g0 g1 g2 m0 m1 m2 s0 s1 s2 bw bm cnt w0 w1 w2 c0 ca cb) [])) _
  refine XS.iload X0.here hx rfl (hb hby at_308) rfl ?_
  show Steps p.tables e below (T0.setTop (mkF m 310 (own_l41 x0 x1 x2 y0 y1 yc len y2 g0 g1 g2 m0 m1 m2 s0 s1 s2 bw bm cnt w0 w1 w2 c0 ca cb) [(.int ca)])) _
  refine XS.ifNo X0.here hx rfl (hb hby at_310) rfl ((if0 _ _).trans (teq (hc310 : ca = (0 : Int32))).2) ?_
  show Steps p.tables e below (T0.setTop (mkF m 313 (own_l41 x0 x1 x2 y0 y1 yc len y2 g0 g1 g2 m0 m1 m2 s0 s1 s2 bw bm cnt w0 w1 w2 c0 ca cb) [])) _
  refine XS.iload X0.here hx rfl (hb hby at_313) rfl ?_
  show Steps p.tables e below (T0.setTop (mkF m 315 (own_l41 x0 x1 x2 y0 y1 yc len y2 g0 g1 g2 m0 m1 m2 s0 s1 s2 bw bm cnt w0 w1 w2 c0 ca cb) [(.int cb)])) _
  refine XS.ifYes X0.here hx rfl (pc0 := 315) (pc' := 322) rfl (hb hby at_315) rfl ((if0 _ _).trans (teq (hc315 : cb = (0 : Int32))).1) (by decide) (by decide) ?_
  show Steps p.tables e below (T0.setTop (mkF m 322 (own_l41 x0 x1 x2 y0 y1 yc len y2 g0 g1 g2 m0 m1 m2 s0 s1 s2 bw bm cnt w0 w1 w2 c0 ca cb) [])) _
  refine XS.lconst X0.here hx rfl (hb hby at_322) ?_
  show Steps p.tables e below (T0.setTop (mkF m 323 (own_l41 x0 x1 x2 y0 y1 yc len y2 g0 g1 g2 m0 m1 m2 s0 s1 s2 bw bm cnt w0 w1 w2 c0 ca cb) [(.long (0 : Int64))])) _
  refine XS.lstore X0.here hx rfl (hb hby at_323) rfl (l' := (own_l45 x0 x1 x2 y0 y1 yc len y2 g0 g1 g2 m0 m1 m2 s0 s1 s2 bw bm cnt w0 w1 w2 c0 ca cb)) rfl ?_
  exact kt

set_option maxRecDepth 65536 in
set_option maxHeartbeats 4000000 in
theorem qe7_ff {p : Program} {l : Launch} {e : Env} {R : Room} {s : State} {m : MethodId} {args : Array Value} {below : List Frame} {meth : Method} {c : Code} {T0 : State} {locs : List Loc} {cells slots : Nat} (x0 x1 x2 y0 y1 yc : Int64) (len : Int32) (y2 : Int64) (g0 g1 g2 : Int64) (m0 m1 m2 s0 s1 s2 : Int64) (bw : Addr) (bm : Addr) (cnt : Int32) (w0 w1 w2 : Int64) (c0 : Int64) (ca : Int32) (cb : Int32) (c1 : Int64) (X0 : Stand p l e R s m args below meth c T0 locs cells slots) (hx : p.tables.exec = Jvm.exec) (hby : c.code = code) (hc310 : ca = (0 : Int32)) (hc315 : ¬ (cb = (0 : Int32))) (h_c1 : c1 = (1 : Int64)) :
    ∀ target, Steps p.tables e below (T0.setTop (mkF m 325 (own_l44 x0 x1 x2 y0 y1 yc len y2 g0 g1 g2 m0 m1 m2 s0 s1 s2 bw bm cnt w0 w1 w2 c0 ca cb c1) [])) target → Steps p.tables e below (T0.setTop (mkF m 308 (own_l41 x0 x1 x2 y0 y1 yc len y2 g0 g1 g2 m0 m1 m2 s0 s1 s2 bw bm cnt w0 w1 w2 c0 ca cb) [])) target := by
  intro target kt
  rw [h_c1] at kt
  show Steps p.tables e below (T0.setTop (mkF m 308 (own_l41 x0 x1 x2 y0 y1 yc len y2 g0 g1 g2 m0 m1 m2 s0 s1 s2 bw bm cnt w0 w1 w2 c0 ca cb) [])) _
  refine XS.iload X0.here hx rfl (hb hby at_308) rfl ?_
  show Steps p.tables e below (T0.setTop (mkF m 310 (own_l41 x0 x1 x2 y0 y1 yc len y2 g0 g1 g2 m0 m1 m2 s0 s1 s2 bw bm cnt w0 w1 w2 c0 ca cb) [(.int ca)])) _
  refine XS.ifNo X0.here hx rfl (hb hby at_310) rfl ((if0 _ _).trans (teq (hc310 : ca = (0 : Int32))).2) ?_
  show Steps p.tables e below (T0.setTop (mkF m 313 (own_l41 x0 x1 x2 y0 y1 yc len y2 g0 g1 g2 m0 m1 m2 s0 s1 s2 bw bm cnt w0 w1 w2 c0 ca cb) [])) _
  refine XS.iload X0.here hx rfl (hb hby at_313) rfl ?_
  show Steps p.tables e below (T0.setTop (mkF m 315 (own_l41 x0 x1 x2 y0 y1 yc len y2 g0 g1 g2 m0 m1 m2 s0 s1 s2 bw bm cnt w0 w1 w2 c0 ca cb) [(.int cb)])) _
  refine XS.ifNo X0.here hx rfl (hb hby at_315) rfl ((if0 _ _).trans (feq (hc315 : ¬ (cb = (0 : Int32)))).1) ?_
  show Steps p.tables e below (T0.setTop (mkF m 318 (own_l41 x0 x1 x2 y0 y1 yc len y2 g0 g1 g2 m0 m1 m2 s0 s1 s2 bw bm cnt w0 w1 w2 c0 ca cb) [])) _
  refine XS.lconst X0.here hx rfl (hb hby at_318) ?_
  show Steps p.tables e below (T0.setTop (mkF m 319 (own_l41 x0 x1 x2 y0 y1 yc len y2 g0 g1 g2 m0 m1 m2 s0 s1 s2 bw bm cnt w0 w1 w2 c0 ca cb) [(.long (1 : Int64))])) _
  refine XS.goto X0.here hx rfl (pc0 := 319) (pc' := 323) rfl (hb hby at_319) (by decide) (by decide) ?_
  show Steps p.tables e below (T0.setTop (mkF m 323 (own_l41 x0 x1 x2 y0 y1 yc len y2 g0 g1 g2 m0 m1 m2 s0 s1 s2 bw bm cnt w0 w1 w2 c0 ca cb) [(.long (1 : Int64))])) _
  refine XS.lstore X0.here hx rfl (hb hby at_323) rfl (l' := (own_l43 x0 x1 x2 y0 y1 yc len y2 g0 g1 g2 m0 m1 m2 s0 s1 s2 bw bm cnt w0 w1 w2 c0 ca cb)) rfl ?_
  exact kt

set_option maxRecDepth 65536 in
set_option maxHeartbeats 4000000 in
theorem qe8 {p : Program} {l : Launch} {e : Env} {R : Room} {s : State} {m : MethodId} {args : Array Value} {below : List Frame} {meth : Method} {c : Code} {T0 : State} {locs : List Loc} {cells slots : Nat} (x0 x1 x2 y0 y1 yc : Int64) (len : Int32) (y2 : Int64) (g0 g1 g2 : Int64) (m0 m1 m2 s0 s1 s2 : Int64) (bw : Addr) (bm : Addr) (cnt : Int32) (w0 w1 w2 : Int64) (c0 : Int64) (ca : Int32) (cb : Int32) (c1 : Int64)  (X0 : Stand p l e R s m args below meth c T0 locs cells slots) (hx : p.tables.exec = Jvm.exec) (hby : c.code = code) (hc340 : (lcmpW (w0 + s0) m0) = (0 : Int32)) (hc348 : (lcmpW ((w1 + s1) + c0) m1) = (0 : Int32)) (hc356 : (lcmpW ((w2 + s2) + c1) m2) = (0 : Int32)) :
    ∀ target, Steps p.tables e below (T0.setTop (mkF m 366 (own_l47 x0 x1 x2 y0 y1 yc len y2 g0 g1 g2 m0 m1 m2 s0 s1 s2 bw bm cnt w0 w1 w2 c0 ca cb c1) [])) target → Steps p.tables e below (T0.setTop (mkF m 325 (own_l44 x0 x1 x2 y0 y1 yc len y2 g0 g1 g2 m0 m1 m2 s0 s1 s2 bw bm cnt w0 w1 w2 c0 ca cb c1) [])) target := by
  intro target kt
  show Steps p.tables e below (T0.setTop (mkF m 325 (own_l44 x0 x1 x2 y0 y1 yc len y2 g0 g1 g2 m0 m1 m2 s0 s1 s2 bw bm cnt w0 w1 w2 c0 ca cb c1) [])) _
  refine XS.lload X0.here hx rfl (hb hby at_325) rfl ?_
  show Steps p.tables e below (T0.setTop (mkF m 327 (own_l44 x0 x1 x2 y0 y1 yc len y2 g0 g1 g2 m0 m1 m2 s0 s1 s2 bw bm cnt w0 w1 w2 c0 ca cb c1) [(.long w2)])) _
  refine XS.lload X0.here hx rfl (hb hby at_327) rfl ?_
  show Steps p.tables e below (T0.setTop (mkF m 329 (own_l44 x0 x1 x2 y0 y1 yc len y2 g0 g1 g2 m0 m1 m2 s0 s1 s2 bw bm cnt w0 w1 w2 c0 ca cb c1) [(.long s2), (.long w2)])) _
  refine XS.ladd X0.here hx rfl (hb hby at_329) rfl ?_
  show Steps p.tables e below (T0.setTop (mkF m 330 (own_l44 x0 x1 x2 y0 y1 yc len y2 g0 g1 g2 m0 m1 m2 s0 s1 s2 bw bm cnt w0 w1 w2 c0 ca cb c1) [(.long (w2 + s2))])) _
  refine XS.lload X0.here hx rfl (hb hby at_330) rfl ?_
  show Steps p.tables e below (T0.setTop (mkF m 332 (own_l44 x0 x1 x2 y0 y1 yc len y2 g0 g1 g2 m0 m1 m2 s0 s1 s2 bw bm cnt w0 w1 w2 c0 ca cb c1) [(.long c1), (.long (w2 + s2))])) _
  refine XS.ladd X0.here hx rfl (hb hby at_332) rfl ?_
  show Steps p.tables e below (T0.setTop (mkF m 333 (own_l44 x0 x1 x2 y0 y1 yc len y2 g0 g1 g2 m0 m1 m2 s0 s1 s2 bw bm cnt w0 w1 w2 c0 ca cb c1) [(.long ((w2 + s2) + c1))])) _
  refine XS.lstore X0.here hx rfl (hb hby at_333) rfl (l' := (own_l46 x0 x1 x2 y0 y1 yc len y2 g0 g1 g2 m0 m1 m2 s0 s1 s2 bw bm cnt w0 w1 w2 c0 ca cb c1)) rfl ?_
  show Steps p.tables e below (T0.setTop (mkF m 335 (own_l46 x0 x1 x2 y0 y1 yc len y2 g0 g1 g2 m0 m1 m2 s0 s1 s2 bw bm cnt w0 w1 w2 c0 ca cb c1) [])) _
  refine XS.lload X0.here hx rfl (hb hby at_335) rfl ?_
  show Steps p.tables e below (T0.setTop (mkF m 337 (own_l46 x0 x1 x2 y0 y1 yc len y2 g0 g1 g2 m0 m1 m2 s0 s1 s2 bw bm cnt w0 w1 w2 c0 ca cb c1) [(.long (w0 + s0))])) _
  refine XS.lload X0.here hx rfl (hb hby at_337) rfl ?_
  show Steps p.tables e below (T0.setTop (mkF m 339 (own_l46 x0 x1 x2 y0 y1 yc len y2 g0 g1 g2 m0 m1 m2 s0 s1 s2 bw bm cnt w0 w1 w2 c0 ca cb c1) [(.long m0), (.long (w0 + s0))])) _
  refine XS.lcmp X0.here hx rfl (hb hby at_339) rfl ?_
  show Steps p.tables e below (T0.setTop (mkF m 340 (own_l46 x0 x1 x2 y0 y1 yc len y2 g0 g1 g2 m0 m1 m2 s0 s1 s2 bw bm cnt w0 w1 w2 c0 ca cb c1) [(.int (lcmpW (w0 + s0) m0))])) _
  refine XS.ifNo X0.here hx rfl (hb hby at_340) rfl ((if0 _ _).trans (teq (hc340 : (lcmpW (w0 + s0) m0) = (0 : Int32))).2) ?_
  show Steps p.tables e below (T0.setTop (mkF m 343 (own_l46 x0 x1 x2 y0 y1 yc len y2 g0 g1 g2 m0 m1 m2 s0 s1 s2 bw bm cnt w0 w1 w2 c0 ca cb c1) [])) _
  refine XS.lload X0.here hx rfl (hb hby at_343) rfl ?_
  show Steps p.tables e below (T0.setTop (mkF m 345 (own_l46 x0 x1 x2 y0 y1 yc len y2 g0 g1 g2 m0 m1 m2 s0 s1 s2 bw bm cnt w0 w1 w2 c0 ca cb c1) [(.long ((w1 + s1) + c0))])) _
  refine XS.lload X0.here hx rfl (hb hby at_345) rfl ?_
  show Steps p.tables e below (T0.setTop (mkF m 347 (own_l46 x0 x1 x2 y0 y1 yc len y2 g0 g1 g2 m0 m1 m2 s0 s1 s2 bw bm cnt w0 w1 w2 c0 ca cb c1) [(.long m1), (.long ((w1 + s1) + c0))])) _
  refine XS.lcmp X0.here hx rfl (hb hby at_347) rfl ?_
  show Steps p.tables e below (T0.setTop (mkF m 348 (own_l46 x0 x1 x2 y0 y1 yc len y2 g0 g1 g2 m0 m1 m2 s0 s1 s2 bw bm cnt w0 w1 w2 c0 ca cb c1) [(.int (lcmpW ((w1 + s1) + c0) m1))])) _
  refine XS.ifNo X0.here hx rfl (hb hby at_348) rfl ((if0 _ _).trans (teq (hc348 : (lcmpW ((w1 + s1) + c0) m1) = (0 : Int32))).2) ?_
  show Steps p.tables e below (T0.setTop (mkF m 351 (own_l46 x0 x1 x2 y0 y1 yc len y2 g0 g1 g2 m0 m1 m2 s0 s1 s2 bw bm cnt w0 w1 w2 c0 ca cb c1) [])) _
  refine XS.lload X0.here hx rfl (hb hby at_351) rfl ?_
  show Steps p.tables e below (T0.setTop (mkF m 353 (own_l46 x0 x1 x2 y0 y1 yc len y2 g0 g1 g2 m0 m1 m2 s0 s1 s2 bw bm cnt w0 w1 w2 c0 ca cb c1) [(.long ((w2 + s2) + c1))])) _
  refine XS.lload X0.here hx rfl (hb hby at_353) rfl ?_
  show Steps p.tables e below (T0.setTop (mkF m 355 (own_l46 x0 x1 x2 y0 y1 yc len y2 g0 g1 g2 m0 m1 m2 s0 s1 s2 bw bm cnt w0 w1 w2 c0 ca cb c1) [(.long m2), (.long ((w2 + s2) + c1))])) _
  refine XS.lcmp X0.here hx rfl (hb hby at_355) rfl ?_
  show Steps p.tables e below (T0.setTop (mkF m 356 (own_l46 x0 x1 x2 y0 y1 yc len y2 g0 g1 g2 m0 m1 m2 s0 s1 s2 bw bm cnt w0 w1 w2 c0 ca cb c1) [(.int (lcmpW ((w2 + s2) + c1) m2))])) _
  refine XS.ifNo X0.here hx rfl (hb hby at_356) rfl ((if0 _ _).trans (teq (hc356 : (lcmpW ((w2 + s2) + c1) m2) = (0 : Int32))).2) ?_
  show Steps p.tables e below (T0.setTop (mkF m 359 (own_l46 x0 x1 x2 y0 y1 yc len y2 g0 g1 g2 m0 m1 m2 s0 s1 s2 bw bm cnt w0 w1 w2 c0 ca cb c1) [])) _
  refine XS.iconst X0.here hx rfl (hb hby at_359) ?_
  show Steps p.tables e below (T0.setTop (mkF m 360 (own_l46 x0 x1 x2 y0 y1 yc len y2 g0 g1 g2 m0 m1 m2 s0 s1 s2 bw bm cnt w0 w1 w2 c0 ca cb c1) [(.int (1 : Int32))])) _
  refine XS.goto X0.here hx rfl (pc0 := 360) (pc' := 364) rfl (hb hby at_360) (by decide) (by decide) ?_
  show Steps p.tables e below (T0.setTop (mkF m 364 (own_l46 x0 x1 x2 y0 y1 yc len y2 g0 g1 g2 m0 m1 m2 s0 s1 s2 bw bm cnt w0 w1 w2 c0 ca cb c1) [(.int (1 : Int32))])) _
  refine XS.istore X0.here hx rfl (hb hby at_364) rfl (l' := (own_l47 x0 x1 x2 y0 y1 yc len y2 g0 g1 g2 m0 m1 m2 s0 s1 s2 bw bm cnt w0 w1 w2 c0 ca cb c1)) rfl ?_
  exact kt

set_option maxRecDepth 65536 in
set_option maxHeartbeats 4000000 in
theorem qe9_f {p : Program} {l : Launch} {e : Env} {R : Room} {s : State} {m : MethodId} {args : Array Value} {below : List Frame} {meth : Method} {c : Code} {T0 : State} {locs : List Loc} {cells slots : Nat} (x0 x1 x2 y0 y1 yc : Int64) (len : Int32) (y2 : Int64) (g0 g1 g2 : Int64) (m0 m1 m2 s0 s1 s2 : Int64) (bw : Addr) (bm : Addr) (cnt : Int32) (w0 w1 w2 : Int64) (c0 : Int64) (ca : Int32) (cb : Int32) (c1 : Int64) (ex : Int32) (X0 : Stand p l e R s m args below meth c T0 locs cells slots) (hx : p.tables.exec = Jvm.exec) (hby : c.code = code) (hc370 : ¬ ((lcmpW w2 (0 : Int64)) = (0 : Int32))) (h_ex : ex = (3 : Int32)) :
    ∀ target, Steps p.tables e below (T0.setTop (mkF m 402 (own_l49 x0 x1 x2 y0 y1 yc len y2 g0 g1 g2 m0 m1 m2 s0 s1 s2 bw bm cnt w0 w1 w2 c0 ca cb c1 ex) [])) target → Steps p.tables e below (T0.setTop (mkF m 366 (own_l47 x0 x1 x2 y0 y1 yc len y2 g0 g1 g2 m0 m1 m2 s0 s1 s2 bw bm cnt w0 w1 w2 c0 ca cb c1) [])) target := by
  intro target kt
  rw [h_ex] at kt
  show Steps p.tables e below (T0.setTop (mkF m 366 (own_l47 x0 x1 x2 y0 y1 yc len y2 g0 g1 g2 m0 m1 m2 s0 s1 s2 bw bm cnt w0 w1 w2 c0 ca cb c1) [])) _
  refine XS.lload X0.here hx rfl (hb hby at_366) rfl ?_
  show Steps p.tables e below (T0.setTop (mkF m 368 (own_l47 x0 x1 x2 y0 y1 yc len y2 g0 g1 g2 m0 m1 m2 s0 s1 s2 bw bm cnt w0 w1 w2 c0 ca cb c1) [(.long w2)])) _
  refine XS.lconst X0.here hx rfl (hb hby at_368) ?_
  show Steps p.tables e below (T0.setTop (mkF m 369 (own_l47 x0 x1 x2 y0 y1 yc len y2 g0 g1 g2 m0 m1 m2 s0 s1 s2 bw bm cnt w0 w1 w2 c0 ca cb c1) [(.long (0 : Int64)), (.long w2)])) _
  refine XS.lcmp X0.here hx rfl (hb hby at_369) rfl ?_
  show Steps p.tables e below (T0.setTop (mkF m 370 (own_l47 x0 x1 x2 y0 y1 yc len y2 g0 g1 g2 m0 m1 m2 s0 s1 s2 bw bm cnt w0 w1 w2 c0 ca cb c1) [(.int (lcmpW w2 (0 : Int64)))])) _
  refine XS.ifNo X0.here hx rfl (hb hby at_370) rfl ((if0 _ _).trans (feq (hc370 : ¬ ((lcmpW w2 (0 : Int64)) = (0 : Int32)))).1) ?_
  show Steps p.tables e below (T0.setTop (mkF m 373 (own_l47 x0 x1 x2 y0 y1 yc len y2 g0 g1 g2 m0 m1 m2 s0 s1 s2 bw bm cnt w0 w1 w2 c0 ca cb c1) [])) _
  refine XS.iconst X0.here hx rfl (hb hby at_373) ?_
  show Steps p.tables e below (T0.setTop (mkF m 374 (own_l47 x0 x1 x2 y0 y1 yc len y2 g0 g1 g2 m0 m1 m2 s0 s1 s2 bw bm cnt w0 w1 w2 c0 ca cb c1) [(.int (3 : Int32))])) _
  refine XS.goto X0.here hx rfl (pc0 := 374) (pc' := 400) rfl (hb hby at_374) (by decide) (by decide) ?_
  show Steps p.tables e below (T0.setTop (mkF m 400 (own_l47 x0 x1 x2 y0 y1 yc len y2 g0 g1 g2 m0 m1 m2 s0 s1 s2 bw bm cnt w0 w1 w2 c0 ca cb c1) [(.int (3 : Int32))])) _
  refine XS.istore X0.here hx rfl (hb hby at_400) rfl (l' := (own_l48 x0 x1 x2 y0 y1 yc len y2 g0 g1 g2 m0 m1 m2 s0 s1 s2 bw bm cnt w0 w1 w2 c0 ca cb c1)) rfl ?_
  exact kt

set_option maxRecDepth 65536 in
set_option maxHeartbeats 4000000 in
theorem qe9_tf {p : Program} {l : Launch} {e : Env} {R : Room} {s : State} {m : MethodId} {args : Array Value} {below : List Frame} {meth : Method} {c : Code} {T0 : State} {locs : List Loc} {cells slots : Nat} (x0 x1 x2 y0 y1 yc : Int64) (len : Int32) (y2 : Int64) (g0 g1 g2 : Int64) (m0 m1 m2 s0 s1 s2 : Int64) (bw : Addr) (bm : Addr) (cnt : Int32) (w0 w1 w2 : Int64) (c0 : Int64) (ca : Int32) (cb : Int32) (c1 : Int64) (ex : Int32) (X0 : Stand p l e R s m args below meth c T0 locs cells slots) (hx : p.tables.exec = Jvm.exec) (hby : c.code = code) (hc370 : (lcmpW w2 (0 : Int64)) = (0 : Int32)) (hc381 : ¬ ((lcmpW w1 (0 : Int64)) = (0 : Int32))) (h_ex : ex = (2 : Int32)) :
    ∀ target, Steps p.tables e below (T0.setTop (mkF m 402 (own_l49 x0 x1 x2 y0 y1 yc len y2 g0 g1 g2 m0 m1 m2 s0 s1 s2 bw bm cnt w0 w1 w2 c0 ca cb c1 ex) [])) target → Steps p.tables e below (T0.setTop (mkF m 366 (own_l47 x0 x1 x2 y0 y1 yc len y2 g0 g1 g2 m0 m1 m2 s0 s1 s2 bw bm cnt w0 w1 w2 c0 ca cb c1) [])) target := by
  intro target kt
  rw [h_ex] at kt
  show Steps p.tables e below (T0.setTop (mkF m 366 (own_l47 x0 x1 x2 y0 y1 yc len y2 g0 g1 g2 m0 m1 m2 s0 s1 s2 bw bm cnt w0 w1 w2 c0 ca cb c1) [])) _
  refine XS.lload X0.here hx rfl (hb hby at_366) rfl ?_
  show Steps p.tables e below (T0.setTop (mkF m 368 (own_l47 x0 x1 x2 y0 y1 yc len y2 g0 g1 g2 m0 m1 m2 s0 s1 s2 bw bm cnt w0 w1 w2 c0 ca cb c1) [(.long w2)])) _
  refine XS.lconst X0.here hx rfl (hb hby at_368) ?_
  show Steps p.tables e below (T0.setTop (mkF m 369 (own_l47 x0 x1 x2 y0 y1 yc len y2 g0 g1 g2 m0 m1 m2 s0 s1 s2 bw bm cnt w0 w1 w2 c0 ca cb c1) [(.long (0 : Int64)), (.long w2)])) _
  refine XS.lcmp X0.here hx rfl (hb hby at_369) rfl ?_
  show Steps p.tables e below (T0.setTop (mkF m 370 (own_l47 x0 x1 x2 y0 y1 yc len y2 g0 g1 g2 m0 m1 m2 s0 s1 s2 bw bm cnt w0 w1 w2 c0 ca cb c1) [(.int (lcmpW w2 (0 : Int64)))])) _
  refine XS.ifYes X0.here hx rfl (pc0 := 370) (pc' := 377) rfl (hb hby at_370) rfl ((if0 _ _).trans (teq (hc370 : (lcmpW w2 (0 : Int64)) = (0 : Int32))).1) (by decide) (by decide) ?_
  show Steps p.tables e below (T0.setTop (mkF m 377 (own_l47 x0 x1 x2 y0 y1 yc len y2 g0 g1 g2 m0 m1 m2 s0 s1 s2 bw bm cnt w0 w1 w2 c0 ca cb c1) [])) _
  refine XS.lload X0.here hx rfl (hb hby at_377) rfl ?_
  show Steps p.tables e below (T0.setTop (mkF m 379 (own_l47 x0 x1 x2 y0 y1 yc len y2 g0 g1 g2 m0 m1 m2 s0 s1 s2 bw bm cnt w0 w1 w2 c0 ca cb c1) [(.long w1)])) _
  refine XS.lconst X0.here hx rfl (hb hby at_379) ?_
  show Steps p.tables e below (T0.setTop (mkF m 380 (own_l47 x0 x1 x2 y0 y1 yc len y2 g0 g1 g2 m0 m1 m2 s0 s1 s2 bw bm cnt w0 w1 w2 c0 ca cb c1) [(.long (0 : Int64)), (.long w1)])) _
  refine XS.lcmp X0.here hx rfl (hb hby at_380) rfl ?_
  show Steps p.tables e below (T0.setTop (mkF m 381 (own_l47 x0 x1 x2 y0 y1 yc len y2 g0 g1 g2 m0 m1 m2 s0 s1 s2 bw bm cnt w0 w1 w2 c0 ca cb c1) [(.int (lcmpW w1 (0 : Int64)))])) _
  refine XS.ifNo X0.here hx rfl (hb hby at_381) rfl ((if0 _ _).trans (feq (hc381 : ¬ ((lcmpW w1 (0 : Int64)) = (0 : Int32)))).1) ?_
  show Steps p.tables e below (T0.setTop (mkF m 384 (own_l47 x0 x1 x2 y0 y1 yc len y2 g0 g1 g2 m0 m1 m2 s0 s1 s2 bw bm cnt w0 w1 w2 c0 ca cb c1) [])) _
  refine XS.iconst X0.here hx rfl (hb hby at_384) ?_
  show Steps p.tables e below (T0.setTop (mkF m 385 (own_l47 x0 x1 x2 y0 y1 yc len y2 g0 g1 g2 m0 m1 m2 s0 s1 s2 bw bm cnt w0 w1 w2 c0 ca cb c1) [(.int (2 : Int32))])) _
  refine XS.goto X0.here hx rfl (pc0 := 385) (pc' := 400) rfl (hb hby at_385) (by decide) (by decide) ?_
  show Steps p.tables e below (T0.setTop (mkF m 400 (own_l47 x0 x1 x2 y0 y1 yc len y2 g0 g1 g2 m0 m1 m2 s0 s1 s2 bw bm cnt w0 w1 w2 c0 ca cb c1) [(.int (2 : Int32))])) _
  refine XS.istore X0.here hx rfl (hb hby at_400) rfl (l' := (own_l50 x0 x1 x2 y0 y1 yc len y2 g0 g1 g2 m0 m1 m2 s0 s1 s2 bw bm cnt w0 w1 w2 c0 ca cb c1)) rfl ?_
  exact kt

set_option maxRecDepth 65536 in
set_option maxHeartbeats 4000000 in
theorem qe9_ttf {p : Program} {l : Launch} {e : Env} {R : Room} {s : State} {m : MethodId} {args : Array Value} {below : List Frame} {meth : Method} {c : Code} {T0 : State} {locs : List Loc} {cells slots : Nat} (x0 x1 x2 y0 y1 yc : Int64) (len : Int32) (y2 : Int64) (g0 g1 g2 : Int64) (m0 m1 m2 s0 s1 s2 : Int64) (bw : Addr) (bm : Addr) (cnt : Int32) (w0 w1 w2 : Int64) (c0 : Int64) (ca : Int32) (cb : Int32) (c1 : Int64) (ex : Int32) (X0 : Stand p l e R s m args below meth c T0 locs cells slots) (hx : p.tables.exec = Jvm.exec) (hby : c.code = code) (hc370 : (lcmpW w2 (0 : Int64)) = (0 : Int32)) (hc381 : (lcmpW w1 (0 : Int64)) = (0 : Int32)) (hc392 : ¬ ((lcmpW w0 (0 : Int64)) = (0 : Int32))) (h_ex : ex = (1 : Int32)) :
    ∀ target, Steps p.tables e below (T0.setTop (mkF m 402 (own_l49 x0 x1 x2 y0 y1 yc len y2 g0 g1 g2 m0 m1 m2 s0 s1 s2 bw bm cnt w0 w1 w2 c0 ca cb c1 ex) [])) target → Steps p.tables e below (T0.setTop (mkF m 366 (own_l47 x0 x1 x2 y0 y1 yc len y2 g0 g1 g2 m0 m1 m2 s0 s1 s2 bw bm cnt w0 w1 w2 c0 ca cb c1) [])) target := by
  intro target kt
  rw [h_ex] at kt
  show Steps p.tables e below (T0.setTop (mkF m 366 (own_l47 x0 x1 x2 y0 y1 yc len y2 g0 g1 g2 m0 m1 m2 s0 s1 s2 bw bm cnt w0 w1 w2 c0 ca cb c1) [])) _
  refine XS.lload X0.here hx rfl (hb hby at_366) rfl ?_
  show Steps p.tables e below (T0.setTop (mkF m 368 (own_l47 x0 x1 x2 y0 y1 yc len y2 g0 g1 g2 m0 m1 m2 s0 s1 s2 bw bm cnt w0 w1 w2 c0 ca cb c1) [(.long w2)])) _
  refine XS.lconst X0.here hx rfl (hb hby at_368) ?_
  show Steps p.tables e below (T0.setTop (mkF m 369 (own_l47 x0 x1 x2 y0 y1 yc len y2 g0 g1 g2 m0 m1 m2 s0 s1 s2 bw bm cnt w0 w1 w2 c0 ca cb c1) [(.long (0 : Int64)), (.long w2)])) _
  refine XS.lcmp X0.here hx rfl (hb hby at_369) rfl ?_
  show Steps p.tables e below (T0.setTop (mkF m 370 (own_l47 x0 x1 x2 y0 y1 yc len y2 g0 g1 g2 m0 m1 m2 s0 s1 s2 bw bm cnt w0 w1 w2 c0 ca cb c1) [(.int (lcmpW w2 (0 : Int64)))])) _
  refine XS.ifYes X0.here hx rfl (pc0 := 370) (pc' := 377) rfl (hb hby at_370) rfl ((if0 _ _).trans (teq (hc370 : (lcmpW w2 (0 : Int64)) = (0 : Int32))).1) (by decide) (by decide) ?_
  show Steps p.tables e below (T0.setTop (mkF m 377 (own_l47 x0 x1 x2 y0 y1 yc len y2 g0 g1 g2 m0 m1 m2 s0 s1 s2 bw bm cnt w0 w1 w2 c0 ca cb c1) [])) _
  refine XS.lload X0.here hx rfl (hb hby at_377) rfl ?_
  show Steps p.tables e below (T0.setTop (mkF m 379 (own_l47 x0 x1 x2 y0 y1 yc len y2 g0 g1 g2 m0 m1 m2 s0 s1 s2 bw bm cnt w0 w1 w2 c0 ca cb c1) [(.long w1)])) _
  refine XS.lconst X0.here hx rfl (hb hby at_379) ?_
  show Steps p.tables e below (T0.setTop (mkF m 380 (own_l47 x0 x1 x2 y0 y1 yc len y2 g0 g1 g2 m0 m1 m2 s0 s1 s2 bw bm cnt w0 w1 w2 c0 ca cb c1) [(.long (0 : Int64)), (.long w1)])) _
  refine XS.lcmp X0.here hx rfl (hb hby at_380) rfl ?_
  show Steps p.tables e below (T0.setTop (mkF m 381 (own_l47 x0 x1 x2 y0 y1 yc len y2 g0 g1 g2 m0 m1 m2 s0 s1 s2 bw bm cnt w0 w1 w2 c0 ca cb c1) [(.int (lcmpW w1 (0 : Int64)))])) _
  refine XS.ifYes X0.here hx rfl (pc0 := 381) (pc' := 388) rfl (hb hby at_381) rfl ((if0 _ _).trans (teq (hc381 : (lcmpW w1 (0 : Int64)) = (0 : Int32))).1) (by decide) (by decide) ?_
  show Steps p.tables e below (T0.setTop (mkF m 388 (own_l47 x0 x1 x2 y0 y1 yc len y2 g0 g1 g2 m0 m1 m2 s0 s1 s2 bw bm cnt w0 w1 w2 c0 ca cb c1) [])) _
  refine XS.lload X0.here hx rfl (hb hby at_388) rfl ?_
  show Steps p.tables e below (T0.setTop (mkF m 390 (own_l47 x0 x1 x2 y0 y1 yc len y2 g0 g1 g2 m0 m1 m2 s0 s1 s2 bw bm cnt w0 w1 w2 c0 ca cb c1) [(.long w0)])) _
  refine XS.lconst X0.here hx rfl (hb hby at_390) ?_
  show Steps p.tables e below (T0.setTop (mkF m 391 (own_l47 x0 x1 x2 y0 y1 yc len y2 g0 g1 g2 m0 m1 m2 s0 s1 s2 bw bm cnt w0 w1 w2 c0 ca cb c1) [(.long (0 : Int64)), (.long w0)])) _
  refine XS.lcmp X0.here hx rfl (hb hby at_391) rfl ?_
  show Steps p.tables e below (T0.setTop (mkF m 392 (own_l47 x0 x1 x2 y0 y1 yc len y2 g0 g1 g2 m0 m1 m2 s0 s1 s2 bw bm cnt w0 w1 w2 c0 ca cb c1) [(.int (lcmpW w0 (0 : Int64)))])) _
  refine XS.ifNo X0.here hx rfl (hb hby at_392) rfl ((if0 _ _).trans (feq (hc392 : ¬ ((lcmpW w0 (0 : Int64)) = (0 : Int32)))).1) ?_
  show Steps p.tables e below (T0.setTop (mkF m 395 (own_l47 x0 x1 x2 y0 y1 yc len y2 g0 g1 g2 m0 m1 m2 s0 s1 s2 bw bm cnt w0 w1 w2 c0 ca cb c1) [])) _
  refine XS.iconst X0.here hx rfl (hb hby at_395) ?_
  show Steps p.tables e below (T0.setTop (mkF m 396 (own_l47 x0 x1 x2 y0 y1 yc len y2 g0 g1 g2 m0 m1 m2 s0 s1 s2 bw bm cnt w0 w1 w2 c0 ca cb c1) [(.int (1 : Int32))])) _
  refine XS.goto X0.here hx rfl (pc0 := 396) (pc' := 400) rfl (hb hby at_396) (by decide) (by decide) ?_
  show Steps p.tables e below (T0.setTop (mkF m 400 (own_l47 x0 x1 x2 y0 y1 yc len y2 g0 g1 g2 m0 m1 m2 s0 s1 s2 bw bm cnt w0 w1 w2 c0 ca cb c1) [(.int (1 : Int32))])) _
  refine XS.istore X0.here hx rfl (hb hby at_400) rfl (l' := (own_l51 x0 x1 x2 y0 y1 yc len y2 g0 g1 g2 m0 m1 m2 s0 s1 s2 bw bm cnt w0 w1 w2 c0 ca cb c1)) rfl ?_
  exact kt

set_option maxRecDepth 65536 in
set_option maxHeartbeats 4000000 in
theorem qe9_ttt {p : Program} {l : Launch} {e : Env} {R : Room} {s : State} {m : MethodId} {args : Array Value} {below : List Frame} {meth : Method} {c : Code} {T0 : State} {locs : List Loc} {cells slots : Nat} (x0 x1 x2 y0 y1 yc : Int64) (len : Int32) (y2 : Int64) (g0 g1 g2 : Int64) (m0 m1 m2 s0 s1 s2 : Int64) (bw : Addr) (bm : Addr) (cnt : Int32) (w0 w1 w2 : Int64) (c0 : Int64) (ca : Int32) (cb : Int32) (c1 : Int64) (ex : Int32) (X0 : Stand p l e R s m args below meth c T0 locs cells slots) (hx : p.tables.exec = Jvm.exec) (hby : c.code = code) (hc370 : (lcmpW w2 (0 : Int64)) = (0 : Int32)) (hc381 : (lcmpW w1 (0 : Int64)) = (0 : Int32)) (hc392 : (lcmpW w0 (0 : Int64)) = (0 : Int32)) (h_ex : ex = (0 : Int32)) :
    ∀ target, Steps p.tables e below (T0.setTop (mkF m 402 (own_l49 x0 x1 x2 y0 y1 yc len y2 g0 g1 g2 m0 m1 m2 s0 s1 s2 bw bm cnt w0 w1 w2 c0 ca cb c1 ex) [])) target → Steps p.tables e below (T0.setTop (mkF m 366 (own_l47 x0 x1 x2 y0 y1 yc len y2 g0 g1 g2 m0 m1 m2 s0 s1 s2 bw bm cnt w0 w1 w2 c0 ca cb c1) [])) target := by
  intro target kt
  rw [h_ex] at kt
  show Steps p.tables e below (T0.setTop (mkF m 366 (own_l47 x0 x1 x2 y0 y1 yc len y2 g0 g1 g2 m0 m1 m2 s0 s1 s2 bw bm cnt w0 w1 w2 c0 ca cb c1) [])) _
  refine XS.lload X0.here hx rfl (hb hby at_366) rfl ?_
  show Steps p.tables e below (T0.setTop (mkF m 368 (own_l47 x0 x1 x2 y0 y1 yc len y2 g0 g1 g2 m0 m1 m2 s0 s1 s2 bw bm cnt w0 w1 w2 c0 ca cb c1) [(.long w2)])) _
  refine XS.lconst X0.here hx rfl (hb hby at_368) ?_
  show Steps p.tables e below (T0.setTop (mkF m 369 (own_l47 x0 x1 x2 y0 y1 yc len y2 g0 g1 g2 m0 m1 m2 s0 s1 s2 bw bm cnt w0 w1 w2 c0 ca cb c1) [(.long (0 : Int64)), (.long w2)])) _
  refine XS.lcmp X0.here hx rfl (hb hby at_369) rfl ?_
  show Steps p.tables e below (T0.setTop (mkF m 370 (own_l47 x0 x1 x2 y0 y1 yc len y2 g0 g1 g2 m0 m1 m2 s0 s1 s2 bw bm cnt w0 w1 w2 c0 ca cb c1) [(.int (lcmpW w2 (0 : Int64)))])) _
  refine XS.ifYes X0.here hx rfl (pc0 := 370) (pc' := 377) rfl (hb hby at_370) rfl ((if0 _ _).trans (teq (hc370 : (lcmpW w2 (0 : Int64)) = (0 : Int32))).1) (by decide) (by decide) ?_
  show Steps p.tables e below (T0.setTop (mkF m 377 (own_l47 x0 x1 x2 y0 y1 yc len y2 g0 g1 g2 m0 m1 m2 s0 s1 s2 bw bm cnt w0 w1 w2 c0 ca cb c1) [])) _
  refine XS.lload X0.here hx rfl (hb hby at_377) rfl ?_
  show Steps p.tables e below (T0.setTop (mkF m 379 (own_l47 x0 x1 x2 y0 y1 yc len y2 g0 g1 g2 m0 m1 m2 s0 s1 s2 bw bm cnt w0 w1 w2 c0 ca cb c1) [(.long w1)])) _
  refine XS.lconst X0.here hx rfl (hb hby at_379) ?_
  show Steps p.tables e below (T0.setTop (mkF m 380 (own_l47 x0 x1 x2 y0 y1 yc len y2 g0 g1 g2 m0 m1 m2 s0 s1 s2 bw bm cnt w0 w1 w2 c0 ca cb c1) [(.long (0 : Int64)), (.long w1)])) _
  refine XS.lcmp X0.here hx rfl (hb hby at_380) rfl ?_
  show Steps p.tables e below (T0.setTop (mkF m 381 (own_l47 x0 x1 x2 y0 y1 yc len y2 g0 g1 g2 m0 m1 m2 s0 s1 s2 bw bm cnt w0 w1 w2 c0 ca cb c1) [(.int (lcmpW w1 (0 : Int64)))])) _
  refine XS.ifYes X0.here hx rfl (pc0 := 381) (pc' := 388) rfl (hb hby at_381) rfl ((if0 _ _).trans (teq (hc381 : (lcmpW w1 (0 : Int64)) = (0 : Int32))).1) (by decide) (by decide) ?_
  show Steps p.tables e below (T0.setTop (mkF m 388 (own_l47 x0 x1 x2 y0 y1 yc len y2 g0 g1 g2 m0 m1 m2 s0 s1 s2 bw bm cnt w0 w1 w2 c0 ca cb c1) [])) _
  refine XS.lload X0.here hx rfl (hb hby at_388) rfl ?_
  show Steps p.tables e below (T0.setTop (mkF m 390 (own_l47 x0 x1 x2 y0 y1 yc len y2 g0 g1 g2 m0 m1 m2 s0 s1 s2 bw bm cnt w0 w1 w2 c0 ca cb c1) [(.long w0)])) _
  refine XS.lconst X0.here hx rfl (hb hby at_390) ?_
  show Steps p.tables e below (T0.setTop (mkF m 391 (own_l47 x0 x1 x2 y0 y1 yc len y2 g0 g1 g2 m0 m1 m2 s0 s1 s2 bw bm cnt w0 w1 w2 c0 ca cb c1) [(.long (0 : Int64)), (.long w0)])) _
  refine XS.lcmp X0.here hx rfl (hb hby at_391) rfl ?_
  show Steps p.tables e below (T0.setTop (mkF m 392 (own_l47 x0 x1 x2 y0 y1 yc len y2 g0 g1 g2 m0 m1 m2 s0 s1 s2 bw bm cnt w0 w1 w2 c0 ca cb c1) [(.int (lcmpW w0 (0 : Int64)))])) _
  refine XS.ifYes X0.here hx rfl (pc0 := 392) (pc' := 399) rfl (hb hby at_392) rfl ((if0 _ _).trans (teq (hc392 : (lcmpW w0 (0 : Int64)) = (0 : Int32))).1) (by decide) (by decide) ?_
  show Steps p.tables e below (T0.setTop (mkF m 399 (own_l47 x0 x1 x2 y0 y1 yc len y2 g0 g1 g2 m0 m1 m2 s0 s1 s2 bw bm cnt w0 w1 w2 c0 ca cb c1) [])) _
  refine XS.iconst X0.here hx rfl (hb hby at_399) ?_
  show Steps p.tables e below (T0.setTop (mkF m 400 (own_l47 x0 x1 x2 y0 y1 yc len y2 g0 g1 g2 m0 m1 m2 s0 s1 s2 bw bm cnt w0 w1 w2 c0 ca cb c1) [(.int (0 : Int32))])) _
  refine XS.istore X0.here hx rfl (hb hby at_400) rfl (l' := (own_l52 x0 x1 x2 y0 y1 yc len y2 g0 g1 g2 m0 m1 m2 s0 s1 s2 bw bm cnt w0 w1 w2 c0 ca cb c1)) rfl ?_
  exact kt

set_option maxRecDepth 65536 in
set_option maxHeartbeats 4000000 in
theorem qe10 {p : Program} {l : Launch} {e : Env} {R : Room} {s : State} {m : MethodId} {args : Array Value} {below : List Frame} {meth : Method} {c : Code} {T0 : State} {locs : List Loc} {cells slots : Nat} {Z : State} {h0 : Heap} {clM : Cell} (x0 x1 x2 y0 y1 yc : Int64) (len : Int32) (y2 : Int64) (g0 g1 g2 : Int64) (m0 m1 m2 s0 s1 s2 : Int64) (bw : Addr) (bm : Addr) (cnt : Int32) (w0 w1 w2 : Int64) (c0 : Int64) (ca : Int32) (cb : Int32) (c1 : Int64) (ex : Int32)  (X0 : Stand p l e R s m args below meth c T0 locs cells slots) (hx : p.tables.exec = Jvm.exec) (hby : c.code = code) (hZ : Z.Warmed39 s.vm) (e0 : T0.heap = h0) (ArM : Arr Z h0 bm clM .long) (SM : clM.slots.size = (3 : Int32).toNatClampNeg) (inM0 : ¬ ((0 : Int32) < 0 ∨ clM.slots.size ≤ (0 : Int32).toNatClampNeg)) (atM0 : clM.slots[(0 : Int32).toNatClampNeg]? = some (.long m0)) (inM1 : ¬ ((1 : Int32) < 0 ∨ clM.slots.size ≤ (1 : Int32).toNatClampNeg)) (atM1 : clM.slots[(1 : Int32).toNatClampNeg]? = some (.long m1)) (inM2 : ¬ ((2 : Int32) < 0 ∨ clM.slots.size ≤ (2 : Int32).toNatClampNeg)) (atM2 : clM.slots[(2 : Int32).toNatClampNeg]? = some (.long m2)) :
    ∀ target, Steps p.tables e below (T0.setTop (mkF m 439 (own_l53 x0 x1 x2 y0 y1 yc len y2 g0 g1 g2 m0 m1 m2 s0 s1 s2 bw bm cnt w0 w1 w2 c0 ca cb c1 ex) [])) target → Steps p.tables e below (T0.setTop (mkF m 402 (own_l49 x0 x1 x2 y0 y1 yc len y2 g0 g1 g2 m0 m1 m2 s0 s1 s2 bw bm cnt w0 w1 w2 c0 ca cb c1 ex) [])) target := by
  intro target kt
  show Steps p.tables e below (T0.setTop (mkF m 402 (own_l49 x0 x1 x2 y0 y1 yc len y2 g0 g1 g2 m0 m1 m2 s0 s1 s2 bw bm cnt w0 w1 w2 c0 ca cb c1 ex) [])) _
  refine XS.aload X0.here hx rfl (hb hby at_402) rfl rfl ?_
  show Steps p.tables e below (T0.setTop (mkF m 404 (own_l49 x0 x1 x2 y0 y1 yc len y2 g0 g1 g2 m0 m1 m2 s0 s1 s2 bw bm cnt w0 w1 w2 c0 ca cb c1 ex) [(.ref bm)])) _
  refine XS.iconst X0.here hx rfl (hb hby at_404) ?_
  show Steps p.tables e below (T0.setTop (mkF m 405 (own_l49 x0 x1 x2 y0 y1 yc len y2 g0 g1 g2 m0 m1 m2 s0 s1 s2 bw bm cnt w0 w1 w2 c0 ca cb c1 ex) [(.int (0 : Int32)), (.ref bm)])) _
  refine X0.laload hx (j := (0 : Int32)) (v := (.long m0)) (by rw [e0]; exact ArM.1) (State.isArrayOf_alike hZ.alike ArM.2.1) ArM.2.2 inM0 atM0 (g := (mkF m 405 (own_l49 x0 x1 x2 y0 y1 yc len y2 g0 g1 g2 m0 m1 m2 s0 s1 s2 bw bm cnt w0 w1 w2 c0 ca cb c1 ex) [(.int (0 : Int32)), (.ref bm)])) rfl rfl (hb hby at_405) _ ?_
  show Steps p.tables e below (T0.setTop (mkF m 406 (own_l49 x0 x1 x2 y0 y1 yc len y2 g0 g1 g2 m0 m1 m2 s0 s1 s2 bw bm cnt w0 w1 w2 c0 ca cb c1 ex) [(.long m0)])) _
  refine XS.lload X0.here hx rfl (hb hby at_406) rfl ?_
  show Steps p.tables e below (T0.setTop (mkF m 408 (own_l49 x0 x1 x2 y0 y1 yc len y2 g0 g1 g2 m0 m1 m2 s0 s1 s2 bw bm cnt w0 w1 w2 c0 ca cb c1 ex) [(.long m0), (.long m0)])) _
  refine XS.lcmp X0.here hx rfl (hb hby at_408) rfl ?_
  show Steps p.tables e below (T0.setTop (mkF m 409 (own_l49 x0 x1 x2 y0 y1 yc len y2 g0 g1 g2 m0 m1 m2 s0 s1 s2 bw bm cnt w0 w1 w2 c0 ca cb c1 ex) [(.int (lcmpW m0 m0))])) _
  refine XS.ifNo X0.here hx rfl (hb hby at_409) rfl ((if0 _ _).trans (teq ((lw_eq _ _).mpr rfl : (lcmpW m0 m0) = (0 : Int32))).2) ?_
  show Steps p.tables e below (T0.setTop (mkF m 412 (own_l49 x0 x1 x2 y0 y1 yc len y2 g0 g1 g2 m0 m1 m2 s0 s1 s2 bw bm cnt w0 w1 w2 c0 ca cb c1 ex) [])) _
  refine XS.aload X0.here hx rfl (hb hby at_412) rfl rfl ?_
  show Steps p.tables e below (T0.setTop (mkF m 414 (own_l49 x0 x1 x2 y0 y1 yc len y2 g0 g1 g2 m0 m1 m2 s0 s1 s2 bw bm cnt w0 w1 w2 c0 ca cb c1 ex) [(.ref bm)])) _
  refine XS.iconst X0.here hx rfl (hb hby at_414) ?_
  show Steps p.tables e below (T0.setTop (mkF m 415 (own_l49 x0 x1 x2 y0 y1 yc len y2 g0 g1 g2 m0 m1 m2 s0 s1 s2 bw bm cnt w0 w1 w2 c0 ca cb c1 ex) [(.int (1 : Int32)), (.ref bm)])) _
  refine X0.laload hx (j := (1 : Int32)) (v := (.long m1)) (by rw [e0]; exact ArM.1) (State.isArrayOf_alike hZ.alike ArM.2.1) ArM.2.2 inM1 atM1 (g := (mkF m 415 (own_l49 x0 x1 x2 y0 y1 yc len y2 g0 g1 g2 m0 m1 m2 s0 s1 s2 bw bm cnt w0 w1 w2 c0 ca cb c1 ex) [(.int (1 : Int32)), (.ref bm)])) rfl rfl (hb hby at_415) _ ?_
  show Steps p.tables e below (T0.setTop (mkF m 416 (own_l49 x0 x1 x2 y0 y1 yc len y2 g0 g1 g2 m0 m1 m2 s0 s1 s2 bw bm cnt w0 w1 w2 c0 ca cb c1 ex) [(.long m1)])) _
  refine XS.lload X0.here hx rfl (hb hby at_416) rfl ?_
  show Steps p.tables e below (T0.setTop (mkF m 418 (own_l49 x0 x1 x2 y0 y1 yc len y2 g0 g1 g2 m0 m1 m2 s0 s1 s2 bw bm cnt w0 w1 w2 c0 ca cb c1 ex) [(.long m1), (.long m1)])) _
  refine XS.lcmp X0.here hx rfl (hb hby at_418) rfl ?_
  show Steps p.tables e below (T0.setTop (mkF m 419 (own_l49 x0 x1 x2 y0 y1 yc len y2 g0 g1 g2 m0 m1 m2 s0 s1 s2 bw bm cnt w0 w1 w2 c0 ca cb c1 ex) [(.int (lcmpW m1 m1))])) _
  refine XS.ifNo X0.here hx rfl (hb hby at_419) rfl ((if0 _ _).trans (teq ((lw_eq _ _).mpr rfl : (lcmpW m1 m1) = (0 : Int32))).2) ?_
  show Steps p.tables e below (T0.setTop (mkF m 422 (own_l49 x0 x1 x2 y0 y1 yc len y2 g0 g1 g2 m0 m1 m2 s0 s1 s2 bw bm cnt w0 w1 w2 c0 ca cb c1 ex) [])) _
  refine XS.aload X0.here hx rfl (hb hby at_422) rfl rfl ?_
  show Steps p.tables e below (T0.setTop (mkF m 424 (own_l49 x0 x1 x2 y0 y1 yc len y2 g0 g1 g2 m0 m1 m2 s0 s1 s2 bw bm cnt w0 w1 w2 c0 ca cb c1 ex) [(.ref bm)])) _
  refine XS.iconst X0.here hx rfl (hb hby at_424) ?_
  show Steps p.tables e below (T0.setTop (mkF m 425 (own_l49 x0 x1 x2 y0 y1 yc len y2 g0 g1 g2 m0 m1 m2 s0 s1 s2 bw bm cnt w0 w1 w2 c0 ca cb c1 ex) [(.int (2 : Int32)), (.ref bm)])) _
  refine X0.laload hx (j := (2 : Int32)) (v := (.long m2)) (by rw [e0]; exact ArM.1) (State.isArrayOf_alike hZ.alike ArM.2.1) ArM.2.2 inM2 atM2 (g := (mkF m 425 (own_l49 x0 x1 x2 y0 y1 yc len y2 g0 g1 g2 m0 m1 m2 s0 s1 s2 bw bm cnt w0 w1 w2 c0 ca cb c1 ex) [(.int (2 : Int32)), (.ref bm)])) rfl rfl (hb hby at_425) _ ?_
  show Steps p.tables e below (T0.setTop (mkF m 426 (own_l49 x0 x1 x2 y0 y1 yc len y2 g0 g1 g2 m0 m1 m2 s0 s1 s2 bw bm cnt w0 w1 w2 c0 ca cb c1 ex) [(.long m2)])) _
  refine XS.lload X0.here hx rfl (hb hby at_426) rfl ?_
  show Steps p.tables e below (T0.setTop (mkF m 428 (own_l49 x0 x1 x2 y0 y1 yc len y2 g0 g1 g2 m0 m1 m2 s0 s1 s2 bw bm cnt w0 w1 w2 c0 ca cb c1 ex) [(.long m2), (.long m2)])) _
  refine XS.lcmp X0.here hx rfl (hb hby at_428) rfl ?_
  show Steps p.tables e below (T0.setTop (mkF m 429 (own_l49 x0 x1 x2 y0 y1 yc len y2 g0 g1 g2 m0 m1 m2 s0 s1 s2 bw bm cnt w0 w1 w2 c0 ca cb c1 ex) [(.int (lcmpW m2 m2))])) _
  refine XS.ifNo X0.here hx rfl (hb hby at_429) rfl ((if0 _ _).trans (teq ((lw_eq _ _).mpr rfl : (lcmpW m2 m2) = (0 : Int32))).2) ?_
  show Steps p.tables e below (T0.setTop (mkF m 432 (own_l49 x0 x1 x2 y0 y1 yc len y2 g0 g1 g2 m0 m1 m2 s0 s1 s2 bw bm cnt w0 w1 w2 c0 ca cb c1 ex) [])) _
  refine XS.iconst X0.here hx rfl (hb hby at_432) ?_
  show Steps p.tables e below (T0.setTop (mkF m 433 (own_l49 x0 x1 x2 y0 y1 yc len y2 g0 g1 g2 m0 m1 m2 s0 s1 s2 bw bm cnt w0 w1 w2 c0 ca cb c1 ex) [(.int (1 : Int32))])) _
  refine XS.goto X0.here hx rfl (pc0 := 433) (pc' := 437) rfl (hb hby at_433) (by decide) (by decide) ?_
  show Steps p.tables e below (T0.setTop (mkF m 437 (own_l49 x0 x1 x2 y0 y1 yc len y2 g0 g1 g2 m0 m1 m2 s0 s1 s2 bw bm cnt w0 w1 w2 c0 ca cb c1 ex) [(.int (1 : Int32))])) _
  refine XS.istore X0.here hx rfl (hb hby at_437) rfl (l' := (own_l53 x0 x1 x2 y0 y1 yc len y2 g0 g1 g2 m0 m1 m2 s0 s1 s2 bw bm cnt w0 w1 w2 c0 ca cb c1 ex)) rfl ?_
  exact kt

set_option maxRecDepth 65536 in
set_option maxHeartbeats 4000000 in
theorem qe11 {p : Program} {l : Launch} {e : Env} {R : Room} {s : State} {m : MethodId} {args : Array Value} {below : List Frame} {meth : Method} {c : Code} {T0 : State} {locs : List Loc} {cells slots : Nat} (x0 x1 x2 y0 y1 yc : Int64) (len : Int32) (y2 : Int64) (g0 g1 g2 : Int64) (m0 m1 m2 s0 s1 s2 : Int64) (bw : Addr) (bm : Addr) (cnt : Int32) (w0 w1 w2 : Int64) (c0 : Int64) (ca : Int32) (cb : Int32) (c1 : Int64) (ex : Int32)  (X0 : Stand p l e R s m args below meth c T0 locs cells slots) (hx : p.tables.exec = Jvm.exec) (hby : c.code = code) (hc448 : cnt = ex) :
    ∀ target, Steps p.tables e below (T0.setTop (mkF m 461 (own_l53 x0 x1 x2 y0 y1 yc len y2 g0 g1 g2 m0 m1 m2 s0 s1 s2 bw bm cnt w0 w1 w2 c0 ca cb c1 ex) [(.int (1 : Int32))])) target → Steps p.tables e below (T0.setTop (mkF m 439 (own_l53 x0 x1 x2 y0 y1 yc len y2 g0 g1 g2 m0 m1 m2 s0 s1 s2 bw bm cnt w0 w1 w2 c0 ca cb c1 ex) [])) target := by
  intro target kt
  show Steps p.tables e below (T0.setTop (mkF m 439 (own_l53 x0 x1 x2 y0 y1 yc len y2 g0 g1 g2 m0 m1 m2 s0 s1 s2 bw bm cnt w0 w1 w2 c0 ca cb c1 ex) [])) _
  refine XS.iload X0.here hx rfl (hb hby at_439) rfl ?_
  show Steps p.tables e below (T0.setTop (mkF m 441 (own_l53 x0 x1 x2 y0 y1 yc len y2 g0 g1 g2 m0 m1 m2 s0 s1 s2 bw bm cnt w0 w1 w2 c0 ca cb c1 ex) [(.int (1 : Int32))])) _
  refine XS.ifNo X0.here hx rfl (hb hby at_441) rfl ((if0 _ _).trans (feq ((by decide) : ¬ ((1 : Int32) = (0 : Int32)))).1) ?_
  show Steps p.tables e below (T0.setTop (mkF m 444 (own_l53 x0 x1 x2 y0 y1 yc len y2 g0 g1 g2 m0 m1 m2 s0 s1 s2 bw bm cnt w0 w1 w2 c0 ca cb c1 ex) [])) _
  refine XS.iload X0.here hx rfl (hb hby at_444) rfl ?_
  show Steps p.tables e below (T0.setTop (mkF m 446 (own_l53 x0 x1 x2 y0 y1 yc len y2 g0 g1 g2 m0 m1 m2 s0 s1 s2 bw bm cnt w0 w1 w2 c0 ca cb c1 ex) [(.int cnt)])) _
  refine XS.iload X0.here hx rfl (hb hby at_446) rfl ?_
  show Steps p.tables e below (T0.setTop (mkF m 448 (own_l53 x0 x1 x2 y0 y1 yc len y2 g0 g1 g2 m0 m1 m2 s0 s1 s2 bw bm cnt w0 w1 w2 c0 ca cb c1 ex) [(.int ex), (.int cnt)])) _
  refine XS.icmpNo X0.here hx rfl (hb hby at_448) rfl (teq (hc448 : cnt = ex)).2 ?_
  show Steps p.tables e below (T0.setTop (mkF m 451 (own_l53 x0 x1 x2 y0 y1 yc len y2 g0 g1 g2 m0 m1 m2 s0 s1 s2 bw bm cnt w0 w1 w2 c0 ca cb c1 ex) [])) _
  refine XS.iload X0.here hx rfl (hb hby at_451) rfl ?_
  show Steps p.tables e below (T0.setTop (mkF m 453 (own_l53 x0 x1 x2 y0 y1 yc len y2 g0 g1 g2 m0 m1 m2 s0 s1 s2 bw bm cnt w0 w1 w2 c0 ca cb c1 ex) [(.int (1 : Int32))])) _
  refine XS.ifNo X0.here hx rfl (hb hby at_453) rfl ((if0 _ _).trans (feq ((by decide) : ¬ ((1 : Int32) = (0 : Int32)))).1) ?_
  show Steps p.tables e below (T0.setTop (mkF m 456 (own_l53 x0 x1 x2 y0 y1 yc len y2 g0 g1 g2 m0 m1 m2 s0 s1 s2 bw bm cnt w0 w1 w2 c0 ca cb c1 ex) [])) _
  refine XS.iconst X0.here hx rfl (hb hby at_456) ?_
  show Steps p.tables e below (T0.setTop (mkF m 457 (own_l53 x0 x1 x2 y0 y1 yc len y2 g0 g1 g2 m0 m1 m2 s0 s1 s2 bw bm cnt w0 w1 w2 c0 ca cb c1 ex) [(.int (1 : Int32))])) _
  refine XS.goto X0.here hx rfl (pc0 := 457) (pc' := 461) rfl (hb hby at_457) (by decide) (by decide) ?_
  exact kt

def pC0 (m0 s0 : Int64) : Int64 := if (pLt ((m0 - s0 - (0 : Int64)) + s0) (m0 - s0 - (0 : Int64))) = 0 then 0 else 1
def pCb (m0 m1 s0 s1 : Int64) : Int32 := if lcmpW (pC0 m0 s0) 1 = 0 then (if lcmpW (((m1 - s1 - (pBor m0 s0 (0 : Int64))) + s1) + (pC0 m0 s0)) 0 = 0 then 1 else 0) else 0
def pC1 (m0 m1 s0 s1 : Int64) : Int64 := if (pLt ((m1 - s1 - (pBor m0 s0 (0 : Int64))) + s1) (m1 - s1 - (pBor m0 s0 (0 : Int64)))) = 0 then (if (pCb m0 m1 s0 s1) = 0 then 0 else 1) else 1

/-! own_: the numbers, unsigned: a long is taken by the natural number of its bits -/
def own_u (v : Int64) : Nat := v.toBitVec.toNat
theorem own_u_lt (v : Int64) : own_u v < 18446744073709551616 := v.toBitVec.isLt
theorem own_inj (a b : Int64) : a = b ↔ own_u a = own_u b := by
  constructor
  · intro h; rw [h]
  · intro h
    exact Int64.toBitVec_inj.mp (BitVec.eq_of_toNat_eq h)
theorem own_uSub (a b : Int64) : own_u (a - b) = (18446744073709551616 - own_u b + own_u a) % 18446744073709551616 := by
  show (a.toBitVec - b.toBitVec).toNat = _
  rw [BitVec.toNat_sub]; rfl
theorem own_uAdd (a b : Int64) : own_u (a + b) = (own_u a + own_u b) % 18446744073709551616 := by
  show (a.toBitVec + b.toBitVec).toNat = _
  rw [BitVec.toNat_add]; rfl
theorem own_u0 : own_u 0 = 0 := rfl
theorem own_u1 : own_u 1 = 1 := rfl
theorem own_toInt (v : Int64) : v.toInt = if own_u v < 9223372036854775808 then (own_u v : Int) else (own_u v : Int) - 18446744073709551616 := by
  have h := own_u_lt v
  have e : v.toInt = v.toBitVec.toInt := rfl
  rw [e, BitVec.toInt_eq_toNat_cond]
  show (if 2 * own_u v < 2 ^ 64 then (own_u v : Int) else (own_u v : Int) - ((2 ^ 64 : Nat) : Int)) = _
  by_cases hc : own_u v < 9223372036854775808
  · rw [if_pos hc, if_pos (by omega)]
  · rw [if_neg hc, if_neg (by omega)]; rfl
theorem own_xor63 (n : Nat) (h : n < 2 ^ 64) : n ^^^ 2 ^ 63 = if n < 2 ^ 63 then n + 2 ^ 63 else n - 2 ^ 63 := by
  have key : ∀ r, r < 2 ^ 63 → r ^^^ 2 ^ 63 = 2 ^ 63 + r := by
    intro r hr
    apply Nat.eq_of_testBit_eq
    intro i
    rw [Nat.testBit_xor, Nat.testBit_two_pow]
    rcases Nat.lt_trichotomy i 63 with hi | hi | hi
    · rw [Nat.testBit_two_pow_add_gt hi]
      have : decide (63 = i) = false := by simp; omega
      rw [this]; simp
    · subst hi
      rw [Nat.testBit_two_pow_add_eq, Nat.testBit_lt_two_pow hr]; simp
    · have h1 : r.testBit i = false := Nat.testBit_lt_two_pow (Nat.lt_of_lt_of_le hr (Nat.pow_le_pow_right (by decide) (Nat.le_of_lt hi)))
      have h2 : (2 ^ 63 + r).testBit i = false := Nat.testBit_lt_two_pow (Nat.lt_of_lt_of_le (show 2 ^ 63 + r < 2 ^ 64 by omega) (Nat.pow_le_pow_right (by decide) hi))
      have : decide (63 = i) = false := by simp; omega
      rw [h1, h2, this]; rfl
  by_cases hn : n < 2 ^ 63
  · rw [if_pos hn, key n hn]; omega
  · rw [if_neg hn]
    obtain ⟨r, rfl⟩ : ∃ r, n = 2 ^ 63 + r := ⟨n - 2 ^ 63, by omega⟩
    have hr : r < 2 ^ 63 := by omega
    have e1 : (2 ^ 63 + r) ^^^ 2 ^ 63 = r := by rw [← key r hr, Nat.xor_assoc, Nat.xor_self, Nat.xor_zero]
    rw [e1]; omega
theorem own_uXor (a : Int64) : own_u (a ^^^ (-9223372036854775808 : Int64)) = if own_u a < 9223372036854775808 then own_u a + 9223372036854775808 else own_u a - 9223372036854775808 := by
  show (a.toBitVec ^^^ (-9223372036854775808 : Int64).toBitVec).toNat = _
  rw [BitVec.toNat_xor]
  exact own_xor63 (own_u a) (own_u_lt a)
theorem own_xorI (a : Int64) : (a ^^^ (-9223372036854775808 : Int64)).toInt = (own_u a : Int) - 9223372036854775808 := by
  have h := own_u_lt a
  rw [own_toInt, own_uXor]
  by_cases hc : own_u a < 9223372036854775808
  · rw [if_pos hc, if_neg (by omega)]; omega
  · rw [if_neg hc, if_pos (by omega)]; omega
theorem own_addI (a : Int64) : (a + (-9223372036854775808 : Int64)).toInt = (own_u a : Int) - 9223372036854775808 := by
  have h := own_u_lt a
  have e : own_u (-9223372036854775808 : Int64) = 9223372036854775808 := rfl
  rw [own_toInt, own_uAdd, e]
  by_cases hc : own_u a < 9223372036854775808
  · rw [if_neg (by omega)]; omega
  · rw [if_pos (by omega)]; omega
theorem own_ltU (a b : Int64) : lcmpW (a ^^^ (-9223372036854775808 : Int64)) (b ^^^ (-9223372036854775808 : Int64)) < 0 ↔ own_u a < own_u b := by
  rw [lw_lt, Int64.lt_iff_toInt_lt, own_xorI, own_xorI]; omega
theorem own_pLt0 (a b : Int64) : pLt a b = 0 ↔ ¬ own_u a < own_u b := by
  unfold pLt
  by_cases h : lcmpW (a ^^^ (-9223372036854775808 : Int64)) (b ^^^ (-9223372036854775808 : Int64)) < 0
  · rw [if_pos h]
    have h2 := (own_ltU a b).mp h
    constructor
    · intro q; exact absurd q (by decide)
    · intro q; exact absurd h2 q
  · rw [if_neg h]
    have h2 := fun q => h ((own_ltU a b).mpr q)
    exact ⟨fun _ => h2, fun _ => rfl⟩
theorem own_cmp0 (a b : Int64) : pCmp a b < 0 ↔ lcmpW a b < 0 := by
  unfold pCmp
  by_cases h : lcmpW a b < 0
  · rw [if_pos h]; exact ⟨fun _ => h, fun _ => by decide⟩
  · rw [if_neg h]
    by_cases h2 : lcmpW a b = 0
    · rw [if_pos h2]; exact ⟨fun q => absurd q (by decide), fun q => absurd q h⟩
    · rw [if_neg h2]; exact ⟨fun q => absurd q (by decide), fun q => absurd q h⟩
theorem own_cmpU (a b : Int64) : pCmp (a + (-9223372036854775808 : Int64)) (b + (-9223372036854775808 : Int64)) < 0 ↔ own_u a < own_u b := by
  rw [own_cmp0, lw_lt, Int64.lt_iff_toInt_lt, own_addI, own_addI]; omega
theorem own_bor1 (a b d : Int64) (h : own_u a < own_u b ∨ (own_u a = own_u b ∧ own_u d ≠ 0)) : pBor a b d = 1 := by
  unfold pBor
  by_cases g1 : own_u a < own_u b
  · rw [if_pos ((own_cmpU a b).mpr g1)]
  · rw [if_neg (fun q => g1 ((own_cmpU a b).mp q))]
    obtain ⟨q1, q2⟩ := h.resolve_left g1
    rw [if_pos ((lw_eq _ _).mpr ((own_inj _ _).mpr q1)), if_neg (fun q => q2 (by have := (own_inj _ _).mp ((lw_eq _ _).mp q); exact this))]
theorem own_bor0 (a b d : Int64) (h : ¬ (own_u a < own_u b ∨ (own_u a = own_u b ∧ own_u d ≠ 0))) : pBor a b d = 0 := by
  unfold pBor
  have g1 : ¬ own_u a < own_u b := fun q => h (Or.inl q)
  rw [if_neg (fun q => g1 ((own_cmpU a b).mp q))]
  by_cases g2 : own_u a = own_u b
  · have g3 : own_u d = 0 := Decidable.byContradiction fun q => h (Or.inr ⟨g2, q⟩)
    rw [if_pos ((lw_eq _ _).mpr ((own_inj _ _).mpr g2)), if_pos ((lw_eq _ _).mpr ((own_inj _ _).mpr g3))]
  · rw [if_neg (fun q => g2 ((own_inj _ _).mp ((lw_eq _ _).mp q)))]
theorem own_lo (m0 s0 : Int64) : (m0 - s0 - (0 : Int64)) + s0 = m0 := by
  apply (own_inj _ _).mpr
  have h1 := own_u_lt m0
  have h2 := own_u_lt s0
  rw [own_uAdd, own_uSub, own_uSub, own_u0]; omega
theorem own_c0 (m0 s0 : Int64) : pC0 m0 s0 = pBor m0 s0 (0 : Int64) := by
  unfold pC0
  rw [own_lo]
  have h1 := own_u_lt m0
  have h2 := own_u_lt s0
  have hd : own_u (m0 - s0 - (0 : Int64)) = (18446744073709551616 - own_u s0 + own_u m0) % 18446744073709551616 := by
    rw [own_uSub, own_uSub, own_u0]; omega
  by_cases g : own_u m0 < own_u s0
  · rw [own_bor1 _ _ _ (Or.inl g), if_neg]
    rw [own_pLt0, hd]; omega
  · rw [own_bor0 _ _ _ (by rw [own_u0]; omega), if_pos]
    rw [own_pLt0, hd]; omega
theorem own_mid (m0 m1 s0 s1 : Int64) : (((m1 - s1 - (pBor m0 s0 (0 : Int64))) + s1) + (pC0 m0 s0)) = m1 := by
  rw [own_c0]
  apply (own_inj _ _).mpr
  have h1 := own_u_lt m1
  have h2 := own_u_lt s1
  generalize pBor m0 s0 (0 : Int64) = b
  have h3 := own_u_lt b
  rw [own_uAdd, own_uAdd, own_uSub, own_uSub]; omega
theorem own_bor01 (a b d : Int64) : pBor a b d = 0 ∨ pBor a b d = 1 := by
  by_cases h : own_u a < own_u b ∨ (own_u a = own_u b ∧ own_u d ≠ 0)
  · exact Or.inr (own_bor1 a b d h)
  · exact Or.inl (own_bor0 a b d h)
theorem own_c1 (m0 m1 s0 s1 : Int64) : pC1 m0 m1 s0 s1 = pBor m1 s1 (pBor m0 s0 (0 : Int64)) := by
  have hm := own_mid m0 m1 s0 s1
  unfold pC1 pCb
  rw [hm]
  rw [own_c0]
  have hb := own_bor01 m0 s0 (0 : Int64)
  generalize pBor m0 s0 (0 : Int64) = b at *
  have h1 := own_u_lt m1
  have h2 := own_u_lt s1
  have ht : own_u ((m1 - s1 - b) + s1) = (18446744073709551616 - own_u b + own_u m1) % 18446744073709551616 := by
    have h3 := own_u_lt b
    rw [own_uAdd, own_uSub, own_uSub]; omega
  have hd : own_u (m1 - s1 - b) = (18446744073709551616 - own_u b + (18446744073709551616 - own_u s1 + own_u m1) % 18446744073709551616) % 18446744073709551616 := by
    rw [own_uSub, own_uSub]
  have hca := own_pLt0 ((m1 - s1 - b) + s1) (m1 - s1 - b)
  rw [ht, hd] at hca
  rcases hb with rfl | rfl
  · have e1 : ¬ lcmpW (0 : Int64) 1 = 0 := by decide
    rw [if_neg e1]
    rw [own_u0] at hca
    by_cases g : own_u m1 < own_u s1
    · rw [own_bor1 _ _ _ (Or.inl g), if_neg]
      rw [hca]; omega
    · rw [own_bor0 _ _ _ (by rw [own_u0]; omega), if_pos]
      · rfl
      · rw [hca]; omega
  · have e1 : lcmpW (1 : Int64) 1 = 0 := by decide
    rw [if_pos e1]
    rw [own_u1] at hca
    by_cases g0 : own_u m1 = 0
    · have gm : lcmpW m1 0 = 0 := (lw_eq _ _).mpr ((own_inj _ _).mpr g0)
      rw [if_pos gm]
      rw [own_bor1 _ _ _ (by rw [own_u1]; omega)]
      by_cases q : pLt ((m1 - s1 - 1) + s1) (m1 - s1 - 1) = 0
      · rw [if_pos q]; rfl
      · rw [if_neg q]
    · have gm : ¬ lcmpW m1 0 = 0 := fun q => g0 ((own_inj _ _).mp ((lw_eq _ _).mp q))
      rw [if_neg gm]
      by_cases g : own_u m1 < own_u s1 ∨ own_u m1 = own_u s1
      · rw [own_bor1 _ _ _ (by rw [own_u1]; omega), if_neg]
        rw [hca]; omega
      · rw [own_bor0 _ _ _ (by rw [own_u1]; omega), if_pos]
        · rfl
        · rw [hca]; omega
theorem own_hi (m0 m1 m2 s0 s1 s2 : Int64) : (((m2 - s2 - (pBor m1 s1 (pBor m0 s0 (0 : Int64)))) + s2) + (pC1 m0 m1 s0 s1)) = m2 := by
  rw [own_c1]
  apply (own_inj _ _).mpr
  have h1 := own_u_lt m2
  have h2 := own_u_lt s2
  generalize pBor m1 s1 (pBor m0 s0 (0 : Int64)) = b
  have h3 := own_u_lt b
  rw [own_uAdd, own_uAdd, own_uSub, own_uSub]; omega
theorem own_zero (v w : Int64) (hw : w = 0) (h : ¬ pLt v w = 0 ∨ v = w) : v = 0 := by
  rcases h with h | h
  · rw [own_pLt0, hw, own_u0] at h; omega
  · rw [h, hw]
theorem own_i0 : (0 : Int32).toInt = 0 := rfl
theorem own_i1 : (1 : Int32).toInt = 1 := rfl
theorem own_i2 : (2 : Int32).toInt = 2 := rfl
theorem own_less (len : Int32) (x0 x1 x2 y0 y1 y2 g0 g1 g2 : Int64) (hg0 : g0 = pSub len 0 y0) (hg1 : g1 = pSub len 1 y1) (hg2 : g2 = pSub len 2 y2) (hr : ¬ (pLess x0 x1 x2 g0 g1 g2) = (0 : Int32)) :
    pSub len 0 (if (0 : Int32) < len then x0 else y0) = x0 ∧ pSub len 1 (if (1 : Int32) < len then x1 else y1) = x1 ∧ pSub len 2 (if (2 : Int32) < len then x2 else y2) = x2 := by
  have l01 : ¬ (0 : Int32) < len → ¬ (1 : Int32) < len := by
    simp only [Int32.lt_iff_toInt_lt, own_i0, own_i1]; omega
  have l12 : ¬ (1 : Int32) < len → ¬ (2 : Int32) < len := by
    simp only [Int32.lt_iff_toInt_lt, own_i2, own_i1]; omega
  have k2 : ¬ (2 : Int32) < len → g2 = 0 := fun h => by rw [hg2]; unfold pSub; rw [if_neg h]
  have k1 : ¬ (1 : Int32) < len → g1 = 0 := fun h => by rw [hg1]; unfold pSub; rw [if_neg h]
  have k0 : ¬ (0 : Int32) < len → g0 = 0 := fun h => by rw [hg0]; unfold pSub; rw [if_neg h]
  have z2 : ¬ (2 : Int32) < len → x2 = 0 := fun h => by
    apply own_zero x2 g2 (k2 h)
    by_cases q : lcmpW x2 g2 = 0
    · exact Or.inr ((lw_eq _ _).mp q)
    · unfold pLess at hr; rw [if_neg q] at hr; exact Or.inl hr
  have z1 : ¬ (1 : Int32) < len → x1 = 0 := fun h => by
    apply own_zero x1 g1 (k1 h)
    have e2 : lcmpW x2 g2 = 0 := (lw_eq _ _).mpr (by rw [z2 (l12 h), k2 (l12 h)])
    by_cases q : lcmpW x1 g1 = 0
    · exact Or.inr ((lw_eq _ _).mp q)
    · unfold pLess at hr; rw [if_pos e2, if_neg q] at hr; exact Or.inl hr
  have z0 : ¬ (0 : Int32) < len → x0 = 0 := fun h => by
    apply own_zero x0 g0 (k0 h)
    have e2 : lcmpW x2 g2 = 0 := (lw_eq _ _).mpr (by rw [z2 (l12 (l01 h)), k2 (l12 (l01 h))])
    have e1 : lcmpW x1 g1 = 0 := (lw_eq _ _).mpr (by rw [z1 (l01 h), k1 (l01 h)])
    unfold pLess at hr; rw [if_pos e2, if_pos e1] at hr; exact Or.inl hr
  unfold pSub
  refine ⟨?_, ?_, ?_⟩
  · by_cases h : (0 : Int32) < len
    · rw [if_pos h, if_pos h]
    · rw [if_neg h, z0 h]
  · by_cases h : (1 : Int32) < len
    · rw [if_pos h, if_pos h]
    · rw [if_neg h, z1 h]
  · by_cases h : (2 : Int32) < len
    · rw [if_pos h, if_pos h]
    · rw [if_neg h, z2 h]

theorem pd_0_s : parseMethodDescriptor "([J[JI)I" = some ⟨[(.array .long), (.array .long), .int], some .int⟩ := by decide +kernel
theorem pd_0_l : parseMethodDescriptor "(JJJJJJ)Z" = some ⟨[.long, .long, .long, .long, .long, .long], some .boolean⟩ := by decide +kernel
theorem pd_0_t : parseMethodDescriptor "(JJ)Z" = some ⟨[.long, .long], some .boolean⟩ := by decide +kernel
set_option maxRecDepth 65536 in
set_option maxHeartbeats 40000000 in
theorem own_D {p : Program} {l : Launch} {e : Env} {s : State} {m : MethodId} {args : Array Value} {below : List Frame} {meth : Method} {c : Code} {T0 : State} {locs : List Loc} {Z : State} {a0 : Array Value} {h0 : Heap} {n0 : Nat} {kw : ClassId} (x0 x1 x2 y0 y1 yc : Int64) (len : Int32) (y2 : Int64) (g0 g1 g2 : Int64) (m0 m1 m2 s0 s1 s2 : Int64) (bw : Addr) (v0 v1 v2 : Int64) (hs0 : pSub len 0 v0 = s0) (hs1 : pSub len 1 v1 = s1) (hs2 : pSub len 2 v2 = s2)
    (X0 : Stand p l e room_1 s m args below meth c T0 locs 1 3) (hx : p.tables.exec = Jvm.exec) (hZ : Z.Warmed39 s.vm) (hw : ∀ d ∈ tables_1, d.before a0 Z = true) (hby : c.code = code) (hml : c.maxLocals = 59) (hown : s.vm.findClass "ringfold/modular/WordsSubtractFromPinLaw" = some m.cls) (e0 : T0.heap = h0) (Z0 : n0 ≤ h0.size) (N0 : Fr n0 locs) (g_bw : n0 ≤ bw) (VW : Arv Z h0 bw kw .long (3 : Int32) [.long v0, .long v1, .long v2] (.long (0 : Int64))) :
    ∃ (T' : State) (locs' : List Loc) (km : ClassId) (bm : Addr) (h' : Heap), Stand p l e room_1 s m args below meth c T' locs' 2 6 ∧ T'.heap = h' ∧ Fr n0 locs' ∧ n0 ≤ h'.size ∧ Arv Z h' bm km .long (3 : Int32) [.long m0, .long m1, .long m2] (.long (0 : Int64)) ∧ Arv Z h' bw kw .long (3 : Int32) [.long (m0 - s0 - (0 : Int64)), .long (m1 - s1 - (pBor m0 s0 (0 : Int64))), .long (m2 - s2 - (pBor m1 s1 (pBor m0 s0 (0 : Int64))))] (.long (0 : Int64)) ∧
      ∀ target, Steps p.tables e below (T'.setTop (mkF m 220 (own_l28 x0 x1 x2 y0 y1 yc len y2 g0 g1 g2 m0 m1 m2 s0 s1 s2 bw bm) [(.int (pSig (m0 - s0 - (0 : Int64)) (m1 - s1 - (pBor m0 s0 (0 : Int64))) (m2 - s2 - (pBor m1 s1 (pBor m0 s0 (0 : Int64))))))])) target → Steps p.tables e below (T0.setTop (mkF m 191 (own_l27 x0 x1 x2 y0 y1 yc len y2 g0 g1 g2 m0 m1 m2 s0 s1 s2 bw) [])) target := by
  obtain ⟨T1, h1, km, bm, hbm, X1, e1, E1, V1, st1⟩ := own_newA X0 hx hZ (hw _ (List.mem_of_getElem? (i := 10) rfl)) e0 (pc := 192) (Ls := (own_l27 x0 x1 x2 y0 y1 yc len y2 g0 g1 g2 m0 m1 m2 s0 s1 s2 bw)) (rest := []) (hb hby at_192) (by decide) (by decide)
  have g_bm : n0 ≤ bm := Nat.le_trans Z0 (Nat.le_of_eq hbm.symm)
  have ne : bw ≠ bm := Nat.ne_of_lt (Nat.lt_of_lt_of_le VW.lt (Nat.le_of_eq hbm.symm))
  obtain ⟨T2, h2, L2, X2, e2, V2, K2, N2, O2, st2⟩ := own_st X1 hx hZ e1 V1 g_bm N0 (j := (0 : Int32)) 0 rfl (by decide) (by first | (show 0 < 3; decide) | simp) (v := m0) (pc := 198) (Ls := (own_l27 x0 x1 x2 y0 y1 yc len y2 g0 g1 g2 m0 m1 m2 s0 s1 s2 bw)) (rest := [(.ref bm)]) (hb hby at_198)
  obtain ⟨T3, h3, L3, X3, e3, V3, K3, N3, O3, st3⟩ := own_st X2 hx hZ e2 V2 g_bm N2 (j := (1 : Int32)) 1 rfl (by decide) (by first | (show 1 < 3; decide) | simp) (v := m1) (pc := 203) (Ls := (own_l27 x0 x1 x2 y0 y1 yc len y2 g0 g1 g2 m0 m1 m2 s0 s1 s2 bw)) (rest := [(.ref bm)]) (hb hby at_203)
  obtain ⟨T4, h4, L4, X4, e4, V4, K4, N4, O4, st4⟩ := own_st X3 hx hZ e3 V3 g_bm N3 (j := (2 : Int32)) 2 rfl (by decide) (by first | (show 2 < 3; decide) | simp) (v := m2) (pc := 208) (Ls := (own_l27 x0 x1 x2 y0 y1 yc len y2 g0 g1 g2 m0 m1 m2 s0 s1 s2 bw)) (rest := [(.ref bm)]) (hb hby at_208)
  have Z4 : n0 ≤ h4.size := Nat.le_trans (Nat.le_trans (Nat.le_trans (Nat.le_trans Z0 E1.1) K2.1) K3.1) K4.1
  have W4 : Arv Z h4 bw kw .long (3 : Int32) [.long v0, .long v1, .long v2] (.long (0 : Int64)) := O4 bw kw _ _ ne (O3 bw kw _ _ ne (O2 bw kw _ _ ne (VW.ext E1)))
  have M4 : Arv Z h4 bm km .long (3 : Int32) [.long m0, .long m1, .long m2] (.long (0 : Int64)) := V4
  obtain ⟨_, _, ⟨T5, L5, k5, n5⟩, -, X5, ⟨Lc5, hQ5, l5, y5, z5⟩, st5⟩ := Jvm.LawKit.callS X4 hx (y := (⟨"ringfold/modular/Words", "subtractFrom", "([J[JI)I"⟩ : MethodName)) hown (mvT hZ (hw _ (List.mem_of_getElem? (i := 11) rfl))) (mvT hZ (hw _ (List.mem_of_getElem? (i := 12) rfl))) (mvT hZ (hw _ (List.mem_of_getElem? (i := 13) rfl))) (mvT hZ (hw _ (List.mem_of_getElem? (i := 14) rfl))) (by decide) (backOf (W := 0) (rm3 l Z a0 hw [] bm bw len m0 m1 m2 v0 v1 v2 km kw (.long (0 : Int64)) (.long (0 : Int64)) h4 n0 Z4 g_bw ne.symm M4 W4) hZ (hw _ (List.mem_of_getElem? (i := 14) rfl)) (hw _ (List.mem_of_getElem? (i := 13) rfl)) (by decide) (by decide)) (g := (mkF m 217 (own_l28 x0 x1 x2 y0 y1 yc len y2 g0 g1 g2 m0 m1 m2 s0 s1 s2 bw bm) [(.int len), (.ref bw), (.ref bm)])) rfl (by rw [hml]; rfl) (argsL := [(.ref bm), (.ref bw), (.int len)]) (rest := []) (lenOf pd_0_s rfl) rfl (by show 2 * 0 + _ ≤ _; exact Nat.le_of_eq rfl) (hb hby at_217) (fun _ _ => ⟨rfl, e4, (by decide : 2 + 0 ≤ _), (by decide : 6 + 0 ≤ _)⟩)
  dsimp only [Pt.U, Pt.locs, Pt.cells, Pt.slots] at X5 l5 y5 z5 st5 hQ5
  subst l5 y5 z5
  obtain ⟨rfl, N5q, K5q, M5, W5⟩ := hQ5
  rw [hs0, hs1, hs2] at W5 st5
  have N5 := Fr.app N4 N5q
  refine ⟨T5, _, km, bm, T5.heap, X5, rfl, N5, Nat.le_trans Z4 K5q.1, M5, W5, fun target kt => ?_⟩
  refine qd0 x0 x1 x2 y0 y1 yc len y2 g0 g1 g2 m0 m1 m2 s0 s1 s2 bw X0 hx hby _ (st1 _ ?_)
  refine qd1 x0 x1 x2 y0 y1 yc len y2 g0 g1 g2 m0 m1 m2 s0 s1 s2 bw bm X1 hx hby _ (st2 _ ?_)
  refine qd2 x0 x1 x2 y0 y1 yc len y2 g0 g1 g2 m0 m1 m2 s0 s1 s2 bw bm X2 hx hby _ (st3 _ ?_)
  refine qd3 x0 x1 x2 y0 y1 yc len y2 g0 g1 g2 m0 m1 m2 s0 s1 s2 bw bm X3 hx hby _ (st4 _ ?_)
  refine qd4 x0 x1 x2 y0 y1 yc len y2 g0 g1 g2 m0 m1 m2 s0 s1 s2 bw bm X4 hx hby _ (st5 _ ?_)
  exact kt
set_option maxRecDepth 65536 in
set_option maxHeartbeats 40000000 in
theorem own_E {p : Program} {l : Launch} {e : Env} {s : State} {m : MethodId} {args : Array Value} {below : List Frame} {meth : Method} {c : Code} {T0 : State} {locs : List Loc} {Z : State} {a0 : Array Value} {h0 : Heap} {n0 : Nat} {km kw : ClassId} (x0 x1 x2 y0 y1 yc : Int64) (len : Int32) (y2 : Int64) (g0 g1 g2 : Int64) (m0 m1 m2 s0 s1 s2 : Int64) (bw : Addr) (bm : Addr)
    (X0 : Stand p l e room_1 s m args below meth c T0 locs 2 6) (hx : p.tables.exec = Jvm.exec) (hZ : Z.Warmed39 s.vm) (hw : ∀ d ∈ tables_1, d.before a0 Z = true) (hby : c.code = code) (hml : c.maxLocals = 59) (hown : s.vm.findClass "ringfold/modular/WordsSubtractFromPinLaw" = some m.cls) (e0 : T0.heap = h0) (Z0 : n0 ≤ h0.size) (N0 : Fr n0 locs) (VM : Arv Z h0 bm km .long (3 : Int32) [.long m0, .long m1, .long m2] (.long (0 : Int64))) (VW : Arv Z h0 bw kw .long (3 : Int32) [.long (m0 - s0 - (0 : Int64)), .long (m1 - s1 - (pBor m0 s0 (0 : Int64))), .long (m2 - s2 - (pBor m1 s1 (pBor m0 s0 (0 : Int64))))] (.long (0 : Int64))) :
    ∃ (T' : State) (locs' : List Loc) (Ls : Array Slot), Stand p l e room_1 s m args below meth c T' locs' 2 6 ∧ Fr n0 locs' ∧
      ∀ target, Steps p.tables e below (T'.setTop (mkF m 461 Ls [(.int (1 : Int32))])) target → Steps p.tables e below (T0.setTop (mkF m 220 (own_l28 x0 x1 x2 y0 y1 yc len y2 g0 g1 g2 m0 m1 m2 s0 s1 s2 bw bm) [(.int (pSig (m0 - s0 - (0 : Int64)) (m1 - s1 - (pBor m0 s0 (0 : Int64))) (m2 - s2 - (pBor m1 s1 (pBor m0 s0 (0 : Int64))))))])) target := by
  obtain ⟨clM, ArM, SM, ⟨inM0, atM0⟩, ⟨inM1, atM1⟩, ⟨inM2, atM2⟩⟩ := own_get VM
  obtain ⟨clW, ArW, SW, ⟨inW0, atW0⟩, ⟨inW1, atW1⟩, ⟨inW2, atW2⟩⟩ := own_get VW
  obtain ⟨_, _, ⟨T1, L1, k1, n1⟩, -, X1, ⟨Lc1, hQ1, l1, y1, z1⟩, st1⟩ := Jvm.LawKit.callS X0 hx (y := (⟨"ringfold/modular/WordsSubtractFromPinLaw", "ltU", "(JJ)Z"⟩ : MethodName)) hown (mvT hZ (hw _ (List.mem_of_getElem? (i := 6) rfl))) (mvT hZ (hw _ (List.mem_of_getElem? (i := 7) rfl))) (mvT hZ (hw _ (List.mem_of_getElem? (i := 4) rfl))) (mvT hZ (hw _ (List.mem_of_getElem? (i := 8) rfl))) (by decide) (backOf (W := 0) (rm2 l Z a0 hw [] ((m0 - s0 - (0 : Int64)) + s0) (m0 - s0 - (0 : Int64)) h0 n0 Z0) hZ (hw _ (List.mem_of_getElem? (i := 8) rfl)) (hw _ (List.mem_of_getElem? (i := 4) rfl)) (by decide) (by decide)) (g := (mkF m 251 (own_l33 x0 x1 x2 y0 y1 yc len y2 g0 g1 g2 m0 m1 m2 s0 s1 s2 bw bm (pSig (m0 - s0 - (0 : Int64)) (m1 - s1 - (pBor m0 s0 (0 : Int64))) (m2 - s2 - (pBor m1 s1 (pBor m0 s0 (0 : Int64))))) (m0 - s0 - (0 : Int64)) (m1 - s1 - (pBor m0 s0 (0 : Int64))) (m2 - s2 - (pBor m1 s1 (pBor m0 s0 (0 : Int64))))) [(.long (m0 - s0 - (0 : Int64))), (.long ((m0 - s0 - (0 : Int64)) + s0))])) rfl (by rw [hml]; rfl) (argsL := [(.long ((m0 - s0 - (0 : Int64)) + s0)), (.long (m0 - s0 - (0 : Int64)))]) (rest := []) (lenOf pd_0_t rfl) rfl (by show 2 * 0 + _ ≤ _; exact Nat.le_of_eq rfl) (hb hby at_251) (fun _ _ => ⟨rfl, e0, (by decide : 2 + 0 ≤ _), (by decide : 6 + 0 ≤ _)⟩)
  dsimp only [Pt.U, Pt.locs, Pt.cells, Pt.slots] at X1 l1 y1 z1 st1 hQ1
  subst l1 y1 z1
  obtain ⟨rfl, N1q, e1⟩ := hQ1
  have N1 := Fr.app N0 N1q
  obtain ⟨_, _, ⟨T2, L2, k2, n2⟩, -, X2, ⟨Lc2, hQ2, l2, y2, z2⟩, st2⟩ := Jvm.LawKit.callS X1 hx (y := (⟨"ringfold/modular/WordsSubtractFromPinLaw", "ltU", "(JJ)Z"⟩ : MethodName)) hown (mvT hZ (hw _ (List.mem_of_getElem? (i := 6) rfl))) (mvT hZ (hw _ (List.mem_of_getElem? (i := 7) rfl))) (mvT hZ (hw _ (List.mem_of_getElem? (i := 4) rfl))) (mvT hZ (hw _ (List.mem_of_getElem? (i := 8) rfl))) (by decide) (backOf (W := 0) (rm2 l Z a0 hw [] ((m1 - s1 - (pBor m0 s0 (0 : Int64))) + s1) (m1 - s1 - (pBor m0 s0 (0 : Int64))) h0 n0 Z0) hZ (hw _ (List.mem_of_getElem? (i := 8) rfl)) (hw _ (List.mem_of_getElem? (i := 4) rfl)) (by decide) (by decide)) (g := (mkF m 275 (own_l37 x0 x1 x2 y0 y1 yc len y2 g0 g1 g2 m0 m1 m2 s0 s1 s2 bw bm (pSig (m0 - s0 - (0 : Int64)) (m1 - s1 - (pBor m0 s0 (0 : Int64))) (m2 - s2 - (pBor m1 s1 (pBor m0 s0 (0 : Int64))))) (m0 - s0 - (0 : Int64)) (m1 - s1 - (pBor m0 s0 (0 : Int64))) (m2 - s2 - (pBor m1 s1 (pBor m0 s0 (0 : Int64)))) (pC0 m0 s0)) [(.long (m1 - s1 - (pBor m0 s0 (0 : Int64)))), (.long ((m1 - s1 - (pBor m0 s0 (0 : Int64))) + s1))])) rfl (by rw [hml]; rfl) (argsL := [(.long ((m1 - s1 - (pBor m0 s0 (0 : Int64))) + s1)), (.long (m1 - s1 - (pBor m0 s0 (0 : Int64))))]) (rest := []) (lenOf pd_0_t rfl) rfl (by show 2 * 0 + _ ≤ _; exact Nat.le_of_eq rfl) (hb hby at_275) (fun _ _ => ⟨rfl, e1, (by decide : 2 + 0 ≤ _), (by decide : 6 + 0 ≤ _)⟩)
  dsimp only [Pt.U, Pt.locs, Pt.cells, Pt.slots] at X2 l2 y2 z2 st2 hQ2
  subst l2 y2 z2
  obtain ⟨rfl, N2q, e2⟩ := hQ2
  have N2 := Fr.app N1 N2q
  have h3 : ∀ target, Steps p.tables e below (T1.setTop (mkF m 264 (own_l35 x0 x1 x2 y0 y1 yc len y2 g0 g1 g2 m0 m1 m2 s0 s1 s2 bw bm (pSig (m0 - s0 - (0 : Int64)) (m1 - s1 - (pBor m0 s0 (0 : Int64))) (m2 - s2 - (pBor m1 s1 (pBor m0 s0 (0 : Int64))))) (m0 - s0 - (0 : Int64)) (m1 - s1 - (pBor m0 s0 (0 : Int64))) (m2 - s2 - (pBor m1 s1 (pBor m0 s0 (0 : Int64)))) (pC0 m0 s0)) [])) target → Steps p.tables e below (T1.setTop (mkF m 254 (own_l33 x0 x1 x2 y0 y1 yc len y2 g0 g1 g2 m0 m1 m2 s0 s1 s2 bw bm (pSig (m0 - s0 - (0 : Int64)) (m1 - s1 - (pBor m0 s0 (0 : Int64))) (m2 - s2 - (pBor m1 s1 (pBor m0 s0 (0 : Int64))))) (m0 - s0 - (0 : Int64)) (m1 - s1 - (pBor m0 s0 (0 : Int64))) (m2 - s2 - (pBor m1 s1 (pBor m0 s0 (0 : Int64))))) [(.int (pLt ((m0 - s0 - (0 : Int64)) + s0) (m0 - s0 - (0 : Int64))))])) target := by
    by_cases hl : (pLt ((m0 - s0 - (0 : Int64)) + s0) (m0 - s0 - (0 : Int64))) = (0 : Int32)
    · exact qe3_t x0 x1 x2 y0 y1 yc len y2 g0 g1 g2 m0 m1 m2 s0 s1 s2 bw bm (pSig (m0 - s0 - (0 : Int64)) (m1 - s1 - (pBor m0 s0 (0 : Int64))) (m2 - s2 - (pBor m1 s1 (pBor m0 s0 (0 : Int64))))) (m0 - s0 - (0 : Int64)) (m1 - s1 - (pBor m0 s0 (0 : Int64))) (m2 - s2 - (pBor m1 s1 (pBor m0 s0 (0 : Int64)))) _ _ X1 hx hby hl (by unfold pC0; rw [if_pos hl])
    · exact qe3_f x0 x1 x2 y0 y1 yc len y2 g0 g1 g2 m0 m1 m2 s0 s1 s2 bw bm (pSig (m0 - s0 - (0 : Int64)) (m1 - s1 - (pBor m0 s0 (0 : Int64))) (m2 - s2 - (pBor m1 s1 (pBor m0 s0 (0 : Int64))))) (m0 - s0 - (0 : Int64)) (m1 - s1 - (pBor m0 s0 (0 : Int64))) (m2 - s2 - (pBor m1 s1 (pBor m0 s0 (0 : Int64)))) _ _ X1 hx hby hl (by unfold pC0; rw [if_neg hl])
  have h6 : ∀ target, Steps p.tables e below (T2.setTop (mkF m 308 (own_l41 x0 x1 x2 y0 y1 yc len y2 g0 g1 g2 m0 m1 m2 s0 s1 s2 bw bm (pSig (m0 - s0 - (0 : Int64)) (m1 - s1 - (pBor m0 s0 (0 : Int64))) (m2 - s2 - (pBor m1 s1 (pBor m0 s0 (0 : Int64))))) (m0 - s0 - (0 : Int64)) (m1 - s1 - (pBor m0 s0 (0 : Int64))) (m2 - s2 - (pBor m1 s1 (pBor m0 s0 (0 : Int64)))) (pC0 m0 s0) (pLt ((m1 - s1 - (pBor m0 s0 (0 : Int64))) + s1) (m1 - s1 - (pBor m0 s0 (0 : Int64)))) (pCb m0 m1 s0 s1)) [])) target → Steps p.tables e below (T2.setTop (mkF m 287 (own_l39 x0 x1 x2 y0 y1 yc len y2 g0 g1 g2 m0 m1 m2 s0 s1 s2 bw bm (pSig (m0 - s0 - (0 : Int64)) (m1 - s1 - (pBor m0 s0 (0 : Int64))) (m2 - s2 - (pBor m1 s1 (pBor m0 s0 (0 : Int64))))) (m0 - s0 - (0 : Int64)) (m1 - s1 - (pBor m0 s0 (0 : Int64))) (m2 - s2 - (pBor m1 s1 (pBor m0 s0 (0 : Int64)))) (pC0 m0 s0) (pLt ((m1 - s1 - (pBor m0 s0 (0 : Int64))) + s1) (m1 - s1 - (pBor m0 s0 (0 : Int64))))) [])) target := by
    by_cases hl : lcmpW (pC0 m0 s0) (1 : Int64) = (0 : Int32)
    · by_cases hm : lcmpW (((m1 - s1 - (pBor m0 s0 (0 : Int64))) + s1) + (pC0 m0 s0)) (0 : Int64) = (0 : Int32)
      · exact qe6_ff x0 x1 x2 y0 y1 yc len y2 g0 g1 g2 m0 m1 m2 s0 s1 s2 bw bm (pSig (m0 - s0 - (0 : Int64)) (m1 - s1 - (pBor m0 s0 (0 : Int64))) (m2 - s2 - (pBor m1 s1 (pBor m0 s0 (0 : Int64))))) (m0 - s0 - (0 : Int64)) (m1 - s1 - (pBor m0 s0 (0 : Int64))) (m2 - s2 - (pBor m1 s1 (pBor m0 s0 (0 : Int64)))) (pC0 m0 s0) _ _ X2 hx hby hl hm (by unfold pCb; rw [if_pos hl, if_pos hm])
      · exact qe6_ft x0 x1 x2 y0 y1 yc len y2 g0 g1 g2 m0 m1 m2 s0 s1 s2 bw bm (pSig (m0 - s0 - (0 : Int64)) (m1 - s1 - (pBor m0 s0 (0 : Int64))) (m2 - s2 - (pBor m1 s1 (pBor m0 s0 (0 : Int64))))) (m0 - s0 - (0 : Int64)) (m1 - s1 - (pBor m0 s0 (0 : Int64))) (m2 - s2 - (pBor m1 s1 (pBor m0 s0 (0 : Int64)))) (pC0 m0 s0) _ _ X2 hx hby hl hm (by unfold pCb; rw [if_pos hl, if_neg hm])
    · exact qe6_t x0 x1 x2 y0 y1 yc len y2 g0 g1 g2 m0 m1 m2 s0 s1 s2 bw bm (pSig (m0 - s0 - (0 : Int64)) (m1 - s1 - (pBor m0 s0 (0 : Int64))) (m2 - s2 - (pBor m1 s1 (pBor m0 s0 (0 : Int64))))) (m0 - s0 - (0 : Int64)) (m1 - s1 - (pBor m0 s0 (0 : Int64))) (m2 - s2 - (pBor m1 s1 (pBor m0 s0 (0 : Int64)))) (pC0 m0 s0) _ _ X2 hx hby hl (by unfold pCb; rw [if_neg hl])
  have h7 : ∀ target, Steps p.tables e below (T2.setTop (mkF m 325 (own_l44 x0 x1 x2 y0 y1 yc len y2 g0 g1 g2 m0 m1 m2 s0 s1 s2 bw bm (pSig (m0 - s0 - (0 : Int64)) (m1 - s1 - (pBor m0 s0 (0 : Int64))) (m2 - s2 - (pBor m1 s1 (pBor m0 s0 (0 : Int64))))) (m0 - s0 - (0 : Int64)) (m1 - s1 - (pBor m0 s0 (0 : Int64))) (m2 - s2 - (pBor m1 s1 (pBor m0 s0 (0 : Int64)))) (pC0 m0 s0) (pLt ((m1 - s1 - (pBor m0 s0 (0 : Int64))) + s1) (m1 - s1 - (pBor m0 s0 (0 : Int64)))) (pCb m0 m1 s0 s1) (pC1 m0 m1 s0 s1)) [])) target → Steps p.tables e below (T2.setTop (mkF m 308 (own_l41 x0 x1 x2 y0 y1 yc len y2 g0 g1 g2 m0 m1 m2 s0 s1 s2 bw bm (pSig (m0 - s0 - (0 : Int64)) (m1 - s1 - (pBor m0 s0 (0 : Int64))) (m2 - s2 - (pBor m1 s1 (pBor m0 s0 (0 : Int64))))) (m0 - s0 - (0 : Int64)) (m1 - s1 - (pBor m0 s0 (0 : Int64))) (m2 - s2 - (pBor m1 s1 (pBor m0 s0 (0 : Int64)))) (pC0 m0 s0) (pLt ((m1 - s1 - (pBor m0 s0 (0 : Int64))) + s1) (m1 - s1 - (pBor m0 s0 (0 : Int64)))) (pCb m0 m1 s0 s1)) [])) target := by
    by_cases hl : (pLt ((m1 - s1 - (pBor m0 s0 (0 : Int64))) + s1) (m1 - s1 - (pBor m0 s0 (0 : Int64)))) = (0 : Int32)
    · by_cases hm : (pCb m0 m1 s0 s1) = (0 : Int32)
      · exact qe7_ft x0 x1 x2 y0 y1 yc len y2 g0 g1 g2 m0 m1 m2 s0 s1 s2 bw bm (pSig (m0 - s0 - (0 : Int64)) (m1 - s1 - (pBor m0 s0 (0 : Int64))) (m2 - s2 - (pBor m1 s1 (pBor m0 s0 (0 : Int64))))) (m0 - s0 - (0 : Int64)) (m1 - s1 - (pBor m0 s0 (0 : Int64))) (m2 - s2 - (pBor m1 s1 (pBor m0 s0 (0 : Int64)))) (pC0 m0 s0) _ (pCb m0 m1 s0 s1) _ X2 hx hby hl hm (by unfold pC1; rw [if_pos hl, if_pos hm])
      · exact qe7_ff x0 x1 x2 y0 y1 yc len y2 g0 g1 g2 m0 m1 m2 s0 s1 s2 bw bm (pSig (m0 - s0 - (0 : Int64)) (m1 - s1 - (pBor m0 s0 (0 : Int64))) (m2 - s2 - (pBor m1 s1 (pBor m0 s0 (0 : Int64))))) (m0 - s0 - (0 : Int64)) (m1 - s1 - (pBor m0 s0 (0 : Int64))) (m2 - s2 - (pBor m1 s1 (pBor m0 s0 (0 : Int64)))) (pC0 m0 s0) _ (pCb m0 m1 s0 s1) _ X2 hx hby hl hm (by unfold pC1; rw [if_pos hl, if_neg hm])
    · exact qe7_t x0 x1 x2 y0 y1 yc len y2 g0 g1 g2 m0 m1 m2 s0 s1 s2 bw bm (pSig (m0 - s0 - (0 : Int64)) (m1 - s1 - (pBor m0 s0 (0 : Int64))) (m2 - s2 - (pBor m1 s1 (pBor m0 s0 (0 : Int64))))) (m0 - s0 - (0 : Int64)) (m1 - s1 - (pBor m0 s0 (0 : Int64))) (m2 - s2 - (pBor m1 s1 (pBor m0 s0 (0 : Int64)))) (pC0 m0 s0) _ (pCb m0 m1 s0 s1) _ X2 hx hby hl (by unfold pC1; rw [if_neg hl])
  have h8 := qe8 x0 x1 x2 y0 y1 yc len y2 g0 g1 g2 m0 m1 m2 s0 s1 s2 bw bm (pSig (m0 - s0 - (0 : Int64)) (m1 - s1 - (pBor m0 s0 (0 : Int64))) (m2 - s2 - (pBor m1 s1 (pBor m0 s0 (0 : Int64))))) (m0 - s0 - (0 : Int64)) (m1 - s1 - (pBor m0 s0 (0 : Int64))) (m2 - s2 - (pBor m1 s1 (pBor m0 s0 (0 : Int64)))) (pC0 m0 s0) (pLt ((m1 - s1 - (pBor m0 s0 (0 : Int64))) + s1) (m1 - s1 - (pBor m0 s0 (0 : Int64)))) (pCb m0 m1 s0 s1) (pC1 m0 m1 s0 s1) X2 hx hby ((lw_eq _ _).mpr (own_lo m0 s0)) ((lw_eq _ _).mpr (own_mid m0 m1 s0 s1)) ((lw_eq _ _).mpr (own_hi m0 m1 m2 s0 s1 s2))
  have h9 : ∀ target, Steps p.tables e below (T2.setTop (mkF m 402 (own_l49 x0 x1 x2 y0 y1 yc len y2 g0 g1 g2 m0 m1 m2 s0 s1 s2 bw bm (pSig (m0 - s0 - (0 : Int64)) (m1 - s1 - (pBor m0 s0 (0 : Int64))) (m2 - s2 - (pBor m1 s1 (pBor m0 s0 (0 : Int64))))) (m0 - s0 - (0 : Int64)) (m1 - s1 - (pBor m0 s0 (0 : Int64))) (m2 - s2 - (pBor m1 s1 (pBor m0 s0 (0 : Int64)))) (pC0 m0 s0) (pLt ((m1 - s1 - (pBor m0 s0 (0 : Int64))) + s1) (m1 - s1 - (pBor m0 s0 (0 : Int64)))) (pCb m0 m1 s0 s1) (pC1 m0 m1 s0 s1) (pSig (m0 - s0 - (0 : Int64)) (m1 - s1 - (pBor m0 s0 (0 : Int64))) (m2 - s2 - (pBor m1 s1 (pBor m0 s0 (0 : Int64)))))) [])) target → Steps p.tables e below (T2.setTop (mkF m 366 (own_l47 x0 x1 x2 y0 y1 yc len y2 g0 g1 g2 m0 m1 m2 s0 s1 s2 bw bm (pSig (m0 - s0 - (0 : Int64)) (m1 - s1 - (pBor m0 s0 (0 : Int64))) (m2 - s2 - (pBor m1 s1 (pBor m0 s0 (0 : Int64))))) (m0 - s0 - (0 : Int64)) (m1 - s1 - (pBor m0 s0 (0 : Int64))) (m2 - s2 - (pBor m1 s1 (pBor m0 s0 (0 : Int64)))) (pC0 m0 s0) (pLt ((m1 - s1 - (pBor m0 s0 (0 : Int64))) + s1) (m1 - s1 - (pBor m0 s0 (0 : Int64)))) (pCb m0 m1 s0 s1) (pC1 m0 m1 s0 s1)) [])) target := by
    by_cases hl : lcmpW (m2 - s2 - (pBor m1 s1 (pBor m0 s0 (0 : Int64)))) (0 : Int64) = (0 : Int32)
    · by_cases hm : lcmpW (m1 - s1 - (pBor m0 s0 (0 : Int64))) (0 : Int64) = (0 : Int32)
      · by_cases hn : lcmpW (m0 - s0 - (0 : Int64)) (0 : Int64) = (0 : Int32)
        · exact qe9_ttt x0 x1 x2 y0 y1 yc len y2 g0 g1 g2 m0 m1 m2 s0 s1 s2 bw bm (pSig (m0 - s0 - (0 : Int64)) (m1 - s1 - (pBor m0 s0 (0 : Int64))) (m2 - s2 - (pBor m1 s1 (pBor m0 s0 (0 : Int64))))) (m0 - s0 - (0 : Int64)) (m1 - s1 - (pBor m0 s0 (0 : Int64))) (m2 - s2 - (pBor m1 s1 (pBor m0 s0 (0 : Int64)))) (pC0 m0 s0) (pLt ((m1 - s1 - (pBor m0 s0 (0 : Int64))) + s1) (m1 - s1 - (pBor m0 s0 (0 : Int64)))) (pCb m0 m1 s0 s1) (pC1 m0 m1 s0 s1) _ X2 hx hby hl hm hn (by unfold pSig; rw [if_pos hl, if_pos hm, if_pos hn])
        · exact qe9_ttf x0 x1 x2 y0 y1 yc len y2 g0 g1 g2 m0 m1 m2 s0 s1 s2 bw bm (pSig (m0 - s0 - (0 : Int64)) (m1 - s1 - (pBor m0 s0 (0 : Int64))) (m2 - s2 - (pBor m1 s1 (pBor m0 s0 (0 : Int64))))) (m0 - s0 - (0 : Int64)) (m1 - s1 - (pBor m0 s0 (0 : Int64))) (m2 - s2 - (pBor m1 s1 (pBor m0 s0 (0 : Int64)))) (pC0 m0 s0) (pLt ((m1 - s1 - (pBor m0 s0 (0 : Int64))) + s1) (m1 - s1 - (pBor m0 s0 (0 : Int64)))) (pCb m0 m1 s0 s1) (pC1 m0 m1 s0 s1) _ X2 hx hby hl hm hn (by unfold pSig; rw [if_pos hl, if_pos hm, if_neg hn])
      · exact qe9_tf x0 x1 x2 y0 y1 yc len y2 g0 g1 g2 m0 m1 m2 s0 s1 s2 bw bm (pSig (m0 - s0 - (0 : Int64)) (m1 - s1 - (pBor m0 s0 (0 : Int64))) (m2 - s2 - (pBor m1 s1 (pBor m0 s0 (0 : Int64))))) (m0 - s0 - (0 : Int64)) (m1 - s1 - (pBor m0 s0 (0 : Int64))) (m2 - s2 - (pBor m1 s1 (pBor m0 s0 (0 : Int64)))) (pC0 m0 s0) (pLt ((m1 - s1 - (pBor m0 s0 (0 : Int64))) + s1) (m1 - s1 - (pBor m0 s0 (0 : Int64)))) (pCb m0 m1 s0 s1) (pC1 m0 m1 s0 s1) _ X2 hx hby hl hm (by unfold pSig; rw [if_pos hl, if_neg hm])
    · exact qe9_f x0 x1 x2 y0 y1 yc len y2 g0 g1 g2 m0 m1 m2 s0 s1 s2 bw bm (pSig (m0 - s0 - (0 : Int64)) (m1 - s1 - (pBor m0 s0 (0 : Int64))) (m2 - s2 - (pBor m1 s1 (pBor m0 s0 (0 : Int64))))) (m0 - s0 - (0 : Int64)) (m1 - s1 - (pBor m0 s0 (0 : Int64))) (m2 - s2 - (pBor m1 s1 (pBor m0 s0 (0 : Int64)))) (pC0 m0 s0) (pLt ((m1 - s1 - (pBor m0 s0 (0 : Int64))) + s1) (m1 - s1 - (pBor m0 s0 (0 : Int64)))) (pCb m0 m1 s0 s1) (pC1 m0 m1 s0 s1) _ X2 hx hby hl (by unfold pSig; rw [if_neg hl])
  refine ⟨T2, _, (own_l53 x0 x1 x2 y0 y1 yc len y2 g0 g1 g2 m0 m1 m2 s0 s1 s2 bw bm (pSig (m0 - s0 - (0 : Int64)) (m1 - s1 - (pBor m0 s0 (0 : Int64))) (m2 - s2 - (pBor m1 s1 (pBor m0 s0 (0 : Int64))))) (m0 - s0 - (0 : Int64)) (m1 - s1 - (pBor m0 s0 (0 : Int64))) (m2 - s2 - (pBor m1 s1 (pBor m0 s0 (0 : Int64)))) (pC0 m0 s0) (pLt ((m1 - s1 - (pBor m0 s0 (0 : Int64))) + s1) (m1 - s1 - (pBor m0 s0 (0 : Int64)))) (pCb m0 m1 s0 s1) (pC1 m0 m1 s0 s1) (pSig (m0 - s0 - (0 : Int64)) (m1 - s1 - (pBor m0 s0 (0 : Int64))) (m2 - s2 - (pBor m1 s1 (pBor m0 s0 (0 : Int64)))))), X2, N2, fun target kt => ?_⟩
  refine qe1 x0 x1 x2 y0 y1 yc len y2 g0 g1 g2 m0 m1 m2 s0 s1 s2 bw bm (pSig (m0 - s0 - (0 : Int64)) (m1 - s1 - (pBor m0 s0 (0 : Int64))) (m2 - s2 - (pBor m1 s1 (pBor m0 s0 (0 : Int64))))) (m0 - s0 - (0 : Int64)) (m1 - s1 - (pBor m0 s0 (0 : Int64))) (m2 - s2 - (pBor m1 s1 (pBor m0 s0 (0 : Int64)))) X0 hx hby hZ e0 ArW SW inW0 atW0 inW1 atW1 inW2 atW2 _ ?_
  refine qe2 x0 x1 x2 y0 y1 yc len y2 g0 g1 g2 m0 m1 m2 s0 s1 s2 bw bm (pSig (m0 - s0 - (0 : Int64)) (m1 - s1 - (pBor m0 s0 (0 : Int64))) (m2 - s2 - (pBor m1 s1 (pBor m0 s0 (0 : Int64))))) (m0 - s0 - (0 : Int64)) (m1 - s1 - (pBor m0 s0 (0 : Int64))) (m2 - s2 - (pBor m1 s1 (pBor m0 s0 (0 : Int64)))) X0 hx hby _ (st1 _ ?_)
  refine h3 _ ?_
  refine qe4 x0 x1 x2 y0 y1 yc len y2 g0 g1 g2 m0 m1 m2 s0 s1 s2 bw bm (pSig (m0 - s0 - (0 : Int64)) (m1 - s1 - (pBor m0 s0 (0 : Int64))) (m2 - s2 - (pBor m1 s1 (pBor m0 s0 (0 : Int64))))) (m0 - s0 - (0 : Int64)) (m1 - s1 - (pBor m0 s0 (0 : Int64))) (m2 - s2 - (pBor m1 s1 (pBor m0 s0 (0 : Int64)))) (pC0 m0 s0) X1 hx hby _ (st2 _ ?_)
  refine qe5 x0 x1 x2 y0 y1 yc len y2 g0 g1 g2 m0 m1 m2 s0 s1 s2 bw bm (pSig (m0 - s0 - (0 : Int64)) (m1 - s1 - (pBor m0 s0 (0 : Int64))) (m2 - s2 - (pBor m1 s1 (pBor m0 s0 (0 : Int64))))) (m0 - s0 - (0 : Int64)) (m1 - s1 - (pBor m0 s0 (0 : Int64))) (m2 - s2 - (pBor m1 s1 (pBor m0 s0 (0 : Int64)))) (pC0 m0 s0) (pLt ((m1 - s1 - (pBor m0 s0 (0 : Int64))) + s1) (m1 - s1 - (pBor m0 s0 (0 : Int64)))) X2 hx hby _ ?_
  refine h6 _ (h7 _ (h8 _ (h9 _ ?_)))
  refine qe10 x0 x1 x2 y0 y1 yc len y2 g0 g1 g2 m0 m1 m2 s0 s1 s2 bw bm (pSig (m0 - s0 - (0 : Int64)) (m1 - s1 - (pBor m0 s0 (0 : Int64))) (m2 - s2 - (pBor m1 s1 (pBor m0 s0 (0 : Int64))))) (m0 - s0 - (0 : Int64)) (m1 - s1 - (pBor m0 s0 (0 : Int64))) (m2 - s2 - (pBor m1 s1 (pBor m0 s0 (0 : Int64)))) (pC0 m0 s0) (pLt ((m1 - s1 - (pBor m0 s0 (0 : Int64))) + s1) (m1 - s1 - (pBor m0 s0 (0 : Int64)))) (pCb m0 m1 s0 s1) (pC1 m0 m1 s0 s1) (pSig (m0 - s0 - (0 : Int64)) (m1 - s1 - (pBor m0 s0 (0 : Int64))) (m2 - s2 - (pBor m1 s1 (pBor m0 s0 (0 : Int64))))) X2 hx hby hZ e2 ArM SM inM0 atM0 inM1 atM1 inM2 atM2 _ ?_
  exact qe11 x0 x1 x2 y0 y1 yc len y2 g0 g1 g2 m0 m1 m2 s0 s1 s2 bw bm (pSig (m0 - s0 - (0 : Int64)) (m1 - s1 - (pBor m0 s0 (0 : Int64))) (m2 - s2 - (pBor m1 s1 (pBor m0 s0 (0 : Int64))))) (m0 - s0 - (0 : Int64)) (m1 - s1 - (pBor m0 s0 (0 : Int64))) (m2 - s2 - (pBor m1 s1 (pBor m0 s0 (0 : Int64)))) (pC0 m0 s0) (pLt ((m1 - s1 - (pBor m0 s0 (0 : Int64))) + s1) (m1 - s1 - (pBor m0 s0 (0 : Int64)))) (pCb m0 m1 s0 s1) (pC1 m0 m1 s0 s1) (pSig (m0 - s0 - (0 : Int64)) (m1 - s1 - (pBor m0 s0 (0 : Int64))) (m2 - s2 - (pBor m1 s1 (pBor m0 s0 (0 : Int64))))) X2 hx hby rfl _ kt

theorem pn_0 : plainName "ringfold/modular/WordsSubtractFromPinLaw" = true := by first | (simp [plainName, overriddenIn]; done) | decide +kernel
theorem ef_0 (m : MethodId) (x0 : Int64) (x1 : Int64) (x2 : Int64) (y0 : Int64) (y1 : Int64) (yc : Int64) : entryFrame m #[(.long x0), (.long x1), (.long x2), (.long y0), (.long y1), (.long yc)] maxLocals = (mkF m 0 (own_l0 x0 x1 x2 y0 y1 yc) []) := by first | (simp [entryFrame, mkF, argsToLocals, Value.category, maxLocals]; done) | rfl
def Q0 (n0 : Nat) (v : Option Value) (L : List Loc) : Prop := v = some (.int (1 : Int32)) ∧ Fr n0 L
set_option maxRecDepth 65536 in
set_option maxHeartbeats 40000000 in
theorem rm0 (l : Launch) (Z : State) (a0 : Array Value) (hw : ∀ d ∈ tables_1, d.before a0 Z = true) (ws : List Jvm.Cond) (x0 x1 x2 y0 y1 yc : Int64) (h0 : Heap) (n0 : Nat) (Z0 : n0 ≤ h0.size) :
    MetFree l x (head1 (Jvm.Cond.code x code maxLocals ret :: ws) room_1) (fun a U => a = #[(.long x0), (.long x1), (.long x2), (.long y0), (.long y1), (.long yc)] ∧ Z.Warmed39 U.vm ∧ U.heap = h0) (fun _ _ _ _ _ => True) (fun _ U o U' => ∃ v L, o = .returned v ∧ Q0 n0 v L ∧ FrameEnd U o U' L 16 128) := by
  refine MetFree.of_bodySF (plainFor_of_name pn_0) hisR ?_
  intro p e s m args below meth c s₁ Bd hml0 hP hK
  obtain ⟨rfl, hZ, hh⟩ := hP
  have hx := Bd.exec
  have hby := Bd.bytes
  have hml : c.maxLocals = 59 := hml0
  have hown : s.vm.findClass "ringfold/modular/WordsSubtractFromPinLaw" = some m.cls := findClass_of_methodNamed Bd.named
  have X0 : Stand p l e room_1 s m #[(.long x0), (.long x1), (.long x2), (.long y0), (.long y1), (.long yc)] below meth c s₁ [] 0 0 := Stand.of_body Bd
  have e0 : s₁.heap = h0 := by rw [← hh, Bd.state]; rfl
  have N0 := Fr.nil n0
  have pre0 : ∀ t, Steps p.tables e below (s₁.setTop (mkF m 0 (own_l0 x0 x1 x2 y0 y1 yc) [])) t → Steps p.tables e below (s₁.setTop (entryFrame m #[(.long x0), (.long x1), (.long x2), (.long y0), (.long y1), (.long yc)] maxLocals)) t := fun t k => castTop (ef_0 m x0 x1 x2 y0 y1 yc) k
  obtain ⟨len, y2, g0, g1, g2, hlen, hy2, hg0, hg1, hg2, stA⟩ := own_A x0 x1 x2 y0 y1 yc X0 hx hby hZ hw hown
  obtain ⟨_, _, ⟨T1, L1, k1, n1⟩, -, X1, ⟨Lc1, hQ1, l1, y1, z1⟩, st1⟩ := Jvm.LawKit.callS X0 hx (y := (⟨"ringfold/modular/WordsSubtractFromPinLaw", "less3", "(JJJJJJ)Z"⟩ : MethodName)) hown (mvT hZ (hw _ (List.mem_of_getElem? (i := 2) rfl))) (mvT hZ (hw _ (List.mem_of_getElem? (i := 3) rfl))) (mvT hZ (hw _ (List.mem_of_getElem? (i := 4) rfl))) (mvT hZ (hw _ (List.mem_of_getElem? (i := 5) rfl))) (by decide) (backOf (W := 0) (rm1 l Z a0 hw [] x0 x1 x2 g0 g1 g2 h0 n0 Z0) hZ (hw _ (List.mem_of_getElem? (i := 5) rfl)) (hw _ (List.mem_of_getElem? (i := 4) rfl)) (by decide) (by decide)) (g := (mkF m 68 (own_l11 x0 x1 x2 y0 y1 yc len y2 g0 g1 g2) [(.long g2), (.long g1), (.long g0), (.long x2), (.long x1), (.long x0)])) rfl (by rw [hml]; rfl) (argsL := [(.long x0), (.long x1), (.long x2), (.long g0), (.long g1), (.long g2)]) (rest := []) (lenOf pd_0_l rfl) rfl (by show 2 * 0 + _ ≤ _; exact Nat.le_of_eq rfl) (hb hby at_68) (fun _ _ => ⟨rfl, e0, (by decide : 0 + 0 ≤ _), (by decide : 0 + 0 ≤ _)⟩)
  dsimp only [Pt.U, Pt.locs, Pt.cells, Pt.slots] at X1 l1 y1 z1 st1 hQ1
  subst l1 y1 z1
  obtain ⟨rfl, N1q, e1⟩ := hQ1
  have N1 := Fr.app N0 N1q
  obtain ⟨T5, L5, Ls, X5, N5, st5⟩ : ∃ (T' : State) (locs' : List Loc) (Ls : Array Slot), Stand p l e room_1 s m #[(.long x0), (.long x1), (.long x2), (.long y0), (.long y1), (.long yc)] below meth c T' locs' 2 6 ∧ Fr n0 locs' ∧
      ∀ target, Steps p.tables e below (T'.setTop (mkF m 461 Ls [(.int (1 : Int32))])) target → Steps p.tables e below (T1.setTop (mkF m 71 (own_l11 x0 x1 x2 y0 y1 yc len y2 g0 g1 g2) [(.int (pLess x0 x1 x2 g0 g1 g2))])) target := by
    by_cases hr : (pLess x0 x1 x2 g0 g1 g2) = (0 : Int32)
    · obtain ⟨T2, h2, L2, k2, bw, X2, e2, N2, Z2, g_bw, V2, st2⟩ := own_Cg x0 x1 x2 y0 y1 yc len y2 g0 g1 g2 (pLess x0 x1 x2 g0 g1 g2) X1 hx hZ hw hby e1 Z0 N1 hr
      obtain ⟨T3, L3, km, bm, h3, X3, e3, N3, Z3, M3, W3, st3⟩ := own_D x0 x1 x2 y0 y1 yc len y2 g0 g1 g2 x0 x1 x2 g0 g1 g2 bw y0 y1 y2 hg0.symm hg1.symm hg2.symm X2 hx hZ hw hby hml hown e2 Z2 N2 g_bw V2
      obtain ⟨T4, L4, Ls, X4, N4, st4⟩ := own_E x0 x1 x2 y0 y1 yc len y2 g0 g1 g2 x0 x1 x2 g0 g1 g2 bw bm X3 hx hZ hw hby hml hown e3 Z3 N3 M3 W3
      exact ⟨T4, L4, Ls, X4, N4, fun t k => st2 _ (st3 _ (st4 _ k))⟩
    · obtain ⟨T2, h2, L2, k2, bw, X2, e2, N2, Z2, g_bw, V2, st2⟩ := own_Cl x0 x1 x2 y0 y1 yc len y2 g0 g1 g2 (pLess x0 x1 x2 g0 g1 g2) X1 hx hZ hw hby e1 Z0 N1 hr
      obtain ⟨z0, z1, z2⟩ := own_less len x0 x1 x2 y0 y1 y2 g0 g1 g2 hg0 hg1 hg2 hr
      obtain ⟨T3, L3, km, bm, h3, X3, e3, N3, Z3, M3, W3, st3⟩ := own_D x0 x1 x2 y0 y1 yc len y2 g0 g1 g2 g0 g1 g2 x0 x1 x2 bw (if (0 : Int32) < len then x0 else y0) (if (1 : Int32) < len then x1 else y1) (if (2 : Int32) < len then x2 else y2) z0 z1 z2 X2 hx hZ hw hby hml hown e2 Z2 N2 g_bw V2
      obtain ⟨T4, L4, Ls, X4, N4, st4⟩ := own_E x0 x1 x2 y0 y1 yc len y2 g0 g1 g2 g0 g1 g2 x0 x1 x2 bw bm X3 hx hZ hw hby hml hown e3 Z3 N3 M3 W3
      exact ⟨T4, L4, Ls, X4, N4, fun t k => st2 _ (st3 _ (st4 _ k))⟩
  obtain ⟨fs, hr, hrun, hended, hW, hsame⟩ := X5.leave (v := some (.int (1 : Int32))) (fun h => by rw [Bd.returns] at h; cases h)
  refine ⟨_, _, pre0 _ ?_, hrun, hended, _, _, rfl, ⟨rfl, N5⟩, ⟨_, rfl⟩, hW, hsame.mono (by decide) (by decide)⟩
  refine stA _ (st1 _ (st5 _ ?_))
  exact retN X5 hx (t := .boolean) Bd.returns (by simp) (hb hby at_461) hr
set_option maxRecDepth 65536 in
set_option maxHeartbeats 40000000 in
theorem comes_1 {Post : Tables → Env → Array Value → State → Outcome → State → Prop} (hpost : ∀ tb e args s v u, (limb_1_1.after args s (.returned v) u = true ∧ limb_1_2.after args s (.returned v) u = true ∧ True) → FrameEnd s (.returned v) u (Jvm.fieldLocs frame_1_writes args s ++ Jvm.arrayLocs frame_1_arrays args s ++ Jvm.staticLocs frame_1_statics s) 16 128 → Post tb e args s (.returned v) u) :
    ArmFor flags0 classFile x code maxLocals ret World_1 tables_1 room_1 Calls_1 rest_1 Pre_1 Post := by
  intro l hfl _ _ p e ha hc hk s m args below hf hA hF happ hP
  obtain ⟨hcalls, hrest, hpre⟩ := hP
  obtain ⟨-, -, -, hnamed, -, -, -, hat⟩ := (Spec.applies_iff hf).mp happ
  obtain ⟨hg, hn⟩ := and_e (Cond.before_iff.mp (show (Jvm.Cond.and given_1 narrow_1).before args s = true from hpre))
  obtain ⟨k1, k2⟩ := and_e hg
  obtain ⟨k3, k4⟩ := and_e k2
  obtain ⟨k5, k6⟩ := and_e k4
  obtain ⟨k7, k8⟩ := and_e k6
  obtain ⟨k9, k10⟩ := and_e k8
  obtain ⟨k11, k12⟩ := and_e k10
  obtain ⟨w0, w1, w2, w3, w4, w5, rfl⟩ : ∃ w0 w1 w2 w3 w4 w5 : Value, args = #[w0, w1, w2, w3, w4, w5] := by
    have hs : args.size = 6 := by simpa [Cond.value, given_1] using k1
    obtain ⟨L⟩ := args
    match L, hs with
    | [w0, w1, w2, w3, w4, w5], _ => exact ⟨w0, w1, w2, w3, w4, w5, rfl⟩
  have hw := fun d (hd : d ∈ tables_1) => atoms_spec (ws := Jvm.Cond.code x code maxLocals ret :: tables_1) hat d (List.mem_cons_of_mem _ hd)
  obtain ⟨i0, ei0⟩ := isL_v k3
  obtain rfl : w0 = (.long i0) := Option.some.inj ei0
  obtain ⟨i1, ei1⟩ := isL_v k5
  obtain rfl : w1 = (.long i1) := Option.some.inj ei1
  obtain ⟨i2, ei2⟩ := isL_v k7
  obtain rfl : w2 = (.long i2) := Option.some.inj ei2
  obtain ⟨i3, ei3⟩ := isL_v k9
  obtain rfl : w3 = (.long i3) := Option.some.inj ei3
  obtain ⟨i4, ei4⟩ := isL_v k11
  obtain rfl : w4 = (.long i4) := Option.some.inj ei4
  obtain ⟨i5, ei5⟩ := isL_v k12
  obtain rfl : w5 = (.long i5) := Option.some.inj ei5
  obtain ⟨n, o, h1, h2, h3, _, L, rfl, ⟨rfl, N⟩, hq⟩ := rm0 l s _ hw tables_1 i0 i1 i2 i3 i4 i5 s.heap s.heap.size (Nat.le_refl _) p e ha hc hk s m _ below hf ((Spec.applies_iff_loose hf).mp happ).1 ⟨rfl, State.Warmed39.refl s, rfl⟩ trivial
  refine ⟨n, _, h1, h2, h3, hpost _ _ _ _ _ _ ⟨Cond.after_iff.mpr rfl, Cond.after_iff.mpr (eq_i res_at (Term.int_eval (1)) rfl), trivial⟩ ⟨hq.1, hq.2.1, (hq.2.2.sift fun y hy => Or.inr (N y hy)).mono (by decide) (by decide)⟩⟩
theorem main_1_1 : Claimed_1_1 := comes_1 fun _ _ _ _ _ _ h hF => ⟨h.1, hF⟩
theorem main_1_2 : Claimed_1_2 := comes_1 fun _ _ _ _ _ _ h hF => ⟨h.2.1, hF⟩
end Jvm.Pilot.@@N@@
namespace Jvm.Pilot.@@N@@
open Jvm Jvm.ClassFile Sem Op Lib Jvm.Free Jvm.Stand Jvm.Pilot.@@N@@.Jvm.D
/-! MADE BY PROGRAM (witnessworld.py) out of the Statement's table words and the real class files: 16 classes; the members and pool entries that the words name. The judged class is class 1, her method 3. -/
namespace start1
open Jvm.ClassFile
def u (s : String) : CpInfo := .utf8 (stringToUtf16 s)
/-- a pool by its gaps: so many unusable entries, then the entry; so many at the end -/
def gap : Nat → List CpInfo → List CpInfo
  | 0, r => r
  | n + 1, r => .unusable :: gap n r
def poolList (es : List (Nat × CpInfo)) (last : Nat) : List CpInfo := es.foldr (fun e r => gap e.1 (e.2 :: r)) (gap last [])
def pool (es : List (Nat × CpInfo)) (last : Nat) : Array CpInfo := ⟨poolList es last⟩
def fileOf (pool : Array CpInfo) (this : Nat) (attrs : Array Attribute := #[]) (ms : Array MethodInfo := #[]) (fl : Nat := 33) (sup : Nat := 0) (ifs : Array Nat := #[]) (fds : Array FieldInfo := #[]) : ClassFile where
  minorVersion := 0
  majorVersion := 65
  constantPool := pool
  accessFlags := fl
  thisClass := this
  superClass := sup
  interfaces := ifs
  fields := fds
  methods := ms
  attributes := attrs
def plain (name : String) (sup : Option ClassId) : Class where
  name := name
  kind := .ordinary
  loader := none
  accessFlags := 33
  super := sup
  interfaces := #[]
  cf := none
  fields := #[]
  methods := #[]
  instanceTypes := #[]
  staticTypes := #[]
  resolved := #[]
  callSites := []
  init := .initialized
  statics := none
  mirror := none

def pool0 : Array CpInfo := pool [(5, u "<init>"), (0, u "()V"), (1, .class_ 10), (1, u "java/lang/Object")] 113

def k0m0 : Method := { name := "<init>", desc := "()V", sig := { parameters := [], returnType := none }, accessFlags := 1, code := none }
/-- java/lang/Object -/
def k0 : Class := { plain "java/lang/Object" none with
  accessFlags := 33
  interfaces := #[]
  cf := some (fileOf pool0 8 #[] #[{ accessFlags := 1, nameIndex := 5, descriptorIndex := 6, attributes := #[] }] 33 0 #[] #[])
  fields := #[]
  methods := #[k0m0]
  instanceTypes := #[]
  staticTypes := #[]
  resolved := Array.replicate 124 none
  statics := none }

def pool1 : Array CpInfo := pool [(2, .class_ 4), (1, u "java/lang/Object"), (0, u "<init>"), (0, u "()V"), (2, .long 9223372036854775808), (1, .methodref 12 13), (0, .class_ 14), (0, .nameAndType 15 16), (0, u "ringfold/modular/WordsSubtractFromPinLaw"), (0, u "ltU"), (0, u "(JJ)Z"), (0, .long 3), (1, .long 18446744073709551612), (1, .methodref 12 22), (0, .nameAndType 23 24), (0, u "less3"), (0, u "(JJJJJJ)Z"), (0, .methodref 26 27), (0, .class_ 28), (0, .nameAndType 29 30), (0, u "ringfold/modular/Words"), (0, u "subtractFrom"), (0, u "([J[JI)I"), (3, u "law")] 4

def k1m0 : Method := { name := "<init>", desc := "()V", sig := { parameters := [], returnType := none }, accessFlags := 1, code := none }
def k1c1 : Code := { maxStack := 6, maxLocals := 4, code := method_2_code, exceptionTable := #[], attributes := #[] }
def k1m1 : Method := { name := "ltU", desc := "(JJ)Z", sig := { parameters := [.long, .long], returnType := some .boolean }, accessFlags := 10, code := some k1c1 }
def k1c2 : Code := { maxStack := 4, maxLocals := 12, code := method_3_code, exceptionTable := #[], attributes := #[] }
def k1m2 : Method := { name := "less3", desc := "(JJJJJJ)Z", sig := { parameters := [.long, .long, .long, .long, .long, .long], returnType := some .boolean }, accessFlags := 10, code := some k1c2 }
def k1c3 : Code := { maxStack := 12, maxLocals := 59, code := code, exceptionTable := #[], attributes := #[] }
def k1m3 : Method := { name := "law", desc := "(JJJJJJ)Z", sig := { parameters := [.long, .long, .long, .long, .long, .long], returnType := some .boolean }, accessFlags := 9, code := some k1c3 }
/-- ringfold/modular/WordsSubtractFromPinLaw -/
def k1 : Class := { plain "ringfold/modular/WordsSubtractFromPinLaw" (some 0) with
  accessFlags := 49
  interfaces := #[]
  cf := some (fileOf pool1 12 #[] #[{ accessFlags := 1, nameIndex := 5, descriptorIndex := 6, attributes := #[] }, { accessFlags := 10, nameIndex := 15, descriptorIndex := 16, attributes := #[] }, { accessFlags := 10, nameIndex := 23, descriptorIndex := 24, attributes := #[] }, { accessFlags := 9, nameIndex := 34, descriptorIndex := 24, attributes := #[] }] 49 2 #[] #[])
  fields := #[]
  methods := #[k1m0, k1m1, k1m2, k1m3]
  instanceTypes := #[]
  staticTypes := #[]
  resolved := Array.replicate 39 none
  statics := none }

def pool2 : Array CpInfo := pool [(2, .class_ 4), (1, u "java/lang/Object"), (3, .class_ 10), (1, u "ringfold/modular/Words"), (0, u "magnitude"), (0, u "[J"), (2, u "negative"), (0, u "Z"), (6, .class_ 24), (0, u "java/lang/Long"), (31, .methodref 23 57), (0, .nameAndType 58 59), (0, u "compareUnsigned"), (0, u "(JJ)I"), (0, .methodref 8 61), (0, .nameAndType 62 63), (0, u "significant"), (0, u "([JI)I"), (8, u "BIG_ENDIAN_LONGS"), (0, u "Ljava/lang/invoke/VarHandle;"), (32, u "subtractFrom"), (0, u "([J[JI)I")] 5

def k2c0 : Code := { maxStack := 4, maxLocals := 10, code := prog_35_method_5_code, exceptionTable := #[], attributes := #[] }
def k2m0 : Method := { name := "subtractFrom", desc := "([J[JI)I", sig := { parameters := [(.array .long), (.array .long), .int], returnType := some .int }, accessFlags := 8, code := some k2c0 }
def k2c1 : Code := { maxStack := 4, maxLocals := 3, code := prog_35_method_7_code, exceptionTable := #[], attributes := #[] }
def k2m1 : Method := { name := "significant", desc := "([JI)I", sig := { parameters := [(.array .long), .int], returnType := some .int }, accessFlags := 10, code := some k2c1 }
/-- ringfold/modular/Words -/
def k2 : Class := { plain "ringfold/modular/Words" (some 0) with
  accessFlags := 49
  interfaces := #[]
  cf := some (fileOf pool2 8 #[] #[{ accessFlags := 8, nameIndex := 106, descriptorIndex := 107, attributes := #[] }, { accessFlags := 10, nameIndex := 62, descriptorIndex := 63, attributes := #[] }] 49 2 #[] #[{ accessFlags := 26, nameIndex := 72, descriptorIndex := 73, attributes := #[] }, { accessFlags := 16, nameIndex := 11, descriptorIndex := 12, attributes := #[] }, { accessFlags := 16, nameIndex := 15, descriptorIndex := 16, attributes := #[] }])
  fields := #[{ name := "BIG_ENDIAN_LONGS", type := (.object "java/lang/invoke/VarHandle"), accessFlags := 26, slot := 0, constantValue := 0 }, { name := "magnitude", type := (.array .long), accessFlags := 16, slot := 0, constantValue := 0 }, { name := "negative", type := .boolean, accessFlags := 16, slot := 1, constantValue := 0 }]
  methods := #[k2m0, k2m1]
  instanceTypes := #[(.array .long), .boolean]
  staticTypes := #[(.object "java/lang/invoke/VarHandle")]
  resolved := Array.replicate 113 none
  statics := none }

def pool3 : Array CpInfo := pool [(1, .class_ 2), (0, u "java/io/Serializable"), (0, .class_ 4), (0, u "java/lang/Object")] 2

/-- java/io/Serializable -/
def k3 : Class := { plain "java/io/Serializable" (some 0) with
  accessFlags := 1537
  interfaces := #[]
  cf := some (fileOf pool3 1 #[] #[] 1537 3 #[] #[])
  fields := #[]
  methods := #[]
  instanceTypes := #[]
  staticTypes := #[]
  resolved := Array.replicate 7 none
  statics := none }

def pool4 : Array CpInfo := pool [(2, .class_ 4), (1, u "java/lang/Object"), (0, u "<init>"), (0, u "()V"), (1, .class_ 10), (1, u "java/lang/Number"), (2, .class_ 14), (0, u "java/io/Serializable"), (0, u "serialVersionUID"), (0, u "J")] 20

def k4m0 : Method := { name := "<init>", desc := "()V", sig := { parameters := [], returnType := none }, accessFlags := 1, code := none }
/-- java/lang/Number -/
def k4 : Class := { plain "java/lang/Number" (some 0) with
  accessFlags := 1057
  interfaces := #[3]
  cf := some (fileOf pool4 8 #[] #[{ accessFlags := 1, nameIndex := 5, descriptorIndex := 6, attributes := #[] }] 1057 2 #[13] #[{ accessFlags := 26, nameIndex := 15, descriptorIndex := 16, attributes := #[] }])
  fields := #[{ name := "serialVersionUID", type := .long, accessFlags := 26, slot := 0, constantValue := 0 }]
  methods := #[k4m0]
  instanceTypes := #[]
  staticTypes := #[.long]
  resolved := Array.replicate 37 none
  statics := none }

def pool5 : Array CpInfo := pool [(1, .class_ 2), (0, u "java/lang/Comparable"), (0, .class_ 4), (0, u "java/lang/Object")] 7

/-- java/lang/Comparable -/
def k5 : Class := { plain "java/lang/Comparable" (some 0) with
  accessFlags := 1537
  interfaces := #[]
  cf := some (fileOf pool5 1 #[] #[] 1537 3 #[] #[])
  fields := #[]
  methods := #[]
  instanceTypes := #[]
  staticTypes := #[]
  resolved := Array.replicate 12 none
  statics := none }

def pool6 : Array CpInfo := pool [(1, .class_ 2), (0, u "java/lang/constant/Constable"), (0, .class_ 4), (0, u "java/lang/Object")] 6

/-- java/lang/constant/Constable -/
def k6 : Class := { plain "java/lang/constant/Constable" (some 0) with
  accessFlags := 1537
  interfaces := #[]
  cf := some (fileOf pool6 1 #[] #[] 1537 3 #[] #[])
  fields := #[]
  methods := #[]
  instanceTypes := #[]
  staticTypes := #[]
  resolved := Array.replicate 11 none
  statics := none }

def pool7 : Array CpInfo := pool [(1, .class_ 2), (0, u "java/lang/constant/ConstantDesc"), (0, .class_ 4), (0, u "java/lang/Object")] 32

/-- java/lang/constant/ConstantDesc -/
def k7 : Class := { plain "java/lang/constant/ConstantDesc" (some 0) with
  accessFlags := 1537
  interfaces := #[]
  cf := some (fileOf pool7 1 #[] #[] 1537 3 #[] #[])
  fields := #[]
  methods := #[]
  instanceTypes := #[]
  staticTypes := #[]
  resolved := Array.replicate 37 none
  statics := none }

def pool8 : Array CpInfo := pool [(1, .class_ 2), (0, u "java/lang/Long"), (165, .long 9223372036854775808), (66, .class_ 237), (1, u "java/lang/Long$LongCache"), (33, .class_ 272), (0, u "java/lang/Number"), (2, u "value"), (0, u "J"), (25, .methodref 1 303), (0, .nameAndType 304 305), (0, u "compare"), (0, u "(JJ)I"), (55, u "TYPE"), (0, u "Ljava/lang/Class;"), (0, .class_ 364), (0, u "java/lang/Comparable"), (0, .class_ 366), (0, u "java/lang/constant/Constable"), (0, .class_ 368), (0, u "java/lang/constant/ConstantDesc"), (0, u "MIN_VALUE"), (1, u "MAX_VALUE"), (4, u "SIZE"), (0, u "I"), (1, u "BYTES"), (1, u "serialVersionUID"), (87, u "compareUnsigned")] 54

def k8c0 : Code := { maxStack := 4, maxLocals := 4, code := jdk_35_method_42_code, exceptionTable := #[], attributes := #[] }
def k8m0 : Method := { name := "compare", desc := "(JJ)I", sig := { parameters := [.long, .long], returnType := some .int }, accessFlags := 9, code := some k8c0 }
def k8c1 : Code := { maxStack := 6, maxLocals := 4, code := jdk_35_method_43_code, exceptionTable := #[], attributes := #[] }
def k8m1 : Method := { name := "compareUnsigned", desc := "(JJ)I", sig := { parameters := [.long, .long], returnType := some .int }, accessFlags := 9, code := some k8c1 }
/-- java/lang/Long -/
def k8 : Class := { plain "java/lang/Long" (some 4) with
  accessFlags := 49
  interfaces := #[5, 6, 7]
  cf := some (fileOf pool8 1 #[.nestMembers #[235]] #[{ accessFlags := 9, nameIndex := 304, descriptorIndex := 305, attributes := #[] }, { accessFlags := 9, nameIndex := 469, descriptorIndex := 305, attributes := #[] }] 49 271 #[363, 365, 367] #[{ accessFlags := 25, nameIndex := 369, descriptorIndex := 276, attributes := #[] }, { accessFlags := 25, nameIndex := 371, descriptorIndex := 276, attributes := #[] }, { accessFlags := 25, nameIndex := 361, descriptorIndex := 362, attributes := #[] }, { accessFlags := 18, nameIndex := 275, descriptorIndex := 276, attributes := #[] }, { accessFlags := 25, nameIndex := 376, descriptorIndex := 377, attributes := #[] }, { accessFlags := 25, nameIndex := 379, descriptorIndex := 377, attributes := #[] }, { accessFlags := 26, nameIndex := 381, descriptorIndex := 276, attributes := #[] }])
  fields := #[{ name := "MIN_VALUE", type := .long, accessFlags := 25, slot := 0, constantValue := 0 }, { name := "MAX_VALUE", type := .long, accessFlags := 25, slot := 1, constantValue := 0 }, { name := "TYPE", type := (.object "java/lang/Class"), accessFlags := 25, slot := 2, constantValue := 0 }, { name := "value", type := .long, accessFlags := 18, slot := 0, constantValue := 0 }, { name := "SIZE", type := .int, accessFlags := 25, slot := 3, constantValue := 0 }, { name := "BYTES", type := .int, accessFlags := 25, slot := 4, constantValue := 0 }, { name := "serialVersionUID", type := .long, accessFlags := 26, slot := 5, constantValue := 0 }]
  methods := #[k8m0, k8m1]
  instanceTypes := #[.long]
  staticTypes := #[.long, .long, (.object "java/lang/Class"), .int, .int, .long]
  resolved := Array.replicate 524 none
  statics := none }

def pool9 : Array CpInfo := pool [(1, u "java/lang/Cloneable"), (0, .class_ 1), (0, u "java/lang/Object"), (0, .class_ 3)] 3

/-- java/lang/Cloneable -/
def k9 : Class := { plain "java/lang/Cloneable" (some 0) with
  accessFlags := 1537
  interfaces := #[]
  cf := some (fileOf pool9 2 #[] #[] 1537 4 #[] #[])
  fields := #[]
  methods := #[]
  instanceTypes := #[]
  staticTypes := #[]
  resolved := Array.replicate 8 none
  statics := none }

/-- the primitive byte -/
def k10 : Class := { plain "byte" none with kind := .primitive 'B', accessFlags := 0x411 }
/-- [B -/
def k11 : Class := { plain "[B" (some 0) with kind := .array 10 .byte, interfaces := #[9, 3], accessFlags := 1041 }

/-- the primitive int -/
def k12 : Class := { plain "int" none with kind := .primitive 'I', accessFlags := 0x411 }
/-- [I -/
def k13 : Class := { plain "[I" (some 0) with kind := .array 12 .int, interfaces := #[9, 3], accessFlags := 1041 }

/-- the primitive long -/
def k14 : Class := { plain "long" none with kind := .primitive 'J', accessFlags := 0x411 }
/-- [J -/
def k15 : Class := { plain "[J" (some 0) with kind := .array 14 .long, interfaces := #[9, 3], accessFlags := 1041 }

def heap : Heap := #[]
def classes : Array Class := #[k0, k1, k2, k3, k4, k5, k6, k7, k8, k9, k10, k11, k12, k13, k14, k15]
def interned : List (Array UInt16 × Addr) := []
def slotsUsed : Nat := 0
def theMethod : MethodId := ⟨1, 3⟩
def args0 : Array Value := #[.long 5, .long 7, .long 2, .long 3, .long 1, .long 6]
def aboutOver (below : List Frame) : State where
  vm := { classes := classes, interned := interned.toArray }
  heap := heap
  slotsUsed := slotsUsed
  threads := #[{ frames := .invoking theMethod args0 :: below }]
def below0 : List Frame := [.native { method := ⟨0, 0⟩, args := #[] }]
def about1 : State := aboutOver below0
def p0 : Program := .bare "" "" ""
def e0 : Env := launch0.env 0 0 0
theorem w_frames : about1.frames = Frame.invoking theMethod args0 :: below0 := rfl
set_option maxRecDepth 65536 in
theorem w_args : argsFit about1.vm theMethod args0 = true := by decide +kernel
set_option maxRecDepth 65536 in
theorem w_heap : heapFits about1 = true := by decide +kernel
set_option maxRecDepth 65536 in
theorem w_runnable : about1.curStatus? = some .runnable := by decide +kernel
set_option maxRecDepth 65536 in
theorem w_alone : about1.alone = true := by decide +kernel
set_option maxRecDepth 65536 in
theorem w_named : about1.methodNamed? x = some theMethod := by decide +kernel
set_option maxRecDepth 65536 in
theorem w_hears : about1.hears theMethod below0 = true := by decide +kernel
set_option maxRecDepth 65536 in
theorem w_ripe : about1.ripe theMethod args0 below0 = true := by decide +kernel
theorem w_running : about1.status = .running := rfl
set_option maxRecDepth 65536 in
theorem w_room : about1.hasRoom e0.platform room_1 = true :=
  launch0.hasRoom_least _ room_1 (by decide +kernel) (by decide +kernel) (by decide +kernel) (by decide +kernel) (by decide +kernel) (by decide +kernel)
theorem allAtoms_all (ts : List Jvm.Cond) (a : Array Jvm.Value) (st : Jvm.State) : (allAtoms ts).before a st = ts.all (fun c => c.before a st) := by
  induction ts with
  | nil => rfl
  | cons c t ih =>
    show (Jvm.Cond.and c (allAtoms t)).before a st = _
    rw [Jvm.Cond.before_and, ih, List.all_cons]
def words1 : List Jvm.Cond := Jvm.Cond.code x code maxLocals ret :: tables_1
/-- a 'code' word, met by the world's own term for the bytes: nothing is compared byte by byte -/
theorem code_word {y : MethodName} {bytes : ByteArray} {mx : Nat} {rt : Option FieldType} {a : Array Value} {s : State} {m : MethodId} {meth : Method} {c : Code} (h1 : s.methodNamed? y = some m) (h2 : s.vm.method? m = some meth) (h3 : meth.code = some c) (h4 : c.code = bytes)
    (h5 : (c.maxLocals == mx && c.exceptionTable.isEmpty && decide (c.maxStack ≤ mostOperands) && decide (meth.sig.returnType = rt) && !meth.locks && decide (parseMethodDescriptor y.desc = some meth.sig)) = true) : (Jvm.Cond.code y bytes mx rt).before a s = true := by
  simp only [Bool.and_eq_true, beq_iff_eq, Bool.not_eq_true', decide_eq_true_eq] at h5
  obtain ⟨⟨⟨⟨⟨g1, g2⟩, g3⟩, g4⟩, g5⟩, g6⟩ := h5
  simp [Cond.before, Cond.holds, Cond.value, h1, h2, h3, h4, g1, g2, g3, g4, g5, g6]
def isCode : Jvm.Cond → Bool
  | .code _ _ _ _ => true
  | _ => false
theorem all_split {L : List Jvm.Cond} {P : Jvm.Cond → Bool} (h1 : L.all (fun c => isCode c || P c) = true) (h2 : ∀ c ∈ L.filter isCode, P c = true) : L.all P = true := by
  refine List.all_eq_true.mpr fun c hc => ?_
  have h := List.all_eq_true.mp h1 c hc
  rcases Bool.eq_false_or_eq_true (isCode c) with hi | hi
  · exact h2 c (List.mem_filter.mpr ⟨hc, hi⟩)
  · simpa [hi] using h
set_option maxRecDepth 65536 in
theorem w_c0 : (Jvm.Cond.code x code maxLocals ret).before args0 about1 = true := code_word (m := ⟨1, 3⟩) (meth := k1m3) (c := k1c3) (by decide +kernel) rfl rfl rfl (by decide +kernel)
set_option maxRecDepth 65536 in
theorem w_c1 : (Jvm.Cond.code ({ cls := "ringfold/modular/WordsSubtractFromPinLaw", name := "less3", desc := "(JJJJJJ)Z" } : Jvm.MethodName) method_3_code (12 : Nat) (Option.some Jvm.ClassFile.FieldType.boolean)).before args0 about1 = true := code_word (m := ⟨1, 2⟩) (meth := k1m2) (c := k1c2) (by decide +kernel) rfl rfl rfl (by decide +kernel)
set_option maxRecDepth 65536 in
theorem w_c2 : (Jvm.Cond.code ({ cls := "ringfold/modular/WordsSubtractFromPinLaw", name := "ltU", desc := "(JJ)Z" } : Jvm.MethodName) method_2_code (4 : Nat) (Option.some Jvm.ClassFile.FieldType.boolean)).before args0 about1 = true := code_word (m := ⟨1, 1⟩) (meth := k1m1) (c := k1c1) (by decide +kernel) rfl rfl rfl (by decide +kernel)
set_option maxRecDepth 65536 in
theorem w_c3 : (Jvm.Cond.code ({ cls := "ringfold/modular/Words", name := "subtractFrom", desc := "([J[JI)I" } : Jvm.MethodName) prog_35_method_5_code (10 : Nat) (Option.some Jvm.ClassFile.FieldType.int)).before args0 about1 = true := code_word (m := ⟨2, 0⟩) (meth := k2m0) (c := k2c0) (by decide +kernel) rfl rfl rfl (by decide +kernel)
set_option maxRecDepth 65536 in
theorem w_c4 : (Jvm.Cond.code ({ cls := "java/lang/Long", name := "compareUnsigned", desc := "(JJ)I" } : Jvm.MethodName) jdk_35_method_43_code (4 : Nat) (Option.some Jvm.ClassFile.FieldType.int)).before args0 about1 = true := code_word (m := ⟨8, 1⟩) (meth := k8m1) (c := k8c1) (by decide +kernel) rfl rfl rfl (by decide +kernel)
set_option maxRecDepth 65536 in
theorem w_c5 : (Jvm.Cond.code ({ cls := "java/lang/Long", name := "compare", desc := "(JJ)I" } : Jvm.MethodName) jdk_35_method_42_code (4 : Nat) (Option.some Jvm.ClassFile.FieldType.int)).before args0 about1 = true := code_word (m := ⟨8, 0⟩) (meth := k8m0) (c := k8c0) (by decide +kernel) rfl rfl rfl (by decide +kernel)
set_option maxRecDepth 65536 in
theorem w_c6 : (Jvm.Cond.code ({ cls := "ringfold/modular/Words", name := "significant", desc := "([JI)I" } : Jvm.MethodName) prog_35_method_7_code (3 : Nat) (Option.some Jvm.ClassFile.FieldType.int)).before args0 about1 = true := code_word (m := ⟨2, 1⟩) (meth := k2m1) (c := k2c1) (by decide +kernel) rfl rfl rfl (by decide +kernel)
def codes1 : List Jvm.Cond := [Jvm.Cond.code x code maxLocals ret, Jvm.Cond.code ({ cls := "ringfold/modular/WordsSubtractFromPinLaw", name := "less3", desc := "(JJJJJJ)Z" } : Jvm.MethodName) method_3_code (12 : Nat) (Option.some Jvm.ClassFile.FieldType.boolean), Jvm.Cond.code ({ cls := "ringfold/modular/WordsSubtractFromPinLaw", name := "ltU", desc := "(JJ)Z" } : Jvm.MethodName) method_2_code (4 : Nat) (Option.some Jvm.ClassFile.FieldType.boolean), Jvm.Cond.code ({ cls := "ringfold/modular/Words", name := "subtractFrom", desc := "([J[JI)I" } : Jvm.MethodName) prog_35_method_5_code (10 : Nat) (Option.some Jvm.ClassFile.FieldType.int), Jvm.Cond.code ({ cls := "java/lang/Long", name := "compareUnsigned", desc := "(JJ)I" } : Jvm.MethodName) jdk_35_method_43_code (4 : Nat) (Option.some Jvm.ClassFile.FieldType.int), Jvm.Cond.code ({ cls := "java/lang/Long", name := "compare", desc := "(JJ)I" } : Jvm.MethodName) jdk_35_method_42_code (4 : Nat) (Option.some Jvm.ClassFile.FieldType.int), Jvm.Cond.code ({ cls := "ringfold/modular/Words", name := "significant", desc := "([JI)I" } : Jvm.MethodName) prog_35_method_7_code (3 : Nat) (Option.some Jvm.ClassFile.FieldType.int)]
set_option maxRecDepth 65536 in
theorem codes_eq : words1.filter isCode = codes1 := rfl
theorem w_codes : ∀ c ∈ words1.filter isCode, c.before args0 about1 = true := by
  rw [codes_eq]
  intro c hc
  simp only [codes1, List.mem_cons, List.not_mem_nil, or_false] at hc
  rcases hc with rfl | rfl | rfl | rfl | rfl | rfl | rfl
  · exact w_c0
  · exact w_c1
  · exact w_c2
  · exact w_c3
  · exact w_c4
  · exact w_c5
  · exact w_c6
set_option maxRecDepth 65536 in
theorem w_t1 : (words1.take 24).all (fun c => isCode c || c.before args0 about1) = true := by decide +kernel
set_option maxRecDepth 65536 in
theorem w_t2 : (words1.drop 24).all (fun c => isCode c || c.before args0 about1) = true := by decide +kernel
theorem w_tables : (allAtoms (Jvm.Cond.code x code maxLocals ret :: tables_1)).before args0 about1 = true := by
  rw [allAtoms_all]
  show words1.all (fun c => c.before args0 about1) = true
  refine all_split ?_ w_codes
  rw [← List.take_append_drop 24 words1, List.all_append, w_t1, w_t2]
  rfl
set_option maxRecDepth 65536 in
theorem w_case : (Jvm.Cond.and given_1 narrow_1).before args0 about1 = true := by decide +kernel
theorem w_applies : (headSpec (Jvm.Cond.code x code maxLocals ret :: tables_1) room_1).applies x e0.platform about1 = true :=
  (Spec.applies_iff w_frames).mpr ⟨w_running, w_runnable, w_alone, w_named, w_hears, w_ripe, w_room, w_tables⟩
theorem atStart : AtStart classFile x code maxLocals ret World_1 tables_1 room_1 Calls_1 rest_1 Pre_1 launch0 p0 e0 about1 theMethod args0 below0 :=
  ⟨lists_1, trivial, launch0.admits_env _ _ _, launch0.least_env, fairChoices_fair.cas, fairChoices_fair.clock, w_frames, w_args, w_heap, w_applies, trivial, trivial, w_case⟩
end start1
theorem witness_1 : WitnessClaimed_1 := ⟨start1.p0, start1.e0, start1.about1, start1.theMethod, start1.args0, start1.below0, start1.atStart⟩
end Jvm.Pilot.@@N@@
