import JvmDerived
import JvmDerived.Pilot.@@N@@Statement
import JvmDerived.Pilot.@@N@@Code
set_option linter.unusedVariables false
set_option linter.unusedSimpArgs false
namespace Jvm.RoadKit
open Sem ClassFile Op Lib Jvm.Stand Jvm.Free Jvm.LawKit
section New
variable {p : Program} {l : Launch} {e : Env} {R : Room} {s : State} {m : MethodId} {args : Array Value} {below : List Frame} {meth : Method} {c : Code} {T : State} {locs : List Loc} {cells slots : Nat}
theorem retI (X : Stand p l e R s m args below meth c T locs cells slots) (hx : p.tables.exec = Jvm.exec) {pc : Nat} {Ls : Array Slot} {z : Int32} {rest : List Value} (hret : meth.sig.returnType = some .int) (hd : decode c.code pc = .ok (.ireturn, 1)) {fs : List Frame}
    (hl : ∀ (f : JFrame) (acts : List Action), f.method = m → f.locked = none → f.entered = [] → (doReturn e (T.setTop f) acts (some (.int z))).1 = T.setFrames fs) : Steps p.tables e below (T.setTop (mkF m pc Ls (.int z :: rest))) (T.setFrames fs) := by
  have hm' : T.vm.method? m = some meth := X.method'
  have hn : narrow .int (.int z) = .int z := rfl
  show Steps p.tables e below (T.setTop { method := m, pc := pc, locals := Ls, stack := _ :: rest, locked := none }) _
  jvm_step X.here [X.here.top, hx, hd, hm', hret, hn]
  first | (intro acts; rw [hl _ acts rfl rfl rfl]) | rw [hl _ _ rfl rfl rfl]
  exact Steps.refl _
end New
end Jvm.RoadKit
namespace Jvm.Pilot.@@N@@
open Jvm Jvm.ClassFile Sem Op Lib Jvm.Free Jvm.Stand Jvm.LawKit Jvm.RoadKit Bundle Jvm.Pilot.@@N@@.Jvm.D

theorem d2_0 : decode jdk_30_method_1_code 0 = .ok (.aload_n 0, 1) := by decide +kernel
theorem d2_1 : decode jdk_30_method_1_code 1 = .ok (.invokespecial 1, 3) := by decide +kernel
theorem d2_4 : decode jdk_30_method_1_code 4 = .ok (.return_, 1) := by decide +kernel
theorem pn_2 : plainName "java/lang/Record" = true := by first | (simp [plainName, overriddenIn]; done) | decide +kernel
theorem ef_2 (m : MethodId) (x0 : Addr) : entryFrame m #[(.ref x0)] 1 = mkF m 0 #[.val (.ref x0)] [] := by first | (simp [entryFrame, mkF, argsToLocals, Value.category]; done) | rfl
def Q2 (Z : State) (a1 : Addr) (h0 : Heap) (n0 : Nat) (v : Option Value) (h : Heap) (L : List Loc) : Prop := v = none ∧ Fr n0 L ∧ h = h0
set_option maxRecDepth 65536 in
set_option maxHeartbeats 40000000 in
theorem rm2 (l : Launch) (Z : State) (a0 : Array Value) (hw : ∀ d ∈ tables_1, d.before a0 Z = true) (ws : List Jvm.Cond) (a1 : Addr) (h0 : Heap) (n0 : Nat) (Z0 : n0 ≤ h0.size) :
    MetFree l (⟨"java/lang/Record", "<init>", "()V"⟩ : MethodName) (head1 (Jvm.Cond.code (⟨"java/lang/Record", "<init>", "()V"⟩ : MethodName) jdk_30_method_1_code 1 none :: ws) ({ frames := 1, cells := 0, slots := 0, locals := 12 } : Room)) (fun a U => a = #[(.ref a1)] ∧ Z.Warmed39 U.vm ∧ U.heap = h0) (fun _ _ _ _ _ => True) (fun _ U o U' => ∃ v L, o = .returned v ∧ Q2 Z a1 h0 n0 v U'.heap L ∧ FrameEnd U o U' L ({ frames := 1, cells := 0, slots := 0, locals := 12 } : Room).cells ({ frames := 1, cells := 0, slots := 0, locals := 12 } : Room).slots) := by
  refine MetFree.of_bodySF (plainFor_of_name pn_2) hisR ?_
  intro p e s m args below meth c s₁ Bd hml0 hP hK
  obtain ⟨rfl, hZ, hh⟩ := hP
  have hx := Bd.exec
  have hby := Bd.bytes
  have hml : c.maxLocals = 1 := hml0
  have hown : s.vm.findClass "java/lang/Record" = some m.cls := findClass_of_methodNamed Bd.named
  have hnm := (name_of_methodNamed Bd.named Bd.method).1
  have X0 : Stand p l e ({ frames := 1, cells := 0, slots := 0, locals := 12 } : Room) s m #[(.ref a1)] below meth c s₁ [] 0 0 := Stand.of_body Bd
  have e0 : s₁.heap = h0 := by rw [← hh, Bd.state]; rfl
  have N0 := Fr.nil n0
  have pre0 : ∀ t, Steps p.tables e below (s₁.setTop (mkF m 0 #[.val (.ref a1)] [])) t → Steps p.tables e below (s₁.setTop (entryFrame m #[(.ref a1)] 1)) t := fun t k => castTop (ef_2 m a1) k
  obtain ⟨T2, X2, e2, st2⟩ := initO X0 hx hZ hown (hw _ (List.mem_of_getElem? (i := 20) rfl)) (hw _ (List.mem_of_getElem? (i := 21) rfl)) (hw _ (List.mem_of_getElem? (i := 22) rfl)) e0 (g := (mkF m 1 #[.val (.ref a1)] [(.ref a1)])) rfl (by rw [hml]; rfl) rfl (hb hby d2_1) (by decide) (W := 0) (by show 2 * 0 + _ ≤ _; exact Nat.le_of_eq rfl) (by decide)
  obtain ⟨fs, hr, hrun, hended, hW, hsame⟩ := X2.leave (v := none) (fun _ => rfl)
  refine ⟨_, _, pre0 _ ?_, hrun, hended, _, _, rfl, ?_, ⟨_, rfl⟩, hW, hsame.mono (by decide) (by decide)⟩
  · show Steps p.tables e below (s₁.setTop (mkF m 0 #[.val (.ref a1)] [])) _
    refine XS.aloadN X0.here hx rfl (hb hby d2_0) rfl rfl ?_
    show Steps p.tables e below (s₁.setTop (mkF m 1 #[.val (.ref a1)] [(.ref a1)])) _
    refine st2 _ ?_
    show Steps p.tables e below (T2.setTop (mkF m 4 #[.val (.ref a1)] [])) _
    exact X2.returnOut hx Bd.returns (hb hby d2_4) hr
  · show Q2 Z a1 h0 n0 _ T2.heap _
    rw [e2]
    exact ⟨rfl, N0, rfl⟩

theorem d1_0 : decode prog_26_method_1_code 0 = .ok (.aload_n 0, 1) := by decide +kernel
theorem d1_1 : decode prog_26_method_1_code 1 = .ok (.invokespecial 1, 3) := by decide +kernel
theorem d1_4 : decode prog_26_method_1_code 4 = .ok (.aload_n 0, 1) := by decide +kernel
theorem d1_5 : decode prog_26_method_1_code 5 = .ok (.aload_n 1, 1) := by decide +kernel
theorem d1_6 : decode prog_26_method_1_code 6 = .ok (.putfield 7, 3) := by decide +kernel
theorem d1_9 : decode prog_26_method_1_code 9 = .ok (.aload_n 0, 1) := by decide +kernel
theorem d1_10 : decode prog_26_method_1_code 10 = .ok (.aload_n 2, 1) := by decide +kernel
theorem d1_11 : decode prog_26_method_1_code 11 = .ok (.putfield 13, 3) := by decide +kernel
theorem d1_14 : decode prog_26_method_1_code 14 = .ok (.aload_n 0, 1) := by decide +kernel
theorem d1_15 : decode prog_26_method_1_code 15 = .ok (.iload_n 3, 1) := by decide +kernel
theorem d1_16 : decode prog_26_method_1_code 16 = .ok (.putfield 16, 3) := by decide +kernel
theorem d1_19 : decode prog_26_method_1_code 19 = .ok (.return_, 1) := by decide +kernel
theorem pn_1 : plainName "com/example/sluicegate/sluicegate/config/HttpCheck" = true := by first | (simp [plainName, overriddenIn]; done) | decide +kernel
theorem pd_1_1 : parseMethodDescriptor "()V" = some ⟨[], none⟩ := by decide +kernel
theorem ef_1 (m : MethodId) (x0 : Addr) (x1 : Addr) (x2 : Addr) (x3 : Int32) : entryFrame m #[(.ref x0), (.ref x1), (.ref x2), (.int x3)] 4 = mkF m 0 #[.val (.ref x0), .val (.ref x1), .val (.ref x2), .val (.int x3)] [] := by first | (simp [entryFrame, mkF, argsToLocals, Value.category]; done) | rfl
def Q1 (Z : State) (a1 : Addr) (a2 : Addr) (a3 : Addr) (p4 : Int32) (u_method_a1 : Value) (u_uri_a1 : Value) (u_expectedStatus_a1 : Value) (h0 : Heap) (n0 : Nat) (v : Option Value) (h : Heap) (L : List Loc) : Prop := v = none ∧ Fr n0 L ∧ Keep h0 h [a1] ∧ Exa Z h a1 "com/example/sluicegate/sluicegate/config/HttpCheck" ∧ Fld Z h a1 "com/example/sluicegate/sluicegate/config/HttpCheck" "expectedStatus" "I" (.int p4)
set_option maxRecDepth 65536 in
set_option maxHeartbeats 40000000 in
theorem rm1 (l : Launch) (Z : State) (a0 : Array Value) (hw : ∀ d ∈ tables_1, d.before a0 Z = true) (ws : List Jvm.Cond) (a1 : Addr) (a2 : Addr) (a3 : Addr) (p4 : Int32) (u_method_a1 : Value) (u_uri_a1 : Value) (u_expectedStatus_a1 : Value) (h0 : Heap) (n0 : Nat) (Z0 : n0 ≤ h0.size) (E_a1 : Exa Z h0 a1 "com/example/sluicegate/sluicegate/config/HttpCheck") (F_method_a1 : Fld Z h0 a1 "com/example/sluicegate/sluicegate/config/HttpCheck" "method" "Ljava/lang/String;" u_method_a1) (g_a1 : n0 ≤ a1) (F_uri_a1 : Fld Z h0 a1 "com/example/sluicegate/sluicegate/config/HttpCheck" "uri" "Ljava/lang/String;" u_uri_a1) (F_expectedStatus_a1 : Fld Z h0 a1 "com/example/sluicegate/sluicegate/config/HttpCheck" "expectedStatus" "I" u_expectedStatus_a1) :
    MetFree l (⟨"com/example/sluicegate/sluicegate/config/HttpCheck", "<init>", "(Ljava/lang/String;Ljava/lang/String;I)V"⟩ : MethodName) (head1 (Jvm.Cond.code (⟨"com/example/sluicegate/sluicegate/config/HttpCheck", "<init>", "(Ljava/lang/String;Ljava/lang/String;I)V"⟩ : MethodName) prog_26_method_1_code 4 none :: ws) ({ frames := 2, cells := 0, slots := 0, locals := 24 } : Room)) (fun a U => a = #[(.ref a1), (.ref a2), (.ref a3), (.int p4)] ∧ Z.Warmed39 U.vm ∧ U.heap = h0) (fun _ _ _ _ _ => True) (fun _ U o U' => ∃ v L, o = .returned v ∧ Q1 Z a1 a2 a3 p4 u_method_a1 u_uri_a1 u_expectedStatus_a1 h0 n0 v U'.heap L ∧ FrameEnd U o U' L ({ frames := 2, cells := 0, slots := 0, locals := 24 } : Room).cells ({ frames := 2, cells := 0, slots := 0, locals := 24 } : Room).slots) := by
  refine MetFree.of_bodySF (plainFor_of_name pn_1) hisR ?_
  intro p e s m args below meth c s₁ Bd hml0 hP hK
  obtain ⟨rfl, hZ, hh⟩ := hP
  have hx := Bd.exec
  have hby := Bd.bytes
  have hml : c.maxLocals = 4 := hml0
  have hown : s.vm.findClass "com/example/sluicegate/sluicegate/config/HttpCheck" = some m.cls := findClass_of_methodNamed Bd.named
  have hnm := (name_of_methodNamed Bd.named Bd.method).1
  have X0 : Stand p l e ({ frames := 2, cells := 0, slots := 0, locals := 24 } : Room) s m #[(.ref a1), (.ref a2), (.ref a3), (.int p4)] below meth c s₁ [] 0 0 := Stand.of_body Bd
  have e0 : s₁.heap = h0 := by rw [← hh, Bd.state]; rfl
  have N0 := Fr.nil n0
  have pre0 : ∀ t, Steps p.tables e below (s₁.setTop (mkF m 0 #[.val (.ref a1), .val (.ref a2), .val (.ref a3), .val (.int p4)] [])) t → Steps p.tables e below (s₁.setTop (entryFrame m #[(.ref a1), (.ref a2), (.ref a3), (.int p4)] 4)) t := fun t k => castTop (ef_1 m a1 a2 a3 p4) k
  obtain ⟨_, _, ⟨T5, L5, k5, n5⟩, -, X5, ⟨Lc5, hQ5, l5, y5, z5⟩, st5⟩ := X0.specialBack hx (y := (⟨"java/lang/Record", "<init>", "()V"⟩ : MethodName)) rfl hown (mvT hZ (hw _ (List.mem_of_getElem? (i := 15) rfl))) (mvT hZ (hw _ (List.mem_of_getElem? (i := 16) rfl))) (mvT hZ (hw _ (List.mem_of_getElem? (i := 19) rfl))) (by decide) (backOf (W := 0) (rm2 l Z a0 hw [] a1 h0 n0 Z0) hZ (hw _ (List.mem_of_getElem? (i := 19) rfl)) (hw _ (List.mem_of_getElem? (i := 18) rfl)) (by decide) (by decide)) (g := (mkF m 1 #[.val (.ref a1), .val (.ref a2), .val (.ref a3), .val (.int p4)] [(.ref a1)])) rfl (by rw [hml]; rfl) (Steps.refl _) (a := a1) (argsL := []) (rest := []) (lenOf pd_1_1 rfl) rfl (by show 2 * 0 + _ ≤ _; exact Nat.le_of_eq rfl) (hb hby d1_1) (fun _ _ => ⟨rfl, e0, (by decide : 0 + 0 ≤ _), (by decide : 0 + 0 ≤ _)⟩)
  dsimp only [Pt.U, Pt.locs, Pt.cells, Pt.slots] at X5 l5 y5 z5 st5 hQ5
  subst l5 y5 z5
  obtain ⟨rfl, N5q, e5q⟩ := hQ5
  have K5q : Keep h0 T5.heap [] := by rw [e5q]; exact Keep.refl _ _
  have K5r : Keep h0 T5.heap [a1] := by rw [e5q]; exact Keep.refl _ _
  have N5 := Fr.app N0 N5q
  obtain ⟨T6, h6, X6, e6, W6, st6⟩ := putF X5 hx hZ hown (host := "") (Or.inl (hw _ (List.mem_of_getElem? (i := 23) rfl))) Via.refl rfl (F_method_a1.keep K5q nin0) (E_a1.keep K5q) (Or.inr ⟨(hw _ (List.mem_of_getElem? (i := 24) rfl)), rfl, hnm⟩) (hw _ (List.mem_of_getElem? (i := 1) rfl)) (ty := (.object "java/lang/String")) (by decide) rfl rfl (g := (mkF m 6 #[.val (.ref a1), .val (.ref a2), .val (.ref a3), .val (.int p4)] [(.ref a2), (.ref a1)])) rfl rfl (hb hby d1_6)
  have Fw6 := (F_method_a1.keep K5q nin0).same W6
  have K6 : Keep h0 h6 [a1] := K5r.wr W6 (Or.inl (List.mem_of_getElem? (i := 0) rfl))
  have N6 := Fr.snoc X6 N5 g_a1
  obtain ⟨T7, h7, X7, e7, W7, st7⟩ := putF X6 hx hZ hown (host := "") (Or.inl (hw _ (List.mem_of_getElem? (i := 25) rfl))) Via.refl e6 ((F_uri_a1.keep K5q nin0).other W6 (Or.inr (slot_ne (Or.inr (hw _ (List.mem_of_getElem? (i := 26) rfl))) (Or.inr (hw _ (List.mem_of_getElem? (i := 24) rfl))) (by decide) (t := (.object "java/lang/String")) (t' := (.object "java/lang/String")) (by decide) (by decide)))) ((E_a1.keep K5q).wr W6) (Or.inr ⟨(hw _ (List.mem_of_getElem? (i := 26) rfl)), rfl, hnm⟩) (hw _ (List.mem_of_getElem? (i := 1) rfl)) (ty := (.object "java/lang/String")) (by decide) rfl rfl (g := (mkF m 11 #[.val (.ref a1), .val (.ref a2), .val (.ref a3), .val (.int p4)] [(.ref a3), (.ref a1)])) rfl rfl (hb hby d1_11)
  have Fw7 := ((F_uri_a1.keep K5q nin0).other W6 (Or.inr (slot_ne (Or.inr (hw _ (List.mem_of_getElem? (i := 26) rfl))) (Or.inr (hw _ (List.mem_of_getElem? (i := 24) rfl))) (by decide) (t := (.object "java/lang/String")) (t' := (.object "java/lang/String")) (by decide) (by decide)))).same W7
  have K7 : Keep h0 h7 [a1] := K6.wr W7 (Or.inl (List.mem_of_getElem? (i := 0) rfl))
  have N7 := Fr.snoc X7 N6 g_a1
  obtain ⟨T8, h8, X8, e8, W8, st8⟩ := putF X7 hx hZ hown (host := "") (Or.inl (hw _ (List.mem_of_getElem? (i := 27) rfl))) Via.refl e7 (((F_expectedStatus_a1.keep K5q nin0).other W6 (Or.inr (slot_ne (Or.inr (hw _ (List.mem_of_getElem? (i := 28) rfl))) (Or.inr (hw _ (List.mem_of_getElem? (i := 24) rfl))) (by decide) (t := .int) (t' := (.object "java/lang/String")) (by decide) (by decide)))).other W7 (Or.inr (slot_ne (Or.inr (hw _ (List.mem_of_getElem? (i := 28) rfl))) (Or.inr (hw _ (List.mem_of_getElem? (i := 26) rfl))) (by decide) (t := .int) (t' := (.object "java/lang/String")) (by decide) (by decide)))) (((E_a1.keep K5q).wr W6).wr W7) (Or.inr ⟨(hw _ (List.mem_of_getElem? (i := 28) rfl)), rfl, hnm⟩) (hw _ (List.mem_of_getElem? (i := 1) rfl)) (ty := .int) (by decide) rfl rfl (g := (mkF m 16 #[.val (.ref a1), .val (.ref a2), .val (.ref a3), .val (.int p4)] [(.int p4), (.ref a1)])) rfl rfl (hb hby d1_16)
  have Fw8 := (((F_expectedStatus_a1.keep K5q nin0).other W6 (Or.inr (slot_ne (Or.inr (hw _ (List.mem_of_getElem? (i := 28) rfl))) (Or.inr (hw _ (List.mem_of_getElem? (i := 24) rfl))) (by decide) (t := .int) (t' := (.object "java/lang/String")) (by decide) (by decide)))).other W7 (Or.inr (slot_ne (Or.inr (hw _ (List.mem_of_getElem? (i := 28) rfl))) (Or.inr (hw _ (List.mem_of_getElem? (i := 26) rfl))) (by decide) (t := .int) (t' := (.object "java/lang/String")) (by decide) (by decide)))).same W8
  have K8 : Keep h0 h8 [a1] := K7.wr W8 (Or.inl (List.mem_of_getElem? (i := 0) rfl))
  have N8 := Fr.snoc X8 N7 g_a1
  obtain ⟨fs, hr, hrun, hended, hW, hsame⟩ := X8.leave (v := none) (fun _ => rfl)
  refine ⟨_, _, pre0 _ ?_, hrun, hended, _, _, rfl, ?_, ⟨_, rfl⟩, hW, hsame.mono (by decide) (by decide)⟩
  · show Steps p.tables e below (s₁.setTop (mkF m 0 #[.val (.ref a1), .val (.ref a2), .val (.ref a3), .val (.int p4)] [])) _
    refine XS.aloadN X0.here hx rfl (hb hby d1_0) rfl rfl ?_
    show Steps p.tables e below (s₁.setTop (mkF m 1 #[.val (.ref a1), .val (.ref a2), .val (.ref a3), .val (.int p4)] [(.ref a1)])) _
    refine st5.trans ?_
    show Steps p.tables e below (T5.setTop (mkF m 4 #[.val (.ref a1), .val (.ref a2), .val (.ref a3), .val (.int p4)] [])) _
    refine XS.aloadN X5.here hx rfl (hb hby d1_4) rfl rfl ?_
    show Steps p.tables e below (T5.setTop (mkF m 5 #[.val (.ref a1), .val (.ref a2), .val (.ref a3), .val (.int p4)] [(.ref a1)])) _
    refine XS.aloadN X5.here hx rfl (hb hby d1_5) rfl rfl ?_
    show Steps p.tables e below (T5.setTop (mkF m 6 #[.val (.ref a1), .val (.ref a2), .val (.ref a3), .val (.int p4)] [(.ref a2), (.ref a1)])) _
    refine st6 _ ?_
    show Steps p.tables e below (T6.setTop (mkF m 9 #[.val (.ref a1), .val (.ref a2), .val (.ref a3), .val (.int p4)] [])) _
    refine XS.aloadN X6.here hx rfl (hb hby d1_9) rfl rfl ?_
    show Steps p.tables e below (T6.setTop (mkF m 10 #[.val (.ref a1), .val (.ref a2), .val (.ref a3), .val (.int p4)] [(.ref a1)])) _
    refine XS.aloadN X6.here hx rfl (hb hby d1_10) rfl rfl ?_
    show Steps p.tables e below (T6.setTop (mkF m 11 #[.val (.ref a1), .val (.ref a2), .val (.ref a3), .val (.int p4)] [(.ref a3), (.ref a1)])) _
    refine st7 _ ?_
    show Steps p.tables e below (T7.setTop (mkF m 14 #[.val (.ref a1), .val (.ref a2), .val (.ref a3), .val (.int p4)] [])) _
    refine XS.aloadN X7.here hx rfl (hb hby d1_14) rfl rfl ?_
    show Steps p.tables e below (T7.setTop (mkF m 15 #[.val (.ref a1), .val (.ref a2), .val (.ref a3), .val (.int p4)] [(.ref a1)])) _
    refine XS.iloadN X7.here hx rfl (hb hby d1_15) rfl ?_
    show Steps p.tables e below (T7.setTop (mkF m 16 #[.val (.ref a1), .val (.ref a2), .val (.ref a3), .val (.int p4)] [(.int p4), (.ref a1)])) _
    refine st8 _ ?_
    show Steps p.tables e below (T8.setTop (mkF m 19 #[.val (.ref a1), .val (.ref a2), .val (.ref a3), .val (.int p4)] [])) _
    exact X8.returnOut hx Bd.returns (hb hby d1_19) hr
  · show Q1 Z a1 a2 a3 p4 u_method_a1 u_uri_a1 u_expectedStatus_a1 h0 n0 _ T8.heap _
    rw [e8]
    exact ⟨rfl, N8, K8, (((E_a1.keep K5q).wr W6).wr W7).wr W8, Fw8⟩

def pPass (w st : Int32) : Int32 := if w = 0 then (if st < 200 then 0 else if st < 400 then 1 else 0) else (if st = w then 1 else 0)
def pWant (w st : Int32) : Int32 := if w = 0 then (if st / 100 = 2 then 1 else if st / 100 = 3 then 1 else 0) else (if st = w then 1 else 0)
theorem own_div100 (v : Int32) : (v / 100).toInt = v.toInt.tdiv 100 := by
  have a := v.toInt_lt; have b := v.le_toInt
  have e : (100 : Int32).toInt = 100 := rfl
  rw [Int32.toInt_div, e]
  have h1 : (v.toInt.tdiv 100).natAbs ≤ v.toInt.natAbs := by rw [Int.natAbs_tdiv]; exact Nat.div_le_self _ _
  have h2 : (v.toInt.tdiv 100).natAbs = v.toInt.natAbs / 100 := by rw [Int.natAbs_tdiv]; rfl
  rw [Int.bmod_def]
  omega
theorem own_i0 : (0 : Int32).toInt = 0 := rfl
theorem own_i1 : (1 : Int32).toInt = 1 := rfl
theorem own_i2 : (2 : Int32).toInt = 2 := rfl
theorem own_i3 : (3 : Int32).toInt = 3 := rfl
theorem own_i200 : (200 : Int32).toInt = 200 := rfl
theorem own_i400 : (400 : Int32).toInt = 400 := rfl
theorem own_plain (w st : Int32) : pPass w st = pWant w st := by
  unfold pPass pWant
  by_cases h0 : w = 0
  · simp only [if_pos h0]
    have hd := own_div100 st
    have hs : st.toInt.tdiv 100 = if 0 ≤ st.toInt then st.toInt / 100 else -((-st.toInt) / 100) := by
      by_cases hp : 0 ≤ st.toInt
      · rw [if_pos hp]; exact Int.tdiv_eq_ediv_of_nonneg hp
      · rw [if_neg hp]
        have e1 : st.toInt = -(-st.toInt) := by omega
        have e2 : (-(-st.toInt)).tdiv 100 = -((-st.toInt).tdiv 100) := Int.neg_tdiv _ _
        rw [e1, e2, Int.neg_neg, Int.tdiv_eq_ediv_of_nonneg (by omega)]
    simp only [Int32.lt_iff_toInt_lt, ← Int32.toInt_inj, hd, hs, own_i200, own_i400, own_i2, own_i3, own_i0, own_i1]
    generalize st.toInt = n
    repeat' split
    all_goals first | rfl | (exfalso; omega)
  · simp only [if_neg h0]

theorem d4_0 : decode prog_26_method_2_code 0 = .ok (.aload_n 0, 1) := by decide +kernel
theorem d4_1 : decode prog_26_method_2_code 1 = .ok (.getfield 16, 3) := by decide +kernel
theorem d4_4 : decode prog_26_method_2_code 4 = .ok (.ifCond .ne 25, 3) := by decide +kernel
theorem d4_7 : decode prog_26_method_2_code 7 = .ok (.iload_n 1, 1) := by decide +kernel
theorem d4_8 : decode prog_26_method_2_code 8 = .ok (.sipush 200, 3) := by decide +kernel
theorem d4_11 : decode prog_26_method_2_code 11 = .ok (.if_icmp .lt 14, 3) := by decide +kernel
theorem d4_25 : decode prog_26_method_2_code 25 = .ok (.iconst 0, 1) := by decide +kernel
theorem d4_26 : decode prog_26_method_2_code 26 = .ok (.goto 16, 3) := by decide +kernel
theorem d4_42 : decode prog_26_method_2_code 42 = .ok (.ireturn, 1) := by decide +kernel
theorem pn_4 : plainName "com/example/sluicegate/sluicegate/config/HttpCheck" = true := by first | (simp [plainName, overriddenIn]; done) | decide +kernel
theorem ef_4 (m : MethodId) (x0 : Addr) (x1 : Int32) : entryFrame m #[(.ref x0), (.int x1)] 2 = mkF m 0 #[.val (.ref x0), .val (.int x1)] [] := by first | (simp [entryFrame, mkF, argsToLocals, Value.category]; done) | rfl
def Q4 (Z : State) (a1 : Addr) (p2 : Int32) (w3 : Int32) (h0 : Heap) (n0 : Nat) (v : Option Value) (h : Heap) (L : List Loc) : Prop := v = some (.int (pPass w3 p2)) ∧ Fr n0 L ∧ h = h0
set_option maxRecDepth 65536 in
set_option maxHeartbeats 40000000 in
theorem rm4_ft (l : Launch) (Z : State) (a0 : Array Value) (hw : ∀ d ∈ tables_1, d.before a0 Z = true) (ws : List Jvm.Cond) (a1 : Addr) (p2 : Int32) (w3 : Int32) (h0 : Heap) (n0 : Nat) (Z0 : n0 ≤ h0.size) (F_expectedStatus_a1 : Fld Z h0 a1 "com/example/sluicegate/sluicegate/config/HttpCheck" "expectedStatus" "I" (.int w3)) (hc4 : w3 = (0 : Int32)) (hc11 : p2 < (200 : Int32)) :
    MetFree l (⟨"com/example/sluicegate/sluicegate/config/HttpCheck", "passes", "(I)Z"⟩ : MethodName) (head1 (Jvm.Cond.code (⟨"com/example/sluicegate/sluicegate/config/HttpCheck", "passes", "(I)Z"⟩ : MethodName) prog_26_method_2_code 2 (some .boolean) :: ws) ({ frames := 0, cells := 0, slots := 0, locals := 0 } : Room)) (fun a U => a = #[(.ref a1), (.int p2)] ∧ Z.Warmed39 U.vm ∧ U.heap = h0) (fun _ _ _ _ _ => True) (fun _ U o U' => ∃ v L, o = .returned v ∧ Q4 Z a1 p2 w3 h0 n0 v U'.heap L ∧ FrameEnd U o U' L ({ frames := 0, cells := 0, slots := 0, locals := 0 } : Room).cells ({ frames := 0, cells := 0, slots := 0, locals := 0 } : Room).slots) := by
  refine MetFree.of_bodySF (plainFor_of_name pn_4) hisR ?_
  intro p e s m args below meth c s₁ Bd hml0 hP hK
  obtain ⟨rfl, hZ, hh⟩ := hP
  have hx := Bd.exec
  have hby := Bd.bytes
  have hml : c.maxLocals = 2 := hml0
  have hown : s.vm.findClass "com/example/sluicegate/sluicegate/config/HttpCheck" = some m.cls := findClass_of_methodNamed Bd.named
  have hnm := (name_of_methodNamed Bd.named Bd.method).1
  have X0 : Stand p l e ({ frames := 0, cells := 0, slots := 0, locals := 0 } : Room) s m #[(.ref a1), (.int p2)] below meth c s₁ [] 0 0 := Stand.of_body Bd
  have e0 : s₁.heap = h0 := by rw [← hh, Bd.state]; rfl
  have N0 := Fr.nil n0
  have pre0 : ∀ t, Steps p.tables e below (s₁.setTop (mkF m 0 #[.val (.ref a1), .val (.int p2)] [])) t → Steps p.tables e below (s₁.setTop (entryFrame m #[(.ref a1), (.int p2)] 2)) t := fun t k => castTop (ef_4 m a1 p2) k
  obtain ⟨T4, X4, e4, st4⟩ := getF X0 hx hZ hown (host := "") (Or.inl (hw _ (List.mem_of_getElem? (i := 27) rfl))) Via.refl e0 F_expectedStatus_a1 (g := (mkF m 1 #[.val (.ref a1), .val (.int p2)] [(.ref a1)])) rfl rfl (hb hby d4_1)
  obtain ⟨fs, hr, hrun, hended, hW, hsame⟩ := X4.leave (v := some (.int (0 : Int32))) (fun h => by rw [Bd.returns] at h; cases h)
  refine ⟨_, _, pre0 _ ?_, hrun, hended, _, _, rfl, ?_, ⟨_, rfl⟩, hW, hsame.mono (by decide) (by decide)⟩
  · show Steps p.tables e below (s₁.setTop (mkF m 0 #[.val (.ref a1), .val (.int p2)] [])) _
    refine XS.aloadN X0.here hx rfl (hb hby d4_0) rfl rfl ?_
    show Steps p.tables e below (s₁.setTop (mkF m 1 #[.val (.ref a1), .val (.int p2)] [(.ref a1)])) _
    refine st4 _ ?_
    show Steps p.tables e below (T4.setTop (mkF m 4 #[.val (.ref a1), .val (.int p2)] [(.int w3)])) _
    refine XS.ifNo X4.here hx rfl (hb hby d4_4) rfl ((if0 _ _).trans (teq hc4).2) ?_
    show Steps p.tables e below (T4.setTop (mkF m 7 #[.val (.ref a1), .val (.int p2)] [])) _
    refine XS.iloadN X4.here hx rfl (hb hby d4_7) rfl ?_
    show Steps p.tables e below (T4.setTop (mkF m 8 #[.val (.ref a1), .val (.int p2)] [(.int p2)])) _
    refine XS.sipush X4.here hx rfl (hb hby d4_8) ?_
    show Steps p.tables e below (T4.setTop (mkF m 11 #[.val (.ref a1), .val (.int p2)] [(.int (200 : Int32)), (.int p2)])) _
    refine XS.icmpYes X4.here hx rfl (pc0 := 11) (pc' := 25) rfl (hb hby d4_11) rfl (tlt hc11).1 (by decide) (by decide) ?_
    show Steps p.tables e below (T4.setTop (mkF m 25 #[.val (.ref a1), .val (.int p2)] [])) _
    refine XS.iconst X4.here hx rfl (hb hby d4_25) ?_
    show Steps p.tables e below (T4.setTop (mkF m 26 #[.val (.ref a1), .val (.int p2)] [(.int (0 : Int32))])) _
    refine XS.goto X4.here hx rfl (pc0 := 26) (pc' := 42) rfl (hb hby d4_26) (by decide) (by decide) ?_
    show Steps p.tables e below (T4.setTop (mkF m 42 #[.val (.ref a1), .val (.int p2)] [(.int (0 : Int32))])) _
    exact retN X4 hx (t := .boolean) Bd.returns (by simp) (hb hby d4_42) hr
  · show Q4 Z a1 p2 w3 h0 n0 _ T4.heap _
    rw [e4]
    exact ⟨by simp [pPass, hc4, hc11], N0, rfl⟩

theorem d4_14 : decode prog_26_method_2_code 14 = .ok (.iload_n 1, 1) := by decide +kernel
theorem d4_15 : decode prog_26_method_2_code 15 = .ok (.sipush 400, 3) := by decide +kernel
theorem d4_18 : decode prog_26_method_2_code 18 = .ok (.if_icmp .ge 7, 3) := by decide +kernel
set_option maxRecDepth 65536 in
set_option maxHeartbeats 40000000 in
theorem rm4_fft (l : Launch) (Z : State) (a0 : Array Value) (hw : ∀ d ∈ tables_1, d.before a0 Z = true) (ws : List Jvm.Cond) (a1 : Addr) (p2 : Int32) (w3 : Int32) (h0 : Heap) (n0 : Nat) (Z0 : n0 ≤ h0.size) (F_expectedStatus_a1 : Fld Z h0 a1 "com/example/sluicegate/sluicegate/config/HttpCheck" "expectedStatus" "I" (.int w3)) (hc4 : w3 = (0 : Int32)) (hc11 : ¬ (p2 < (200 : Int32))) (hc18 : ¬ (p2 < (400 : Int32))) :
    MetFree l (⟨"com/example/sluicegate/sluicegate/config/HttpCheck", "passes", "(I)Z"⟩ : MethodName) (head1 (Jvm.Cond.code (⟨"com/example/sluicegate/sluicegate/config/HttpCheck", "passes", "(I)Z"⟩ : MethodName) prog_26_method_2_code 2 (some .boolean) :: ws) ({ frames := 0, cells := 0, slots := 0, locals := 0 } : Room)) (fun a U => a = #[(.ref a1), (.int p2)] ∧ Z.Warmed39 U.vm ∧ U.heap = h0) (fun _ _ _ _ _ => True) (fun _ U o U' => ∃ v L, o = .returned v ∧ Q4 Z a1 p2 w3 h0 n0 v U'.heap L ∧ FrameEnd U o U' L ({ frames := 0, cells := 0, slots := 0, locals := 0 } : Room).cells ({ frames := 0, cells := 0, slots := 0, locals := 0 } : Room).slots) := by
  refine MetFree.of_bodySF (plainFor_of_name pn_4) hisR ?_
  intro p e s m args below meth c s₁ Bd hml0 hP hK
  obtain ⟨rfl, hZ, hh⟩ := hP
  have hx := Bd.exec
  have hby := Bd.bytes
  have hml : c.maxLocals = 2 := hml0
  have hown : s.vm.findClass "com/example/sluicegate/sluicegate/config/HttpCheck" = some m.cls := findClass_of_methodNamed Bd.named
  have hnm := (name_of_methodNamed Bd.named Bd.method).1
  have X0 : Stand p l e ({ frames := 0, cells := 0, slots := 0, locals := 0 } : Room) s m #[(.ref a1), (.int p2)] below meth c s₁ [] 0 0 := Stand.of_body Bd
  have e0 : s₁.heap = h0 := by rw [← hh, Bd.state]; rfl
  have N0 := Fr.nil n0
  have pre0 : ∀ t, Steps p.tables e below (s₁.setTop (mkF m 0 #[.val (.ref a1), .val (.int p2)] [])) t → Steps p.tables e below (s₁.setTop (entryFrame m #[(.ref a1), (.int p2)] 2)) t := fun t k => castTop (ef_4 m a1 p2) k
  obtain ⟨T4, X4, e4, st4⟩ := getF X0 hx hZ hown (host := "") (Or.inl (hw _ (List.mem_of_getElem? (i := 27) rfl))) Via.refl e0 F_expectedStatus_a1 (g := (mkF m 1 #[.val (.ref a1), .val (.int p2)] [(.ref a1)])) rfl rfl (hb hby d4_1)
  obtain ⟨fs, hr, hrun, hended, hW, hsame⟩ := X4.leave (v := some (.int (0 : Int32))) (fun h => by rw [Bd.returns] at h; cases h)
  refine ⟨_, _, pre0 _ ?_, hrun, hended, _, _, rfl, ?_, ⟨_, rfl⟩, hW, hsame.mono (by decide) (by decide)⟩
  · show Steps p.tables e below (s₁.setTop (mkF m 0 #[.val (.ref a1), .val (.int p2)] [])) _
    refine XS.aloadN X0.here hx rfl (hb hby d4_0) rfl rfl ?_
    show Steps p.tables e below (s₁.setTop (mkF m 1 #[.val (.ref a1), .val (.int p2)] [(.ref a1)])) _
    refine st4 _ ?_
    show Steps p.tables e below (T4.setTop (mkF m 4 #[.val (.ref a1), .val (.int p2)] [(.int w3)])) _
    refine XS.ifNo X4.here hx rfl (hb hby d4_4) rfl ((if0 _ _).trans (teq hc4).2) ?_
    show Steps p.tables e below (T4.setTop (mkF m 7 #[.val (.ref a1), .val (.int p2)] [])) _
    refine XS.iloadN X4.here hx rfl (hb hby d4_7) rfl ?_
    show Steps p.tables e below (T4.setTop (mkF m 8 #[.val (.ref a1), .val (.int p2)] [(.int p2)])) _
    refine XS.sipush X4.here hx rfl (hb hby d4_8) ?_
    show Steps p.tables e below (T4.setTop (mkF m 11 #[.val (.ref a1), .val (.int p2)] [(.int (200 : Int32)), (.int p2)])) _
    refine XS.icmpNo X4.here hx rfl (hb hby d4_11) rfl (flt hc11).1 ?_
    show Steps p.tables e below (T4.setTop (mkF m 14 #[.val (.ref a1), .val (.int p2)] [])) _
    refine XS.iloadN X4.here hx rfl (hb hby d4_14) rfl ?_
    show Steps p.tables e below (T4.setTop (mkF m 15 #[.val (.ref a1), .val (.int p2)] [(.int p2)])) _
    refine XS.sipush X4.here hx rfl (hb hby d4_15) ?_
    show Steps p.tables e below (T4.setTop (mkF m 18 #[.val (.ref a1), .val (.int p2)] [(.int (400 : Int32)), (.int p2)])) _
    refine XS.icmpYes X4.here hx rfl (pc0 := 18) (pc' := 25) rfl (hb hby d4_18) rfl (flt hc18).2.1 (by decide) (by decide) ?_
    show Steps p.tables e below (T4.setTop (mkF m 25 #[.val (.ref a1), .val (.int p2)] [])) _
    refine XS.iconst X4.here hx rfl (hb hby d4_25) ?_
    show Steps p.tables e below (T4.setTop (mkF m 26 #[.val (.ref a1), .val (.int p2)] [(.int (0 : Int32))])) _
    refine XS.goto X4.here hx rfl (pc0 := 26) (pc' := 42) rfl (hb hby d4_26) (by decide) (by decide) ?_
    show Steps p.tables e below (T4.setTop (mkF m 42 #[.val (.ref a1), .val (.int p2)] [(.int (0 : Int32))])) _
    exact retN X4 hx (t := .boolean) Bd.returns (by simp) (hb hby d4_42) hr
  · show Q4 Z a1 p2 w3 h0 n0 _ T4.heap _
    rw [e4]
    exact ⟨by simp [pPass, hc4, hc11, hc18], N0, rfl⟩

theorem d4_21 : decode prog_26_method_2_code 21 = .ok (.iconst 1, 1) := by decide +kernel
theorem d4_22 : decode prog_26_method_2_code 22 = .ok (.goto 20, 3) := by decide +kernel
set_option maxRecDepth 65536 in
set_option maxHeartbeats 40000000 in
theorem rm4_fff (l : Launch) (Z : State) (a0 : Array Value) (hw : ∀ d ∈ tables_1, d.before a0 Z = true) (ws : List Jvm.Cond) (a1 : Addr) (p2 : Int32) (w3 : Int32) (h0 : Heap) (n0 : Nat) (Z0 : n0 ≤ h0.size) (F_expectedStatus_a1 : Fld Z h0 a1 "com/example/sluicegate/sluicegate/config/HttpCheck" "expectedStatus" "I" (.int w3)) (hc4 : w3 = (0 : Int32)) (hc11 : ¬ (p2 < (200 : Int32))) (hc18 : p2 < (400 : Int32)) :
    MetFree l (⟨"com/example/sluicegate/sluicegate/config/HttpCheck", "passes", "(I)Z"⟩ : MethodName) (head1 (Jvm.Cond.code (⟨"com/example/sluicegate/sluicegate/config/HttpCheck", "passes", "(I)Z"⟩ : MethodName) prog_26_method_2_code 2 (some .boolean) :: ws) ({ frames := 0, cells := 0, slots := 0, locals := 0 } : Room)) (fun a U => a = #[(.ref a1), (.int p2)] ∧ Z.Warmed39 U.vm ∧ U.heap = h0) (fun _ _ _ _ _ => True) (fun _ U o U' => ∃ v L, o = .returned v ∧ Q4 Z a1 p2 w3 h0 n0 v U'.heap L ∧ FrameEnd U o U' L ({ frames := 0, cells := 0, slots := 0, locals := 0 } : Room).cells ({ frames := 0, cells := 0, slots := 0, locals := 0 } : Room).slots) := by
  refine MetFree.of_bodySF (plainFor_of_name pn_4) hisR ?_
  intro p e s m args below meth c s₁ Bd hml0 hP hK
  obtain ⟨rfl, hZ, hh⟩ := hP
  have hx := Bd.exec
  have hby := Bd.bytes
  have hml : c.maxLocals = 2 := hml0
  have hown : s.vm.findClass "com/example/sluicegate/sluicegate/config/HttpCheck" = some m.cls := findClass_of_methodNamed Bd.named
  have hnm := (name_of_methodNamed Bd.named Bd.method).1
  have X0 : Stand p l e ({ frames := 0, cells := 0, slots := 0, locals := 0 } : Room) s m #[(.ref a1), (.int p2)] below meth c s₁ [] 0 0 := Stand.of_body Bd
  have e0 : s₁.heap = h0 := by rw [← hh, Bd.state]; rfl
  have N0 := Fr.nil n0
  have pre0 : ∀ t, Steps p.tables e below (s₁.setTop (mkF m 0 #[.val (.ref a1), .val (.int p2)] [])) t → Steps p.tables e below (s₁.setTop (entryFrame m #[(.ref a1), (.int p2)] 2)) t := fun t k => castTop (ef_4 m a1 p2) k
  obtain ⟨T4, X4, e4, st4⟩ := getF X0 hx hZ hown (host := "") (Or.inl (hw _ (List.mem_of_getElem? (i := 27) rfl))) Via.refl e0 F_expectedStatus_a1 (g := (mkF m 1 #[.val (.ref a1), .val (.int p2)] [(.ref a1)])) rfl rfl (hb hby d4_1)
  obtain ⟨fs, hr, hrun, hended, hW, hsame⟩ := X4.leave (v := some (.int (1 : Int32))) (fun h => by rw [Bd.returns] at h; cases h)
  refine ⟨_, _, pre0 _ ?_, hrun, hended, _, _, rfl, ?_, ⟨_, rfl⟩, hW, hsame.mono (by decide) (by decide)⟩
  · show Steps p.tables e below (s₁.setTop (mkF m 0 #[.val (.ref a1), .val (.int p2)] [])) _
    refine XS.aloadN X0.here hx rfl (hb hby d4_0) rfl rfl ?_
    show Steps p.tables e below (s₁.setTop (mkF m 1 #[.val (.ref a1), .val (.int p2)] [(.ref a1)])) _
    refine st4 _ ?_
    show Steps p.tables e below (T4.setTop (mkF m 4 #[.val (.ref a1), .val (.int p2)] [(.int w3)])) _
    refine XS.ifNo X4.here hx rfl (hb hby d4_4) rfl ((if0 _ _).trans (teq hc4).2) ?_
    show Steps p.tables e below (T4.setTop (mkF m 7 #[.val (.ref a1), .val (.int p2)] [])) _
    refine XS.iloadN X4.here hx rfl (hb hby d4_7) rfl ?_
    show Steps p.tables e below (T4.setTop (mkF m 8 #[.val (.ref a1), .val (.int p2)] [(.int p2)])) _
    refine XS.sipush X4.here hx rfl (hb hby d4_8) ?_
    show Steps p.tables e below (T4.setTop (mkF m 11 #[.val (.ref a1), .val (.int p2)] [(.int (200 : Int32)), (.int p2)])) _
    refine XS.icmpNo X4.here hx rfl (hb hby d4_11) rfl (flt hc11).1 ?_
    show Steps p.tables e below (T4.setTop (mkF m 14 #[.val (.ref a1), .val (.int p2)] [])) _
    refine XS.iloadN X4.here hx rfl (hb hby d4_14) rfl ?_
    show Steps p.tables e below (T4.setTop (mkF m 15 #[.val (.ref a1), .val (.int p2)] [(.int p2)])) _
    refine XS.sipush X4.here hx rfl (hb hby d4_15) ?_
    show Steps p.tables e below (T4.setTop (mkF m 18 #[.val (.ref a1), .val (.int p2)] [(.int (400 : Int32)), (.int p2)])) _
    refine XS.icmpNo X4.here hx rfl (hb hby d4_18) rfl (tlt hc18).2.1 ?_
    show Steps p.tables e below (T4.setTop (mkF m 21 #[.val (.ref a1), .val (.int p2)] [])) _
    refine XS.iconst X4.here hx rfl (hb hby d4_21) ?_
    show Steps p.tables e below (T4.setTop (mkF m 22 #[.val (.ref a1), .val (.int p2)] [(.int (1 : Int32))])) _
    refine XS.goto X4.here hx rfl (pc0 := 22) (pc' := 42) rfl (hb hby d4_22) (by decide) (by decide) ?_
    show Steps p.tables e below (T4.setTop (mkF m 42 #[.val (.ref a1), .val (.int p2)] [(.int (1 : Int32))])) _
    exact retN X4 hx (t := .boolean) Bd.returns (by simp) (hb hby d4_42) hr
  · show Q4 Z a1 p2 w3 h0 n0 _ T4.heap _
    rw [e4]
    exact ⟨by simp [pPass, hc4, hc11, hc18], N0, rfl⟩

theorem d4_29 : decode prog_26_method_2_code 29 = .ok (.iload_n 1, 1) := by decide +kernel
theorem d4_30 : decode prog_26_method_2_code 30 = .ok (.aload_n 0, 1) := by decide +kernel
theorem d4_31 : decode prog_26_method_2_code 31 = .ok (.getfield 16, 3) := by decide +kernel
theorem d4_34 : decode prog_26_method_2_code 34 = .ok (.if_icmp .ne 7, 3) := by decide +kernel
theorem d4_41 : decode prog_26_method_2_code 41 = .ok (.iconst 0, 1) := by decide +kernel
set_option maxRecDepth 65536 in
set_option maxHeartbeats 40000000 in
theorem rm4_tt (l : Launch) (Z : State) (a0 : Array Value) (hw : ∀ d ∈ tables_1, d.before a0 Z = true) (ws : List Jvm.Cond) (a1 : Addr) (p2 : Int32) (w3 : Int32) (h0 : Heap) (n0 : Nat) (Z0 : n0 ≤ h0.size) (F_expectedStatus_a1 : Fld Z h0 a1 "com/example/sluicegate/sluicegate/config/HttpCheck" "expectedStatus" "I" (.int w3)) (hc4 : ¬ (w3 = (0 : Int32))) (hc34 : ¬ (p2 = w3)) :
    MetFree l (⟨"com/example/sluicegate/sluicegate/config/HttpCheck", "passes", "(I)Z"⟩ : MethodName) (head1 (Jvm.Cond.code (⟨"com/example/sluicegate/sluicegate/config/HttpCheck", "passes", "(I)Z"⟩ : MethodName) prog_26_method_2_code 2 (some .boolean) :: ws) ({ frames := 0, cells := 0, slots := 0, locals := 0 } : Room)) (fun a U => a = #[(.ref a1), (.int p2)] ∧ Z.Warmed39 U.vm ∧ U.heap = h0) (fun _ _ _ _ _ => True) (fun _ U o U' => ∃ v L, o = .returned v ∧ Q4 Z a1 p2 w3 h0 n0 v U'.heap L ∧ FrameEnd U o U' L ({ frames := 0, cells := 0, slots := 0, locals := 0 } : Room).cells ({ frames := 0, cells := 0, slots := 0, locals := 0 } : Room).slots) := by
  refine MetFree.of_bodySF (plainFor_of_name pn_4) hisR ?_
  intro p e s m args below meth c s₁ Bd hml0 hP hK
  obtain ⟨rfl, hZ, hh⟩ := hP
  have hx := Bd.exec
  have hby := Bd.bytes
  have hml : c.maxLocals = 2 := hml0
  have hown : s.vm.findClass "com/example/sluicegate/sluicegate/config/HttpCheck" = some m.cls := findClass_of_methodNamed Bd.named
  have hnm := (name_of_methodNamed Bd.named Bd.method).1
  have X0 : Stand p l e ({ frames := 0, cells := 0, slots := 0, locals := 0 } : Room) s m #[(.ref a1), (.int p2)] below meth c s₁ [] 0 0 := Stand.of_body Bd
  have e0 : s₁.heap = h0 := by rw [← hh, Bd.state]; rfl
  have N0 := Fr.nil n0
  have pre0 : ∀ t, Steps p.tables e below (s₁.setTop (mkF m 0 #[.val (.ref a1), .val (.int p2)] [])) t → Steps p.tables e below (s₁.setTop (entryFrame m #[(.ref a1), (.int p2)] 2)) t := fun t k => castTop (ef_4 m a1 p2) k
  obtain ⟨T4, X4, e4, st4⟩ := getF X0 hx hZ hown (host := "") (Or.inl (hw _ (List.mem_of_getElem? (i := 27) rfl))) Via.refl e0 F_expectedStatus_a1 (g := (mkF m 1 #[.val (.ref a1), .val (.int p2)] [(.ref a1)])) rfl rfl (hb hby d4_1)
  obtain ⟨T5, X5, e5, st5⟩ := getF X4 hx hZ hown (host := "") (Or.inl (hw _ (List.mem_of_getElem? (i := 27) rfl))) Via.refl e4 F_expectedStatus_a1 (g := (mkF m 31 #[.val (.ref a1), .val (.int p2)] [(.ref a1), (.int p2)])) rfl rfl (hb hby d4_31)
  obtain ⟨fs, hr, hrun, hended, hW, hsame⟩ := X5.leave (v := some (.int (0 : Int32))) (fun h => by rw [Bd.returns] at h; cases h)
  refine ⟨_, _, pre0 _ ?_, hrun, hended, _, _, rfl, ?_, ⟨_, rfl⟩, hW, hsame.mono (by decide) (by decide)⟩
  · show Steps p.tables e below (s₁.setTop (mkF m 0 #[.val (.ref a1), .val (.int p2)] [])) _
    refine XS.aloadN X0.here hx rfl (hb hby d4_0) rfl rfl ?_
    show Steps p.tables e below (s₁.setTop (mkF m 1 #[.val (.ref a1), .val (.int p2)] [(.ref a1)])) _
    refine st4 _ ?_
    show Steps p.tables e below (T4.setTop (mkF m 4 #[.val (.ref a1), .val (.int p2)] [(.int w3)])) _
    refine XS.ifYes X4.here hx rfl (pc0 := 4) (pc' := 29) rfl (hb hby d4_4) rfl ((if0 _ _).trans (feq hc4).2) (by decide) (by decide) ?_
    show Steps p.tables e below (T4.setTop (mkF m 29 #[.val (.ref a1), .val (.int p2)] [])) _
    refine XS.iloadN X4.here hx rfl (hb hby d4_29) rfl ?_
    show Steps p.tables e below (T4.setTop (mkF m 30 #[.val (.ref a1), .val (.int p2)] [(.int p2)])) _
    refine XS.aloadN X4.here hx rfl (hb hby d4_30) rfl rfl ?_
    show Steps p.tables e below (T4.setTop (mkF m 31 #[.val (.ref a1), .val (.int p2)] [(.ref a1), (.int p2)])) _
    refine st5 _ ?_
    show Steps p.tables e below (T5.setTop (mkF m 34 #[.val (.ref a1), .val (.int p2)] [(.int w3), (.int p2)])) _
    refine XS.icmpYes X5.here hx rfl (pc0 := 34) (pc' := 41) rfl (hb hby d4_34) rfl (feq hc34).2 (by decide) (by decide) ?_
    show Steps p.tables e below (T5.setTop (mkF m 41 #[.val (.ref a1), .val (.int p2)] [])) _
    refine XS.iconst X5.here hx rfl (hb hby d4_41) ?_
    show Steps p.tables e below (T5.setTop (mkF m 42 #[.val (.ref a1), .val (.int p2)] [(.int (0 : Int32))])) _
    exact retN X5 hx (t := .boolean) Bd.returns (by simp) (hb hby d4_42) hr
  · show Q4 Z a1 p2 w3 h0 n0 _ T5.heap _
    rw [e5]
    exact ⟨by simp [pPass, hc4, hc34], N0, rfl⟩

theorem d4_37 : decode prog_26_method_2_code 37 = .ok (.iconst 1, 1) := by decide +kernel
theorem d4_38 : decode prog_26_method_2_code 38 = .ok (.goto 4, 3) := by decide +kernel
set_option maxRecDepth 65536 in
set_option maxHeartbeats 40000000 in
theorem rm4_tf (l : Launch) (Z : State) (a0 : Array Value) (hw : ∀ d ∈ tables_1, d.before a0 Z = true) (ws : List Jvm.Cond) (a1 : Addr) (p2 : Int32) (w3 : Int32) (h0 : Heap) (n0 : Nat) (Z0 : n0 ≤ h0.size) (F_expectedStatus_a1 : Fld Z h0 a1 "com/example/sluicegate/sluicegate/config/HttpCheck" "expectedStatus" "I" (.int w3)) (hc4 : ¬ (w3 = (0 : Int32))) (hc34 : p2 = w3) :
    MetFree l (⟨"com/example/sluicegate/sluicegate/config/HttpCheck", "passes", "(I)Z"⟩ : MethodName) (head1 (Jvm.Cond.code (⟨"com/example/sluicegate/sluicegate/config/HttpCheck", "passes", "(I)Z"⟩ : MethodName) prog_26_method_2_code 2 (some .boolean) :: ws) ({ frames := 0, cells := 0, slots := 0, locals := 0 } : Room)) (fun a U => a = #[(.ref a1), (.int p2)] ∧ Z.Warmed39 U.vm ∧ U.heap = h0) (fun _ _ _ _ _ => True) (fun _ U o U' => ∃ v L, o = .returned v ∧ Q4 Z a1 p2 w3 h0 n0 v U'.heap L ∧ FrameEnd U o U' L ({ frames := 0, cells := 0, slots := 0, locals := 0 } : Room).cells ({ frames := 0, cells := 0, slots := 0, locals := 0 } : Room).slots) := by
  refine MetFree.of_bodySF (plainFor_of_name pn_4) hisR ?_
  intro p e s m args below meth c s₁ Bd hml0 hP hK
  obtain ⟨rfl, hZ, hh⟩ := hP
  have hx := Bd.exec
  have hby := Bd.bytes
  have hml : c.maxLocals = 2 := hml0
  have hown : s.vm.findClass "com/example/sluicegate/sluicegate/config/HttpCheck" = some m.cls := findClass_of_methodNamed Bd.named
  have hnm := (name_of_methodNamed Bd.named Bd.method).1
  have X0 : Stand p l e ({ frames := 0, cells := 0, slots := 0, locals := 0 } : Room) s m #[(.ref a1), (.int p2)] below meth c s₁ [] 0 0 := Stand.of_body Bd
  have e0 : s₁.heap = h0 := by rw [← hh, Bd.state]; rfl
  have N0 := Fr.nil n0
  have pre0 : ∀ t, Steps p.tables e below (s₁.setTop (mkF m 0 #[.val (.ref a1), .val (.int p2)] [])) t → Steps p.tables e below (s₁.setTop (entryFrame m #[(.ref a1), (.int p2)] 2)) t := fun t k => castTop (ef_4 m a1 p2) k
  obtain ⟨T4, X4, e4, st4⟩ := getF X0 hx hZ hown (host := "") (Or.inl (hw _ (List.mem_of_getElem? (i := 27) rfl))) Via.refl e0 F_expectedStatus_a1 (g := (mkF m 1 #[.val (.ref a1), .val (.int p2)] [(.ref a1)])) rfl rfl (hb hby d4_1)
  obtain ⟨T5, X5, e5, st5⟩ := getF X4 hx hZ hown (host := "") (Or.inl (hw _ (List.mem_of_getElem? (i := 27) rfl))) Via.refl e4 F_expectedStatus_a1 (g := (mkF m 31 #[.val (.ref a1), .val (.int p2)] [(.ref a1), (.int p2)])) rfl rfl (hb hby d4_31)
  obtain ⟨fs, hr, hrun, hended, hW, hsame⟩ := X5.leave (v := some (.int (1 : Int32))) (fun h => by rw [Bd.returns] at h; cases h)
  refine ⟨_, _, pre0 _ ?_, hrun, hended, _, _, rfl, ?_, ⟨_, rfl⟩, hW, hsame.mono (by decide) (by decide)⟩
  · show Steps p.tables e below (s₁.setTop (mkF m 0 #[.val (.ref a1), .val (.int p2)] [])) _
    refine XS.aloadN X0.here hx rfl (hb hby d4_0) rfl rfl ?_
    show Steps p.tables e below (s₁.setTop (mkF m 1 #[.val (.ref a1), .val (.int p2)] [(.ref a1)])) _
    refine st4 _ ?_
    show Steps p.tables e below (T4.setTop (mkF m 4 #[.val (.ref a1), .val (.int p2)] [(.int w3)])) _
    refine XS.ifYes X4.here hx rfl (pc0 := 4) (pc' := 29) rfl (hb hby d4_4) rfl ((if0 _ _).trans (feq hc4).2) (by decide) (by decide) ?_
    show Steps p.tables e below (T4.setTop (mkF m 29 #[.val (.ref a1), .val (.int p2)] [])) _
    refine XS.iloadN X4.here hx rfl (hb hby d4_29) rfl ?_
    show Steps p.tables e below (T4.setTop (mkF m 30 #[.val (.ref a1), .val (.int p2)] [(.int p2)])) _
    refine XS.aloadN X4.here hx rfl (hb hby d4_30) rfl rfl ?_
    show Steps p.tables e below (T4.setTop (mkF m 31 #[.val (.ref a1), .val (.int p2)] [(.ref a1), (.int p2)])) _
    refine st5 _ ?_
    show Steps p.tables e below (T5.setTop (mkF m 34 #[.val (.ref a1), .val (.int p2)] [(.int w3), (.int p2)])) _
    refine XS.icmpNo X5.here hx rfl (hb hby d4_34) rfl (teq hc34).2 ?_
    show Steps p.tables e below (T5.setTop (mkF m 37 #[.val (.ref a1), .val (.int p2)] [])) _
    refine XS.iconst X5.here hx rfl (hb hby d4_37) ?_
    show Steps p.tables e below (T5.setTop (mkF m 38 #[.val (.ref a1), .val (.int p2)] [(.int (1 : Int32))])) _
    refine XS.goto X5.here hx rfl (pc0 := 38) (pc' := 42) rfl (hb hby d4_38) (by decide) (by decide) ?_
    show Steps p.tables e below (T5.setTop (mkF m 42 #[.val (.ref a1), .val (.int p2)] [(.int (1 : Int32))])) _
    exact retN X5 hx (t := .boolean) Bd.returns (by simp) (hb hby d4_42) hr
  · show Q4 Z a1 p2 w3 h0 n0 _ T5.heap _
    rw [e5]
    exact ⟨by simp [pPass, hc4, hc34], N0, rfl⟩

theorem rm4 (l : Launch) (Z : State) (a0 : Array Value) (hw : ∀ d ∈ tables_1, d.before a0 Z = true) (ws : List Jvm.Cond) (a1 : Addr) (p2 : Int32) (w3 : Int32) (h0 : Heap) (n0 : Nat) (Z0 : n0 ≤ h0.size) (F_expectedStatus_a1 : Fld Z h0 a1 "com/example/sluicegate/sluicegate/config/HttpCheck" "expectedStatus" "I" (.int w3)) :
    MetFree l (⟨"com/example/sluicegate/sluicegate/config/HttpCheck", "passes", "(I)Z"⟩ : MethodName) (head1 (Jvm.Cond.code (⟨"com/example/sluicegate/sluicegate/config/HttpCheck", "passes", "(I)Z"⟩ : MethodName) prog_26_method_2_code 2 (some .boolean) :: ws) ({ frames := 0, cells := 0, slots := 0, locals := 0 } : Room)) (fun a U => a = #[(.ref a1), (.int p2)] ∧ Z.Warmed39 U.vm ∧ U.heap = h0) (fun _ _ _ _ _ => True) (fun _ U o U' => ∃ v L, o = .returned v ∧ Q4 Z a1 p2 w3 h0 n0 v U'.heap L ∧ FrameEnd U o U' L ({ frames := 0, cells := 0, slots := 0, locals := 0 } : Room).cells ({ frames := 0, cells := 0, slots := 0, locals := 0 } : Room).slots) := by
  by_cases h0' : w3 = 0
  · by_cases h1 : p2 < 200
    · exact rm4_ft l Z a0 hw ws a1 p2 w3 h0 n0 Z0 F_expectedStatus_a1 h0' h1
    · by_cases h2 : p2 < 400
      · exact rm4_fff l Z a0 hw ws a1 p2 w3 h0 n0 Z0 F_expectedStatus_a1 h0' h1 h2
      · exact rm4_fft l Z a0 hw ws a1 p2 w3 h0 n0 Z0 F_expectedStatus_a1 h0' h1 h2
  · by_cases h1 : p2 = w3
    · exact rm4_tf l Z a0 hw ws a1 p2 w3 h0 n0 Z0 F_expectedStatus_a1 h0' h1
    · exact rm4_tt l Z a0 hw ws a1 p2 w3 h0 n0 Z0 F_expectedStatus_a1 h0' h1

abbrev own_l0 (p1 : Int32) (p2 : Int32) (p3 : Int32) : Array Slot := #[.val (.int p1), .val (.int p2), .val (.int p3), .unset, .unset, .unset, .unset, .unset, .unset, .unset]
abbrev own_l1 (p1 : Int32) (p2 : Int32) (p3 : Int32) : Array Slot := #[.val (.int p1), .val (.int p2), .val (.int p3), .val (.int p1), .unset, .unset, .unset, .unset, .unset, .unset]
abbrev own_l2 (p1 : Int32) (p2 : Int32) (p3 : Int32) (x1 : Int32) : Array Slot := #[.val (.int p1), .val (.int p2), .val (.int p3), .val (.int x1), .unset, .unset, .unset, .unset, .unset, .unset]
abbrev own_l3 (p1 : Int32) (p2 : Int32) (p3 : Int32) : Array Slot := #[.val (.int p1), .val (.int p2), .val (.int p3), .val (.int (0 : Int32)), .unset, .unset, .unset, .unset, .unset, .unset]
abbrev own_l4 (p1 : Int32) (p2 : Int32) (p3 : Int32) (x1 : Int32) : Array Slot := #[.val (.int p1), .val (.int p2), .val (.int p3), .val (.int x1), .val (.int (((p3.toUInt32 >>> ((1 : Int32) &&& 31).toUInt32).toInt32) &&& (3 : Int32))), .unset, .unset, .unset, .unset, .unset]
abbrev own_l5 (p1 : Int32) (p2 : Int32) (p3 : Int32) (x1 : Int32) : Array Slot := #[.val (.int p1), .val (.int p2), .val (.int p3), .val (.int x1), .val (.int (((p3.toUInt32 >>> ((1 : Int32) &&& 31).toUInt32).toInt32) &&& (3 : Int32))), .val (.int p2), .unset, .unset, .unset, .unset]
abbrev own_l6 (p1 : Int32) (p2 : Int32) (p3 : Int32) (x1 : Int32) (k1 : Int32) (st : Int32) : Array Slot := #[.val (.int p1), .val (.int p2), .val (.int p3), .val (.int x1), .val (.int k1), .val (.int st), .unset, .unset, .unset, .unset]
abbrev own_l7 (p1 : Int32) (p2 : Int32) (p3 : Int32) (x1 : Int32) : Array Slot := #[.val (.int p1), .val (.int p2), .val (.int p3), .val (.int x1), .val (.int (((p3.toUInt32 >>> ((1 : Int32) &&& 31).toUInt32).toInt32) &&& (3 : Int32))), .val (.int x1), .unset, .unset, .unset, .unset]
abbrev own_l8 (p1 : Int32) (p2 : Int32) (p3 : Int32) (x1 : Int32) : Array Slot := #[.val (.int p1), .val (.int p2), .val (.int p3), .val (.int x1), .val (.int (((p3.toUInt32 >>> ((1 : Int32) &&& 31).toUInt32).toInt32) &&& (3 : Int32))), .val (.int ((192 : Int32) + (p2 &&& (15 : Int32)))), .unset, .unset, .unset, .unset]
abbrev own_l9 (p1 : Int32) (p2 : Int32) (p3 : Int32) (x1 : Int32) : Array Slot := #[.val (.int p1), .val (.int p2), .val (.int p3), .val (.int x1), .val (.int (((p3.toUInt32 >>> ((1 : Int32) &&& 31).toUInt32).toInt32) &&& (3 : Int32))), .val (.int ((392 : Int32) + (p2 &&& (15 : Int32)))), .unset, .unset, .unset, .unset]
abbrev own_l10 (p1 : Int32) (p2 : Int32) (p3 : Int32) (x1 : Int32) (k1 : Int32) (st : Int32) (b4 : Addr) : Array Slot := #[.val (.int p1), .val (.int p2), .val (.int p3), .val (.int x1), .val (.int k1), .val (.int st), .val (.ref b4), .unset, .unset, .unset]
abbrev own_l11 (p1 : Int32) (p2 : Int32) (p3 : Int32) (x1 : Int32) (k1 : Int32) (st : Int32) (b4 : Addr) (got : Int32) : Array Slot := #[.val (.int p1), .val (.int p2), .val (.int p3), .val (.int x1), .val (.int k1), .val (.int st), .val (.ref b4), .val (.int got), .unset, .unset]
abbrev own_l12 (p1 : Int32) (p2 : Int32) (p3 : Int32) (x1 : Int32) (k1 : Int32) (st : Int32) (b4 : Addr) (got : Int32) : Array Slot := #[.val (.int p1), .val (.int p2), .val (.int p3), .val (.int x1), .val (.int k1), .val (.int st), .val (.ref b4), .val (.int got), .val (.int (0 : Int32)), .unset]
abbrev own_l13 (p1 : Int32) (p2 : Int32) (p3 : Int32) (x1 : Int32) (k1 : Int32) (st : Int32) (b4 : Addr) (got : Int32) : Array Slot := #[.val (.int p1), .val (.int p2), .val (.int p3), .val (.int x1), .val (.int k1), .val (.int st), .val (.ref b4), .val (.int got), .val (.int (1 : Int32)), .unset]
abbrev own_l14 (p1 : Int32) (p2 : Int32) (p3 : Int32) (x1 : Int32) (k1 : Int32) (st : Int32) (b4 : Addr) (got : Int32) : Array Slot := #[.val (.int p1), .val (.int p2), .val (.int p3), .val (.int x1), .val (.int k1), .val (.int st), .val (.ref b4), .val (.int got), .unset, .val (.int (st / (100 : Int32)))]
abbrev own_l15 (p1 : Int32) (p2 : Int32) (p3 : Int32) (x1 : Int32) (k1 : Int32) (st : Int32) (b4 : Addr) (got : Int32) : Array Slot := #[.val (.int p1), .val (.int p2), .val (.int p3), .val (.int x1), .val (.int k1), .val (.int st), .val (.ref b4), .val (.int got), .val (.int (1 : Int32)), .val (.int (st / (100 : Int32)))]
abbrev own_l16 (p1 : Int32) (p2 : Int32) (p3 : Int32) (x1 : Int32) (k1 : Int32) (st : Int32) (b4 : Addr) (got : Int32) : Array Slot := #[.val (.int p1), .val (.int p2), .val (.int p3), .val (.int x1), .val (.int k1), .val (.int st), .val (.ref b4), .val (.int got), .val (.int (0 : Int32)), .val (.int (st / (100 : Int32)))]
set_option maxRecDepth 65536 in
set_option maxHeartbeats 4000000 in
theorem sg1_t {p : Program} {l : Launch} {e : Env} {R : Room} {s : State} {m : MethodId} {args : Array Value} {below : List Frame} {meth : Method} {c : Code} {T0 : State} {locs : List Loc} {cells slots : Nat} (p1 p2 p3 : Int32) (x1 : Int32) (X0 : Stand p l e R s m args below meth c T0 locs cells slots) (hx : p.tables.exec = Jvm.exec) (hby : c.code = code) (hc3 : (p3 &&& (1 : Int32)) = (0 : Int32)) (h_x1 : x1 = p1) :
    ∀ target, Steps p.tables e below (T0.setTop (mkF m 12 (own_l2 p1 p2 p3 x1) [])) target → Steps p.tables e below (T0.setTop (mkF m 0 (own_l0 p1 p2 p3) [])) target := by
  intro target kt
  rw [h_x1] at kt
  show Steps p.tables e below (T0.setTop (mkF m 0 (own_l0 p1 p2 p3) [])) _
  refine XS.iloadN X0.here hx rfl (hb hby at_0) rfl ?_
  show Steps p.tables e below (T0.setTop (mkF m 1 (own_l0 p1 p2 p3) [(.int p3)])) _
  refine XS.iconst X0.here hx rfl (hb hby at_1) ?_
  show Steps p.tables e below (T0.setTop (mkF m 2 (own_l0 p1 p2 p3) [(.int (1 : Int32)), (.int p3)])) _
  refine XS.iand X0.here hx rfl (hb hby at_2) rfl ?_
  show Steps p.tables e below (T0.setTop (mkF m 3 (own_l0 p1 p2 p3) [(.int (p3 &&& (1 : Int32)))])) _
  refine XS.ifYes X0.here hx rfl (pc0 := 3) (pc' := 10) rfl (hb hby at_3) rfl ((if0 _ _).trans (teq (hc3 : (p3 &&& (1 : Int32)) = (0 : Int32))).1) (by decide) (by decide) ?_
  show Steps p.tables e below (T0.setTop (mkF m 10 (own_l0 p1 p2 p3) [])) _
  refine XS.iloadN X0.here hx rfl (hb hby at_10) rfl ?_
  show Steps p.tables e below (T0.setTop (mkF m 11 (own_l0 p1 p2 p3) [(.int p1)])) _
  refine XS.istoreN X0.here hx rfl (hb hby at_11) rfl (l' := (own_l1 p1 p2 p3)) rfl ?_
  exact kt

set_option maxRecDepth 65536 in
set_option maxHeartbeats 4000000 in
theorem sg1_f {p : Program} {l : Launch} {e : Env} {R : Room} {s : State} {m : MethodId} {args : Array Value} {below : List Frame} {meth : Method} {c : Code} {T0 : State} {locs : List Loc} {cells slots : Nat} (p1 p2 p3 : Int32) (x1 : Int32) (X0 : Stand p l e R s m args below meth c T0 locs cells slots) (hx : p.tables.exec = Jvm.exec) (hby : c.code = code) (hc3 : ¬ ((p3 &&& (1 : Int32)) = (0 : Int32))) (h_x1 : x1 = (0 : Int32)) :
    ∀ target, Steps p.tables e below (T0.setTop (mkF m 12 (own_l2 p1 p2 p3 x1) [])) target → Steps p.tables e below (T0.setTop (mkF m 0 (own_l0 p1 p2 p3) [])) target := by
  intro target kt
  rw [h_x1] at kt
  show Steps p.tables e below (T0.setTop (mkF m 0 (own_l0 p1 p2 p3) [])) _
  refine XS.iloadN X0.here hx rfl (hb hby at_0) rfl ?_
  show Steps p.tables e below (T0.setTop (mkF m 1 (own_l0 p1 p2 p3) [(.int p3)])) _
  refine XS.iconst X0.here hx rfl (hb hby at_1) ?_
  show Steps p.tables e below (T0.setTop (mkF m 2 (own_l0 p1 p2 p3) [(.int (1 : Int32)), (.int p3)])) _
  refine XS.iand X0.here hx rfl (hb hby at_2) rfl ?_
  show Steps p.tables e below (T0.setTop (mkF m 3 (own_l0 p1 p2 p3) [(.int (p3 &&& (1 : Int32)))])) _
  refine XS.ifNo X0.here hx rfl (hb hby at_3) rfl ((if0 _ _).trans (feq (hc3 : ¬ ((p3 &&& (1 : Int32)) = (0 : Int32)))).1) ?_
  show Steps p.tables e below (T0.setTop (mkF m 6 (own_l0 p1 p2 p3) [])) _
  refine XS.iconst X0.here hx rfl (hb hby at_6) ?_
  show Steps p.tables e below (T0.setTop (mkF m 7 (own_l0 p1 p2 p3) [(.int (0 : Int32))])) _
  refine XS.goto X0.here hx rfl (pc0 := 7) (pc' := 11) rfl (hb hby at_7) (by decide) (by decide) ?_
  show Steps p.tables e below (T0.setTop (mkF m 11 (own_l0 p1 p2 p3) [(.int (0 : Int32))])) _
  refine XS.istoreN X0.here hx rfl (hb hby at_11) rfl (l' := (own_l3 p1 p2 p3)) rfl ?_
  exact kt

set_option maxRecDepth 65536 in
set_option maxHeartbeats 4000000 in
theorem sg2_f {p : Program} {l : Launch} {e : Env} {R : Room} {s : State} {m : MethodId} {args : Array Value} {below : List Frame} {meth : Method} {c : Code} {T0 : State} {locs : List Loc} {cells slots : Nat} (p1 p2 p3 : Int32) (x1 : Int32) (k1 : Int32) (st : Int32) (X0 : Stand p l e R s m args below meth c T0 locs cells slots) (hx : p.tables.exec = Jvm.exec) (hby : c.code = code) (hc21 : (((p3.toUInt32 >>> ((1 : Int32) &&& 31).toUInt32).toInt32) &&& (3 : Int32)) = (0 : Int32)) (h_k1 : k1 = (((p3.toUInt32 >>> ((1 : Int32) &&& 31).toUInt32).toInt32) &&& (3 : Int32))) (h_st : st = p2) :
    ∀ target, Steps p.tables e below (T0.setTop (mkF m 71 (own_l6 p1 p2 p3 x1 k1 st) [])) target → Steps p.tables e below (T0.setTop (mkF m 12 (own_l2 p1 p2 p3 x1) [])) target := by
  intro target kt
  rw [h_k1] at kt
  rw [h_st] at kt
  show Steps p.tables e below (T0.setTop (mkF m 12 (own_l2 p1 p2 p3 x1) [])) _
  refine XS.iloadN X0.here hx rfl (hb hby at_12) rfl ?_
  show Steps p.tables e below (T0.setTop (mkF m 13 (own_l2 p1 p2 p3 x1) [(.int p3)])) _
  refine XS.iconst X0.here hx rfl (hb hby at_13) ?_
  show Steps p.tables e below (T0.setTop (mkF m 14 (own_l2 p1 p2 p3 x1) [(.int (1 : Int32)), (.int p3)])) _
  refine XS.iushr X0.here hx rfl (hb hby at_14) rfl ?_
  show Steps p.tables e below (T0.setTop (mkF m 15 (own_l2 p1 p2 p3 x1) [(.int ((p3.toUInt32 >>> ((1 : Int32) &&& 31).toUInt32).toInt32))])) _
  refine XS.iconst X0.here hx rfl (hb hby at_15) ?_
  show Steps p.tables e below (T0.setTop (mkF m 16 (own_l2 p1 p2 p3 x1) [(.int (3 : Int32)), (.int ((p3.toUInt32 >>> ((1 : Int32) &&& 31).toUInt32).toInt32))])) _
  refine XS.iand X0.here hx rfl (hb hby at_16) rfl ?_
  show Steps p.tables e below (T0.setTop (mkF m 17 (own_l2 p1 p2 p3 x1) [(.int (((p3.toUInt32 >>> ((1 : Int32) &&& 31).toUInt32).toInt32) &&& (3 : Int32)))])) _
  refine XS.istore X0.here hx rfl (hb hby at_17) rfl (l' := (own_l4 p1 p2 p3 x1)) rfl ?_
  show Steps p.tables e below (T0.setTop (mkF m 19 (own_l4 p1 p2 p3 x1) [])) _
  refine XS.iload X0.here hx rfl (hb hby at_19) rfl ?_
  show Steps p.tables e below (T0.setTop (mkF m 21 (own_l4 p1 p2 p3 x1) [(.int (((p3.toUInt32 >>> ((1 : Int32) &&& 31).toUInt32).toInt32) &&& (3 : Int32)))])) _
  refine XS.ifNo X0.here hx rfl (hb hby at_21) rfl ((if0 _ _).trans (teq (hc21 : (((p3.toUInt32 >>> ((1 : Int32) &&& 31).toUInt32).toInt32) &&& (3 : Int32)) = (0 : Int32))).2) ?_
  show Steps p.tables e below (T0.setTop (mkF m 24 (own_l4 p1 p2 p3 x1) [])) _
  refine XS.iloadN X0.here hx rfl (hb hby at_24) rfl ?_
  show Steps p.tables e below (T0.setTop (mkF m 25 (own_l4 p1 p2 p3 x1) [(.int p2)])) _
  refine XS.istore X0.here hx rfl (hb hby at_25) rfl (l' := (own_l5 p1 p2 p3 x1)) rfl ?_
  show Steps p.tables e below (T0.setTop (mkF m 27 (own_l5 p1 p2 p3 x1) [])) _
  refine XS.goto X0.here hx rfl (pc0 := 27) (pc' := 71) rfl (hb hby at_27) (by decide) (by decide) ?_
  exact kt

set_option maxRecDepth 65536 in
set_option maxHeartbeats 4000000 in
theorem sg2_tf {p : Program} {l : Launch} {e : Env} {R : Room} {s : State} {m : MethodId} {args : Array Value} {below : List Frame} {meth : Method} {c : Code} {T0 : State} {locs : List Loc} {cells slots : Nat} (p1 p2 p3 : Int32) (x1 : Int32) (k1 : Int32) (st : Int32) (X0 : Stand p l e R s m args below meth c T0 locs cells slots) (hx : p.tables.exec = Jvm.exec) (hby : c.code = code) (hc21 : ¬ ((((p3.toUInt32 >>> ((1 : Int32) &&& 31).toUInt32).toInt32) &&& (3 : Int32)) = (0 : Int32))) (hc33 : (((p3.toUInt32 >>> ((1 : Int32) &&& 31).toUInt32).toInt32) &&& (3 : Int32)) = (1 : Int32)) (h_k1 : k1 = (((p3.toUInt32 >>> ((1 : Int32) &&& 31).toUInt32).toInt32) &&& (3 : Int32))) (h_st : st = x1) :
    ∀ target, Steps p.tables e below (T0.setTop (mkF m 71 (own_l6 p1 p2 p3 x1 k1 st) [])) target → Steps p.tables e below (T0.setTop (mkF m 12 (own_l2 p1 p2 p3 x1) [])) target := by
  intro target kt
  rw [h_k1] at kt
  rw [h_st] at kt
  show Steps p.tables e below (T0.setTop (mkF m 12 (own_l2 p1 p2 p3 x1) [])) _
  refine XS.iloadN X0.here hx rfl (hb hby at_12) rfl ?_
  show Steps p.tables e below (T0.setTop (mkF m 13 (own_l2 p1 p2 p3 x1) [(.int p3)])) _
  refine XS.iconst X0.here hx rfl (hb hby at_13) ?_
  show Steps p.tables e below (T0.setTop (mkF m 14 (own_l2 p1 p2 p3 x1) [(.int (1 : Int32)), (.int p3)])) _
  refine XS.iushr X0.here hx rfl (hb hby at_14) rfl ?_
  show Steps p.tables e below (T0.setTop (mkF m 15 (own_l2 p1 p2 p3 x1) [(.int ((p3.toUInt32 >>> ((1 : Int32) &&& 31).toUInt32).toInt32))])) _
  refine XS.iconst X0.here hx rfl (hb hby at_15) ?_
  show Steps p.tables e below (T0.setTop (mkF m 16 (own_l2 p1 p2 p3 x1) [(.int (3 : Int32)), (.int ((p3.toUInt32 >>> ((1 : Int32) &&& 31).toUInt32).toInt32))])) _
  refine XS.iand X0.here hx rfl (hb hby at_16) rfl ?_
  show Steps p.tables e below (T0.setTop (mkF m 17 (own_l2 p1 p2 p3 x1) [(.int (((p3.toUInt32 >>> ((1 : Int32) &&& 31).toUInt32).toInt32) &&& (3 : Int32)))])) _
  refine XS.istore X0.here hx rfl (hb hby at_17) rfl (l' := (own_l4 p1 p2 p3 x1)) rfl ?_
  show Steps p.tables e below (T0.setTop (mkF m 19 (own_l4 p1 p2 p3 x1) [])) _
  refine XS.iload X0.here hx rfl (hb hby at_19) rfl ?_
  show Steps p.tables e below (T0.setTop (mkF m 21 (own_l4 p1 p2 p3 x1) [(.int (((p3.toUInt32 >>> ((1 : Int32) &&& 31).toUInt32).toInt32) &&& (3 : Int32)))])) _
  refine XS.ifYes X0.here hx rfl (pc0 := 21) (pc' := 30) rfl (hb hby at_21) rfl ((if0 _ _).trans (feq (hc21 : ¬ ((((p3.toUInt32 >>> ((1 : Int32) &&& 31).toUInt32).toInt32) &&& (3 : Int32)) = (0 : Int32)))).2) (by decide) (by decide) ?_
  show Steps p.tables e below (T0.setTop (mkF m 30 (own_l4 p1 p2 p3 x1) [])) _
  refine XS.iload X0.here hx rfl (hb hby at_30) rfl ?_
  show Steps p.tables e below (T0.setTop (mkF m 32 (own_l4 p1 p2 p3 x1) [(.int (((p3.toUInt32 >>> ((1 : Int32) &&& 31).toUInt32).toInt32) &&& (3 : Int32)))])) _
  refine XS.iconst X0.here hx rfl (hb hby at_32) ?_
  show Steps p.tables e below (T0.setTop (mkF m 33 (own_l4 p1 p2 p3 x1) [(.int (1 : Int32)), (.int (((p3.toUInt32 >>> ((1 : Int32) &&& 31).toUInt32).toInt32) &&& (3 : Int32)))])) _
  refine XS.icmpNo X0.here hx rfl (hb hby at_33) rfl (teq (hc33 : (((p3.toUInt32 >>> ((1 : Int32) &&& 31).toUInt32).toInt32) &&& (3 : Int32)) = (1 : Int32))).2 ?_
  show Steps p.tables e below (T0.setTop (mkF m 36 (own_l4 p1 p2 p3 x1) [])) _
  refine XS.iloadN X0.here hx rfl (hb hby at_36) rfl ?_
  show Steps p.tables e below (T0.setTop (mkF m 37 (own_l4 p1 p2 p3 x1) [(.int x1)])) _
  refine XS.istore X0.here hx rfl (hb hby at_37) rfl (l' := (own_l7 p1 p2 p3 x1)) rfl ?_
  show Steps p.tables e below (T0.setTop (mkF m 39 (own_l7 p1 p2 p3 x1) [])) _
  refine XS.goto X0.here hx rfl (pc0 := 39) (pc' := 71) rfl (hb hby at_39) (by decide) (by decide) ?_
  exact kt

set_option maxRecDepth 65536 in
set_option maxHeartbeats 4000000 in
theorem sg2_ttf {p : Program} {l : Launch} {e : Env} {R : Room} {s : State} {m : MethodId} {args : Array Value} {below : List Frame} {meth : Method} {c : Code} {T0 : State} {locs : List Loc} {cells slots : Nat} (p1 p2 p3 : Int32) (x1 : Int32) (k1 : Int32) (st : Int32) (X0 : Stand p l e R s m args below meth c T0 locs cells slots) (hx : p.tables.exec = Jvm.exec) (hby : c.code = code) (hc21 : ¬ ((((p3.toUInt32 >>> ((1 : Int32) &&& 31).toUInt32).toInt32) &&& (3 : Int32)) = (0 : Int32))) (hc33 : ¬ ((((p3.toUInt32 >>> ((1 : Int32) &&& 31).toUInt32).toInt32) &&& (3 : Int32)) = (1 : Int32))) (hc45 : (((p3.toUInt32 >>> ((1 : Int32) &&& 31).toUInt32).toInt32) &&& (3 : Int32)) = (2 : Int32)) (h_k1 : k1 = (((p3.toUInt32 >>> ((1 : Int32) &&& 31).toUInt32).toInt32) &&& (3 : Int32))) (h_st : st = ((192 : Int32) + (p2 &&& (15 : Int32)))) :
    ∀ target, Steps p.tables e below (T0.setTop (mkF m 71 (own_l6 p1 p2 p3 x1 k1 st) [])) target → Steps p.tables e below (T0.setTop (mkF m 12 (own_l2 p1 p2 p3 x1) [])) target := by
  intro target kt
  rw [h_k1] at kt
  rw [h_st] at kt
  show Steps p.tables e below (T0.setTop (mkF m 12 (own_l2 p1 p2 p3 x1) [])) _
  refine XS.iloadN X0.here hx rfl (hb hby at_12) rfl ?_
  show Steps p.tables e below (T0.setTop (mkF m 13 (own_l2 p1 p2 p3 x1) [(.int p3)])) _
  refine XS.iconst X0.here hx rfl (hb hby at_13) ?_
  show Steps p.tables e below (T0.setTop (mkF m 14 (own_l2 p1 p2 p3 x1) [(.int (1 : Int32)), (.int p3)])) _
  refine XS.iushr X0.here hx rfl (hb hby at_14) rfl ?_
  show Steps p.tables e below (T0.setTop (mkF m 15 (own_l2 p1 p2 p3 x1) [(.int ((p3.toUInt32 >>> ((1 : Int32) &&& 31).toUInt32).toInt32))])) _
  refine XS.iconst X0.here hx rfl (hb hby at_15) ?_
  show Steps p.tables e below (T0.setTop (mkF m 16 (own_l2 p1 p2 p3 x1) [(.int (3 : Int32)), (.int ((p3.toUInt32 >>> ((1 : Int32) &&& 31).toUInt32).toInt32))])) _
  refine XS.iand X0.here hx rfl (hb hby at_16) rfl ?_
  show Steps p.tables e below (T0.setTop (mkF m 17 (own_l2 p1 p2 p3 x1) [(.int (((p3.toUInt32 >>> ((1 : Int32) &&& 31).toUInt32).toInt32) &&& (3 : Int32)))])) _
  refine XS.istore X0.here hx rfl (hb hby at_17) rfl (l' := (own_l4 p1 p2 p3 x1)) rfl ?_
  show Steps p.tables e below (T0.setTop (mkF m 19 (own_l4 p1 p2 p3 x1) [])) _
  refine XS.iload X0.here hx rfl (hb hby at_19) rfl ?_
  show Steps p.tables e below (T0.setTop (mkF m 21 (own_l4 p1 p2 p3 x1) [(.int (((p3.toUInt32 >>> ((1 : Int32) &&& 31).toUInt32).toInt32) &&& (3 : Int32)))])) _
  refine XS.ifYes X0.here hx rfl (pc0 := 21) (pc' := 30) rfl (hb hby at_21) rfl ((if0 _ _).trans (feq (hc21 : ¬ ((((p3.toUInt32 >>> ((1 : Int32) &&& 31).toUInt32).toInt32) &&& (3 : Int32)) = (0 : Int32)))).2) (by decide) (by decide) ?_
  show Steps p.tables e below (T0.setTop (mkF m 30 (own_l4 p1 p2 p3 x1) [])) _
  refine XS.iload X0.here hx rfl (hb hby at_30) rfl ?_
  show Steps p.tables e below (T0.setTop (mkF m 32 (own_l4 p1 p2 p3 x1) [(.int (((p3.toUInt32 >>> ((1 : Int32) &&& 31).toUInt32).toInt32) &&& (3 : Int32)))])) _
  refine XS.iconst X0.here hx rfl (hb hby at_32) ?_
  show Steps p.tables e below (T0.setTop (mkF m 33 (own_l4 p1 p2 p3 x1) [(.int (1 : Int32)), (.int (((p3.toUInt32 >>> ((1 : Int32) &&& 31).toUInt32).toInt32) &&& (3 : Int32)))])) _
  refine XS.icmpYes X0.here hx rfl (pc0 := 33) (pc' := 42) rfl (hb hby at_33) rfl (feq (hc33 : ¬ ((((p3.toUInt32 >>> ((1 : Int32) &&& 31).toUInt32).toInt32) &&& (3 : Int32)) = (1 : Int32)))).2 (by decide) (by decide) ?_
  show Steps p.tables e below (T0.setTop (mkF m 42 (own_l4 p1 p2 p3 x1) [])) _
  refine XS.iload X0.here hx rfl (hb hby at_42) rfl ?_
  show Steps p.tables e below (T0.setTop (mkF m 44 (own_l4 p1 p2 p3 x1) [(.int (((p3.toUInt32 >>> ((1 : Int32) &&& 31).toUInt32).toInt32) &&& (3 : Int32)))])) _
  refine XS.iconst X0.here hx rfl (hb hby at_44) ?_
  show Steps p.tables e below (T0.setTop (mkF m 45 (own_l4 p1 p2 p3 x1) [(.int (2 : Int32)), (.int (((p3.toUInt32 >>> ((1 : Int32) &&& 31).toUInt32).toInt32) &&& (3 : Int32)))])) _
  refine XS.icmpNo X0.here hx rfl (hb hby at_45) rfl (teq (hc45 : (((p3.toUInt32 >>> ((1 : Int32) &&& 31).toUInt32).toInt32) &&& (3 : Int32)) = (2 : Int32))).2 ?_
  show Steps p.tables e below (T0.setTop (mkF m 48 (own_l4 p1 p2 p3 x1) [])) _
  refine XS.sipush X0.here hx rfl (hb hby at_48) ?_
  show Steps p.tables e below (T0.setTop (mkF m 51 (own_l4 p1 p2 p3 x1) [(.int (192 : Int32))])) _
  refine XS.iloadN X0.here hx rfl (hb hby at_51) rfl ?_
  show Steps p.tables e below (T0.setTop (mkF m 52 (own_l4 p1 p2 p3 x1) [(.int p2), (.int (192 : Int32))])) _
  refine XS.bipush X0.here hx rfl (hb hby at_52) ?_
  show Steps p.tables e below (T0.setTop (mkF m 54 (own_l4 p1 p2 p3 x1) [(.int (15 : Int32)), (.int p2), (.int (192 : Int32))])) _
  refine XS.iand X0.here hx rfl (hb hby at_54) rfl ?_
  show Steps p.tables e below (T0.setTop (mkF m 55 (own_l4 p1 p2 p3 x1) [(.int (p2 &&& (15 : Int32))), (.int (192 : Int32))])) _
  refine XS.iadd X0.here hx rfl (hb hby at_55) rfl ?_
  show Steps p.tables e below (T0.setTop (mkF m 56 (own_l4 p1 p2 p3 x1) [(.int ((192 : Int32) + (p2 &&& (15 : Int32))))])) _
  refine XS.istore X0.here hx rfl (hb hby at_56) rfl (l' := (own_l8 p1 p2 p3 x1)) rfl ?_
  show Steps p.tables e below (T0.setTop (mkF m 58 (own_l8 p1 p2 p3 x1) [])) _
  refine XS.goto X0.here hx rfl (pc0 := 58) (pc' := 71) rfl (hb hby at_58) (by decide) (by decide) ?_
  exact kt

set_option maxRecDepth 65536 in
set_option maxHeartbeats 4000000 in
theorem sg2_ttt {p : Program} {l : Launch} {e : Env} {R : Room} {s : State} {m : MethodId} {args : Array Value} {below : List Frame} {meth : Method} {c : Code} {T0 : State} {locs : List Loc} {cells slots : Nat} (p1 p2 p3 : Int32) (x1 : Int32) (k1 : Int32) (st : Int32) (X0 : Stand p l e R s m args below meth c T0 locs cells slots) (hx : p.tables.exec = Jvm.exec) (hby : c.code = code) (hc21 : ¬ ((((p3.toUInt32 >>> ((1 : Int32) &&& 31).toUInt32).toInt32) &&& (3 : Int32)) = (0 : Int32))) (hc33 : ¬ ((((p3.toUInt32 >>> ((1 : Int32) &&& 31).toUInt32).toInt32) &&& (3 : Int32)) = (1 : Int32))) (hc45 : ¬ ((((p3.toUInt32 >>> ((1 : Int32) &&& 31).toUInt32).toInt32) &&& (3 : Int32)) = (2 : Int32))) (h_k1 : k1 = (((p3.toUInt32 >>> ((1 : Int32) &&& 31).toUInt32).toInt32) &&& (3 : Int32))) (h_st : st = ((392 : Int32) + (p2 &&& (15 : Int32)))) :
    ∀ target, Steps p.tables e below (T0.setTop (mkF m 71 (own_l6 p1 p2 p3 x1 k1 st) [])) target → Steps p.tables e below (T0.setTop (mkF m 12 (own_l2 p1 p2 p3 x1) [])) target := by
  intro target kt
  rw [h_k1] at kt
  rw [h_st] at kt
  show Steps p.tables e below (T0.setTop (mkF m 12 (own_l2 p1 p2 p3 x1) [])) _
  refine XS.iloadN X0.here hx rfl (hb hby at_12) rfl ?_
  show Steps p.tables e below (T0.setTop (mkF m 13 (own_l2 p1 p2 p3 x1) [(.int p3)])) _
  refine XS.iconst X0.here hx rfl (hb hby at_13) ?_
  show Steps p.tables e below (T0.setTop (mkF m 14 (own_l2 p1 p2 p3 x1) [(.int (1 : Int32)), (.int p3)])) _
  refine XS.iushr X0.here hx rfl (hb hby at_14) rfl ?_
  show Steps p.tables e below (T0.setTop (mkF m 15 (own_l2 p1 p2 p3 x1) [(.int ((p3.toUInt32 >>> ((1 : Int32) &&& 31).toUInt32).toInt32))])) _
  refine XS.iconst X0.here hx rfl (hb hby at_15) ?_
  show Steps p.tables e below (T0.setTop (mkF m 16 (own_l2 p1 p2 p3 x1) [(.int (3 : Int32)), (.int ((p3.toUInt32 >>> ((1 : Int32) &&& 31).toUInt32).toInt32))])) _
  refine XS.iand X0.here hx rfl (hb hby at_16) rfl ?_
  show Steps p.tables e below (T0.setTop (mkF m 17 (own_l2 p1 p2 p3 x1) [(.int (((p3.toUInt32 >>> ((1 : Int32) &&& 31).toUInt32).toInt32) &&& (3 : Int32)))])) _
  refine XS.istore X0.here hx rfl (hb hby at_17) rfl (l' := (own_l4 p1 p2 p3 x1)) rfl ?_
  show Steps p.tables e below (T0.setTop (mkF m 19 (own_l4 p1 p2 p3 x1) [])) _
  refine XS.iload X0.here hx rfl (hb hby at_19) rfl ?_
  show Steps p.tables e below (T0.setTop (mkF m 21 (own_l4 p1 p2 p3 x1) [(.int (((p3.toUInt32 >>> ((1 : Int32) &&& 31).toUInt32).toInt32) &&& (3 : Int32)))])) _
  refine XS.ifYes X0.here hx rfl (pc0 := 21) (pc' := 30) rfl (hb hby at_21) rfl ((if0 _ _).trans (feq (hc21 : ¬ ((((p3.toUInt32 >>> ((1 : Int32) &&& 31).toUInt32).toInt32) &&& (3 : Int32)) = (0 : Int32)))).2) (by decide) (by decide) ?_
  show Steps p.tables e below (T0.setTop (mkF m 30 (own_l4 p1 p2 p3 x1) [])) _
  refine XS.iload X0.here hx rfl (hb hby at_30) rfl ?_
  show Steps p.tables e below (T0.setTop (mkF m 32 (own_l4 p1 p2 p3 x1) [(.int (((p3.toUInt32 >>> ((1 : Int32) &&& 31).toUInt32).toInt32) &&& (3 : Int32)))])) _
  refine XS.iconst X0.here hx rfl (hb hby at_32) ?_
  show Steps p.tables e below (T0.setTop (mkF m 33 (own_l4 p1 p2 p3 x1) [(.int (1 : Int32)), (.int (((p3.toUInt32 >>> ((1 : Int32) &&& 31).toUInt32).toInt32) &&& (3 : Int32)))])) _
  refine XS.icmpYes X0.here hx rfl (pc0 := 33) (pc' := 42) rfl (hb hby at_33) rfl (feq (hc33 : ¬ ((((p3.toUInt32 >>> ((1 : Int32) &&& 31).toUInt32).toInt32) &&& (3 : Int32)) = (1 : Int32)))).2 (by decide) (by decide) ?_
  show Steps p.tables e below (T0.setTop (mkF m 42 (own_l4 p1 p2 p3 x1) [])) _
  refine XS.iload X0.here hx rfl (hb hby at_42) rfl ?_
  show Steps p.tables e below (T0.setTop (mkF m 44 (own_l4 p1 p2 p3 x1) [(.int (((p3.toUInt32 >>> ((1 : Int32) &&& 31).toUInt32).toInt32) &&& (3 : Int32)))])) _
  refine XS.iconst X0.here hx rfl (hb hby at_44) ?_
  show Steps p.tables e below (T0.setTop (mkF m 45 (own_l4 p1 p2 p3 x1) [(.int (2 : Int32)), (.int (((p3.toUInt32 >>> ((1 : Int32) &&& 31).toUInt32).toInt32) &&& (3 : Int32)))])) _
  refine XS.icmpYes X0.here hx rfl (pc0 := 45) (pc' := 61) rfl (hb hby at_45) rfl (feq (hc45 : ¬ ((((p3.toUInt32 >>> ((1 : Int32) &&& 31).toUInt32).toInt32) &&& (3 : Int32)) = (2 : Int32)))).2 (by decide) (by decide) ?_
  show Steps p.tables e below (T0.setTop (mkF m 61 (own_l4 p1 p2 p3 x1) [])) _
  refine XS.sipush X0.here hx rfl (hb hby at_61) ?_
  show Steps p.tables e below (T0.setTop (mkF m 64 (own_l4 p1 p2 p3 x1) [(.int (392 : Int32))])) _
  refine XS.iloadN X0.here hx rfl (hb hby at_64) rfl ?_
  show Steps p.tables e below (T0.setTop (mkF m 65 (own_l4 p1 p2 p3 x1) [(.int p2), (.int (392 : Int32))])) _
  refine XS.bipush X0.here hx rfl (hb hby at_65) ?_
  show Steps p.tables e below (T0.setTop (mkF m 67 (own_l4 p1 p2 p3 x1) [(.int (15 : Int32)), (.int p2), (.int (392 : Int32))])) _
  refine XS.iand X0.here hx rfl (hb hby at_67) rfl ?_
  show Steps p.tables e below (T0.setTop (mkF m 68 (own_l4 p1 p2 p3 x1) [(.int (p2 &&& (15 : Int32))), (.int (392 : Int32))])) _
  refine XS.iadd X0.here hx rfl (hb hby at_68) rfl ?_
  show Steps p.tables e below (T0.setTop (mkF m 69 (own_l4 p1 p2 p3 x1) [(.int ((392 : Int32) + (p2 &&& (15 : Int32))))])) _
  refine XS.istore X0.here hx rfl (hb hby at_69) rfl (l' := (own_l9 p1 p2 p3 x1)) rfl ?_
  exact kt

theorem own_pre {p : Program} {l : Launch} {e : Env} {R : Room} {s : State} {m : MethodId} {args : Array Value} {below : List Frame} {meth : Method} {c : Code} {T0 : State} {locs : List Loc} {cells slots : Nat} (p1 p2 p3 : Int32) (X0 : Stand p l e R s m args below meth c T0 locs cells slots) (hx : p.tables.exec = Jvm.exec) (hby : c.code = code) :
    ∃ x1 k1 st : Int32, ∀ target, Steps p.tables e below (T0.setTop (mkF m 71 (own_l6 p1 p2 p3 x1 k1 st) [])) target → Steps p.tables e below (T0.setTop (mkF m 0 (own_l0 p1 p2 p3) [])) target := by
  obtain ⟨x1, h1⟩ : ∃ x1 : Int32, ∀ target, Steps p.tables e below (T0.setTop (mkF m 12 (own_l2 p1 p2 p3 x1) [])) target → Steps p.tables e below (T0.setTop (mkF m 0 (own_l0 p1 p2 p3) [])) target := by
    by_cases h3 : (p3 &&& (1 : Int32)) = (0 : Int32)
    · exact ⟨_, sg1_t p1 p2 p3 _ X0 hx hby h3 rfl⟩
    · exact ⟨_, sg1_f p1 p2 p3 _ X0 hx hby h3 rfl⟩
  refine ⟨x1, ?_⟩
  by_cases g0 : ((((p3.toUInt32 >>> ((1 : Int32) &&& 31).toUInt32).toInt32) &&& (3 : Int32)) = (0 : Int32))
  · exact ⟨_, _, fun t k => h1 t (sg2_f p1 p2 p3 x1 _ _ X0 hx hby g0 rfl rfl t k)⟩
  · by_cases g1 : ((((p3.toUInt32 >>> ((1 : Int32) &&& 31).toUInt32).toInt32) &&& (3 : Int32)) = (1 : Int32))
    · exact ⟨_, _, fun t k => h1 t (sg2_tf p1 p2 p3 x1 _ _ X0 hx hby g0 g1 rfl rfl t k)⟩
    · by_cases g2 : ((((p3.toUInt32 >>> ((1 : Int32) &&& 31).toUInt32).toInt32) &&& (3 : Int32)) = (2 : Int32))
      · exact ⟨_, _, fun t k => h1 t (sg2_ttf p1 p2 p3 x1 _ _ X0 hx hby g0 g1 g2 rfl rfl t k)⟩
      · exact ⟨_, _, fun t k => h1 t (sg2_ttt p1 p2 p3 x1 _ _ X0 hx hby g0 g1 g2 rfl rfl t k)⟩

set_option maxRecDepth 65536 in
set_option maxHeartbeats 4000000 in
theorem sg3_tt {p : Program} {l : Launch} {e : Env} {R : Room} {s : State} {m : MethodId} {args : Array Value} {below : List Frame} {meth : Method} {c : Code} {T0 : State} {locs : List Loc} {cells slots : Nat} (p1 p2 p3 : Int32) (x1 k1 st : Int32) (b4 : Addr) (got : Int32)  (X0 : Stand p l e R s m args below meth c T0 locs cells slots) (hx : p.tables.exec = Jvm.exec) (hby : c.code = code) (hc95 : ¬ (x1 = (0 : Int32))) (hc130 : ¬ (st = x1)) (hc144 : got = (0 : Int32)) :
    ∀ target, Steps p.tables e below (T0.setTop (mkF m 152 (own_l12 p1 p2 p3 x1 k1 st b4 got) [(.int (1 : Int32))])) target → Steps p.tables e below (T0.setTop (mkF m 92 (own_l10 p1 p2 p3 x1 k1 st b4) [(.int got)])) target := by
  intro target kt
  show Steps p.tables e below (T0.setTop (mkF m 92 (own_l10 p1 p2 p3 x1 k1 st b4) [(.int got)])) _
  refine XS.istore X0.here hx rfl (hb hby at_92) rfl (l' := (own_l11 p1 p2 p3 x1 k1 st b4 got)) rfl ?_
  show Steps p.tables e below (T0.setTop (mkF m 94 (own_l11 p1 p2 p3 x1 k1 st b4 got) [])) _
  refine XS.iloadN X0.here hx rfl (hb hby at_94) rfl ?_
  show Steps p.tables e below (T0.setTop (mkF m 95 (own_l11 p1 p2 p3 x1 k1 st b4 got) [(.int x1)])) _
  refine XS.ifYes X0.here hx rfl (pc0 := 95) (pc' := 127) rfl (hb hby at_95) rfl ((if0 _ _).trans (feq (hc95 : ¬ (x1 = (0 : Int32)))).2) (by decide) (by decide) ?_
  show Steps p.tables e below (T0.setTop (mkF m 127 (own_l11 p1 p2 p3 x1 k1 st b4 got) [])) _
  refine XS.iload X0.here hx rfl (hb hby at_127) rfl ?_
  show Steps p.tables e below (T0.setTop (mkF m 129 (own_l11 p1 p2 p3 x1 k1 st b4 got) [(.int st)])) _
  refine XS.iloadN X0.here hx rfl (hb hby at_129) rfl ?_
  show Steps p.tables e below (T0.setTop (mkF m 130 (own_l11 p1 p2 p3 x1 k1 st b4 got) [(.int x1), (.int st)])) _
  refine XS.icmpYes X0.here hx rfl (pc0 := 130) (pc' := 137) rfl (hb hby at_130) rfl (feq (hc130 : ¬ (st = x1))).2 (by decide) (by decide) ?_
  show Steps p.tables e below (T0.setTop (mkF m 137 (own_l11 p1 p2 p3 x1 k1 st b4 got) [])) _
  refine XS.iconst X0.here hx rfl (hb hby at_137) ?_
  show Steps p.tables e below (T0.setTop (mkF m 138 (own_l11 p1 p2 p3 x1 k1 st b4 got) [(.int (0 : Int32))])) _
  refine XS.istore X0.here hx rfl (hb hby at_138) rfl (l' := (own_l12 p1 p2 p3 x1 k1 st b4 got)) rfl ?_
  show Steps p.tables e below (T0.setTop (mkF m 140 (own_l12 p1 p2 p3 x1 k1 st b4 got) [])) _
  refine XS.iload X0.here hx rfl (hb hby at_140) rfl ?_
  show Steps p.tables e below (T0.setTop (mkF m 142 (own_l12 p1 p2 p3 x1 k1 st b4 got) [(.int got)])) _
  refine XS.iload X0.here hx rfl (hb hby at_142) rfl ?_
  show Steps p.tables e below (T0.setTop (mkF m 144 (own_l12 p1 p2 p3 x1 k1 st b4 got) [(.int (0 : Int32)), (.int got)])) _
  refine XS.icmpNo X0.here hx rfl (hb hby at_144) rfl (teq (hc144 : got = (0 : Int32))).2 ?_
  show Steps p.tables e below (T0.setTop (mkF m 147 (own_l12 p1 p2 p3 x1 k1 st b4 got) [])) _
  refine XS.iconst X0.here hx rfl (hb hby at_147) ?_
  show Steps p.tables e below (T0.setTop (mkF m 148 (own_l12 p1 p2 p3 x1 k1 st b4 got) [(.int (1 : Int32))])) _
  refine XS.goto X0.here hx rfl (pc0 := 148) (pc' := 152) rfl (hb hby at_148) (by decide) (by decide) ?_
  exact kt

set_option maxRecDepth 65536 in
set_option maxHeartbeats 4000000 in
theorem sg3_tf {p : Program} {l : Launch} {e : Env} {R : Room} {s : State} {m : MethodId} {args : Array Value} {below : List Frame} {meth : Method} {c : Code} {T0 : State} {locs : List Loc} {cells slots : Nat} (p1 p2 p3 : Int32) (x1 k1 st : Int32) (b4 : Addr) (got : Int32)  (X0 : Stand p l e R s m args below meth c T0 locs cells slots) (hx : p.tables.exec = Jvm.exec) (hby : c.code = code) (hc95 : ¬ (x1 = (0 : Int32))) (hc130 : st = x1) (hc144 : got = (1 : Int32)) :
    ∀ target, Steps p.tables e below (T0.setTop (mkF m 152 (own_l13 p1 p2 p3 x1 k1 st b4 got) [(.int (1 : Int32))])) target → Steps p.tables e below (T0.setTop (mkF m 92 (own_l10 p1 p2 p3 x1 k1 st b4) [(.int got)])) target := by
  intro target kt
  show Steps p.tables e below (T0.setTop (mkF m 92 (own_l10 p1 p2 p3 x1 k1 st b4) [(.int got)])) _
  refine XS.istore X0.here hx rfl (hb hby at_92) rfl (l' := (own_l11 p1 p2 p3 x1 k1 st b4 got)) rfl ?_
  show Steps p.tables e below (T0.setTop (mkF m 94 (own_l11 p1 p2 p3 x1 k1 st b4 got) [])) _
  refine XS.iloadN X0.here hx rfl (hb hby at_94) rfl ?_
  show Steps p.tables e below (T0.setTop (mkF m 95 (own_l11 p1 p2 p3 x1 k1 st b4 got) [(.int x1)])) _
  refine XS.ifYes X0.here hx rfl (pc0 := 95) (pc' := 127) rfl (hb hby at_95) rfl ((if0 _ _).trans (feq (hc95 : ¬ (x1 = (0 : Int32)))).2) (by decide) (by decide) ?_
  show Steps p.tables e below (T0.setTop (mkF m 127 (own_l11 p1 p2 p3 x1 k1 st b4 got) [])) _
  refine XS.iload X0.here hx rfl (hb hby at_127) rfl ?_
  show Steps p.tables e below (T0.setTop (mkF m 129 (own_l11 p1 p2 p3 x1 k1 st b4 got) [(.int st)])) _
  refine XS.iloadN X0.here hx rfl (hb hby at_129) rfl ?_
  show Steps p.tables e below (T0.setTop (mkF m 130 (own_l11 p1 p2 p3 x1 k1 st b4 got) [(.int x1), (.int st)])) _
  refine XS.icmpNo X0.here hx rfl (hb hby at_130) rfl (teq (hc130 : st = x1)).2 ?_
  show Steps p.tables e below (T0.setTop (mkF m 133 (own_l11 p1 p2 p3 x1 k1 st b4 got) [])) _
  refine XS.iconst X0.here hx rfl (hb hby at_133) ?_
  show Steps p.tables e below (T0.setTop (mkF m 134 (own_l11 p1 p2 p3 x1 k1 st b4 got) [(.int (1 : Int32))])) _
  refine XS.goto X0.here hx rfl (pc0 := 134) (pc' := 138) rfl (hb hby at_134) (by decide) (by decide) ?_
  show Steps p.tables e below (T0.setTop (mkF m 138 (own_l11 p1 p2 p3 x1 k1 st b4 got) [(.int (1 : Int32))])) _
  refine XS.istore X0.here hx rfl (hb hby at_138) rfl (l' := (own_l13 p1 p2 p3 x1 k1 st b4 got)) rfl ?_
  show Steps p.tables e below (T0.setTop (mkF m 140 (own_l13 p1 p2 p3 x1 k1 st b4 got) [])) _
  refine XS.iload X0.here hx rfl (hb hby at_140) rfl ?_
  show Steps p.tables e below (T0.setTop (mkF m 142 (own_l13 p1 p2 p3 x1 k1 st b4 got) [(.int got)])) _
  refine XS.iload X0.here hx rfl (hb hby at_142) rfl ?_
  show Steps p.tables e below (T0.setTop (mkF m 144 (own_l13 p1 p2 p3 x1 k1 st b4 got) [(.int (1 : Int32)), (.int got)])) _
  refine XS.icmpNo X0.here hx rfl (hb hby at_144) rfl (teq (hc144 : got = (1 : Int32))).2 ?_
  show Steps p.tables e below (T0.setTop (mkF m 147 (own_l13 p1 p2 p3 x1 k1 st b4 got) [])) _
  refine XS.iconst X0.here hx rfl (hb hby at_147) ?_
  show Steps p.tables e below (T0.setTop (mkF m 148 (own_l13 p1 p2 p3 x1 k1 st b4 got) [(.int (1 : Int32))])) _
  refine XS.goto X0.here hx rfl (pc0 := 148) (pc' := 152) rfl (hb hby at_148) (by decide) (by decide) ?_
  exact kt

set_option maxRecDepth 65536 in
set_option maxHeartbeats 4000000 in
theorem sg3_ft {p : Program} {l : Launch} {e : Env} {R : Room} {s : State} {m : MethodId} {args : Array Value} {below : List Frame} {meth : Method} {c : Code} {T0 : State} {locs : List Loc} {cells slots : Nat} (p1 p2 p3 : Int32) (x1 k1 st : Int32) (b4 : Addr) (got : Int32)  (X0 : Stand p l e R s m args below meth c T0 locs cells slots) (hx : p.tables.exec = Jvm.exec) (hby : c.code = code) (hc95 : x1 = (0 : Int32)) (hc108 : (st / (100 : Int32)) = (2 : Int32)) (hc144 : got = (1 : Int32)) :
    ∀ target, Steps p.tables e below (T0.setTop (mkF m 152 (own_l15 p1 p2 p3 x1 k1 st b4 got) [(.int (1 : Int32))])) target → Steps p.tables e below (T0.setTop (mkF m 92 (own_l10 p1 p2 p3 x1 k1 st b4) [(.int got)])) target := by
  intro target kt
  show Steps p.tables e below (T0.setTop (mkF m 92 (own_l10 p1 p2 p3 x1 k1 st b4) [(.int got)])) _
  refine XS.istore X0.here hx rfl (hb hby at_92) rfl (l' := (own_l11 p1 p2 p3 x1 k1 st b4 got)) rfl ?_
  show Steps p.tables e below (T0.setTop (mkF m 94 (own_l11 p1 p2 p3 x1 k1 st b4 got) [])) _
  refine XS.iloadN X0.here hx rfl (hb hby at_94) rfl ?_
  show Steps p.tables e below (T0.setTop (mkF m 95 (own_l11 p1 p2 p3 x1 k1 st b4 got) [(.int x1)])) _
  refine XS.ifNo X0.here hx rfl (hb hby at_95) rfl ((if0 _ _).trans (teq (hc95 : x1 = (0 : Int32))).2) ?_
  show Steps p.tables e below (T0.setTop (mkF m 98 (own_l11 p1 p2 p3 x1 k1 st b4 got) [])) _
  refine XS.iload X0.here hx rfl (hb hby at_98) rfl ?_
  show Steps p.tables e below (T0.setTop (mkF m 100 (own_l11 p1 p2 p3 x1 k1 st b4 got) [(.int st)])) _
  refine XS.bipush X0.here hx rfl (hb hby at_100) ?_
  show Steps p.tables e below (T0.setTop (mkF m 102 (own_l11 p1 p2 p3 x1 k1 st b4 got) [(.int (100 : Int32)), (.int st)])) _
  refine XS.idiv X0.here hx rfl (hb hby at_102) rfl (by decide) ?_
  show Steps p.tables e below (T0.setTop (mkF m 103 (own_l11 p1 p2 p3 x1 k1 st b4 got) [(.int (st / (100 : Int32)))])) _
  refine XS.istore X0.here hx rfl (hb hby at_103) rfl (l' := (own_l14 p1 p2 p3 x1 k1 st b4 got)) rfl ?_
  show Steps p.tables e below (T0.setTop (mkF m 105 (own_l14 p1 p2 p3 x1 k1 st b4 got) [])) _
  refine XS.iload X0.here hx rfl (hb hby at_105) rfl ?_
  show Steps p.tables e below (T0.setTop (mkF m 107 (own_l14 p1 p2 p3 x1 k1 st b4 got) [(.int (st / (100 : Int32)))])) _
  refine XS.iconst X0.here hx rfl (hb hby at_107) ?_
  show Steps p.tables e below (T0.setTop (mkF m 108 (own_l14 p1 p2 p3 x1 k1 st b4 got) [(.int (2 : Int32)), (.int (st / (100 : Int32)))])) _
  refine XS.icmpYes X0.here hx rfl (pc0 := 108) (pc' := 117) rfl (hb hby at_108) rfl (teq (hc108 : (st / (100 : Int32)) = (2 : Int32))).1 (by decide) (by decide) ?_
  show Steps p.tables e below (T0.setTop (mkF m 117 (own_l14 p1 p2 p3 x1 k1 st b4 got) [])) _
  refine XS.iconst X0.here hx rfl (hb hby at_117) ?_
  show Steps p.tables e below (T0.setTop (mkF m 118 (own_l14 p1 p2 p3 x1 k1 st b4 got) [(.int (1 : Int32))])) _
  refine XS.goto X0.here hx rfl (pc0 := 118) (pc' := 122) rfl (hb hby at_118) (by decide) (by decide) ?_
  show Steps p.tables e below (T0.setTop (mkF m 122 (own_l14 p1 p2 p3 x1 k1 st b4 got) [(.int (1 : Int32))])) _
  refine XS.istore X0.here hx rfl (hb hby at_122) rfl (l' := (own_l15 p1 p2 p3 x1 k1 st b4 got)) rfl ?_
  show Steps p.tables e below (T0.setTop (mkF m 124 (own_l15 p1 p2 p3 x1 k1 st b4 got) [])) _
  refine XS.goto X0.here hx rfl (pc0 := 124) (pc' := 140) rfl (hb hby at_124) (by decide) (by decide) ?_
  show Steps p.tables e below (T0.setTop (mkF m 140 (own_l15 p1 p2 p3 x1 k1 st b4 got) [])) _
  refine XS.iload X0.here hx rfl (hb hby at_140) rfl ?_
  show Steps p.tables e below (T0.setTop (mkF m 142 (own_l15 p1 p2 p3 x1 k1 st b4 got) [(.int got)])) _
  refine XS.iload X0.here hx rfl (hb hby at_142) rfl ?_
  show Steps p.tables e below (T0.setTop (mkF m 144 (own_l15 p1 p2 p3 x1 k1 st b4 got) [(.int (1 : Int32)), (.int got)])) _
  refine XS.icmpNo X0.here hx rfl (hb hby at_144) rfl (teq (hc144 : got = (1 : Int32))).2 ?_
  show Steps p.tables e below (T0.setTop (mkF m 147 (own_l15 p1 p2 p3 x1 k1 st b4 got) [])) _
  refine XS.iconst X0.here hx rfl (hb hby at_147) ?_
  show Steps p.tables e below (T0.setTop (mkF m 148 (own_l15 p1 p2 p3 x1 k1 st b4 got) [(.int (1 : Int32))])) _
  refine XS.goto X0.here hx rfl (pc0 := 148) (pc' := 152) rfl (hb hby at_148) (by decide) (by decide) ?_
  exact kt

set_option maxRecDepth 65536 in
set_option maxHeartbeats 4000000 in
theorem sg3_fft {p : Program} {l : Launch} {e : Env} {R : Room} {s : State} {m : MethodId} {args : Array Value} {below : List Frame} {meth : Method} {c : Code} {T0 : State} {locs : List Loc} {cells slots : Nat} (p1 p2 p3 : Int32) (x1 k1 st : Int32) (b4 : Addr) (got : Int32)  (X0 : Stand p l e R s m args below meth c T0 locs cells slots) (hx : p.tables.exec = Jvm.exec) (hby : c.code = code) (hc95 : x1 = (0 : Int32)) (hc108 : ¬ ((st / (100 : Int32)) = (2 : Int32))) (hc114 : ¬ ((st / (100 : Int32)) = (3 : Int32))) (hc144 : got = (0 : Int32)) :
    ∀ target, Steps p.tables e below (T0.setTop (mkF m 152 (own_l16 p1 p2 p3 x1 k1 st b4 got) [(.int (1 : Int32))])) target → Steps p.tables e below (T0.setTop (mkF m 92 (own_l10 p1 p2 p3 x1 k1 st b4) [(.int got)])) target := by
  intro target kt
  show Steps p.tables e below (T0.setTop (mkF m 92 (own_l10 p1 p2 p3 x1 k1 st b4) [(.int got)])) _
  refine XS.istore X0.here hx rfl (hb hby at_92) rfl (l' := (own_l11 p1 p2 p3 x1 k1 st b4 got)) rfl ?_
  show Steps p.tables e below (T0.setTop (mkF m 94 (own_l11 p1 p2 p3 x1 k1 st b4 got) [])) _
  refine XS.iloadN X0.here hx rfl (hb hby at_94) rfl ?_
  show Steps p.tables e below (T0.setTop (mkF m 95 (own_l11 p1 p2 p3 x1 k1 st b4 got) [(.int x1)])) _
  refine XS.ifNo X0.here hx rfl (hb hby at_95) rfl ((if0 _ _).trans (teq (hc95 : x1 = (0 : Int32))).2) ?_
  show Steps p.tables e below (T0.setTop (mkF m 98 (own_l11 p1 p2 p3 x1 k1 st b4 got) [])) _
  refine XS.iload X0.here hx rfl (hb hby at_98) rfl ?_
  show Steps p.tables e below (T0.setTop (mkF m 100 (own_l11 p1 p2 p3 x1 k1 st b4 got) [(.int st)])) _
  refine XS.bipush X0.here hx rfl (hb hby at_100) ?_
  show Steps p.tables e below (T0.setTop (mkF m 102 (own_l11 p1 p2 p3 x1 k1 st b4 got) [(.int (100 : Int32)), (.int st)])) _
  refine XS.idiv X0.here hx rfl (hb hby at_102) rfl (by decide) ?_
  show Steps p.tables e below (T0.setTop (mkF m 103 (own_l11 p1 p2 p3 x1 k1 st b4 got) [(.int (st / (100 : Int32)))])) _
  refine XS.istore X0.here hx rfl (hb hby at_103) rfl (l' := (own_l14 p1 p2 p3 x1 k1 st b4 got)) rfl ?_
  show Steps p.tables e below (T0.setTop (mkF m 105 (own_l14 p1 p2 p3 x1 k1 st b4 got) [])) _
  refine XS.iload X0.here hx rfl (hb hby at_105) rfl ?_
  show Steps p.tables e below (T0.setTop (mkF m 107 (own_l14 p1 p2 p3 x1 k1 st b4 got) [(.int (st / (100 : Int32)))])) _
  refine XS.iconst X0.here hx rfl (hb hby at_107) ?_
  show Steps p.tables e below (T0.setTop (mkF m 108 (own_l14 p1 p2 p3 x1 k1 st b4 got) [(.int (2 : Int32)), (.int (st / (100 : Int32)))])) _
  refine XS.icmpNo X0.here hx rfl (hb hby at_108) rfl (feq (hc108 : ¬ ((st / (100 : Int32)) = (2 : Int32)))).1 ?_
  show Steps p.tables e below (T0.setTop (mkF m 111 (own_l14 p1 p2 p3 x1 k1 st b4 got) [])) _
  refine XS.iload X0.here hx rfl (hb hby at_111) rfl ?_
  show Steps p.tables e below (T0.setTop (mkF m 113 (own_l14 p1 p2 p3 x1 k1 st b4 got) [(.int (st / (100 : Int32)))])) _
  refine XS.iconst X0.here hx rfl (hb hby at_113) ?_
  show Steps p.tables e below (T0.setTop (mkF m 114 (own_l14 p1 p2 p3 x1 k1 st b4 got) [(.int (3 : Int32)), (.int (st / (100 : Int32)))])) _
  refine XS.icmpYes X0.here hx rfl (pc0 := 114) (pc' := 121) rfl (hb hby at_114) rfl (feq (hc114 : ¬ ((st / (100 : Int32)) = (3 : Int32)))).2 (by decide) (by decide) ?_
  show Steps p.tables e below (T0.setTop (mkF m 121 (own_l14 p1 p2 p3 x1 k1 st b4 got) [])) _
  refine XS.iconst X0.here hx rfl (hb hby at_121) ?_
  show Steps p.tables e below (T0.setTop (mkF m 122 (own_l14 p1 p2 p3 x1 k1 st b4 got) [(.int (0 : Int32))])) _
  refine XS.istore X0.here hx rfl (hb hby at_122) rfl (l' := (own_l16 p1 p2 p3 x1 k1 st b4 got)) rfl ?_
  show Steps p.tables e below (T0.setTop (mkF m 124 (own_l16 p1 p2 p3 x1 k1 st b4 got) [])) _
  refine XS.goto X0.here hx rfl (pc0 := 124) (pc' := 140) rfl (hb hby at_124) (by decide) (by decide) ?_
  show Steps p.tables e below (T0.setTop (mkF m 140 (own_l16 p1 p2 p3 x1 k1 st b4 got) [])) _
  refine XS.iload X0.here hx rfl (hb hby at_140) rfl ?_
  show Steps p.tables e below (T0.setTop (mkF m 142 (own_l16 p1 p2 p3 x1 k1 st b4 got) [(.int got)])) _
  refine XS.iload X0.here hx rfl (hb hby at_142) rfl ?_
  show Steps p.tables e below (T0.setTop (mkF m 144 (own_l16 p1 p2 p3 x1 k1 st b4 got) [(.int (0 : Int32)), (.int got)])) _
  refine XS.icmpNo X0.here hx rfl (hb hby at_144) rfl (teq (hc144 : got = (0 : Int32))).2 ?_
  show Steps p.tables e below (T0.setTop (mkF m 147 (own_l16 p1 p2 p3 x1 k1 st b4 got) [])) _
  refine XS.iconst X0.here hx rfl (hb hby at_147) ?_
  show Steps p.tables e below (T0.setTop (mkF m 148 (own_l16 p1 p2 p3 x1 k1 st b4 got) [(.int (1 : Int32))])) _
  refine XS.goto X0.here hx rfl (pc0 := 148) (pc' := 152) rfl (hb hby at_148) (by decide) (by decide) ?_
  exact kt

set_option maxRecDepth 65536 in
set_option maxHeartbeats 4000000 in
theorem sg3_fff {p : Program} {l : Launch} {e : Env} {R : Room} {s : State} {m : MethodId} {args : Array Value} {below : List Frame} {meth : Method} {c : Code} {T0 : State} {locs : List Loc} {cells slots : Nat} (p1 p2 p3 : Int32) (x1 k1 st : Int32) (b4 : Addr) (got : Int32)  (X0 : Stand p l e R s m args below meth c T0 locs cells slots) (hx : p.tables.exec = Jvm.exec) (hby : c.code = code) (hc95 : x1 = (0 : Int32)) (hc108 : ¬ ((st / (100 : Int32)) = (2 : Int32))) (hc114 : (st / (100 : Int32)) = (3 : Int32)) (hc144 : got = (1 : Int32)) :
    ∀ target, Steps p.tables e below (T0.setTop (mkF m 152 (own_l15 p1 p2 p3 x1 k1 st b4 got) [(.int (1 : Int32))])) target → Steps p.tables e below (T0.setTop (mkF m 92 (own_l10 p1 p2 p3 x1 k1 st b4) [(.int got)])) target := by
  intro target kt
  show Steps p.tables e below (T0.setTop (mkF m 92 (own_l10 p1 p2 p3 x1 k1 st b4) [(.int got)])) _
  refine XS.istore X0.here hx rfl (hb hby at_92) rfl (l' := (own_l11 p1 p2 p3 x1 k1 st b4 got)) rfl ?_
  show Steps p.tables e below (T0.setTop (mkF m 94 (own_l11 p1 p2 p3 x1 k1 st b4 got) [])) _
  refine XS.iloadN X0.here hx rfl (hb hby at_94) rfl ?_
  show Steps p.tables e below (T0.setTop (mkF m 95 (own_l11 p1 p2 p3 x1 k1 st b4 got) [(.int x1)])) _
  refine XS.ifNo X0.here hx rfl (hb hby at_95) rfl ((if0 _ _).trans (teq (hc95 : x1 = (0 : Int32))).2) ?_
  show Steps p.tables e below (T0.setTop (mkF m 98 (own_l11 p1 p2 p3 x1 k1 st b4 got) [])) _
  refine XS.iload X0.here hx rfl (hb hby at_98) rfl ?_
  show Steps p.tables e below (T0.setTop (mkF m 100 (own_l11 p1 p2 p3 x1 k1 st b4 got) [(.int st)])) _
  refine XS.bipush X0.here hx rfl (hb hby at_100) ?_
  show Steps p.tables e below (T0.setTop (mkF m 102 (own_l11 p1 p2 p3 x1 k1 st b4 got) [(.int (100 : Int32)), (.int st)])) _
  refine XS.idiv X0.here hx rfl (hb hby at_102) rfl (by decide) ?_
  show Steps p.tables e below (T0.setTop (mkF m 103 (own_l11 p1 p2 p3 x1 k1 st b4 got) [(.int (st / (100 : Int32)))])) _
  refine XS.istore X0.here hx rfl (hb hby at_103) rfl (l' := (own_l14 p1 p2 p3 x1 k1 st b4 got)) rfl ?_
  show Steps p.tables e below (T0.setTop (mkF m 105 (own_l14 p1 p2 p3 x1 k1 st b4 got) [])) _
  refine XS.iload X0.here hx rfl (hb hby at_105) rfl ?_
  show Steps p.tables e below (T0.setTop (mkF m 107 (own_l14 p1 p2 p3 x1 k1 st b4 got) [(.int (st / (100 : Int32)))])) _
  refine XS.iconst X0.here hx rfl (hb hby at_107) ?_
  show Steps p.tables e below (T0.setTop (mkF m 108 (own_l14 p1 p2 p3 x1 k1 st b4 got) [(.int (2 : Int32)), (.int (st / (100 : Int32)))])) _
  refine XS.icmpNo X0.here hx rfl (hb hby at_108) rfl (feq (hc108 : ¬ ((st / (100 : Int32)) = (2 : Int32)))).1 ?_
  show Steps p.tables e below (T0.setTop (mkF m 111 (own_l14 p1 p2 p3 x1 k1 st b4 got) [])) _
  refine XS.iload X0.here hx rfl (hb hby at_111) rfl ?_
  show Steps p.tables e below (T0.setTop (mkF m 113 (own_l14 p1 p2 p3 x1 k1 st b4 got) [(.int (st / (100 : Int32)))])) _
  refine XS.iconst X0.here hx rfl (hb hby at_113) ?_
  show Steps p.tables e below (T0.setTop (mkF m 114 (own_l14 p1 p2 p3 x1 k1 st b4 got) [(.int (3 : Int32)), (.int (st / (100 : Int32)))])) _
  refine XS.icmpNo X0.here hx rfl (hb hby at_114) rfl (teq (hc114 : (st / (100 : Int32)) = (3 : Int32))).2 ?_
  show Steps p.tables e below (T0.setTop (mkF m 117 (own_l14 p1 p2 p3 x1 k1 st b4 got) [])) _
  refine XS.iconst X0.here hx rfl (hb hby at_117) ?_
  show Steps p.tables e below (T0.setTop (mkF m 118 (own_l14 p1 p2 p3 x1 k1 st b4 got) [(.int (1 : Int32))])) _
  refine XS.goto X0.here hx rfl (pc0 := 118) (pc' := 122) rfl (hb hby at_118) (by decide) (by decide) ?_
  show Steps p.tables e below (T0.setTop (mkF m 122 (own_l14 p1 p2 p3 x1 k1 st b4 got) [(.int (1 : Int32))])) _
  refine XS.istore X0.here hx rfl (hb hby at_122) rfl (l' := (own_l15 p1 p2 p3 x1 k1 st b4 got)) rfl ?_
  show Steps p.tables e below (T0.setTop (mkF m 124 (own_l15 p1 p2 p3 x1 k1 st b4 got) [])) _
  refine XS.goto X0.here hx rfl (pc0 := 124) (pc' := 140) rfl (hb hby at_124) (by decide) (by decide) ?_
  show Steps p.tables e below (T0.setTop (mkF m 140 (own_l15 p1 p2 p3 x1 k1 st b4 got) [])) _
  refine XS.iload X0.here hx rfl (hb hby at_140) rfl ?_
  show Steps p.tables e below (T0.setTop (mkF m 142 (own_l15 p1 p2 p3 x1 k1 st b4 got) [(.int got)])) _
  refine XS.iload X0.here hx rfl (hb hby at_142) rfl ?_
  show Steps p.tables e below (T0.setTop (mkF m 144 (own_l15 p1 p2 p3 x1 k1 st b4 got) [(.int (1 : Int32)), (.int got)])) _
  refine XS.icmpNo X0.here hx rfl (hb hby at_144) rfl (teq (hc144 : got = (1 : Int32))).2 ?_
  show Steps p.tables e below (T0.setTop (mkF m 147 (own_l15 p1 p2 p3 x1 k1 st b4 got) [])) _
  refine XS.iconst X0.here hx rfl (hb hby at_147) ?_
  show Steps p.tables e below (T0.setTop (mkF m 148 (own_l15 p1 p2 p3 x1 k1 st b4 got) [(.int (1 : Int32))])) _
  refine XS.goto X0.here hx rfl (pc0 := 148) (pc' := 152) rfl (hb hby at_148) (by decide) (by decide) ?_
  exact kt

theorem pn_0 : plainName "com/example/sluicegate/sluicegate/config/HttpCheckPassesPinLaw" = true := by first | (simp [plainName, overriddenIn]; done) | decide +kernel
theorem pd_0_i : parseMethodDescriptor "(Ljava/lang/String;Ljava/lang/String;I)V" = some ⟨[.object "java/lang/String", .object "java/lang/String", .int], none⟩ := by decide +kernel
theorem pd_0_p : parseMethodDescriptor "(I)Z" = some ⟨[.int], some .boolean⟩ := by decide +kernel
theorem ef_0 (m : MethodId) (p1 : Int32) (p2 : Int32) (p3 : Int32) : entryFrame m #[(.int p1), (.int p2), (.int p3)] maxLocals = (mkF m 0 (own_l0 p1 p2 p3) []) := by first | (simp [entryFrame, mkF, argsToLocals, Value.category, maxLocals]; done) | rfl
def Q0 (n0 : Nat) (v : Option Value) (L : List Loc) : Prop := v = some (.int (1 : Int32)) ∧ Fr n0 L
set_option maxRecDepth 65536 in
set_option maxHeartbeats 40000000 in
theorem rm0 (l : Launch) (Z : State) (a0 : Array Value) (hw : ∀ d ∈ tables_1, d.before a0 Z = true) (ws : List Jvm.Cond) (p1 : Int32) (p2 : Int32) (p3 : Int32) (h0 : Heap) (n0 : Nat) (Z0 : n0 ≤ h0.size) :
    MetFree l x (head1 (Jvm.Cond.code x code maxLocals ret :: ws) room_1) (fun a U => a = #[(.int p1), (.int p2), (.int p3)] ∧ Z.Warmed39 U.vm ∧ U.heap = h0) (fun _ _ _ _ _ => True) (fun _ U o U' => ∃ v L, o = .returned v ∧ Q0 n0 v L ∧ ReturnedEndW U o U' L 16 2176) := by
  refine MetFree.of_bodySF (plainFor_of_name pn_0) hisR ?_
  intro p e s m args below meth c s₁ Bd hml0 hP hK
  obtain ⟨rfl, hZ, hh⟩ := hP
  have hx := Bd.exec
  have hby := Bd.bytes
  have hml : c.maxLocals = 10 := hml0
  have hown : s.vm.findClass "com/example/sluicegate/sluicegate/config/HttpCheckPassesPinLaw" = some m.cls := findClass_of_methodNamed Bd.named
  have hnm := (name_of_methodNamed Bd.named Bd.method).1
  have X0 : Stand p l e room_1 s m #[(.int p1), (.int p2), (.int p3)] below meth c s₁ [] 0 0 := Stand.of_body Bd
  have e0 : s₁.heap = h0 := by rw [← hh, Bd.state]; rfl
  have N0 := Fr.nil n0
  have pre0 : ∀ t, Steps p.tables e below (s₁.setTop (mkF m 0 (own_l0 p1 p2 p3) [])) t → Steps p.tables e below (s₁.setTop (entryFrame m #[(.int p1), (.int p2), (.int p3)] maxLocals)) t := fun t k => castTop (ef_0 m p1 p2 p3) k
  obtain ⟨x1, k1, st, hpre⟩ := own_pre p1 p2 p3 X0 hx hby
  have wS : ∀ a ∈ Bundle.stringAtoms, a.before a0 Z = true := by
    intro a ha
    simp only [Bundle.stringAtoms, List.mem_cons, List.not_mem_nil, or_false] at ha
    rcases ha with rfl | rfl | rfl | rfl | rfl | rfl | rfl
    · exact (hw _ (List.mem_of_getElem? (i := 4) rfl))
    · exact (hw _ (List.mem_of_getElem? (i := 5) rfl))
    · exact (hw _ (List.mem_of_getElem? (i := 6) rfl))
    · exact (hw _ (List.mem_of_getElem? (i := 7) rfl))
    · exact (hw _ (List.mem_of_getElem? (i := 8) rfl))
    · exact (hw _ (List.mem_of_getElem? (i := 9) rfl))
    · exact (hw _ (List.mem_of_getElem? (i := 10) rfl))
  obtain ⟨T4, h4, X4, e4, E4, A4, D4, -, st4⟩ := newO X0 hx hZ hown (hw _ (List.mem_of_getElem? (i := 0) rfl)) (hw _ (List.mem_of_getElem? (i := 1) rfl)) (hw _ (List.mem_of_getElem? (i := 2) rfl)) e0 (g := (mkF m 71 (own_l6 p1 p2 p3 x1 k1 st) [])) rfl (hb hby at_71) (by decide) (by decide)
  obtain ⟨b4, g4⟩ : ∃ z, z = h0.size := ⟨_, rfl⟩
  rw [← g4] at A4 D4 st4
  have F_method_b4 : Fld Z h4 b4 "com/example/sluicegate/sluicegate/config/HttpCheck" "method" "Ljava/lang/String;" .null := D4 (Or.inr (hw _ (List.mem_of_getElem? (i := 24) rfl))) (ty := (.object "java/lang/String")) (by decide)
  have F_uri_b4 : Fld Z h4 b4 "com/example/sluicegate/sluicegate/config/HttpCheck" "uri" "Ljava/lang/String;" .null := D4 (Or.inr (hw _ (List.mem_of_getElem? (i := 26) rfl))) (ty := (.object "java/lang/String")) (by decide)
  have F_exp_b4 : Fld Z h4 b4 "com/example/sluicegate/sluicegate/config/HttpCheck" "expectedStatus" "I" (.int (0 : Int32)) := D4 (Or.inr (hw _ (List.mem_of_getElem? (i := 28) rfl))) (ty := .int) (by decide)
  have g_b4 : n0 ≤ b4 := Nat.le_trans Z0 (Nat.le_of_eq g4.symm)
  have X4' : Stand p l e room_1 (s.setVm s.vm) m #[(.int p1), (.int p2), (.int p3)] below meth c T4 [] 1 3 := X4
  obtain ⟨a5, T5, h5, k5, X5, e5, E5, S5, hk5, hZ5, hown5, st5⟩ := ldcS (s := s) (vm0 := s.vm) X4' hx hZ hown (hw _ (List.mem_of_getElem? (i := 3) rfl)) wS e4 ((State.WarmedH.refl s).since h4.size) (Nat.le_refl _) (g := (mkF m 75 (own_l6 p1 p2 p3 x1 k1 st) [(.ref b4), (.ref b4)])) rfl (hb hby at_75) (n := 12) (by decide) (by decide) (by decide) (by decide)
  obtain ⟨a6, T6, h6, k6, X6, e6, E6, S6, hk6, hZ6, hown6, st6⟩ := ldcS (s := s) (vm0 := T5.vm) X5 hx hZ5 hown5 (hw _ (List.mem_of_getElem? (i := 11) rfl)) wS e5 S5 hk5 (g := (mkF m 77 (own_l6 p1 p2 p3 x1 k1 st) [(.ref a5), (.ref b4), (.ref b4)])) rfl (hb hby at_77) (n := 4) (by decide) (by decide) (by decide) (by decide)
  have Z6 : n0 ≤ h6.size := Nat.le_trans (Nat.le_trans (Nat.le_trans Z0 E4.1) E5.1) E6.1
  obtain ⟨_, _, ⟨T7, L7, c7, n7⟩, -, X7, ⟨Lc7, hQ7, l7, y7, z7⟩, st7⟩ := X6.specialBack hx (y := (⟨"com/example/sluicegate/sluicegate/config/HttpCheck", "<init>", "(Ljava/lang/String;Ljava/lang/String;I)V"⟩ : MethodName)) rfl hown6 (mvT hZ6 (hw _ (List.mem_of_getElem? (i := 12) rfl))) (mvT hZ6 (hw _ (List.mem_of_getElem? (i := 13) rfl))) (mvT hZ6 (hw _ (List.mem_of_getElem? (i := 14) rfl))) (by decide) (backOf (W := 1) (rm1 l Z a0 hw [] b4 a5 a6 x1 .null .null (.int (0 : Int32)) h6 n0 Z6 ((A4.ext E5).ext E6) ((F_method_b4.ext E5).ext E6) g_b4 ((F_uri_b4.ext E5).ext E6) ((F_exp_b4.ext E5).ext E6)) hZ6 (hw _ (List.mem_of_getElem? (i := 14) rfl)) (hw _ (List.mem_of_getElem? (i := 2) rfl)) (by decide) (by decide)) (g := (mkF m 80 (own_l6 p1 p2 p3 x1 k1 st) [(.int x1), (.ref a6), (.ref a5), (.ref b4), (.ref b4)])) rfl (by rw [hml]; rfl) (Steps.refl _) (a := b4) (argsL := [(.ref a5), (.ref a6), (.int x1)]) (rest := [(.ref b4)]) (lenOf pd_0_i rfl) rfl (by show 2 * 0 + _ ≤ _; exact Nat.le_of_eq rfl) (hb hby at_80) (fun _ _ => ⟨rfl, e6, (by decide : 1 + 2 + 2 + 0 ≤ _), (by decide : 3 + (12 + 4) + (4 + 4) + 0 ≤ _)⟩)
  dsimp only [Pt.U, Pt.locs, Pt.cells, Pt.slots] at X7 l7 y7 z7 st7 hQ7
  subst l7 y7 z7
  obtain ⟨rfl, N7q, K7q, E7q, F7q⟩ := hQ7
  have N7 := Fr.app N0 N7q
  have Z7 : n0 ≤ T7.heap.size := Nat.le_trans Z6 K7q.1
  obtain ⟨cq8, kq8, q8a, q8b, q8c⟩ := isOf hZ6 rfl E7q
  obtain ⟨_, _, ⟨T8, L8, c8, n8⟩, -, X8, ⟨Lc8, hQ8, l8, y8, z8⟩, st8⟩ := X7.virtualBack hx (y := (⟨"com/example/sluicegate/sluicegate/config/HttpCheck", "passes", "(I)Z"⟩ : MethodName)) (z := (⟨"com/example/sluicegate/sluicegate/config/HttpCheck", "passes", "(I)Z"⟩ : MethodName)) hown6 (mvT hZ6 (hw _ (List.mem_of_getElem? (i := 29) rfl))) (mvT hZ6 (hw _ (List.mem_of_getElem? (i := 30) rfl))) (notFace_of_selects (args := #[]) (mvT hZ6 (hw _ (List.mem_of_getElem? (i := 32) rfl)))) (mvT hZ6 (hw _ (List.mem_of_getElem? (i := 32) rfl))) (mvT hZ6 (hw _ (List.mem_of_getElem? (i := 31) rfl))) (by decide) (backOf (W := 0) (rm4 l Z a0 hw [] b4 st x1 T7.heap n0 Z7 F7q) hZ6 (hw _ (List.mem_of_getElem? (i := 33) rfl)) (hw _ (List.mem_of_getElem? (i := 2) rfl)) (by decide) (by decide)) q8a q8c (g := (mkF m 89 (own_l10 p1 p2 p3 x1 k1 st b4) [(.int st), (.ref b4)])) rfl (by rw [hml]; rfl) (Steps.refl _) (argsL := [(.int st)]) (rest := []) (lenOf pd_0_p rfl) rfl (by show 2 * 0 + _ ≤ _; exact Nat.le_of_eq rfl) (hb hby at_89) (fun _ _ => ⟨rfl, rfl, (by decide : 1 + 2 + 2 + 0 + 0 ≤ _), (by decide : 3 + (12 + 4) + (4 + 4) + 0 + 0 ≤ _)⟩)
  dsimp only [Pt.U, Pt.locs, Pt.cells, Pt.slots] at X8 l8 y8 z8 st8 hQ8
  subst l8 y8 z8
  obtain ⟨rfl, N8q, e8q⟩ := hQ8
  have N8 := Fr.app N7 N8q
  have hk8 : k6 ≤ T8.heap.size := by rw [e8q]; exact Nat.le_trans hk6 K7q.1
  obtain ⟨fs, hr, hrun, hended, hEnd⟩ := Stand.leaveW (s := s) (vm₁ := T6.vm) X8 S6 hk8 (v := some (.int (1 : Int32))) (fun h => by rw [Bd.returns] at h; cases h)
  refine ⟨_, _, pre0 _ ?_, hrun, hended, _, _, rfl, ⟨rfl, N8⟩, hEnd.1, hEnd.2.1, hEnd.2.2.1, hEnd.2.2.2.mono (by decide) (by decide)⟩
  · refine hpre _ ?_
    show Steps p.tables e below (s₁.setTop (mkF m 71 (own_l6 p1 p2 p3 x1 k1 st) [])) _
    refine st4 _ ?_
    show Steps p.tables e below (T4.setTop (mkF m 74 (own_l6 p1 p2 p3 x1 k1 st) [(.ref b4)])) _
    refine XS.dup X4.here hx rfl (hb hby at_74) rfl rfl ?_
    show Steps p.tables e below (T4.setTop (mkF m 75 (own_l6 p1 p2 p3 x1 k1 st) [(.ref b4), (.ref b4)])) _
    refine st5 _ ?_
    show Steps p.tables e below (T5.setTop (mkF m 77 (own_l6 p1 p2 p3 x1 k1 st) [(.ref a5), (.ref b4), (.ref b4)])) _
    refine st6 _ ?_
    show Steps p.tables e below (T6.setTop (mkF m 79 (own_l6 p1 p2 p3 x1 k1 st) [(.ref a6), (.ref a5), (.ref b4), (.ref b4)])) _
    refine XS.iloadN X6.here hx rfl (hb hby at_79) rfl ?_
    show Steps p.tables e below (T6.setTop (mkF m 80 (own_l6 p1 p2 p3 x1 k1 st) [(.int x1), (.ref a6), (.ref a5), (.ref b4), (.ref b4)])) _
    refine st7.trans ?_
    show Steps p.tables e below (T7.setTop (mkF m 83 (own_l6 p1 p2 p3 x1 k1 st) [(.ref b4)])) _
    refine XS.astore X7.here hx rfl (hb hby at_83) rfl rfl (l' := (own_l10 p1 p2 p3 x1 k1 st b4)) rfl ?_
    show Steps p.tables e below (T7.setTop (mkF m 85 (own_l10 p1 p2 p3 x1 k1 st b4) [])) _
    refine XS.aload X7.here hx rfl (hb hby at_85) rfl rfl ?_
    show Steps p.tables e below (T7.setTop (mkF m 87 (own_l10 p1 p2 p3 x1 k1 st b4) [(.ref b4)])) _
    refine XS.iload X7.here hx rfl (hb hby at_87) rfl ?_
    show Steps p.tables e below (T7.setTop (mkF m 89 (own_l10 p1 p2 p3 x1 k1 st b4) [(.int st), (.ref b4)])) _
    refine st8.trans ?_
    show Steps p.tables e below (T8.setTop (mkF m 92 (own_l10 p1 p2 p3 x1 k1 st b4) [(.int (pPass x1 st))])) _
    rw [own_plain x1 st]
    by_cases h0' : x1 = 0
    · by_cases h1 : st / 100 = 2
      · refine sg3_ft p1 p2 p3 x1 k1 st b4 _ X8 hx hby h0' h1 (by simp [pWant, h0', h1]) _ ?_
        exact retN X8 hx (t := .boolean) Bd.returns (by simp) (hb hby at_152) hr
      · by_cases h2 : st / 100 = 3
        · refine sg3_fff p1 p2 p3 x1 k1 st b4 _ X8 hx hby h0' h1 h2 (by simp [pWant, h0', h1, h2]) _ ?_
          exact retN X8 hx (t := .boolean) Bd.returns (by simp) (hb hby at_152) hr
        · refine sg3_fft p1 p2 p3 x1 k1 st b4 _ X8 hx hby h0' h1 h2 (by simp [pWant, h0', h1, h2]) _ ?_
          exact retN X8 hx (t := .boolean) Bd.returns (by simp) (hb hby at_152) hr
    · by_cases h1 : st = x1
      · refine sg3_tf p1 p2 p3 x1 k1 st b4 _ X8 hx hby h0' h1 (by simp [pWant, h0', h1]) _ ?_
        exact retN X8 hx (t := .boolean) Bd.returns (by simp) (hb hby at_152) hr
      · refine sg3_tt p1 p2 p3 x1 k1 st b4 _ X8 hx hby h0' h1 (by simp [pWant, h0', h1]) _ ?_
        exact retN X8 hx (t := .boolean) Bd.returns (by simp) (hb hby at_152) hr
set_option maxRecDepth 65536 in
set_option maxHeartbeats 40000000 in
theorem comes_1 {Post : Tables → Env → Array Value → State → Outcome → State → Prop} (hpost : ∀ tb e args s v u, (limb_1_1.after args s (.returned v) u = true ∧ limb_1_2.after args s (.returned v) u = true ∧ True) → FramedW s (.returned v) u (Jvm.fieldLocs frame_1_writes args s ++ Jvm.arrayLocs frame_1_arrays args s ++ Jvm.staticLocs frame_1_statics s) 16 2176 → Post tb e args s (.returned v) u) :
    ArmFor flags0 classFile x code maxLocals ret World_1 tables_1 room_1 Calls_1 rest_1 Pre_1 Post := by
  intro l hfl _ _ p e ha hc hk s m args below hf hA hF happ hP
  obtain ⟨hcalls, hrest, hpre⟩ := hP
  obtain ⟨-, -, -, hnamed, -, -, -, hat⟩ := (Spec.applies_iff hf).mp happ
  obtain ⟨hg, hn⟩ := and_e (Cond.before_iff.mp (show (Jvm.Cond.and given_1 narrow_1).before args s = true from hpre))
  obtain ⟨g1, g2⟩ := and_e hg
  obtain ⟨g3, g4⟩ := and_e g2
  obtain ⟨g5, g6⟩ := and_e g4
  obtain ⟨w0, w1, w2, rfl⟩ : ∃ w0 w1 w2 : Value, args = #[w0, w1, w2] := by
    have hs : args.size = 3 := by simpa [Cond.value, given_1] using g1
    obtain ⟨L⟩ := args
    match L, hs with
    | [w0, w1, w2], _ => exact ⟨w0, w1, w2, rfl⟩
  have hw := fun d (hd : d ∈ tables_1) => atoms_spec (ws := Jvm.Cond.code x code maxLocals ret :: tables_1) hat d (List.mem_cons_of_mem _ hd)
  obtain ⟨i0, ei0⟩ := is_v g3
  obtain rfl : w0 = (.int i0) := Option.some.inj ei0
  obtain ⟨i1, ei1⟩ := is_v g5
  obtain rfl : w1 = (.int i1) := Option.some.inj ei1
  obtain ⟨i2, ei2⟩ := is_v g6
  obtain rfl : w2 = (.int i2) := Option.some.inj ei2
  obtain ⟨n, o, h1, h2, h3, _, L, rfl, ⟨rfl, N⟩, hq⟩ := rm0 l s _ hw tables_1 i0 i1 i2 s.heap s.heap.size (Nat.le_refl _) p e ha hc hk s m _ below hf ((Spec.applies_iff_loose hf).mp happ).1 ⟨rfl, State.Warmed39.refl s, rfl⟩ trivial
  refine ⟨n, _, h1, h2, h3, hpost _ _ _ _ _ _ ⟨Cond.after_iff.mpr rfl, Cond.after_iff.mpr (eq_i res_at (Term.int_eval (1)) rfl), trivial⟩ ⟨hq.1, hq.2.1, hq.2.2.1, (hq.2.2.2.sift fun y hy => Or.inr (N y hy)).mono (by decide) (by decide)⟩⟩
theorem main_1_1 : Claimed_1_1 := comes_1 fun _ _ _ _ _ _ h hF => ⟨h.1, hF⟩
theorem main_1_2 : Claimed_1_2 := comes_1 fun _ _ _ _ _ _ h hF => ⟨h.2.1, hF⟩
end Jvm.Pilot.@@N@@
namespace Jvm.Pilot.@@N@@
open Jvm Jvm.ClassFile Sem Op Lib Jvm.Free Jvm.Stand Jvm.Pilot.@@N@@.Jvm.D
/-! MADE BY PROGRAM (witnessworld.py) out of the Statement's table words and the real class files: 15 classes; the members and pool entries that the words name. The judged class is class 1, her method 1. -/
namespace start1
open Jvm.ClassFile
def u (s : String) : CpInfo := .utf8 (stringToUtf16 s)
/-- a pool by its gaps: so many unusable entries, then the entry; so many at the end -/
def gap : Nat → List CpInfo → List CpInfo
  | 0, r => r
  | n + 1, r => .unusable :: gap n r
def poolList (es : List (Nat × CpInfo)) (last : Nat) : List CpInfo := es.foldr (fun e r => gap e.1 (e.2 :: r)) (gap last [])
def pool (es : List (Nat × CpInfo)) (last : Nat) : Array CpInfo := ⟨poolList es last⟩
def fileOf (pool : Array CpInfo) (this : Nat) (attrs : Array Attribute := #[]) (ms : Array MethodInfo := #[]) (fl : Nat := 33) (sup : Nat := 0) (ifs : Array Nat := #[]) (fds : Array FieldInfo := #[]) : ClassFile where
  minorVersion := 0
  majorVersion := 65
  constantPool := pool
  accessFlags := fl
  thisClass := this
  superClass := sup
  interfaces := ifs
  fields := fds
  methods := ms
  attributes := attrs
def plain (name : String) (sup : Option ClassId) : Class where
  name := name
  kind := .ordinary
  loader := none
  accessFlags := 33
  super := sup
  interfaces := #[]
  cf := none
  fields := #[]
  methods := #[]
  instanceTypes := #[]
  staticTypes := #[]
  resolved := #[]
  callSites := []
  init := .initialized
  statics := none
  mirror := none

def pool0 : Array CpInfo := pool [(5, u "<init>"), (0, u "()V"), (1, .class_ 10), (1, u "java/lang/Object")] 113

def k0c0 : Code := { maxStack := 0, maxLocals := 1, code := object_method_1_code, exceptionTable := #[], attributes := #[] }
def k0m0 : Method := { name := "<init>", desc := "()V", sig := { parameters := [], returnType := none }, accessFlags := 1, code := some k0c0 }
/-- java/lang/Object -/
def k0 : Class := { plain "java/lang/Object" none with
  accessFlags := 33
  interfaces := #[]
  cf := some (fileOf pool0 8 #[] #[{ accessFlags := 1, nameIndex := 5, descriptorIndex := 6, attributes := #[] }] 33 0 #[] #[])
  fields := #[]
  methods := #[k0m0]
  instanceTypes := #[]
  staticTypes := #[]
  resolved := Array.replicate 124 none
  statics := none }

def pool1 : Array CpInfo := pool [(2, .class_ 4), (1, u "java/lang/Object"), (0, u "<init>"), (0, u "()V"), (0, .class_ 8), (0, u "com/example/sluicegate/sluicegate/config/HttpCheck"), (0, .string 10), (0, u "GET"), (0, .string 12), (0, u "/"), (0, .methodref 7 14), (0, .nameAndType 5 15), (0, u "(Ljava/lang/String;Ljava/lang/String;I)V"), (0, .methodref 7 17), (0, .nameAndType 18 19), (0, u "passes"), (0, u "(I)Z"), (0, .class_ 21), (0, u "com/example/sluicegate/sluicegate/config/HttpCheckPassesPinLaw"), (2, u "law"), (0, u "(III)Z")] 3

def k1m0 : Method := { name := "<init>", desc := "()V", sig := { parameters := [], returnType := none }, accessFlags := 1, code := none }
def k1c1 : Code := { maxStack := 5, maxLocals := 10, code := code, exceptionTable := #[], attributes := #[] }
def k1m1 : Method := { name := "law", desc := "(III)Z", sig := { parameters := [.int, .int, .int], returnType := some .boolean }, accessFlags := 9, code := some k1c1 }
/-- com/example/sluicegate/sluicegate/config/HttpCheckPassesPinLaw -/
def k1 : Class := { plain "com/example/sluicegate/sluicegate/config/HttpCheckPassesPinLaw" (some 0) with
  accessFlags := 49
  interfaces := #[]
  cf := some (fileOf pool1 20 #[] #[{ accessFlags := 1, nameIndex := 5, descriptorIndex := 6, attributes := #[] }, { accessFlags := 9, nameIndex := 24, descriptorIndex := 25, attributes := #[] }] 49 2 #[] #[])
  fields := #[]
  methods := #[k1m0, k1m1]
  instanceTypes := #[]
  staticTypes := #[]
  resolved := Array.replicate 29 none
  statics := none }

def pool2 : Array CpInfo := pool [(1, .methodref 2 3), (0, .class_ 4), (0, .nameAndType 5 6), (0, u "java/lang/Object"), (0, u "<init>"), (0, u "()V"), (0, .class_ 8), (0, u "java/lang/Record")] 13

def k2c0 : Code := { maxStack := 1, maxLocals := 1, code := jdk_30_method_1_code, exceptionTable := #[], attributes := #[] }
def k2m0 : Method := { name := "<init>", desc := "()V", sig := { parameters := [], returnType := none }, accessFlags := 4, code := some k2c0 }
/-- java/lang/Record -/
def k2 : Class := { plain "java/lang/Record" (some 0) with
  accessFlags := 1057
  interfaces := #[]
  cf := some (fileOf pool2 7 #[] #[{ accessFlags := 4, nameIndex := 5, descriptorIndex := 6, attributes := #[] }] 1057 2 #[] #[])
  fields := #[]
  methods := #[k2m0]
  instanceTypes := #[]
  staticTypes := #[]
  resolved := Array.replicate 22 none
  statics := none }

def pool3 : Array CpInfo := pool [(1, .methodref 2 3), (0, .class_ 4), (0, .nameAndType 5 6), (0, u "java/lang/Record"), (0, u "<init>"), (0, u "()V"), (0, .fieldref 8 9), (0, .class_ 10), (0, .nameAndType 11 12), (0, u "com/example/sluicegate/sluicegate/config/HttpCheck"), (0, u "method"), (0, u "Ljava/lang/String;"), (0, .fieldref 8 14), (0, .nameAndType 15 12), (0, u "uri"), (0, .fieldref 8 17), (0, .nameAndType 18 19), (0, u "expectedStatus"), (0, u "I"), (12, u "(Ljava/lang/String;Ljava/lang/String;I)V"), (3, u "passes"), (0, u "(I)Z")] 26

def k3c0 : Code := { maxStack := 2, maxLocals := 4, code := prog_26_method_1_code, exceptionTable := #[], attributes := #[] }
def k3m0 : Method := { name := "<init>", desc := "(Ljava/lang/String;Ljava/lang/String;I)V", sig := { parameters := [(.object "java/lang/String"), (.object "java/lang/String"), .int], returnType := none }, accessFlags := 1, code := some k3c0 }
def k3c1 : Code := { maxStack := 2, maxLocals := 2, code := prog_26_method_2_code, exceptionTable := #[], attributes := #[] }
def k3m1 : Method := { name := "passes", desc := "(I)Z", sig := { parameters := [.int], returnType := some .boolean }, accessFlags := 1, code := some k3c1 }
/-- com/example/sluicegate/sluicegate/config/HttpCheck -/
def k3 : Class := { plain "com/example/sluicegate/sluicegate/config/HttpCheck" (some 2) with
  accessFlags := 49
  interfaces := #[]
  cf := some (fileOf pool3 8 #[] #[{ accessFlags := 1, nameIndex := 5, descriptorIndex := 32, attributes := #[] }, { accessFlags := 1, nameIndex := 36, descriptorIndex := 37, attributes := #[] }] 49 2 #[] #[{ accessFlags := 18, nameIndex := 11, descriptorIndex := 12, attributes := #[] }, { accessFlags := 18, nameIndex := 15, descriptorIndex := 12, attributes := #[] }, { accessFlags := 18, nameIndex := 18, descriptorIndex := 19, attributes := #[] }])
  fields := #[{ name := "method", type := (.object "java/lang/String"), accessFlags := 18, slot := 0, constantValue := 0 }, { name := "uri", type := (.object "java/lang/String"), accessFlags := 18, slot := 1, constantValue := 0 }, { name := "expectedStatus", type := .int, accessFlags := 18, slot := 2, constantValue := 0 }]
  methods := #[k3m0, k3m1]
  instanceTypes := #[(.object "java/lang/String"), (.object "java/lang/String"), .int]
  staticTypes := #[]
  resolved := Array.replicate 64 none
  statics := none }

def pool4 : Array CpInfo := pool [(1, .class_ 2), (0, u "java/io/Serializable"), (0, .class_ 4), (0, u "java/lang/Object")] 2

/-- java/io/Serializable -/
def k4 : Class := { plain "java/io/Serializable" (some 0) with
  accessFlags := 1537
  interfaces := #[]
  cf := some (fileOf pool4 1 #[] #[] 1537 3 #[] #[])
  fields := #[]
  methods := #[]
  instanceTypes := #[]
  staticTypes := #[]
  resolved := Array.replicate 7 none
  statics := none }

def pool5 : Array CpInfo := pool [(1, .class_ 2), (0, u "java/lang/Comparable"), (0, .class_ 4), (0, u "java/lang/Object")] 7

/-- java/lang/Comparable -/
def k5 : Class := { plain "java/lang/Comparable" (some 0) with
  accessFlags := 1537
  interfaces := #[]
  cf := some (fileOf pool5 1 #[] #[] 1537 3 #[] #[])
  fields := #[]
  methods := #[]
  instanceTypes := #[]
  staticTypes := #[]
  resolved := Array.replicate 12 none
  statics := none }

def pool6 : Array CpInfo := pool [(2, .class_ 4), (1, u "java/lang/CharSequence"), (42, .class_ 48), (0, u "java/lang/CharSequence$1CodePointIterator"), (10, .class_ 60), (0, u "java/lang/CharSequence$1CharIterator"), (5, .class_ 67), (0, u "java/lang/Object")] 63

/-- java/lang/CharSequence -/
def k6 : Class := { plain "java/lang/CharSequence" (some 0) with
  accessFlags := 1537
  interfaces := #[]
  cf := some (fileOf pool6 2 #[.nestMembers #[47, 59]] #[] 1537 66 #[] #[])
  fields := #[]
  methods := #[]
  instanceTypes := #[]
  staticTypes := #[]
  resolved := Array.replicate 131 none
  statics := none }

def pool7 : Array CpInfo := pool [(1, .class_ 2), (0, u "java/lang/constant/Constable"), (0, .class_ 4), (0, u "java/lang/Object")] 6

/-- java/lang/constant/Constable -/
def k7 : Class := { plain "java/lang/constant/Constable" (some 0) with
  accessFlags := 1537
  interfaces := #[]
  cf := some (fileOf pool7 1 #[] #[] 1537 3 #[] #[])
  fields := #[]
  methods := #[]
  instanceTypes := #[]
  staticTypes := #[]
  resolved := Array.replicate 11 none
  statics := none }

def pool8 : Array CpInfo := pool [(1, .class_ 2), (0, u "java/lang/constant/ConstantDesc"), (0, .class_ 4), (0, u "java/lang/Object")] 32

/-- java/lang/constant/ConstantDesc -/
def k8 : Class := { plain "java/lang/constant/ConstantDesc" (some 0) with
  accessFlags := 1537
  interfaces := #[]
  cf := some (fileOf pool8 1 #[] #[] 1537 3 #[] #[])
  fields := #[]
  methods := #[]
  instanceTypes := #[]
  staticTypes := #[]
  resolved := Array.replicate 37 none
  statics := none }

def pool9 : Array CpInfo := pool [(2, .class_ 4), (1, u "java/lang/Object"), (0, u "<init>"), (0, u "()V"), (3, .class_ 12), (1, u "java/lang/String"), (0, u "value"), (0, u "[B"), (2, u "coder"), (0, u "B"), (2, u "hash"), (0, u "I"), (2, u "hashIsZero"), (0, u "Z"), (13, u "COMPACT_STRINGS"), (534, .class_ 576), (0, u "java/lang/CharSequence"), (22, u "CASE_INSENSITIVE_ORDER"), (0, u "Ljava/util/Comparator;"), (500, u "serialPersistentFields"), (0, u "[Ljava/io/ObjectStreamField;"), (0, .class_ 1104), (0, u "java/lang/String$CaseInsensitiveComparator"), (1, .class_ 1107), (0, u "java/io/Serializable"), (0, .class_ 1109), (0, u "java/lang/Comparable"), (0, .class_ 1111), (0, u "java/lang/constant/Constable"), (0, .class_ 1113), (0, u "java/lang/constant/ConstantDesc"), (2, u "serialVersionUID"), (0, u "J"), (3, u "REPL"), (0, u "C"), (2, u "LATIN1"), (1, u "UTF16")] 323

def k9m0 : Method := { name := "<init>", desc := "()V", sig := { parameters := [], returnType := none }, accessFlags := 1, code := none }
/-- java/lang/String -/
def k9 : Class := { plain "java/lang/String" (some 0) with
  accessFlags := 49
  interfaces := #[4, 5, 6, 7, 8]
  cf := some (fileOf pool9 10 #[.nestMembers #[1103]] #[{ accessFlags := 1, nameIndex := 5, descriptorIndex := 6, attributes := #[] }] 49 2 #[1106, 1108, 575, 1110, 1112] #[{ accessFlags := 18, nameIndex := 13, descriptorIndex := 14, attributes := #[] }, { accessFlags := 18, nameIndex := 17, descriptorIndex := 18, attributes := #[] }, { accessFlags := 2, nameIndex := 21, descriptorIndex := 22, attributes := #[] }, { accessFlags := 2, nameIndex := 25, descriptorIndex := 26, attributes := #[] }, { accessFlags := 26, nameIndex := 1116, descriptorIndex := 1117, attributes := #[] }, { accessFlags := 24, nameIndex := 40, descriptorIndex := 26, attributes := #[] }, { accessFlags := 26, nameIndex := 1101, descriptorIndex := 1102, attributes := #[] }, { accessFlags := 26, nameIndex := 1121, descriptorIndex := 1122, attributes := #[] }, { accessFlags := 25, nameIndex := 599, descriptorIndex := 600, attributes := #[] }, { accessFlags := 24, nameIndex := 1125, descriptorIndex := 18, attributes := #[] }, { accessFlags := 24, nameIndex := 1127, descriptorIndex := 18, attributes := #[] }])
  fields := #[{ name := "value", type := (.array .byte), accessFlags := 18, slot := 0, constantValue := 0 }, { name := "coder", type := .byte, accessFlags := 18, slot := 1, constantValue := 0 }, { name := "hash", type := .int, accessFlags := 2, slot := 2, constantValue := 0 }, { name := "hashIsZero", type := .boolean, accessFlags := 2, slot := 3, constantValue := 0 }, { name := "serialVersionUID", type := .long, accessFlags := 26, slot := 0, constantValue := 0 }, { name := "COMPACT_STRINGS", type := .boolean, accessFlags := 24, slot := 1, constantValue := 0 }, { name := "serialPersistentFields", type := (.array (.object "java/io/ObjectStreamField")), accessFlags := 26, slot := 2, constantValue := 0 }, { name := "REPL", type := .char, accessFlags := 26, slot := 3, constantValue := 0 }, { name := "CASE_INSENSITIVE_ORDER", type := (.object "java/util/Comparator"), accessFlags := 25, slot := 4, constantValue := 0 }, { name := "LATIN1", type := .byte, accessFlags := 24, slot := 5, constantValue := 0 }, { name := "UTF16", type := .byte, accessFlags := 24, slot := 6, constantValue := 0 }]
  methods := #[k9m0]
  instanceTypes := #[(.array .byte), .byte, .int, .boolean]
  staticTypes := #[.long, .boolean, (.array (.object "java/io/ObjectStreamField")), .char, (.object "java/util/Comparator"), .byte, .byte]
  resolved := Array.replicate 1451 none
  statics := none }

def pool10 : Array CpInfo := pool [(1, u "java/lang/Cloneable"), (0, .class_ 1), (0, u "java/lang/Object"), (0, .class_ 3)] 3

/-- java/lang/Cloneable -/
def k10 : Class := { plain "java/lang/Cloneable" (some 0) with
  accessFlags := 1537
  interfaces := #[]
  cf := some (fileOf pool10 2 #[] #[] 1537 4 #[] #[])
  fields := #[]
  methods := #[]
  instanceTypes := #[]
  staticTypes := #[]
  resolved := Array.replicate 8 none
  statics := none }

/-- the primitive byte -/
def k11 : Class := { plain "byte" none with kind := .primitive 'B', accessFlags := 0x411 }
/-- [B -/
def k12 : Class := { plain "[B" (some 0) with kind := .array 11 .byte, interfaces := #[10, 4], accessFlags := 1041 }

/-- the primitive int -/
def k13 : Class := { plain "int" none with kind := .primitive 'I', accessFlags := 0x411 }
/-- [I -/
def k14 : Class := { plain "[I" (some 0) with kind := .array 13 .int, interfaces := #[10, 4], accessFlags := 1041 }

def heap : Heap := #[]
def classes : Array Class := #[k0, k1, k2, k3, k4, k5, k6, k7, k8, k9, k10, k11, k12, k13, k14]
def interned : List (Array UInt16 × Addr) := []
def slotsUsed : Nat := 0
def theMethod : MethodId := ⟨1, 1⟩
def args0 : Array Value := #[.int 200, .int 201, .int 0]
def aboutOver (below : List Frame) : State where
  vm := { classes := classes, interned := interned.toArray }
  heap := heap
  slotsUsed := slotsUsed
  threads := #[{ frames := .invoking theMethod args0 :: below }]
def below0 : List Frame := [.native { method := ⟨0, 0⟩, args := #[] }]
def about1 : State := aboutOver below0
def p0 : Program := .bare "" "" ""
def e0 : Env := launch0.env 0 0 0
theorem w_frames : about1.frames = Frame.invoking theMethod args0 :: below0 := rfl
set_option maxRecDepth 65536 in
theorem w_args : argsFit about1.vm theMethod args0 = true := by decide +kernel
set_option maxRecDepth 65536 in
theorem w_heap : heapFits about1 = true := by decide +kernel
set_option maxRecDepth 65536 in
theorem w_runnable : about1.curStatus? = some .runnable := by decide +kernel
set_option maxRecDepth 65536 in
theorem w_alone : about1.alone = true := by decide +kernel
set_option maxRecDepth 65536 in
theorem w_named : about1.methodNamed? x = some theMethod := by decide +kernel
set_option maxRecDepth 65536 in
theorem w_hears : about1.hears theMethod below0 = true := by decide +kernel
set_option maxRecDepth 65536 in
theorem w_ripe : about1.ripe theMethod args0 below0 = true := by decide +kernel
theorem w_running : about1.status = .running := rfl
set_option maxRecDepth 65536 in
theorem w_room : about1.hasRoom e0.platform room_1 = true :=
  launch0.hasRoom_least _ room_1 (by decide +kernel) (by decide +kernel) (by decide +kernel) (by decide +kernel) (by decide +kernel) (by decide +kernel)
theorem allAtoms_all (ts : List Jvm.Cond) (a : Array Jvm.Value) (st : Jvm.State) : (allAtoms ts).before a st = ts.all (fun c => c.before a st) := by
  induction ts with
  | nil => rfl
  | cons c t ih =>
    show (Jvm.Cond.and c (allAtoms t)).before a st = _
    rw [Jvm.Cond.before_and, ih, List.all_cons]
def words1 : List Jvm.Cond := Jvm.Cond.code x code maxLocals ret :: tables_1
/-- a 'code' word, met by the world's own term for the bytes: nothing is compared byte by byte -/
theorem code_word {y : MethodName} {bytes : ByteArray} {mx : Nat} {rt : Option FieldType} {a : Array Value} {s : State} {m : MethodId} {meth : Method} {c : Code} (h1 : s.methodNamed? y = some m) (h2 : s.vm.method? m = some meth) (h3 : meth.code = some c) (h4 : c.code = bytes)
    (h5 : (c.maxLocals == mx && c.exceptionTable.isEmpty && decide (c.maxStack ≤ mostOperands) && decide (meth.sig.returnType = rt) && !meth.locks && decide (parseMethodDescriptor y.desc = some meth.sig)) = true) : (Jvm.Cond.code y bytes mx rt).before a s = true := by
  simp only [Bool.and_eq_true, beq_iff_eq, Bool.not_eq_true', decide_eq_true_eq] at h5
  obtain ⟨⟨⟨⟨⟨g1, g2⟩, g3⟩, g4⟩, g5⟩, g6⟩ := h5
  simp [Cond.before, Cond.holds, Cond.value, h1, h2, h3, h4, g1, g2, g3, g4, g5, g6]
def isCode : Jvm.Cond → Bool
  | .code _ _ _ _ => true
  | _ => false
theorem all_split {L : List Jvm.Cond} {P : Jvm.Cond → Bool} (h1 : L.all (fun c => isCode c || P c) = true) (h2 : ∀ c ∈ L.filter isCode, P c = true) : L.all P = true := by
  refine List.all_eq_true.mpr fun c hc => ?_
  have h := List.all_eq_true.mp h1 c hc
  rcases Bool.eq_false_or_eq_true (isCode c) with hi | hi
  · exact h2 c (List.mem_filter.mpr ⟨hc, hi⟩)
  · simpa [hi] using h
set_option maxRecDepth 65536 in
theorem w_c0 : (Jvm.Cond.code x code maxLocals ret).before args0 about1 = true := code_word (m := ⟨1, 1⟩) (meth := k1m1) (c := k1c1) (by decide +kernel) rfl rfl rfl (by decide +kernel)
set_option maxRecDepth 65536 in
theorem w_c1 : (Jvm.Cond.code ({ cls := "com/example/sluicegate/sluicegate/config/HttpCheck", name := "<init>", desc := "(Ljava/lang/String;Ljava/lang/String;I)V" } : Jvm.MethodName) prog_26_method_1_code (4 : Nat) (Option.none : Option Jvm.ClassFile.FieldType)).before args0 about1 = true := code_word (m := ⟨3, 0⟩) (meth := k3m0) (c := k3c0) (by decide +kernel) rfl rfl rfl (by decide +kernel)
set_option maxRecDepth 65536 in
theorem w_c2 : (Jvm.Cond.code ({ cls := "java/lang/Record", name := "<init>", desc := "()V" } : Jvm.MethodName) jdk_30_method_1_code (1 : Nat) (Option.none : Option Jvm.ClassFile.FieldType)).before args0 about1 = true := code_word (m := ⟨2, 0⟩) (meth := k2m0) (c := k2c0) (by decide +kernel) rfl rfl rfl (by decide +kernel)
set_option maxRecDepth 65536 in
theorem w_c3 : (Jvm.Cond.code ({ cls := "java/lang/Object", name := "<init>", desc := "()V" } : Jvm.MethodName) object_method_1_code (1 : Nat) (Option.none : Option Jvm.ClassFile.FieldType)).before args0 about1 = true := code_word (m := ⟨0, 0⟩) (meth := k0m0) (c := k0c0) (by decide +kernel) rfl rfl rfl (by decide +kernel)
set_option maxRecDepth 65536 in
theorem w_c4 : (Jvm.Cond.code ({ cls := "com/example/sluicegate/sluicegate/config/HttpCheck", name := "passes", desc := "(I)Z" } : Jvm.MethodName) prog_26_method_2_code (2 : Nat) (Option.some Jvm.ClassFile.FieldType.boolean)).before args0 about1 = true := code_word (m := ⟨3, 1⟩) (meth := k3m1) (c := k3c1) (by decide +kernel) rfl rfl rfl (by decide +kernel)
def codes1 : List Jvm.Cond := [Jvm.Cond.code x code maxLocals ret, Jvm.Cond.code ({ cls := "com/example/sluicegate/sluicegate/config/HttpCheck", name := "<init>", desc := "(Ljava/lang/String;Ljava/lang/String;I)V" } : Jvm.MethodName) prog_26_method_1_code (4 : Nat) (Option.none : Option Jvm.ClassFile.FieldType), Jvm.Cond.code ({ cls := "java/lang/Record", name := "<init>", desc := "()V" } : Jvm.MethodName) jdk_30_method_1_code (1 : Nat) (Option.none : Option Jvm.ClassFile.FieldType), Jvm.Cond.code ({ cls := "java/lang/Object", name := "<init>", desc := "()V" } : Jvm.MethodName) object_method_1_code (1 : Nat) (Option.none : Option Jvm.ClassFile.FieldType), Jvm.Cond.code ({ cls := "com/example/sluicegate/sluicegate/config/HttpCheck", name := "passes", desc := "(I)Z" } : Jvm.MethodName) prog_26_method_2_code (2 : Nat) (Option.some Jvm.ClassFile.FieldType.boolean)]
set_option maxRecDepth 65536 in
theorem codes_eq : words1.filter isCode = codes1 := rfl
theorem w_codes : ∀ c ∈ words1.filter isCode, c.before args0 about1 = true := by
  rw [codes_eq]
  intro c hc
  simp only [codes1, List.mem_cons, List.not_mem_nil, or_false] at hc
  rcases hc with rfl | rfl | rfl | rfl | rfl
  · exact w_c0
  · exact w_c1
  · exact w_c2
  · exact w_c3
  · exact w_c4
set_option maxRecDepth 65536 in
theorem w_t1 : (words1.take 24).all (fun c => isCode c || c.before args0 about1) = true := by decide +kernel
set_option maxRecDepth 65536 in
theorem w_t2 : (words1.drop 24).all (fun c => isCode c || c.before args0 about1) = true := by decide +kernel
theorem w_tables : (allAtoms (Jvm.Cond.code x code maxLocals ret :: tables_1)).before args0 about1 = true := by
  rw [allAtoms_all]
  show words1.all (fun c => c.before args0 about1) = true
  refine all_split ?_ w_codes
  rw [← List.take_append_drop 24 words1, List.all_append, w_t1, w_t2]
  rfl
set_option maxRecDepth 65536 in
theorem w_case : (Jvm.Cond.and given_1 narrow_1).before args0 about1 = true := by decide +kernel
theorem w_applies : (headSpec (Jvm.Cond.code x code maxLocals ret :: tables_1) room_1).applies x e0.platform about1 = true :=
  (Spec.applies_iff w_frames).mpr ⟨w_running, w_runnable, w_alone, w_named, w_hears, w_ripe, w_room, w_tables⟩
theorem atStart : AtStart classFile x code maxLocals ret World_1 tables_1 room_1 Calls_1 rest_1 Pre_1 launch0 p0 e0 about1 theMethod args0 below0 :=
  ⟨lists_1, trivial, launch0.admits_env _ _ _, launch0.least_env, fairChoices_fair.cas, fairChoices_fair.clock, w_frames, w_args, w_heap, w_applies, trivial, trivial, w_case⟩
end start1
theorem witness_1 : WitnessClaimed_1 := ⟨start1.p0, start1.e0, start1.about1, start1.theMethod, start1.args0, start1.below0, start1.atStart⟩
end Jvm.Pilot.@@N@@
