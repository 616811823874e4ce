import JvmDerived
import JvmDerived.Pilot.@@N@@Statement
import JvmDerived.Pilot.@@N@@Code
set_option linter.unusedVariables false
set_option linter.unusedSimpArgs false
namespace Jvm.RoadKit
open Sem ClassFile Op Lib Jvm.Stand Jvm.Free Jvm.LawKit
section New
variable {p : Program} {l : Launch} {e : Env} {R : Room} {s : State} {m : MethodId} {args : Array Value} {below : List Frame} {meth : Method} {c : Code} {T : State} {locs : List Loc} {cells slots : Nat}
theorem retI (X : Stand p l e R s m args below meth c T locs cells slots) (hx : p.tables.exec = Jvm.exec) {pc : Nat} {Ls : Array Slot} {z : Int32} {rest : List Value} (hret : meth.sig.returnType = some .int) (hd : decode c.code pc = .ok (.ireturn, 1)) {fs : List Frame}
    (hl : ∀ (f : JFrame) (acts : List Action), f.method = m → f.locked = none → f.entered = [] → (doReturn e (T.setTop f) acts (some (.int z))).1 = T.setFrames fs) : Steps p.tables e below (T.setTop (mkF m pc Ls (.int z :: rest))) (T.setFrames fs) := by
  have hm' : T.vm.method? m = some meth := X.method'
  have hn : narrow .int (.int z) = .int z := rfl
  show Steps p.tables e below (T.setTop { method := m, pc := pc, locals := Ls, stack := _ :: rest, locked := none }) _
  jvm_step X.here [X.here.top, hx, hd, hm', hret, hn]
  first | (intro acts; rw [hl _ acts rfl rfl rfl]) | rw [hl _ _ rfl rfl rfl]
  exact Steps.refl _
end New
end Jvm.RoadKit
namespace Jvm.Pilot.@@N@@
open Jvm Jvm.ClassFile Sem Op Lib Jvm.Free Jvm.Stand Jvm.LawKit Jvm.RoadKit Bundle Jvm.Pilot.@@N@@.Jvm.D
def own_C (Z : State) (h : Heap) (a : Addr) (w1 w2 w3 w4 : Int32) : Prop := Exa Z h a "com/example/psyche/psyche/selection/Confusion" ∧ Fld Z h a "com/example/psyche/psyche/selection/Confusion" "truePositives" "I" (.int w1) ∧ Fld Z h a "com/example/psyche/psyche/selection/Confusion" "falsePositives" "I" (.int w2) ∧ Fld Z h a "com/example/psyche/psyche/selection/Confusion" "falseNegatives" "I" (.int w3) ∧ Fld Z h a "com/example/psyche/psyche/selection/Confusion" "trueNegatives" "I" (.int w4)
theorem own_C_ext {Z : State} {h h' : Heap} {a : Addr} {w1 w2 w3 w4 : Int32} (F : own_C Z h a w1 w2 w3 w4) (E : Ext h h') : own_C Z h' a w1 w2 w3 w4 := ⟨F.1.ext E, F.2.1.ext E, F.2.2.1.ext E, F.2.2.2.1.ext E, F.2.2.2.2.ext E⟩
theorem own_C_keep {Z : State} {h h' : Heap} {a : Addr} {w1 w2 w3 w4 : Int32} {ws : List Addr} (F : own_C Z h a w1 w2 w3 w4) (K : Keep h h' ws) (q : a ∉ ws) : own_C Z h' a w1 w2 w3 w4 := ⟨F.1.keep K, F.2.1.keep K q, F.2.2.1.keep K q, F.2.2.2.1.keep K q, F.2.2.2.2.keep K q⟩
theorem own_right (a b c d : Int32) : ((a + b) + c) + d = ((a + d) + b) + c := by ac_rfl
theorem own_plus (a b c d p q : Int32) : (((a + p) + (b + q)) + (c + d)) + (d + a) = (((a + b) + c) + d) + (((p + q) + d) + a) := by ac_rfl
theorem d2_0 : decode jdk_30_method_1_code 0 = .ok (.aload_n 0, 1) := by decide +kernel
theorem d2_1 : decode jdk_30_method_1_code 1 = .ok (.invokespecial 1, 3) := by decide +kernel
theorem d2_4 : decode jdk_30_method_1_code 4 = .ok (.return_, 1) := by decide +kernel
theorem pn_2 : plainName "java/lang/Record" = true := by first | (simp [plainName, overriddenIn]; done) | decide +kernel
theorem ef_2 (m : MethodId) (x0 : Addr) : entryFrame m #[(.ref x0)] 1 = mkF m 0 #[.val (.ref x0)] [] := by first | (simp [entryFrame, mkF, argsToLocals, Value.category]; done) | rfl
def Q2 (Z : State) (a1 : Addr) (h0 : Heap) (n0 : Nat) (v : Option Value) (h : Heap) (L : List Loc) : Prop := v = none ∧ Fr n0 L ∧ h = h0
set_option maxRecDepth 65536 in
set_option maxHeartbeats 40000000 in
theorem rm2 (l : Launch) (Z : State) (a0 : Array Value) (hw : ∀ d ∈ tables_1, d.before a0 Z = true) (ws : List Jvm.Cond) (a1 : Addr) (h0 : Heap) (n0 : Nat) (Z0 : n0 ≤ h0.size) :
    MetFree l (⟨"java/lang/Record", "<init>", "()V"⟩ : MethodName) (head1 (Jvm.Cond.code (⟨"java/lang/Record", "<init>", "()V"⟩ : MethodName) jdk_30_method_1_code 1 none :: ws) ({ frames := 1, cells := 0, slots := 0, locals := 12 } : Room)) (fun a U => a = #[(.ref a1)] ∧ Z.Warmed39 U.vm ∧ U.heap = h0) (fun _ _ _ _ _ => True) (fun _ U o U' => ∃ v L, o = .returned v ∧ Q2 Z a1 h0 n0 v U'.heap L ∧ FrameEnd U o U' L ({ frames := 1, cells := 0, slots := 0, locals := 12 } : Room).cells ({ frames := 1, cells := 0, slots := 0, locals := 12 } : Room).slots) := by
  refine MetFree.of_bodySF (plainFor_of_name pn_2) hisR ?_
  intro p e s m args below meth c s₁ Bd hml0 hP hK
  obtain ⟨rfl, hZ, hh⟩ := hP
  have hx := Bd.exec
  have hby := Bd.bytes
  have hml : c.maxLocals = 1 := hml0
  have hown : s.vm.findClass "java/lang/Record" = some m.cls := findClass_of_methodNamed Bd.named
  have hnm := (name_of_methodNamed Bd.named Bd.method).1
  have X0 : Stand p l e ({ frames := 1, cells := 0, slots := 0, locals := 12 } : Room) s m #[(.ref a1)] below meth c s₁ [] 0 0 := Stand.of_body Bd
  have e0 : s₁.heap = h0 := by rw [← hh, Bd.state]; rfl
  have N0 := Fr.nil n0
  have pre0 : ∀ t, Steps p.tables e below (s₁.setTop (mkF m 0 #[.val (.ref a1)] [])) t → Steps p.tables e below (s₁.setTop (entryFrame m #[(.ref a1)] 1)) t := fun t k => castTop (ef_2 m a1) k
  obtain ⟨T2, X2, e2, st2⟩ := initO X0 hx hZ hown (hw _ (List.mem_of_getElem? (i := 11) rfl)) (hw _ (List.mem_of_getElem? (i := 12) rfl)) (hw _ (List.mem_of_getElem? (i := 13) rfl)) e0 (g := (mkF m 1 #[.val (.ref a1)] [(.ref a1)])) rfl (by rw [hml]; rfl) rfl (hb hby d2_1) (by decide) (W := 0) (by show 2 * 0 + _ ≤ _; exact Nat.le_of_eq rfl) (by decide)
  obtain ⟨fs, hr, hrun, hended, hW, hsame⟩ := X2.leave (v := none) (fun _ => rfl)
  refine ⟨_, _, pre0 _ ?_, hrun, hended, _, _, rfl, ?_, ⟨_, rfl⟩, hW, hsame.mono (by decide) (by decide)⟩
  · show Steps p.tables e below (s₁.setTop (mkF m 0 #[.val (.ref a1)] [])) _
    refine XS.aloadN X0.here hx rfl (hb hby d2_0) rfl rfl ?_
    show Steps p.tables e below (s₁.setTop (mkF m 1 #[.val (.ref a1)] [(.ref a1)])) _
    refine st2 _ ?_
    show Steps p.tables e below (T2.setTop (mkF m 4 #[.val (.ref a1)] [])) _
    exact X2.returnOut hx Bd.returns (hb hby d2_4) hr
  · show Q2 Z a1 h0 n0 _ T2.heap _
    rw [e2]
    exact ⟨rfl, N0, rfl⟩
theorem d1_0 : decode prog_8_method_1_code 0 = .ok (.aload_n 0, 1) := by decide +kernel
theorem d1_1 : decode prog_8_method_1_code 1 = .ok (.invokespecial 1, 3) := by decide +kernel
theorem d1_4 : decode prog_8_method_1_code 4 = .ok (.aload_n 0, 1) := by decide +kernel
theorem d1_5 : decode prog_8_method_1_code 5 = .ok (.iload_n 1, 1) := by decide +kernel
theorem d1_6 : decode prog_8_method_1_code 6 = .ok (.putfield 7, 3) := by decide +kernel
theorem d1_9 : decode prog_8_method_1_code 9 = .ok (.aload_n 0, 1) := by decide +kernel
theorem d1_10 : decode prog_8_method_1_code 10 = .ok (.iload_n 2, 1) := by decide +kernel
theorem d1_11 : decode prog_8_method_1_code 11 = .ok (.putfield 13, 3) := by decide +kernel
theorem d1_14 : decode prog_8_method_1_code 14 = .ok (.aload_n 0, 1) := by decide +kernel
theorem d1_15 : decode prog_8_method_1_code 15 = .ok (.iload_n 3, 1) := by decide +kernel
theorem d1_16 : decode prog_8_method_1_code 16 = .ok (.putfield 16, 3) := by decide +kernel
theorem d1_19 : decode prog_8_method_1_code 19 = .ok (.aload_n 0, 1) := by decide +kernel
theorem d1_20 : decode prog_8_method_1_code 20 = .ok (.iload 4, 2) := by decide +kernel
theorem d1_22 : decode prog_8_method_1_code 22 = .ok (.putfield 19, 3) := by decide +kernel
theorem d1_25 : decode prog_8_method_1_code 25 = .ok (.return_, 1) := by decide +kernel
theorem pn_1 : plainName "com/example/psyche/psyche/selection/Confusion" = true := by first | (simp [plainName, overriddenIn]; done) | decide +kernel
theorem pd_1_1 : parseMethodDescriptor "()V" = some ⟨[], none⟩ := by decide +kernel
theorem ef_1 (m : MethodId) (x0 : Addr) (x1 : Int32) (x2 : Int32) (x3 : Int32) (x4 : Int32) : entryFrame m #[(.ref x0), (.int x1), (.int x2), (.int x3), (.int x4)] 5 = mkF m 0 #[.val (.ref x0), .val (.int x1), .val (.int x2), .val (.int x3), .val (.int x4)] [] := by first | (simp [entryFrame, mkF, argsToLocals, Value.category]; done) | rfl
def Q1 (Z : State) (a1 : Addr) (p2 : Int32) (p3 : Int32) (p4 : Int32) (p5 : Int32) (u_truePositives_a1 : Value) (u_falsePositives_a1 : Value) (u_falseNegatives_a1 : Value) (u_trueNegatives_a1 : Value) (h0 : Heap) (n0 : Nat) (v : Option Value) (h : Heap) (L : List Loc) : Prop := v = none ∧ Fr n0 L ∧ Keep h0 h [a1] ∧ own_C Z h a1 p2 p3 p4 p5
set_option maxRecDepth 65536 in
set_option maxHeartbeats 40000000 in
theorem rm1 (l : Launch) (Z : State) (a0 : Array Value) (hw : ∀ d ∈ tables_1, d.before a0 Z = true) (ws : List Jvm.Cond) (a1 : Addr) (p2 : Int32) (p3 : Int32) (p4 : Int32) (p5 : Int32) (u_truePositives_a1 : Value) (u_falsePositives_a1 : Value) (u_falseNegatives_a1 : Value) (u_trueNegatives_a1 : Value) (h0 : Heap) (n0 : Nat) (Z0 : n0 ≤ h0.size) (E_a1 : Exa Z h0 a1 "com/example/psyche/psyche/selection/Confusion") (F_truePositives_a1 : Fld Z h0 a1 "com/example/psyche/psyche/selection/Confusion" "truePositives" "I" u_truePositives_a1) (g_a1 : n0 ≤ a1) (F_falsePositives_a1 : Fld Z h0 a1 "com/example/psyche/psyche/selection/Confusion" "falsePositives" "I" u_falsePositives_a1) (F_falseNegatives_a1 : Fld Z h0 a1 "com/example/psyche/psyche/selection/Confusion" "falseNegatives" "I" u_falseNegatives_a1) (F_trueNegatives_a1 : Fld Z h0 a1 "com/example/psyche/psyche/selection/Confusion" "trueNegatives" "I" u_trueNegatives_a1) :
    MetFree l (⟨"com/example/psyche/psyche/selection/Confusion", "<init>", "(IIII)V"⟩ : MethodName) (head1 (Jvm.Cond.code (⟨"com/example/psyche/psyche/selection/Confusion", "<init>", "(IIII)V"⟩ : MethodName) prog_8_method_1_code 5 none :: ws) ({ frames := 2, cells := 0, slots := 0, locals := 24 } : Room)) (fun a U => a = #[(.ref a1), (.int p2), (.int p3), (.int p4), (.int p5)] ∧ Z.Warmed39 U.vm ∧ U.heap = h0) (fun _ _ _ _ _ => True) (fun _ U o U' => ∃ v L, o = .returned v ∧ Q1 Z a1 p2 p3 p4 p5 u_truePositives_a1 u_falsePositives_a1 u_falseNegatives_a1 u_trueNegatives_a1 h0 n0 v U'.heap L ∧ FrameEnd U o U' L ({ frames := 2, cells := 0, slots := 0, locals := 24 } : Room).cells ({ frames := 2, cells := 0, slots := 0, locals := 24 } : Room).slots) := by
  refine MetFree.of_bodySF (plainFor_of_name pn_1) hisR ?_
  intro p e s m args below meth c s₁ Bd hml0 hP hK
  obtain ⟨rfl, hZ, hh⟩ := hP
  have hx := Bd.exec
  have hby := Bd.bytes
  have hml : c.maxLocals = 5 := hml0
  have hown : s.vm.findClass "com/example/psyche/psyche/selection/Confusion" = some m.cls := findClass_of_methodNamed Bd.named
  have hnm := (name_of_methodNamed Bd.named Bd.method).1
  have X0 : Stand p l e ({ frames := 2, cells := 0, slots := 0, locals := 24 } : Room) s m #[(.ref a1), (.int p2), (.int p3), (.int p4), (.int p5)] below meth c s₁ [] 0 0 := Stand.of_body Bd
  have e0 : s₁.heap = h0 := by rw [← hh, Bd.state]; rfl
  have N0 := Fr.nil n0
  have pre0 : ∀ t, Steps p.tables e below (s₁.setTop (mkF m 0 #[.val (.ref a1), .val (.int p2), .val (.int p3), .val (.int p4), .val (.int p5)] [])) t → Steps p.tables e below (s₁.setTop (entryFrame m #[(.ref a1), (.int p2), (.int p3), (.int p4), (.int p5)] 5)) t := fun t k => castTop (ef_1 m a1 p2 p3 p4 p5) k
  obtain ⟨_, _, ⟨T6, L6, k6, n6⟩, -, X6, ⟨Lc6, hQ6, l6, y6, z6⟩, st6⟩ := X0.specialBack hx (y := (⟨"java/lang/Record", "<init>", "()V"⟩ : MethodName)) rfl hown (mvT hZ (hw _ (List.mem_of_getElem? (i := 6) rfl))) (mvT hZ (hw _ (List.mem_of_getElem? (i := 7) rfl))) (mvT hZ (hw _ (List.mem_of_getElem? (i := 10) rfl))) (by decide) (backOf (W := 0) (rm2 l Z a0 hw [] a1 h0 n0 Z0) hZ (hw _ (List.mem_of_getElem? (i := 10) rfl)) (hw _ (List.mem_of_getElem? (i := 9) rfl)) (by decide) (by decide)) (g := (mkF m 1 #[.val (.ref a1), .val (.int p2), .val (.int p3), .val (.int p4), .val (.int p5)] [(.ref a1)])) rfl (by rw [hml]; rfl) (Steps.refl _) (a := a1) (argsL := []) (rest := []) (lenOf pd_1_1 rfl) rfl (by show 2 * 0 + _ ≤ _; exact Nat.le_of_eq rfl) (hb hby d1_1) (fun _ _ => ⟨rfl, e0, (by decide : 0 + 0 ≤ _), (by decide : 0 + 0 ≤ _)⟩)
  dsimp only [Pt.U, Pt.locs, Pt.cells, Pt.slots] at X6 l6 y6 z6 st6 hQ6
  subst l6 y6 z6
  obtain ⟨rfl, N6q, e6q⟩ := hQ6
  have K6q : Keep h0 T6.heap [] := by rw [e6q]; exact Keep.refl _ _
  have K6w : Keep h0 T6.heap [a1] := by rw [e6q]; exact Keep.refl _ _
  have N6 := Fr.app N0 N6q
  obtain ⟨T7, h7, X7, e7, W7, st7⟩ := putF X6 hx hZ hown (host := "") (Or.inl (hw _ (List.mem_of_getElem? (i := 14) rfl))) Via.refl rfl (F_truePositives_a1.keep K6q nin0) (E_a1.keep K6q) (Or.inr ⟨(hw _ (List.mem_of_getElem? (i := 15) rfl)), rfl, hnm⟩) (hw _ (List.mem_of_getElem? (i := 1) rfl)) (ty := .int) (by decide) rfl rfl (g := (mkF m 6 #[.val (.ref a1), .val (.int p2), .val (.int p3), .val (.int p4), .val (.int p5)] [(.int p2), (.ref a1)])) rfl rfl (hb hby d1_6)
  have Fw7 := (F_truePositives_a1.keep K6q nin0).same W7
  have K7 : Keep h0 h7 [a1] := K6w.wr W7 (Or.inl (List.mem_of_getElem? (i := 0) rfl))
  have N7 := Fr.snoc X7 N6 g_a1
  obtain ⟨T8, h8, X8, e8, W8, st8⟩ := putF X7 hx hZ hown (host := "") (Or.inl (hw _ (List.mem_of_getElem? (i := 16) rfl))) Via.refl e7 ((F_falsePositives_a1.keep K6q nin0).other W7 (Or.inr (slot_ne (Or.inr (hw _ (List.mem_of_getElem? (i := 17) rfl))) (Or.inr (hw _ (List.mem_of_getElem? (i := 15) rfl))) (by decide) (t := .int) (t' := .int) (by decide) (by decide)))) ((E_a1.keep K6q).wr W7) (Or.inr ⟨(hw _ (List.mem_of_getElem? (i := 17) rfl)), rfl, hnm⟩) (hw _ (List.mem_of_getElem? (i := 1) rfl)) (ty := .int) (by decide) rfl rfl (g := (mkF m 11 #[.val (.ref a1), .val (.int p2), .val (.int p3), .val (.int p4), .val (.int p5)] [(.int p3), (.ref a1)])) rfl rfl (hb hby d1_11)
  have Fw8 := ((F_falsePositives_a1.keep K6q nin0).other W7 (Or.inr (slot_ne (Or.inr (hw _ (List.mem_of_getElem? (i := 17) rfl))) (Or.inr (hw _ (List.mem_of_getElem? (i := 15) rfl))) (by decide) (t := .int) (t' := .int) (by decide) (by decide)))).same W8
  have K8 : Keep h0 h8 [a1] := K7.wr W8 (Or.inl (List.mem_of_getElem? (i := 0) rfl))
  have N8 := Fr.snoc X8 N7 g_a1
  obtain ⟨T9, h9, X9, e9, W9, st9⟩ := putF X8 hx hZ hown (host := "") (Or.inl (hw _ (List.mem_of_getElem? (i := 18) rfl))) Via.refl e8 (((F_falseNegatives_a1.keep K6q nin0).other W7 (Or.inr (slot_ne (Or.inr (hw _ (List.mem_of_getElem? (i := 19) rfl))) (Or.inr (hw _ (List.mem_of_getElem? (i := 15) rfl))) (by decide) (t := .int) (t' := .int) (by decide) (by decide)))).other W8 (Or.inr (slot_ne (Or.inr (hw _ (List.mem_of_getElem? (i := 19) rfl))) (Or.inr (hw _ (List.mem_of_getElem? (i := 17) rfl))) (by decide) (t := .int) (t' := .int) (by decide) (by decide)))) (((E_a1.keep K6q).wr W7).wr W8) (Or.inr ⟨(hw _ (List.mem_of_getElem? (i := 19) rfl)), rfl, hnm⟩) (hw _ (List.mem_of_getElem? (i := 1) rfl)) (ty := .int) (by decide) rfl rfl (g := (mkF m 16 #[.val (.ref a1), .val (.int p2), .val (.int p3), .val (.int p4), .val (.int p5)] [(.int p4), (.ref a1)])) rfl rfl (hb hby d1_16)
  have Fw9 := (((F_falseNegatives_a1.keep K6q nin0).other W7 (Or.inr (slot_ne (Or.inr (hw _ (List.mem_of_getElem? (i := 19) rfl))) (Or.inr (hw _ (List.mem_of_getElem? (i := 15) rfl))) (by decide) (t := .int) (t' := .int) (by decide) (by decide)))).other W8 (Or.inr (slot_ne (Or.inr (hw _ (List.mem_of_getElem? (i := 19) rfl))) (Or.inr (hw _ (List.mem_of_getElem? (i := 17) rfl))) (by decide) (t := .int) (t' := .int) (by decide) (by decide)))).same W9
  have K9 : Keep h0 h9 [a1] := K8.wr W9 (Or.inl (List.mem_of_getElem? (i := 0) rfl))
  have N9 := Fr.snoc X9 N8 g_a1
  obtain ⟨T10, h10, X10, e10, W10, st10⟩ := putF X9 hx hZ hown (host := "") (Or.inl (hw _ (List.mem_of_getElem? (i := 20) rfl))) Via.refl e9 ((((F_trueNegatives_a1.keep K6q nin0).other W7 (Or.inr (slot_ne (Or.inr (hw _ (List.mem_of_getElem? (i := 21) rfl))) (Or.inr (hw _ (List.mem_of_getElem? (i := 15) rfl))) (by decide) (t := .int) (t' := .int) (by decide) (by decide)))).other W8 (Or.inr (slot_ne (Or.inr (hw _ (List.mem_of_getElem? (i := 21) rfl))) (Or.inr (hw _ (List.mem_of_getElem? (i := 17) rfl))) (by decide) (t := .int) (t' := .int) (by decide) (by decide)))).other W9 (Or.inr (slot_ne (Or.inr (hw _ (List.mem_of_getElem? (i := 21) rfl))) (Or.inr (hw _ (List.mem_of_getElem? (i := 19) rfl))) (by decide) (t := .int) (t' := .int) (by decide) (by decide)))) ((((E_a1.keep K6q).wr W7).wr W8).wr W9) (Or.inr ⟨(hw _ (List.mem_of_getElem? (i := 21) rfl)), rfl, hnm⟩) (hw _ (List.mem_of_getElem? (i := 1) rfl)) (ty := .int) (by decide) rfl rfl (g := (mkF m 22 #[.val (.ref a1), .val (.int p2), .val (.int p3), .val (.int p4), .val (.int p5)] [(.int p5), (.ref a1)])) rfl rfl (hb hby d1_22)
  have Fw10 := ((((F_trueNegatives_a1.keep K6q nin0).other W7 (Or.inr (slot_ne (Or.inr (hw _ (List.mem_of_getElem? (i := 21) rfl))) (Or.inr (hw _ (List.mem_of_getElem? (i := 15) rfl))) (by decide) (t := .int) (t' := .int) (by decide) (by decide)))).other W8 (Or.inr (slot_ne (Or.inr (hw _ (List.mem_of_getElem? (i := 21) rfl))) (Or.inr (hw _ (List.mem_of_getElem? (i := 17) rfl))) (by decide) (t := .int) (t' := .int) (by decide) (by decide)))).other W9 (Or.inr (slot_ne (Or.inr (hw _ (List.mem_of_getElem? (i := 21) rfl))) (Or.inr (hw _ (List.mem_of_getElem? (i := 19) rfl))) (by decide) (t := .int) (t' := .int) (by decide) (by decide)))).same W10
  have K10 : Keep h0 h10 [a1] := K9.wr W10 (Or.inl (List.mem_of_getElem? (i := 0) rfl))
  have N10 := Fr.snoc X10 N9 g_a1
  obtain ⟨fs, hr, hrun, hended, hW, hsame⟩ := X10.leave (v := none) (fun _ => rfl)
  refine ⟨_, _, pre0 _ ?_, hrun, hended, _, _, rfl, ?_, ⟨_, rfl⟩, hW, hsame.mono (by decide) (by decide)⟩
  · show Steps p.tables e below (s₁.setTop (mkF m 0 #[.val (.ref a1), .val (.int p2), .val (.int p3), .val (.int p4), .val (.int p5)] [])) _
    refine XS.aloadN X0.here hx rfl (hb hby d1_0) rfl rfl ?_
    show Steps p.tables e below (s₁.setTop (mkF m 1 #[.val (.ref a1), .val (.int p2), .val (.int p3), .val (.int p4), .val (.int p5)] [(.ref a1)])) _
    refine st6.trans ?_
    show Steps p.tables e below (T6.setTop (mkF m 4 #[.val (.ref a1), .val (.int p2), .val (.int p3), .val (.int p4), .val (.int p5)] [])) _
    refine XS.aloadN X6.here hx rfl (hb hby d1_4) rfl rfl ?_
    show Steps p.tables e below (T6.setTop (mkF m 5 #[.val (.ref a1), .val (.int p2), .val (.int p3), .val (.int p4), .val (.int p5)] [(.ref a1)])) _
    refine XS.iloadN X6.here hx rfl (hb hby d1_5) rfl ?_
    show Steps p.tables e below (T6.setTop (mkF m 6 #[.val (.ref a1), .val (.int p2), .val (.int p3), .val (.int p4), .val (.int p5)] [(.int p2), (.ref a1)])) _
    refine st7 _ ?_
    show Steps p.tables e below (T7.setTop (mkF m 9 #[.val (.ref a1), .val (.int p2), .val (.int p3), .val (.int p4), .val (.int p5)] [])) _
    refine XS.aloadN X7.here hx rfl (hb hby d1_9) rfl rfl ?_
    show Steps p.tables e below (T7.setTop (mkF m 10 #[.val (.ref a1), .val (.int p2), .val (.int p3), .val (.int p4), .val (.int p5)] [(.ref a1)])) _
    refine XS.iloadN X7.here hx rfl (hb hby d1_10) rfl ?_
    show Steps p.tables e below (T7.setTop (mkF m 11 #[.val (.ref a1), .val (.int p2), .val (.int p3), .val (.int p4), .val (.int p5)] [(.int p3), (.ref a1)])) _
    refine st8 _ ?_
    show Steps p.tables e below (T8.setTop (mkF m 14 #[.val (.ref a1), .val (.int p2), .val (.int p3), .val (.int p4), .val (.int p5)] [])) _
    refine XS.aloadN X8.here hx rfl (hb hby d1_14) rfl rfl ?_
    show Steps p.tables e below (T8.setTop (mkF m 15 #[.val (.ref a1), .val (.int p2), .val (.int p3), .val (.int p4), .val (.int p5)] [(.ref a1)])) _
    refine XS.iloadN X8.here hx rfl (hb hby d1_15) rfl ?_
    show Steps p.tables e below (T8.setTop (mkF m 16 #[.val (.ref a1), .val (.int p2), .val (.int p3), .val (.int p4), .val (.int p5)] [(.int p4), (.ref a1)])) _
    refine st9 _ ?_
    show Steps p.tables e below (T9.setTop (mkF m 19 #[.val (.ref a1), .val (.int p2), .val (.int p3), .val (.int p4), .val (.int p5)] [])) _
    refine XS.aloadN X9.here hx rfl (hb hby d1_19) rfl rfl ?_
    show Steps p.tables e below (T9.setTop (mkF m 20 #[.val (.ref a1), .val (.int p2), .val (.int p3), .val (.int p4), .val (.int p5)] [(.ref a1)])) _
    refine XS.iload X9.here hx rfl (hb hby d1_20) rfl ?_
    show Steps p.tables e below (T9.setTop (mkF m 22 #[.val (.ref a1), .val (.int p2), .val (.int p3), .val (.int p4), .val (.int p5)] [(.int p5), (.ref a1)])) _
    refine st10 _ ?_
    show Steps p.tables e below (T10.setTop (mkF m 25 #[.val (.ref a1), .val (.int p2), .val (.int p3), .val (.int p4), .val (.int p5)] [])) _
    exact X10.returnOut hx Bd.returns (hb hby d1_25) hr
  · show Q1 Z a1 p2 p3 p4 p5 u_truePositives_a1 u_falsePositives_a1 u_falseNegatives_a1 u_trueNegatives_a1 h0 n0 _ T10.heap _
    rw [e10]
    exact ⟨rfl, N10, K10, ((((E_a1.keep K6q).wr W7).wr W8).wr W9).wr W10, (((Fw7.other W8 (Or.inr (slot_ne (Or.inr (hw _ (List.mem_of_getElem? (i := 15) rfl))) (Or.inr (hw _ (List.mem_of_getElem? (i := 17) rfl))) (by decide) (t := .int) (t' := .int) (by decide) (by decide)))).other W9 (Or.inr (slot_ne (Or.inr (hw _ (List.mem_of_getElem? (i := 15) rfl))) (Or.inr (hw _ (List.mem_of_getElem? (i := 19) rfl))) (by decide) (t := .int) (t' := .int) (by decide) (by decide)))).other W10 (Or.inr (slot_ne (Or.inr (hw _ (List.mem_of_getElem? (i := 15) rfl))) (Or.inr (hw _ (List.mem_of_getElem? (i := 21) rfl))) (by decide) (t := .int) (t' := .int) (by decide) (by decide)))), ((Fw8.other W9 (Or.inr (slot_ne (Or.inr (hw _ (List.mem_of_getElem? (i := 17) rfl))) (Or.inr (hw _ (List.mem_of_getElem? (i := 19) rfl))) (by decide) (t := .int) (t' := .int) (by decide) (by decide)))).other W10 (Or.inr (slot_ne (Or.inr (hw _ (List.mem_of_getElem? (i := 17) rfl))) (Or.inr (hw _ (List.mem_of_getElem? (i := 21) rfl))) (by decide) (t := .int) (t' := .int) (by decide) (by decide)))), (Fw9.other W10 (Or.inr (slot_ne (Or.inr (hw _ (List.mem_of_getElem? (i := 19) rfl))) (Or.inr (hw _ (List.mem_of_getElem? (i := 21) rfl))) (by decide) (t := .int) (t' := .int) (by decide) (by decide)))), Fw10⟩
theorem d4_0 : decode prog_8_method_4_code 0 = .ok (.aload_n 0, 1) := by decide +kernel
theorem d4_1 : decode prog_8_method_4_code 1 = .ok (.getfield 7, 3) := by decide +kernel
theorem d4_4 : decode prog_8_method_4_code 4 = .ok (.aload_n 0, 1) := by decide +kernel
theorem d4_5 : decode prog_8_method_4_code 5 = .ok (.getfield 13, 3) := by decide +kernel
theorem d4_8 : decode prog_8_method_4_code 8 = .ok (.iadd, 1) := by decide +kernel
theorem d4_9 : decode prog_8_method_4_code 9 = .ok (.aload_n 0, 1) := by decide +kernel
theorem d4_10 : decode prog_8_method_4_code 10 = .ok (.getfield 16, 3) := by decide +kernel
theorem d4_13 : decode prog_8_method_4_code 13 = .ok (.iadd, 1) := by decide +kernel
theorem d4_14 : decode prog_8_method_4_code 14 = .ok (.aload_n 0, 1) := by decide +kernel
theorem d4_15 : decode prog_8_method_4_code 15 = .ok (.getfield 19, 3) := by decide +kernel
theorem d4_18 : decode prog_8_method_4_code 18 = .ok (.iadd, 1) := by decide +kernel
theorem d4_19 : decode prog_8_method_4_code 19 = .ok (.ireturn, 1) := by decide +kernel
theorem pn_4 : plainName "com/example/psyche/psyche/selection/Confusion" = true := by first | (simp [plainName, overriddenIn]; done) | decide +kernel
theorem ef_4 (m : MethodId) (x0 : Addr) : entryFrame m #[(.ref x0)] 1 = mkF m 0 #[.val (.ref x0)] [] := by first | (simp [entryFrame, mkF, argsToLocals, Value.category]; done) | rfl
def Q4 (Z : State) (a1 : Addr) (w2 : Int32) (w4 : Int32) (w6 : Int32) (w8 : Int32) (h0 : Heap) (n0 : Nat) (v : Option Value) (h : Heap) (L : List Loc) : Prop := v = some (.int (((w2 + w4) + w6) + w8)) ∧ Fr n0 L ∧ h = h0
set_option maxRecDepth 65536 in
set_option maxHeartbeats 40000000 in
theorem rm4 (l : Launch) (Z : State) (a0 : Array Value) (hw : ∀ d ∈ tables_1, d.before a0 Z = true) (ws : List Jvm.Cond) (a1 : Addr) (w2 : Int32) (w4 : Int32) (w6 : Int32) (w8 : Int32) (h0 : Heap) (n0 : Nat) (Z0 : n0 ≤ h0.size) (F_truePositives_a1 : Fld Z h0 a1 "com/example/psyche/psyche/selection/Confusion" "truePositives" "I" (.int w2)) (F_falsePositives_a1 : Fld Z h0 a1 "com/example/psyche/psyche/selection/Confusion" "falsePositives" "I" (.int w4)) (F_falseNegatives_a1 : Fld Z h0 a1 "com/example/psyche/psyche/selection/Confusion" "falseNegatives" "I" (.int w6)) (F_trueNegatives_a1 : Fld Z h0 a1 "com/example/psyche/psyche/selection/Confusion" "trueNegatives" "I" (.int w8)) :
    MetFree l (⟨"com/example/psyche/psyche/selection/Confusion", "examples", "()I"⟩ : MethodName) (head1 (Jvm.Cond.code (⟨"com/example/psyche/psyche/selection/Confusion", "examples", "()I"⟩ : MethodName) prog_8_method_4_code 1 (some .int) :: ws) ({ frames := 0, cells := 0, slots := 0, locals := 0 } : Room)) (fun a U => a = #[(.ref a1)] ∧ Z.Warmed39 U.vm ∧ U.heap = h0) (fun _ _ _ _ _ => True) (fun _ U o U' => ∃ v L, o = .returned v ∧ Q4 Z a1 w2 w4 w6 w8 h0 n0 v U'.heap L ∧ FrameEnd U o U' L ({ frames := 0, cells := 0, slots := 0, locals := 0 } : Room).cells ({ frames := 0, cells := 0, slots := 0, locals := 0 } : Room).slots) := by
  refine MetFree.of_bodySF (plainFor_of_name pn_4) hisR ?_
  intro p e s m args below meth c s₁ Bd hml0 hP hK
  obtain ⟨rfl, hZ, hh⟩ := hP
  have hx := Bd.exec
  have hby := Bd.bytes
  have hml : c.maxLocals = 1 := hml0
  have hown : s.vm.findClass "com/example/psyche/psyche/selection/Confusion" = some m.cls := findClass_of_methodNamed Bd.named
  have hnm := (name_of_methodNamed Bd.named Bd.method).1
  have X0 : Stand p l e ({ frames := 0, cells := 0, slots := 0, locals := 0 } : Room) s m #[(.ref a1)] below meth c s₁ [] 0 0 := Stand.of_body Bd
  have e0 : s₁.heap = h0 := by rw [← hh, Bd.state]; rfl
  have N0 := Fr.nil n0
  have pre0 : ∀ t, Steps p.tables e below (s₁.setTop (mkF m 0 #[.val (.ref a1)] [])) t → Steps p.tables e below (s₁.setTop (entryFrame m #[(.ref a1)] 1)) t := fun t k => castTop (ef_4 m a1) k
  obtain ⟨T3, X3, e3, st3⟩ := getF X0 hx hZ hown (host := "") (Or.inl (hw _ (List.mem_of_getElem? (i := 14) rfl))) Via.refl e0 F_truePositives_a1 (g := (mkF m 1 #[.val (.ref a1)] [(.ref a1)])) rfl rfl (hb hby d4_1)
  obtain ⟨T5, X5, e5, st5⟩ := getF X3 hx hZ hown (host := "") (Or.inl (hw _ (List.mem_of_getElem? (i := 16) rfl))) Via.refl e3 F_falsePositives_a1 (g := (mkF m 5 #[.val (.ref a1)] [(.ref a1), (.int w2)])) rfl rfl (hb hby d4_5)
  obtain ⟨T7, X7, e7, st7⟩ := getF X5 hx hZ hown (host := "") (Or.inl (hw _ (List.mem_of_getElem? (i := 18) rfl))) Via.refl e5 F_falseNegatives_a1 (g := (mkF m 10 #[.val (.ref a1)] [(.ref a1), (.int (w2 + w4))])) rfl rfl (hb hby d4_10)
  obtain ⟨T9, X9, e9, st9⟩ := getF X7 hx hZ hown (host := "") (Or.inl (hw _ (List.mem_of_getElem? (i := 20) rfl))) Via.refl e7 F_trueNegatives_a1 (g := (mkF m 15 #[.val (.ref a1)] [(.ref a1), (.int ((w2 + w4) + w6))])) rfl rfl (hb hby d4_15)
  obtain ⟨fs, hr, hrun, hended, hW, hsame⟩ := X9.leave (v := some (.int (((w2 + w4) + w6) + w8))) (fun h => by rw [Bd.returns] at h; cases h)
  refine ⟨_, _, pre0 _ ?_, hrun, hended, _, _, rfl, ?_, ⟨_, rfl⟩, hW, hsame.mono (by decide) (by decide)⟩
  · show Steps p.tables e below (s₁.setTop (mkF m 0 #[.val (.ref a1)] [])) _
    refine XS.aloadN X0.here hx rfl (hb hby d4_0) rfl rfl ?_
    show Steps p.tables e below (s₁.setTop (mkF m 1 #[.val (.ref a1)] [(.ref a1)])) _
    refine st3 _ ?_
    show Steps p.tables e below (T3.setTop (mkF m 4 #[.val (.ref a1)] [(.int w2)])) _
    refine XS.aloadN X3.here hx rfl (hb hby d4_4) rfl rfl ?_
    show Steps p.tables e below (T3.setTop (mkF m 5 #[.val (.ref a1)] [(.ref a1), (.int w2)])) _
    refine st5 _ ?_
    show Steps p.tables e below (T5.setTop (mkF m 8 #[.val (.ref a1)] [(.int w4), (.int w2)])) _
    refine XS.iadd X5.here hx rfl (hb hby d4_8) rfl ?_
    show Steps p.tables e below (T5.setTop (mkF m 9 #[.val (.ref a1)] [(.int (w2 + w4))])) _
    refine XS.aloadN X5.here hx rfl (hb hby d4_9) rfl rfl ?_
    show Steps p.tables e below (T5.setTop (mkF m 10 #[.val (.ref a1)] [(.ref a1), (.int (w2 + w4))])) _
    refine st7 _ ?_
    show Steps p.tables e below (T7.setTop (mkF m 13 #[.val (.ref a1)] [(.int w6), (.int (w2 + w4))])) _
    refine XS.iadd X7.here hx rfl (hb hby d4_13) rfl ?_
    show Steps p.tables e below (T7.setTop (mkF m 14 #[.val (.ref a1)] [(.int ((w2 + w4) + w6))])) _
    refine XS.aloadN X7.here hx rfl (hb hby d4_14) rfl rfl ?_
    show Steps p.tables e below (T7.setTop (mkF m 15 #[.val (.ref a1)] [(.ref a1), (.int ((w2 + w4) + w6))])) _
    refine st9 _ ?_
    show Steps p.tables e below (T9.setTop (mkF m 18 #[.val (.ref a1)] [(.int w8), (.int ((w2 + w4) + w6))])) _
    refine XS.iadd X9.here hx rfl (hb hby d4_18) rfl ?_
    show Steps p.tables e below (T9.setTop (mkF m 19 #[.val (.ref a1)] [(.int (((w2 + w4) + w6) + w8))])) _
    exact retI X9 hx Bd.returns (hb hby d4_19) hr
  · show Q4 Z a1 w2 w4 w6 w8 h0 n0 _ T9.heap _
    rw [e9]
    exact ⟨rfl, N0, rfl⟩
theorem d5_0 : decode prog_8_method_6_code 0 = .ok (.aload_n 0, 1) := by decide +kernel
theorem d5_1 : decode prog_8_method_6_code 1 = .ok (.getfield 7, 3) := by decide +kernel
theorem d5_4 : decode prog_8_method_6_code 4 = .ok (.aload_n 0, 1) := by decide +kernel
theorem d5_5 : decode prog_8_method_6_code 5 = .ok (.getfield 13, 3) := by decide +kernel
theorem d5_8 : decode prog_8_method_6_code 8 = .ok (.iadd, 1) := by decide +kernel
theorem d5_9 : decode prog_8_method_6_code 9 = .ok (.ireturn, 1) := by decide +kernel
theorem pn_5 : plainName "com/example/psyche/psyche/selection/Confusion" = true := by first | (simp [plainName, overriddenIn]; done) | decide +kernel
theorem ef_5 (m : MethodId) (x0 : Addr) : entryFrame m #[(.ref x0)] 1 = mkF m 0 #[.val (.ref x0)] [] := by first | (simp [entryFrame, mkF, argsToLocals, Value.category]; done) | rfl
def Q5 (Z : State) (a1 : Addr) (w2 : Int32) (w4 : Int32) (h0 : Heap) (n0 : Nat) (v : Option Value) (h : Heap) (L : List Loc) : Prop := v = some (.int (w2 + w4)) ∧ Fr n0 L ∧ h = h0
set_option maxRecDepth 65536 in
set_option maxHeartbeats 40000000 in
theorem rm5 (l : Launch) (Z : State) (a0 : Array Value) (hw : ∀ d ∈ tables_1, d.before a0 Z = true) (ws : List Jvm.Cond) (a1 : Addr) (w2 : Int32) (w4 : Int32) (h0 : Heap) (n0 : Nat) (Z0 : n0 ≤ h0.size) (F_truePositives_a1 : Fld Z h0 a1 "com/example/psyche/psyche/selection/Confusion" "truePositives" "I" (.int w2)) (F_falsePositives_a1 : Fld Z h0 a1 "com/example/psyche/psyche/selection/Confusion" "falsePositives" "I" (.int w4)) :
    MetFree l (⟨"com/example/psyche/psyche/selection/Confusion", "taken", "()I"⟩ : MethodName) (head1 (Jvm.Cond.code (⟨"com/example/psyche/psyche/selection/Confusion", "taken", "()I"⟩ : MethodName) prog_8_method_6_code 1 (some .int) :: ws) ({ frames := 0, cells := 0, slots := 0, locals := 0 } : Room)) (fun a U => a = #[(.ref a1)] ∧ Z.Warmed39 U.vm ∧ U.heap = h0) (fun _ _ _ _ _ => True) (fun _ U o U' => ∃ v L, o = .returned v ∧ Q5 Z a1 w2 w4 h0 n0 v U'.heap L ∧ FrameEnd U o U' L ({ frames := 0, cells := 0, slots := 0, locals := 0 } : Room).cells ({ frames := 0, cells := 0, slots := 0, locals := 0 } : Room).slots) := by
  refine MetFree.of_bodySF (plainFor_of_name pn_5) hisR ?_
  intro p e s m args below meth c s₁ Bd hml0 hP hK
  obtain ⟨rfl, hZ, hh⟩ := hP
  have hx := Bd.exec
  have hby := Bd.bytes
  have hml : c.maxLocals = 1 := hml0
  have hown : s.vm.findClass "com/example/psyche/psyche/selection/Confusion" = some m.cls := findClass_of_methodNamed Bd.named
  have hnm := (name_of_methodNamed Bd.named Bd.method).1
  have X0 : Stand p l e ({ frames := 0, cells := 0, slots := 0, locals := 0 } : Room) s m #[(.ref a1)] below meth c s₁ [] 0 0 := Stand.of_body Bd
  have e0 : s₁.heap = h0 := by rw [← hh, Bd.state]; rfl
  have N0 := Fr.nil n0
  have pre0 : ∀ t, Steps p.tables e below (s₁.setTop (mkF m 0 #[.val (.ref a1)] [])) t → Steps p.tables e below (s₁.setTop (entryFrame m #[(.ref a1)] 1)) t := fun t k => castTop (ef_5 m a1) k
  obtain ⟨T3, X3, e3, st3⟩ := getF X0 hx hZ hown (host := "") (Or.inl (hw _ (List.mem_of_getElem? (i := 14) rfl))) Via.refl e0 F_truePositives_a1 (g := (mkF m 1 #[.val (.ref a1)] [(.ref a1)])) rfl rfl (hb hby d5_1)
  obtain ⟨T5, X5, e5, st5⟩ := getF X3 hx hZ hown (host := "") (Or.inl (hw _ (List.mem_of_getElem? (i := 16) rfl))) Via.refl e3 F_falsePositives_a1 (g := (mkF m 5 #[.val (.ref a1)] [(.ref a1), (.int w2)])) rfl rfl (hb hby d5_5)
  obtain ⟨fs, hr, hrun, hended, hW, hsame⟩ := X5.leave (v := some (.int (w2 + w4))) (fun h => by rw [Bd.returns] at h; cases h)
  refine ⟨_, _, pre0 _ ?_, hrun, hended, _, _, rfl, ?_, ⟨_, rfl⟩, hW, hsame.mono (by decide) (by decide)⟩
  · show Steps p.tables e below (s₁.setTop (mkF m 0 #[.val (.ref a1)] [])) _
    refine XS.aloadN X0.here hx rfl (hb hby d5_0) rfl rfl ?_
    show Steps p.tables e below (s₁.setTop (mkF m 1 #[.val (.ref a1)] [(.ref a1)])) _
    refine st3 _ ?_
    show Steps p.tables e below (T3.setTop (mkF m 4 #[.val (.ref a1)] [(.int w2)])) _
    refine XS.aloadN X3.here hx rfl (hb hby d5_4) rfl rfl ?_
    show Steps p.tables e below (T3.setTop (mkF m 5 #[.val (.ref a1)] [(.ref a1), (.int w2)])) _
    refine st5 _ ?_
    show Steps p.tables e below (T5.setTop (mkF m 8 #[.val (.ref a1)] [(.int w4), (.int w2)])) _
    refine XS.iadd X5.here hx rfl (hb hby d5_8) rfl ?_
    show Steps p.tables e below (T5.setTop (mkF m 9 #[.val (.ref a1)] [(.int (w2 + w4))])) _
    exact retI X5 hx Bd.returns (hb hby d5_9) hr
  · show Q5 Z a1 w2 w4 h0 n0 _ T5.heap _
    rw [e5]
    exact ⟨rfl, N0, rfl⟩
theorem d6_0 : decode prog_8_method_5_code 0 = .ok (.aload_n 0, 1) := by decide +kernel
theorem d6_1 : decode prog_8_method_5_code 1 = .ok (.getfield 7, 3) := by decide +kernel
theorem d6_4 : decode prog_8_method_5_code 4 = .ok (.aload_n 0, 1) := by decide +kernel
theorem d6_5 : decode prog_8_method_5_code 5 = .ok (.getfield 19, 3) := by decide +kernel
theorem d6_8 : decode prog_8_method_5_code 8 = .ok (.iadd, 1) := by decide +kernel
theorem d6_9 : decode prog_8_method_5_code 9 = .ok (.ireturn, 1) := by decide +kernel
theorem pn_6 : plainName "com/example/psyche/psyche/selection/Confusion" = true := by first | (simp [plainName, overriddenIn]; done) | decide +kernel
theorem ef_6 (m : MethodId) (x0 : Addr) : entryFrame m #[(.ref x0)] 1 = mkF m 0 #[.val (.ref x0)] [] := by first | (simp [entryFrame, mkF, argsToLocals, Value.category]; done) | rfl
def Q6 (Z : State) (a1 : Addr) (w2 : Int32) (w4 : Int32) (h0 : Heap) (n0 : Nat) (v : Option Value) (h : Heap) (L : List Loc) : Prop := v = some (.int (w2 + w4)) ∧ Fr n0 L ∧ h = h0
set_option maxRecDepth 65536 in
set_option maxHeartbeats 40000000 in
theorem rm6 (l : Launch) (Z : State) (a0 : Array Value) (hw : ∀ d ∈ tables_1, d.before a0 Z = true) (ws : List Jvm.Cond) (a1 : Addr) (w2 : Int32) (w4 : Int32) (h0 : Heap) (n0 : Nat) (Z0 : n0 ≤ h0.size) (F_truePositives_a1 : Fld Z h0 a1 "com/example/psyche/psyche/selection/Confusion" "truePositives" "I" (.int w2)) (F_trueNegatives_a1 : Fld Z h0 a1 "com/example/psyche/psyche/selection/Confusion" "trueNegatives" "I" (.int w4)) :
    MetFree l (⟨"com/example/psyche/psyche/selection/Confusion", "right", "()I"⟩ : MethodName) (head1 (Jvm.Cond.code (⟨"com/example/psyche/psyche/selection/Confusion", "right", "()I"⟩ : MethodName) prog_8_method_5_code 1 (some .int) :: ws) ({ frames := 0, cells := 0, slots := 0, locals := 0 } : Room)) (fun a U => a = #[(.ref a1)] ∧ Z.Warmed39 U.vm ∧ U.heap = h0) (fun _ _ _ _ _ => True) (fun _ U o U' => ∃ v L, o = .returned v ∧ Q6 Z a1 w2 w4 h0 n0 v U'.heap L ∧ FrameEnd U o U' L ({ frames := 0, cells := 0, slots := 0, locals := 0 } : Room).cells ({ frames := 0, cells := 0, slots := 0, locals := 0 } : Room).slots) := by
  refine MetFree.of_bodySF (plainFor_of_name pn_6) hisR ?_
  intro p e s m args below meth c s₁ Bd hml0 hP hK
  obtain ⟨rfl, hZ, hh⟩ := hP
  have hx := Bd.exec
  have hby := Bd.bytes
  have hml : c.maxLocals = 1 := hml0
  have hown : s.vm.findClass "com/example/psyche/psyche/selection/Confusion" = some m.cls := findClass_of_methodNamed Bd.named
  have hnm := (name_of_methodNamed Bd.named Bd.method).1
  have X0 : Stand p l e ({ frames := 0, cells := 0, slots := 0, locals := 0 } : Room) s m #[(.ref a1)] below meth c s₁ [] 0 0 := Stand.of_body Bd
  have e0 : s₁.heap = h0 := by rw [← hh, Bd.state]; rfl
  have N0 := Fr.nil n0
  have pre0 : ∀ t, Steps p.tables e below (s₁.setTop (mkF m 0 #[.val (.ref a1)] [])) t → Steps p.tables e below (s₁.setTop (entryFrame m #[(.ref a1)] 1)) t := fun t k => castTop (ef_6 m a1) k
  obtain ⟨T3, X3, e3, st3⟩ := getF X0 hx hZ hown (host := "") (Or.inl (hw _ (List.mem_of_getElem? (i := 14) rfl))) Via.refl e0 F_truePositives_a1 (g := (mkF m 1 #[.val (.ref a1)] [(.ref a1)])) rfl rfl (hb hby d6_1)
  obtain ⟨T5, X5, e5, st5⟩ := getF X3 hx hZ hown (host := "") (Or.inl (hw _ (List.mem_of_getElem? (i := 20) rfl))) Via.refl e3 F_trueNegatives_a1 (g := (mkF m 5 #[.val (.ref a1)] [(.ref a1), (.int w2)])) rfl rfl (hb hby d6_5)
  obtain ⟨fs, hr, hrun, hended, hW, hsame⟩ := X5.leave (v := some (.int (w2 + w4))) (fun h => by rw [Bd.returns] at h; cases h)
  refine ⟨_, _, pre0 _ ?_, hrun, hended, _, _, rfl, ?_, ⟨_, rfl⟩, hW, hsame.mono (by decide) (by decide)⟩
  · show Steps p.tables e below (s₁.setTop (mkF m 0 #[.val (.ref a1)] [])) _
    refine XS.aloadN X0.here hx rfl (hb hby d6_0) rfl rfl ?_
    show Steps p.tables e below (s₁.setTop (mkF m 1 #[.val (.ref a1)] [(.ref a1)])) _
    refine st3 _ ?_
    show Steps p.tables e below (T3.setTop (mkF m 4 #[.val (.ref a1)] [(.int w2)])) _
    refine XS.aloadN X3.here hx rfl (hb hby d6_4) rfl rfl ?_
    show Steps p.tables e below (T3.setTop (mkF m 5 #[.val (.ref a1)] [(.ref a1), (.int w2)])) _
    refine st5 _ ?_
    show Steps p.tables e below (T5.setTop (mkF m 8 #[.val (.ref a1)] [(.int w4), (.int w2)])) _
    refine XS.iadd X5.here hx rfl (hb hby d6_8) rfl ?_
    show Steps p.tables e below (T5.setTop (mkF m 9 #[.val (.ref a1)] [(.int (w2 + w4))])) _
    exact retI X5 hx Bd.returns (hb hby d6_9) hr
  · show Q6 Z a1 w2 w4 h0 n0 _ T5.heap _
    rw [e5]
    exact ⟨rfl, N0, rfl⟩
theorem d7_0 : decode prog_8_method_3_code 0 = .ok (.new 8, 3) := by decide +kernel
theorem d7_3 : decode prog_8_method_3_code 3 = .ok (.dup, 1) := by decide +kernel
theorem d7_4 : decode prog_8_method_3_code 4 = .ok (.aload_n 0, 1) := by decide +kernel
theorem d7_5 : decode prog_8_method_3_code 5 = .ok (.getfield 7, 3) := by decide +kernel
theorem d7_8 : decode prog_8_method_3_code 8 = .ok (.aload_n 1, 1) := by decide +kernel
theorem d7_9 : decode prog_8_method_3_code 9 = .ok (.getfield 7, 3) := by decide +kernel
theorem d7_12 : decode prog_8_method_3_code 12 = .ok (.iadd, 1) := by decide +kernel
theorem d7_13 : decode prog_8_method_3_code 13 = .ok (.aload_n 0, 1) := by decide +kernel
theorem d7_14 : decode prog_8_method_3_code 14 = .ok (.getfield 13, 3) := by decide +kernel
theorem d7_17 : decode prog_8_method_3_code 17 = .ok (.aload_n 1, 1) := by decide +kernel
theorem d7_18 : decode prog_8_method_3_code 18 = .ok (.getfield 13, 3) := by decide +kernel
theorem d7_21 : decode prog_8_method_3_code 21 = .ok (.iadd, 1) := by decide +kernel
theorem d7_22 : decode prog_8_method_3_code 22 = .ok (.aload_n 0, 1) := by decide +kernel
theorem d7_23 : decode prog_8_method_3_code 23 = .ok (.getfield 16, 3) := by decide +kernel
theorem d7_26 : decode prog_8_method_3_code 26 = .ok (.aload_n 1, 1) := by decide +kernel
theorem d7_27 : decode prog_8_method_3_code 27 = .ok (.getfield 16, 3) := by decide +kernel
theorem d7_30 : decode prog_8_method_3_code 30 = .ok (.iadd, 1) := by decide +kernel
theorem d7_31 : decode prog_8_method_3_code 31 = .ok (.aload_n 0, 1) := by decide +kernel
theorem d7_32 : decode prog_8_method_3_code 32 = .ok (.getfield 19, 3) := by decide +kernel
theorem d7_35 : decode prog_8_method_3_code 35 = .ok (.aload_n 1, 1) := by decide +kernel
theorem d7_36 : decode prog_8_method_3_code 36 = .ok (.getfield 19, 3) := by decide +kernel
theorem d7_39 : decode prog_8_method_3_code 39 = .ok (.iadd, 1) := by decide +kernel
theorem d7_40 : decode prog_8_method_3_code 40 = .ok (.invokespecial 49, 3) := by decide +kernel
theorem d7_43 : decode prog_8_method_3_code 43 = .ok (.areturn, 1) := by decide +kernel
theorem pn_7 : plainName "com/example/psyche/psyche/selection/Confusion" = true := by first | (simp [plainName, overriddenIn]; done) | decide +kernel
theorem pd_7_0 : parseMethodDescriptor "(IIII)V" = some ⟨[.int, .int, .int, .int], none⟩ := by decide +kernel
theorem ef_7 (m : MethodId) (x0 : Addr) (x1 : Addr) : entryFrame m #[(.ref x0), (.ref x1)] 2 = mkF m 0 #[.val (.ref x0), .val (.ref x1)] [] := by first | (simp [entryFrame, mkF, argsToLocals, Value.category]; done) | rfl
def Q7 (Z : State) (a1 : Addr) (a2 : Addr) (w4 : Int32) (w6 : Int32) (w8 : Int32) (w10 : Int32) (w12 : Int32) (w14 : Int32) (w16 : Int32) (w18 : Int32) (h0 : Heap) (n0 : Nat) (v : Option Value) (h : Heap) (L : List Loc) : Prop := ∃ b : Addr, v = some (.ref b) ∧ Fr n0 L ∧ h0.size ≤ b ∧ Keep h0 h [] ∧ own_C Z h b (w4 + w6) (w8 + w10) (w12 + w14) (w16 + w18)
set_option maxRecDepth 65536 in
set_option maxHeartbeats 40000000 in
theorem rm7 (l : Launch) (Z : State) (a0 : Array Value) (hw : ∀ d ∈ tables_1, d.before a0 Z = true) (ws : List Jvm.Cond) (a1 : Addr) (a2 : Addr) (w4 : Int32) (w6 : Int32) (w8 : Int32) (w10 : Int32) (w12 : Int32) (w14 : Int32) (w16 : Int32) (w18 : Int32) (h0 : Heap) (n0 : Nat) (Z0 : n0 ≤ h0.size) (F_truePositives_a1 : Fld Z h0 a1 "com/example/psyche/psyche/selection/Confusion" "truePositives" "I" (.int w4)) (F_truePositives_a2 : Fld Z h0 a2 "com/example/psyche/psyche/selection/Confusion" "truePositives" "I" (.int w6)) (F_falsePositives_a1 : Fld Z h0 a1 "com/example/psyche/psyche/selection/Confusion" "falsePositives" "I" (.int w8)) (F_falsePositives_a2 : Fld Z h0 a2 "com/example/psyche/psyche/selection/Confusion" "falsePositives" "I" (.int w10)) (F_falseNegatives_a1 : Fld Z h0 a1 "com/example/psyche/psyche/selection/Confusion" "falseNegatives" "I" (.int w12)) (F_falseNegatives_a2 : Fld Z h0 a2 "com/example/psyche/psyche/selection/Confusion" "falseNegatives" "I" (.int w14)) (F_trueNegatives_a1 : Fld Z h0 a1 "com/example/psyche/psyche/selection/Confusion" "trueNegatives" "I" (.int w16)) (F_trueNegatives_a2 : Fld Z h0 a2 "com/example/psyche/psyche/selection/Confusion" "trueNegatives" "I" (.int w18)) :
    MetFree l (⟨"com/example/psyche/psyche/selection/Confusion", "plus", "(Lcom/example/psyche/psyche/selection/Confusion;)Lcom/example/psyche/psyche/selection/Confusion;"⟩ : MethodName) (head1 (Jvm.Cond.code (⟨"com/example/psyche/psyche/selection/Confusion", "plus", "(Lcom/example/psyche/psyche/selection/Confusion;)Lcom/example/psyche/psyche/selection/Confusion;"⟩ : MethodName) prog_8_method_3_code 2 (some (.object "com/example/psyche/psyche/selection/Confusion")) :: ws) ({ frames := 3, cells := 1, slots := 4, locals := 41 } : Room)) (fun a U => a = #[(.ref a1), (.ref a2)] ∧ Z.Warmed39 U.vm ∧ U.heap = h0) (fun _ _ _ _ _ => True) (fun _ U o U' => ∃ v L, o = .returned v ∧ Q7 Z a1 a2 w4 w6 w8 w10 w12 w14 w16 w18 h0 n0 v U'.heap L ∧ FrameEnd U o U' L ({ frames := 3, cells := 1, slots := 4, locals := 41 } : Room).cells ({ frames := 3, cells := 1, slots := 4, locals := 41 } : Room).slots) := by
  refine MetFree.of_bodySF (plainFor_of_name pn_7) hisR ?_
  intro p e s m args below meth c s₁ Bd hml0 hP hK
  obtain ⟨rfl, hZ, hh⟩ := hP
  have hx := Bd.exec
  have hby := Bd.bytes
  have hml : c.maxLocals = 2 := hml0
  have hown : s.vm.findClass "com/example/psyche/psyche/selection/Confusion" = some m.cls := findClass_of_methodNamed Bd.named
  have hnm := (name_of_methodNamed Bd.named Bd.method).1
  have X0 : Stand p l e ({ frames := 3, cells := 1, slots := 4, locals := 41 } : Room) s m #[(.ref a1), (.ref a2)] below meth c s₁ [] 0 0 := Stand.of_body Bd
  have e0 : s₁.heap = h0 := by rw [← hh, Bd.state]; rfl
  have N0 := Fr.nil n0
  have pre0 : ∀ t, Steps p.tables e below (s₁.setTop (mkF m 0 #[.val (.ref a1), .val (.ref a2)] [])) t → Steps p.tables e below (s₁.setTop (entryFrame m #[(.ref a1), (.ref a2)] 2)) t := fun t k => castTop (ef_7 m a1 a2) k
  obtain ⟨T3, h3, X3, e3, E3, A3, D3, -, st3⟩ := newO X0 hx hZ hown (hw _ (List.mem_of_getElem? (i := 42) rfl)) (hw _ (List.mem_of_getElem? (i := 1) rfl)) (hw _ (List.mem_of_getElem? (i := 2) rfl)) e0 (g := (mkF m 0 #[.val (.ref a1), .val (.ref a2)] [])) rfl (hb hby d7_0) (by decide) (by decide)
  obtain ⟨b3, g3⟩ : ∃ z, z = h0.size := ⟨_, rfl⟩
  rw [← g3] at A3 D3 st3
  have F_truePositives_b3 : Fld Z h3 b3 "com/example/psyche/psyche/selection/Confusion" "truePositives" "I" (.int (0 : Int32)) := D3 (Or.inr (hw _ (List.mem_of_getElem? (i := 15) rfl))) (ty := .int) (by decide)
  have F_falsePositives_b3 : Fld Z h3 b3 "com/example/psyche/psyche/selection/Confusion" "falsePositives" "I" (.int (0 : Int32)) := D3 (Or.inr (hw _ (List.mem_of_getElem? (i := 17) rfl))) (ty := .int) (by decide)
  have F_falseNegatives_b3 : Fld Z h3 b3 "com/example/psyche/psyche/selection/Confusion" "falseNegatives" "I" (.int (0 : Int32)) := D3 (Or.inr (hw _ (List.mem_of_getElem? (i := 19) rfl))) (ty := .int) (by decide)
  have F_trueNegatives_b3 : Fld Z h3 b3 "com/example/psyche/psyche/selection/Confusion" "trueNegatives" "I" (.int (0 : Int32)) := D3 (Or.inr (hw _ (List.mem_of_getElem? (i := 21) rfl))) (ty := .int) (by decide)
  have E_b3 := A3
  have g_b3 : n0 ≤ b3 := Nat.le_trans Z0 (Nat.le_of_eq g3.symm)
  have sz_b3 : h0.size ≤ b3 := (Nat.le_trans (Keep.refl h0 []).1 (Nat.le_of_eq g3.symm))
  have K3 : Keep h0 h3 [] := (Keep.refl h0 []).ext E3
  obtain ⟨T5, X5, e5, st5⟩ := getF X3 hx hZ hown (host := "") (Or.inl (hw _ (List.mem_of_getElem? (i := 14) rfl))) Via.refl e3 (F_truePositives_a1.ext E3) (g := (mkF m 5 #[.val (.ref a1), .val (.ref a2)] [(.ref a1), (.ref b3), (.ref b3)])) rfl rfl (hb hby d7_5)
  obtain ⟨T7, X7, e7, st7⟩ := getF X5 hx hZ hown (host := "") (Or.inl (hw _ (List.mem_of_getElem? (i := 14) rfl))) Via.refl e5 (F_truePositives_a2.ext E3) (g := (mkF m 9 #[.val (.ref a1), .val (.ref a2)] [(.ref a2), (.int w4), (.ref b3), (.ref b3)])) rfl rfl (hb hby d7_9)
  obtain ⟨T9, X9, e9, st9⟩ := getF X7 hx hZ hown (host := "") (Or.inl (hw _ (List.mem_of_getElem? (i := 16) rfl))) Via.refl e7 (F_falsePositives_a1.ext E3) (g := (mkF m 14 #[.val (.ref a1), .val (.ref a2)] [(.ref a1), (.int (w4 + w6)), (.ref b3), (.ref b3)])) rfl rfl (hb hby d7_14)
  obtain ⟨T11, X11, e11, st11⟩ := getF X9 hx hZ hown (host := "") (Or.inl (hw _ (List.mem_of_getElem? (i := 16) rfl))) Via.refl e9 (F_falsePositives_a2.ext E3) (g := (mkF m 18 #[.val (.ref a1), .val (.ref a2)] [(.ref a2), (.int w8), (.int (w4 + w6)), (.ref b3), (.ref b3)])) rfl rfl (hb hby d7_18)
  obtain ⟨T13, X13, e13, st13⟩ := getF X11 hx hZ hown (host := "") (Or.inl (hw _ (List.mem_of_getElem? (i := 18) rfl))) Via.refl e11 (F_falseNegatives_a1.ext E3) (g := (mkF m 23 #[.val (.ref a1), .val (.ref a2)] [(.ref a1), (.int (w8 + w10)), (.int (w4 + w6)), (.ref b3), (.ref b3)])) rfl rfl (hb hby d7_23)
  obtain ⟨T15, X15, e15, st15⟩ := getF X13 hx hZ hown (host := "") (Or.inl (hw _ (List.mem_of_getElem? (i := 18) rfl))) Via.refl e13 (F_falseNegatives_a2.ext E3) (g := (mkF m 27 #[.val (.ref a1), .val (.ref a2)] [(.ref a2), (.int w12), (.int (w8 + w10)), (.int (w4 + w6)), (.ref b3), (.ref b3)])) rfl rfl (hb hby d7_27)
  obtain ⟨T17, X17, e17, st17⟩ := getF X15 hx hZ hown (host := "") (Or.inl (hw _ (List.mem_of_getElem? (i := 20) rfl))) Via.refl e15 (F_trueNegatives_a1.ext E3) (g := (mkF m 32 #[.val (.ref a1), .val (.ref a2)] [(.ref a1), (.int (w12 + w14)), (.int (w8 + w10)), (.int (w4 + w6)), (.ref b3), (.ref b3)])) rfl rfl (hb hby d7_32)
  obtain ⟨T19, X19, e19, st19⟩ := getF X17 hx hZ hown (host := "") (Or.inl (hw _ (List.mem_of_getElem? (i := 20) rfl))) Via.refl e17 (F_trueNegatives_a2.ext E3) (g := (mkF m 36 #[.val (.ref a1), .val (.ref a2)] [(.ref a2), (.int w16), (.int (w12 + w14)), (.int (w8 + w10)), (.int (w4 + w6)), (.ref b3), (.ref b3)])) rfl rfl (hb hby d7_36)
  obtain ⟨_, _, ⟨T20, L20, k20, n20⟩, -, X20, ⟨Lc20, hQ20, l20, y20, z20⟩, st20⟩ := X19.specialBack hx (y := (⟨"com/example/psyche/psyche/selection/Confusion", "<init>", "(IIII)V"⟩ : MethodName)) rfl hown (mvT hZ (hw _ (List.mem_of_getElem? (i := 43) rfl))) (mvT hZ (hw _ (List.mem_of_getElem? (i := 4) rfl))) (mvT hZ (hw _ (List.mem_of_getElem? (i := 5) rfl))) (by decide) (backOf (W := 1) (rm1 l Z a0 hw [] b3 (w4 + w6) (w8 + w10) (w12 + w14) (w16 + w18) (.int (0 : Int32)) (.int (0 : Int32)) (.int (0 : Int32)) (.int (0 : Int32)) h3 n0 (Nat.le_trans Z0 E3.1) E_b3 F_truePositives_b3 g_b3 F_falsePositives_b3 F_falseNegatives_b3 F_trueNegatives_b3) hZ (hw _ (List.mem_of_getElem? (i := 5) rfl)) (hw _ (List.mem_of_getElem? (i := 2) rfl)) (by decide) (by decide)) (g := (mkF m 40 #[.val (.ref a1), .val (.ref a2)] [(.int (w16 + w18)), (.int (w12 + w14)), (.int (w8 + w10)), (.int (w4 + w6)), (.ref b3), (.ref b3)])) rfl (by rw [hml]; rfl) (Steps.refl _) (a := b3) (argsL := [(.int (w4 + w6)), (.int (w8 + w10)), (.int (w12 + w14)), (.int (w16 + w18))]) (rest := [(.ref b3)]) (lenOf pd_7_0 rfl) rfl (by show 2 * 0 + _ ≤ _; exact Nat.le_of_eq rfl) (hb hby d7_40) (fun _ _ => ⟨rfl, e19, (by decide : 1 + 0 ≤ _), (by decide : 4 + 0 ≤ _)⟩)
  dsimp only [Pt.U, Pt.locs, Pt.cells, Pt.slots] at X20 l20 y20 z20 st20 hQ20
  subst l20 y20 z20
  obtain ⟨rfl, N20q, K20q, O20q⟩ := hQ20
  have N20 := Fr.app N0 N20q
  obtain ⟨fs, hr, hrun, hended, hW, hsame⟩ := X20.leave (v := some (.ref b3)) (fun h => by rw [Bd.returns] at h; cases h)
  refine ⟨_, _, pre0 _ ?_, hrun, hended, _, _, rfl, ?_, ⟨_, rfl⟩, hW, hsame.mono (by decide) (by decide)⟩
  · show Steps p.tables e below (s₁.setTop (mkF m 0 #[.val (.ref a1), .val (.ref a2)] [])) _
    refine st3 _ ?_
    show Steps p.tables e below (T3.setTop (mkF m 3 #[.val (.ref a1), .val (.ref a2)] [(.ref b3)])) _
    refine XS.dup X3.here hx rfl (hb hby d7_3) rfl rfl ?_
    show Steps p.tables e below (T3.setTop (mkF m 4 #[.val (.ref a1), .val (.ref a2)] [(.ref b3), (.ref b3)])) _
    refine XS.aloadN X3.here hx rfl (hb hby d7_4) rfl rfl ?_
    show Steps p.tables e below (T3.setTop (mkF m 5 #[.val (.ref a1), .val (.ref a2)] [(.ref a1), (.ref b3), (.ref b3)])) _
    refine st5 _ ?_
    show Steps p.tables e below (T5.setTop (mkF m 8 #[.val (.ref a1), .val (.ref a2)] [(.int w4), (.ref b3), (.ref b3)])) _
    refine XS.aloadN X5.here hx rfl (hb hby d7_8) rfl rfl ?_
    show Steps p.tables e below (T5.setTop (mkF m 9 #[.val (.ref a1), .val (.ref a2)] [(.ref a2), (.int w4), (.ref b3), (.ref b3)])) _
    refine st7 _ ?_
    show Steps p.tables e below (T7.setTop (mkF m 12 #[.val (.ref a1), .val (.ref a2)] [(.int w6), (.int w4), (.ref b3), (.ref b3)])) _
    refine XS.iadd X7.here hx rfl (hb hby d7_12) rfl ?_
    show Steps p.tables e below (T7.setTop (mkF m 13 #[.val (.ref a1), .val (.ref a2)] [(.int (w4 + w6)), (.ref b3), (.ref b3)])) _
    refine XS.aloadN X7.here hx rfl (hb hby d7_13) rfl rfl ?_
    show Steps p.tables e below (T7.setTop (mkF m 14 #[.val (.ref a1), .val (.ref a2)] [(.ref a1), (.int (w4 + w6)), (.ref b3), (.ref b3)])) _
    refine st9 _ ?_
    show Steps p.tables e below (T9.setTop (mkF m 17 #[.val (.ref a1), .val (.ref a2)] [(.int w8), (.int (w4 + w6)), (.ref b3), (.ref b3)])) _
    refine XS.aloadN X9.here hx rfl (hb hby d7_17) rfl rfl ?_
    show Steps p.tables e below (T9.setTop (mkF m 18 #[.val (.ref a1), .val (.ref a2)] [(.ref a2), (.int w8), (.int (w4 + w6)), (.ref b3), (.ref b3)])) _
    refine st11 _ ?_
    show Steps p.tables e below (T11.setTop (mkF m 21 #[.val (.ref a1), .val (.ref a2)] [(.int w10), (.int w8), (.int (w4 + w6)), (.ref b3), (.ref b3)])) _
    refine XS.iadd X11.here hx rfl (hb hby d7_21) rfl ?_
    show Steps p.tables e below (T11.setTop (mkF m 22 #[.val (.ref a1), .val (.ref a2)] [(.int (w8 + w10)), (.int (w4 + w6)), (.ref b3), (.ref b3)])) _
    refine XS.aloadN X11.here hx rfl (hb hby d7_22) rfl rfl ?_
    show Steps p.tables e below (T11.setTop (mkF m 23 #[.val (.ref a1), .val (.ref a2)] [(.ref a1), (.int (w8 + w10)), (.int (w4 + w6)), (.ref b3), (.ref b3)])) _
    refine st13 _ ?_
    show Steps p.tables e below (T13.setTop (mkF m 26 #[.val (.ref a1), .val (.ref a2)] [(.int w12), (.int (w8 + w10)), (.int (w4 + w6)), (.ref b3), (.ref b3)])) _
    refine XS.aloadN X13.here hx rfl (hb hby d7_26) rfl rfl ?_
    show Steps p.tables e below (T13.setTop (mkF m 27 #[.val (.ref a1), .val (.ref a2)] [(.ref a2), (.int w12), (.int (w8 + w10)), (.int (w4 + w6)), (.ref b3), (.ref b3)])) _
    refine st15 _ ?_
    show Steps p.tables e below (T15.setTop (mkF m 30 #[.val (.ref a1), .val (.ref a2)] [(.int w14), (.int w12), (.int (w8 + w10)), (.int (w4 + w6)), (.ref b3), (.ref b3)])) _
    refine XS.iadd X15.here hx rfl (hb hby d7_30) rfl ?_
    show Steps p.tables e below (T15.setTop (mkF m 31 #[.val (.ref a1), .val (.ref a2)] [(.int (w12 + w14)), (.int (w8 + w10)), (.int (w4 + w6)), (.ref b3), (.ref b3)])) _
    refine XS.aloadN X15.here hx rfl (hb hby d7_31) rfl rfl ?_
    show Steps p.tables e below (T15.setTop (mkF m 32 #[.val (.ref a1), .val (.ref a2)] [(.ref a1), (.int (w12 + w14)), (.int (w8 + w10)), (.int (w4 + w6)), (.ref b3), (.ref b3)])) _
    refine st17 _ ?_
    show Steps p.tables e below (T17.setTop (mkF m 35 #[.val (.ref a1), .val (.ref a2)] [(.int w16), (.int (w12 + w14)), (.int (w8 + w10)), (.int (w4 + w6)), (.ref b3), (.ref b3)])) _
    refine XS.aloadN X17.here hx rfl (hb hby d7_35) rfl rfl ?_
    show Steps p.tables e below (T17.setTop (mkF m 36 #[.val (.ref a1), .val (.ref a2)] [(.ref a2), (.int w16), (.int (w12 + w14)), (.int (w8 + w10)), (.int (w4 + w6)), (.ref b3), (.ref b3)])) _
    refine st19 _ ?_
    show Steps p.tables e below (T19.setTop (mkF m 39 #[.val (.ref a1), .val (.ref a2)] [(.int w18), (.int w16), (.int (w12 + w14)), (.int (w8 + w10)), (.int (w4 + w6)), (.ref b3), (.ref b3)])) _
    refine XS.iadd X19.here hx rfl (hb hby d7_39) rfl ?_
    show Steps p.tables e below (T19.setTop (mkF m 40 #[.val (.ref a1), .val (.ref a2)] [(.int (w16 + w18)), (.int (w12 + w14)), (.int (w8 + w10)), (.int (w4 + w6)), (.ref b3), (.ref b3)])) _
    refine st20.trans ?_
    show Steps p.tables e below (T20.setTop (mkF m 43 #[.val (.ref a1), .val (.ref a2)] [(.ref b3)])) _
    jvm_step X20.here [X20.here.top, hx, (hb hby d7_43), X20.method', Bd.returns, Value.isRef, FieldType.isReference]
    first | (intro acts; rw [hr _ acts rfl rfl rfl]) | rw [hr _ _ rfl rfl rfl]
    exact Steps.refl _
  · show Q7 Z a1 a2 w4 w6 w8 w10 w12 w14 w16 w18 h0 n0 _ T20.heap _
    exact ⟨b3, rfl, N20, sz_b3, K3.trans K20q (allS (Or.inr sz_b3) all0), O20q⟩
theorem pn_0 : plainName "com/example/psyche/psyche/selection/ConfusionExamplesPinLaw" = true := by first | (simp [plainName, overriddenIn]; done) | decide +kernel
theorem pd_0_0 : parseMethodDescriptor "(IIII)V" = some ⟨[.int, .int, .int, .int], none⟩ := by decide +kernel
theorem pd_0_2 : parseMethodDescriptor "()I" = some ⟨[], some .int⟩ := by decide +kernel
theorem pd_0_3 : parseMethodDescriptor "(Lcom/example/psyche/psyche/selection/Confusion;)Lcom/example/psyche/psyche/selection/Confusion;" = some ⟨[(.object "com/example/psyche/psyche/selection/Confusion")], some (.object "com/example/psyche/psyche/selection/Confusion")⟩ := by decide +kernel
theorem ef_0 (m : MethodId) (x0 : Int32) (x1 : Int32) (x2 : Int32) (x3 : Int32) (x4 : Int32) (x5 : Int32) : entryFrame m #[(.int x0), (.int x1), (.int x2), (.int x3), (.int x4), (.int x5)] maxLocals = mkF m 0 #[.val (.int x0), .val (.int x1), .val (.int x2), .val (.int x3), .val (.int x4), .val (.int x5), .unset, .unset, .unset, .unset, .unset, .unset] [] := by first | (simp [entryFrame, mkF, argsToLocals, Value.category, maxLocals]; done) | rfl
def Q0 (Z : State) (p1 : Int32) (p2 : Int32) (p3 : Int32) (p4 : Int32) (p5 : Int32) (p6 : Int32) (h0 : Heap) (n0 : Nat) (v : Option Value) (h : Heap) (L : List Loc) : Prop := v = some (.int (1 : Int32)) ∧ Fr n0 L
set_option maxRecDepth 65536 in
set_option maxHeartbeats 40000000 in
theorem rm0_f (l : Launch) (Z : State) (a0 : Array Value) (hw : ∀ d ∈ tables_1, d.before a0 Z = true) (ws : List Jvm.Cond) (p1 : Int32) (p2 : Int32) (p3 : Int32) (p4 : Int32) (p5 : Int32) (p6 : Int32) (h0 : Heap) (n0 : Nat) (Z0 : n0 ≤ h0.size) (hc107 : ¬ ((1 : Int32) = (0 : Int32))) (hc112 : ¬ ((1 : Int32) = (0 : Int32))) (hc117 : ¬ ((1 : Int32) = (0 : Int32))) (hx46 : (((p1 + p2) + p3) + p4) = (((p1 + p2) + p3) + p4)) (hx67 : (((p1 + p2) + p3) + p4) = (((p1 + p4) + p2) + p3)) (hx95 : ((((p1 + p5) + (p2 + p6)) + (p3 + p4)) + (p4 + p1)) = ((((p1 + p2) + p3) + p4) + (((p5 + p6) + p4) + p1))) :
    MetFree l x (head1 (Jvm.Cond.code x code maxLocals ret :: ws) room_1) (fun a U => a = #[(.int p1), (.int p2), (.int p3), (.int p4), (.int p5), (.int p6)] ∧ Z.Warmed39 U.vm ∧ U.heap = h0) (fun _ _ _ _ _ => True) (fun _ U o U' => ∃ v L, o = .returned v ∧ Q0 Z p1 p2 p3 p4 p5 p6 h0 n0 v U'.heap L ∧ FrameEnd U o U' L room_1.cells room_1.slots) := by
  refine MetFree.of_bodySF (plainFor_of_name pn_0) hisR ?_
  intro p e s m args below meth c s₁ Bd hml0 hP hK
  obtain ⟨rfl, hZ, hh⟩ := hP
  have hx := Bd.exec
  have hby := Bd.bytes
  have hml : c.maxLocals = 12 := hml0
  have hown : s.vm.findClass "com/example/psyche/psyche/selection/ConfusionExamplesPinLaw" = some m.cls := findClass_of_methodNamed Bd.named
  have hnm := (name_of_methodNamed Bd.named Bd.method).1
  have X0 : Stand p l e room_1 s m #[(.int p1), (.int p2), (.int p3), (.int p4), (.int p5), (.int p6)] below meth c s₁ [] 0 0 := Stand.of_body Bd
  have e0 : s₁.heap = h0 := by rw [← hh, Bd.state]; rfl
  have N0 := Fr.nil n0
  have pre0 : ∀ t, Steps p.tables e below (s₁.setTop (mkF m 0 #[.val (.int p1), .val (.int p2), .val (.int p3), .val (.int p4), .val (.int p5), .val (.int p6), .unset, .unset, .unset, .unset, .unset, .unset] [])) t → Steps p.tables e below (s₁.setTop (entryFrame m #[(.int p1), (.int p2), (.int p3), (.int p4), (.int p5), (.int p6)] maxLocals)) t := fun t k => castTop (ef_0 m p1 p2 p3 p4 p5 p6) k
  obtain ⟨T7, h7, X7, e7, E7, A7, D7, -, st7⟩ := newO X0 hx hZ hown (hw _ (List.mem_of_getElem? (i := 0) rfl)) (hw _ (List.mem_of_getElem? (i := 1) rfl)) (hw _ (List.mem_of_getElem? (i := 2) rfl)) e0 (g := (mkF m 0 #[.val (.int p1), .val (.int p2), .val (.int p3), .val (.int p4), .val (.int p5), .val (.int p6), .unset, .unset, .unset, .unset, .unset, .unset] [])) rfl (hb hby at_0) (by decide) (by decide)
  obtain ⟨b7, g7⟩ : ∃ z, z = h0.size := ⟨_, rfl⟩
  rw [← g7] at A7 D7 st7
  have F_truePositives_b7 : Fld Z h7 b7 "com/example/psyche/psyche/selection/Confusion" "truePositives" "I" (.int (0 : Int32)) := D7 (Or.inr (hw _ (List.mem_of_getElem? (i := 15) rfl))) (ty := .int) (by decide)
  have F_falsePositives_b7 : Fld Z h7 b7 "com/example/psyche/psyche/selection/Confusion" "falsePositives" "I" (.int (0 : Int32)) := D7 (Or.inr (hw _ (List.mem_of_getElem? (i := 17) rfl))) (ty := .int) (by decide)
  have F_falseNegatives_b7 : Fld Z h7 b7 "com/example/psyche/psyche/selection/Confusion" "falseNegatives" "I" (.int (0 : Int32)) := D7 (Or.inr (hw _ (List.mem_of_getElem? (i := 19) rfl))) (ty := .int) (by decide)
  have F_trueNegatives_b7 : Fld Z h7 b7 "com/example/psyche/psyche/selection/Confusion" "trueNegatives" "I" (.int (0 : Int32)) := D7 (Or.inr (hw _ (List.mem_of_getElem? (i := 21) rfl))) (ty := .int) (by decide)
  have E_b7 := A7
  have g_b7 : n0 ≤ b7 := Nat.le_trans Z0 (Nat.le_of_eq g7.symm)
  have sz_b7 : h0.size ≤ b7 := (Nat.le_trans (Keep.refl h0 []).1 (Nat.le_of_eq g7.symm))
  have K7 : Keep h0 h7 [] := (Keep.refl h0 []).ext E7
  obtain ⟨_, _, ⟨T8, L8, k8, n8⟩, -, X8, ⟨Lc8, hQ8, l8, y8, z8⟩, st8⟩ := X7.specialBack hx (y := (⟨"com/example/psyche/psyche/selection/Confusion", "<init>", "(IIII)V"⟩ : MethodName)) rfl hown (mvT hZ (hw _ (List.mem_of_getElem? (i := 3) rfl))) (mvT hZ (hw _ (List.mem_of_getElem? (i := 4) rfl))) (mvT hZ (hw _ (List.mem_of_getElem? (i := 5) rfl))) (by decide) (backOf (W := 1) (rm1 l Z a0 hw [] b7 p1 p2 p3 p4 (.int (0 : Int32)) (.int (0 : Int32)) (.int (0 : Int32)) (.int (0 : Int32)) h7 n0 (Nat.le_trans Z0 E7.1) E_b7 F_truePositives_b7 g_b7 F_falsePositives_b7 F_falseNegatives_b7 F_trueNegatives_b7) hZ (hw _ (List.mem_of_getElem? (i := 5) rfl)) (hw _ (List.mem_of_getElem? (i := 2) rfl)) (by decide) (by decide)) (g := (mkF m 8 #[.val (.int p1), .val (.int p2), .val (.int p3), .val (.int p4), .val (.int p5), .val (.int p6), .unset, .unset, .unset, .unset, .unset, .unset] [(.int p4), (.int p3), (.int p2), (.int p1), (.ref b7), (.ref b7)])) rfl (by rw [hml]; rfl) (Steps.refl _) (a := b7) (argsL := [(.int p1), (.int p2), (.int p3), (.int p4)]) (rest := [(.ref b7)]) (lenOf pd_0_0 rfl) rfl (by show 2 * 0 + _ ≤ _; exact Nat.le_of_eq rfl) (hb hby at_8) (fun _ _ => ⟨rfl, e7, (by decide : 1 + 0 ≤ _), (by decide : 4 + 0 ≤ _)⟩)
  dsimp only [Pt.U, Pt.locs, Pt.cells, Pt.slots] at X8 l8 y8 z8 st8 hQ8
  subst l8 y8 z8
  obtain ⟨rfl, N8q, K8q, X8q⟩ := hQ8
  have Z8 : n0 ≤ T8.heap.size := Nat.le_trans (Nat.le_trans Z0 E7.1) K8q.1
  have K8w : Keep h0 T8.heap [] := K7.trans K8q (allS (Or.inr sz_b7) all0)
  have N8 := Fr.app N0 N8q
  obtain ⟨T9, h9, X9, e9, E9, A9, D9, -, st9⟩ := newO X8 hx hZ hown (hw _ (List.mem_of_getElem? (i := 0) rfl)) (hw _ (List.mem_of_getElem? (i := 1) rfl)) (hw _ (List.mem_of_getElem? (i := 2) rfl)) rfl (g := (mkF m 13 #[.val (.int p1), .val (.int p2), .val (.int p3), .val (.int p4), .val (.int p5), .val (.int p6), .val (.ref b7), .unset, .unset, .unset, .unset, .unset] [])) rfl (hb hby at_13) (by decide) (by decide)
  obtain ⟨b9, g9⟩ : ∃ z, z = T8.heap.size := ⟨_, rfl⟩
  rw [← g9] at A9 D9 st9
  have F_truePositives_b9 : Fld Z h9 b9 "com/example/psyche/psyche/selection/Confusion" "truePositives" "I" (.int (0 : Int32)) := D9 (Or.inr (hw _ (List.mem_of_getElem? (i := 15) rfl))) (ty := .int) (by decide)
  have F_falsePositives_b9 : Fld Z h9 b9 "com/example/psyche/psyche/selection/Confusion" "falsePositives" "I" (.int (0 : Int32)) := D9 (Or.inr (hw _ (List.mem_of_getElem? (i := 17) rfl))) (ty := .int) (by decide)
  have F_falseNegatives_b9 : Fld Z h9 b9 "com/example/psyche/psyche/selection/Confusion" "falseNegatives" "I" (.int (0 : Int32)) := D9 (Or.inr (hw _ (List.mem_of_getElem? (i := 19) rfl))) (ty := .int) (by decide)
  have F_trueNegatives_b9 : Fld Z h9 b9 "com/example/psyche/psyche/selection/Confusion" "trueNegatives" "I" (.int (0 : Int32)) := D9 (Or.inr (hw _ (List.mem_of_getElem? (i := 21) rfl))) (ty := .int) (by decide)
  have E_b9 := A9
  have g_b9 : n0 ≤ b9 := Nat.le_trans (Nat.le_trans (Nat.le_trans Z0 E7.1) K8q.1) (Nat.le_of_eq g9.symm)
  have sz_b9 : h0.size ≤ b9 := (Nat.le_trans K8w.1 (Nat.le_of_eq g9.symm))
  have K9 : Keep h0 h9 [] := K8w.ext E9
  obtain ⟨_, _, ⟨T10, L10, k10, n10⟩, -, X10, ⟨Lc10, hQ10, l10, y10, z10⟩, st10⟩ := X9.specialBack hx (y := (⟨"com/example/psyche/psyche/selection/Confusion", "<init>", "(IIII)V"⟩ : MethodName)) rfl hown (mvT hZ (hw _ (List.mem_of_getElem? (i := 3) rfl))) (mvT hZ (hw _ (List.mem_of_getElem? (i := 4) rfl))) (mvT hZ (hw _ (List.mem_of_getElem? (i := 5) rfl))) (by decide) (backOf (W := 1) (rm1 l Z a0 hw [] b9 p5 p6 p4 p1 (.int (0 : Int32)) (.int (0 : Int32)) (.int (0 : Int32)) (.int (0 : Int32)) h9 n0 (Nat.le_trans Z8 E9.1) E_b9 F_truePositives_b9 g_b9 F_falsePositives_b9 F_falseNegatives_b9 F_trueNegatives_b9) hZ (hw _ (List.mem_of_getElem? (i := 5) rfl)) (hw _ (List.mem_of_getElem? (i := 2) rfl)) (by decide) (by decide)) (g := (mkF m 23 #[.val (.int p1), .val (.int p2), .val (.int p3), .val (.int p4), .val (.int p5), .val (.int p6), .val (.ref b7), .unset, .unset, .unset, .unset, .unset] [(.int p1), (.int p4), (.int p6), (.int p5), (.ref b9), (.ref b9)])) rfl (by rw [hml]; rfl) (Steps.refl _) (a := b9) (argsL := [(.int p5), (.int p6), (.int p4), (.int p1)]) (rest := [(.ref b9)]) (lenOf pd_0_0 rfl) rfl (by show 2 * 0 + _ ≤ _; exact Nat.le_of_eq rfl) (hb hby at_23) (fun _ _ => ⟨rfl, e9, (by decide : 2 + 0 ≤ _), (by decide : 8 + 0 ≤ _)⟩)
  dsimp only [Pt.U, Pt.locs, Pt.cells, Pt.slots] at X10 l10 y10 z10 st10 hQ10
  subst l10 y10 z10
  obtain ⟨rfl, N10q, K10q, Y10q⟩ := hQ10
  have Z10 : n0 ≤ T10.heap.size := Nat.le_trans (Nat.le_trans Z8 E9.1) K10q.1
  have ne79 : b7 ≠ b9 := Nat.ne_of_lt (Nat.lt_of_lt_of_le X8q.2.1.lt (Nat.le_of_eq g9.symm))
  have X10q : own_C Z T10.heap b7 p1 p2 p3 p4 := own_C_keep (own_C_ext X8q E9) K10q (ninS ne79 nin0)
  have N10 := Fr.app N8 N10q
  obtain ⟨cq11, kq11, q11a, q11b, q11c⟩ := isOf hZ rfl X10q.1
  obtain ⟨_, _, ⟨T11, L11, k11, n11⟩, -, X11, ⟨Lc11, hQ11, l11, y11, z11⟩, st11⟩ := X10.virtualBack hx (y := (⟨"com/example/psyche/psyche/selection/Confusion", "examples", "()I"⟩ : MethodName)) (z := (⟨"com/example/psyche/psyche/selection/Confusion", "examples", "()I"⟩ : MethodName)) hown (mvT hZ (hw _ (List.mem_of_getElem? (i := 22) rfl))) (mvT hZ (hw _ (List.mem_of_getElem? (i := 23) rfl))) (notFace_of_selects (args := #[]) (mvT hZ (hw _ (List.mem_of_getElem? (i := 25) rfl)))) (mvT hZ (hw _ (List.mem_of_getElem? (i := 25) rfl))) (mvT hZ (hw _ (List.mem_of_getElem? (i := 24) rfl))) (by decide) (backOf (W := 0) (rm4 l Z a0 hw [] b7 p1 p2 p3 p4 T10.heap n0 Z10 X10q.2.1 X10q.2.2.1 X10q.2.2.2.1 X10q.2.2.2.2) hZ (hw _ (List.mem_of_getElem? (i := 26) rfl)) (hw _ (List.mem_of_getElem? (i := 2) rfl)) (by decide) (by decide)) q11a q11c (g := (mkF m 30 #[.val (.int p1), .val (.int p2), .val (.int p3), .val (.int p4), .val (.int p5), .val (.int p6), .val (.ref b7), .val (.ref b9), .unset, .unset, .unset, .unset] [(.ref b7)])) rfl (by rw [hml]; rfl) (Steps.refl _) (argsL := []) (rest := []) (lenOf pd_0_2 rfl) rfl (by show 2 * 0 + _ ≤ _; exact Nat.le_of_eq rfl) (hb hby at_30) (fun _ _ => ⟨rfl, rfl, (by decide : 2 + 0 ≤ _), (by decide : 8 + 0 ≤ _)⟩)
  dsimp only [Pt.U, Pt.locs, Pt.cells, Pt.slots] at X11 l11 y11 z11 st11 hQ11
  subst l11 y11 z11
  obtain ⟨rfl, N11q, e11q⟩ := hQ11
  have Z11 : n0 ≤ T11.heap.size := by rw [e11q]; exact Z10
  have X11q : own_C Z T11.heap b7 p1 p2 p3 p4 := by rw [e11q]; exact X10q
  have Y11q : own_C Z T11.heap b9 p5 p6 p4 p1 := by rw [e11q]; exact Y10q
  have N11 := Fr.app N10 N11q
  obtain ⟨cq12, kq12, q12a, q12b, q12c⟩ := isOf hZ rfl X11q.1
  obtain ⟨_, _, ⟨T12, L12, k12, n12⟩, -, X12, ⟨Lc12, hQ12, l12, y12, z12⟩, st12⟩ := X11.virtualBack hx (y := (⟨"com/example/psyche/psyche/selection/Confusion", "taken", "()I"⟩ : MethodName)) (z := (⟨"com/example/psyche/psyche/selection/Confusion", "taken", "()I"⟩ : MethodName)) hown (mvT hZ (hw _ (List.mem_of_getElem? (i := 27) rfl))) (mvT hZ (hw _ (List.mem_of_getElem? (i := 28) rfl))) (notFace_of_selects (args := #[]) (mvT hZ (hw _ (List.mem_of_getElem? (i := 30) rfl)))) (mvT hZ (hw _ (List.mem_of_getElem? (i := 30) rfl))) (mvT hZ (hw _ (List.mem_of_getElem? (i := 29) rfl))) (by decide) (backOf (W := 1) (rm5 l Z a0 hw [] b7 p1 p2 T11.heap n0 Z11 X11q.2.1 X11q.2.2.1) hZ (hw _ (List.mem_of_getElem? (i := 31) rfl)) (hw _ (List.mem_of_getElem? (i := 2) rfl)) (by decide) (by decide)) q12a q12c (g := (mkF m 39 #[.val (.int p1), .val (.int p2), .val (.int p3), .val (.int p4), .val (.int p5), .val (.int p6), .val (.ref b7), .val (.ref b9), .val (.int (((p1 + p2) + p3) + p4)), .unset, .unset, .unset] [(.ref b7), (.int (((p1 + p2) + p3) + p4))])) rfl (by rw [hml]; rfl) (Steps.refl _) (argsL := []) (rest := [(.int (((p1 + p2) + p3) + p4))]) (lenOf pd_0_2 rfl) rfl (by show 2 * 0 + _ ≤ _; exact Nat.le_of_eq rfl) (hb hby at_39) (fun _ _ => ⟨rfl, rfl, (by decide : 2 + 0 ≤ _), (by decide : 8 + 0 ≤ _)⟩)
  dsimp only [Pt.U, Pt.locs, Pt.cells, Pt.slots] at X12 l12 y12 z12 st12 hQ12
  subst l12 y12 z12
  obtain ⟨rfl, N12q, e12q⟩ := hQ12
  have Z12 : n0 ≤ T12.heap.size := by rw [e12q]; exact Z11
  have X12q : own_C Z T12.heap b7 p1 p2 p3 p4 := by rw [e12q]; exact X11q
  have Y12q : own_C Z T12.heap b9 p5 p6 p4 p1 := by rw [e12q]; exact Y11q
  have N12 := Fr.app N11 N12q
  obtain ⟨cq13, kq13, q13a, q13b, q13c⟩ := isOf hZ rfl X12q.1
  obtain ⟨_, _, ⟨T13, L13, k13, n13⟩, -, X13, ⟨Lc13, hQ13, l13, y13, z13⟩, st13⟩ := X12.virtualBack hx (y := (⟨"com/example/psyche/psyche/selection/Confusion", "right", "()I"⟩ : MethodName)) (z := (⟨"com/example/psyche/psyche/selection/Confusion", "right", "()I"⟩ : MethodName)) hown (mvT hZ (hw _ (List.mem_of_getElem? (i := 32) rfl))) (mvT hZ (hw _ (List.mem_of_getElem? (i := 33) rfl))) (notFace_of_selects (args := #[]) (mvT hZ (hw _ (List.mem_of_getElem? (i := 35) rfl)))) (mvT hZ (hw _ (List.mem_of_getElem? (i := 35) rfl))) (mvT hZ (hw _ (List.mem_of_getElem? (i := 34) rfl))) (by decide) (backOf (W := 1) (rm6 l Z a0 hw [] b7 p1 p4 T12.heap n0 Z12 X12q.2.1 X12q.2.2.2.2) hZ (hw _ (List.mem_of_getElem? (i := 36) rfl)) (hw _ (List.mem_of_getElem? (i := 2) rfl)) (by decide) (by decide)) q13a q13c (g := (mkF m 60 #[.val (.int p1), .val (.int p2), .val (.int p3), .val (.int p4), .val (.int p5), .val (.int p6), .val (.ref b7), .val (.ref b9), .val (.int (((p1 + p2) + p3) + p4)), .val (.int (1 : Int32)), .unset, .unset] [(.ref b7), (.int (((p1 + p2) + p3) + p4))])) rfl (by rw [hml]; rfl) (Steps.refl _) (argsL := []) (rest := [(.int (((p1 + p2) + p3) + p4))]) (lenOf pd_0_2 rfl) rfl (by show 2 * 0 + _ ≤ _; exact Nat.le_of_eq rfl) (hb hby at_60) (fun _ _ => ⟨rfl, rfl, (by decide : 2 + 0 ≤ _), (by decide : 8 + 0 ≤ _)⟩)
  dsimp only [Pt.U, Pt.locs, Pt.cells, Pt.slots] at X13 l13 y13 z13 st13 hQ13
  subst l13 y13 z13
  obtain ⟨rfl, N13q, e13q⟩ := hQ13
  have Z13 : n0 ≤ T13.heap.size := by rw [e13q]; exact Z12
  have X13q : own_C Z T13.heap b7 p1 p2 p3 p4 := by rw [e13q]; exact X12q
  have Y13q : own_C Z T13.heap b9 p5 p6 p4 p1 := by rw [e13q]; exact Y12q
  have N13 := Fr.app N12 N13q
  obtain ⟨cq14, kq14, q14a, q14b, q14c⟩ := isOf hZ rfl X13q.1
  obtain ⟨_, _, ⟨T14, L14, k14, n14⟩, -, X14, ⟨Lc14, hQ14, l14, y14, z14⟩, st14⟩ := X13.virtualBack hx (y := (⟨"com/example/psyche/psyche/selection/Confusion", "plus", "(Lcom/example/psyche/psyche/selection/Confusion;)Lcom/example/psyche/psyche/selection/Confusion;"⟩ : MethodName)) (z := (⟨"com/example/psyche/psyche/selection/Confusion", "plus", "(Lcom/example/psyche/psyche/selection/Confusion;)Lcom/example/psyche/psyche/selection/Confusion;"⟩ : MethodName)) hown (mvT hZ (hw _ (List.mem_of_getElem? (i := 37) rfl))) (mvT hZ (hw _ (List.mem_of_getElem? (i := 38) rfl))) (notFace_of_selects (args := #[]) (mvT hZ (hw _ (List.mem_of_getElem? (i := 40) rfl)))) (mvT hZ (hw _ (List.mem_of_getElem? (i := 40) rfl))) (mvT hZ (hw _ (List.mem_of_getElem? (i := 39) rfl))) (by decide) (backOf (W := 0) (rm7 l Z a0 hw [] b7 b9 p1 p5 p2 p6 p3 p4 p4 p1 T13.heap n0 Z13 X13q.2.1 Y13q.2.1 X13q.2.2.1 Y13q.2.2.1 X13q.2.2.2.1 Y13q.2.2.2.1 X13q.2.2.2.2 Y13q.2.2.2.2) hZ (hw _ (List.mem_of_getElem? (i := 41) rfl)) (hw _ (List.mem_of_getElem? (i := 2) rfl)) (by decide) (by decide)) q14a q14c (g := (mkF m 81 #[.val (.int p1), .val (.int p2), .val (.int p3), .val (.int p4), .val (.int p5), .val (.int p6), .val (.ref b7), .val (.ref b9), .val (.int (((p1 + p2) + p3) + p4)), .val (.int (1 : Int32)), .val (.int (1 : Int32)), .unset] [(.ref b9), (.ref b7)])) rfl (by rw [hml]; rfl) (Steps.refl _) (argsL := [(.ref b9)]) (rest := []) (lenOf pd_0_3 rfl) rfl (by show 2 * 0 + _ ≤ _; exact Nat.le_of_eq rfl) (hb hby at_81) (fun _ _ => ⟨rfl, rfl, (by decide : 2 + 1 ≤ _), (by decide : 8 + 4 ≤ _)⟩)
  dsimp only [Pt.U, Pt.locs, Pt.cells, Pt.slots] at X14 l14 y14 z14 st14 hQ14
  subst l14 y14 z14
  obtain ⟨b14, rfl, N14q, S14q, K14q, O14q⟩ := hQ14
  have Z14 : n0 ≤ T14.heap.size := Nat.le_trans Z13 K14q.1
  have Y14q : own_C Z T14.heap b9 p5 p6 p4 p1 := own_C_keep Y13q K14q nin0
  have N14 := Fr.app N13 N14q
  obtain ⟨cq15, kq15, q15a, q15b, q15c⟩ := isOf hZ rfl O14q.1
  obtain ⟨_, _, ⟨T15, L15, k15, n15⟩, -, X15, ⟨Lc15, hQ15, l15, y15, z15⟩, st15⟩ := X14.virtualBack hx (y := (⟨"com/example/psyche/psyche/selection/Confusion", "examples", "()I"⟩ : MethodName)) (z := (⟨"com/example/psyche/psyche/selection/Confusion", "examples", "()I"⟩ : MethodName)) hown (mvT hZ (hw _ (List.mem_of_getElem? (i := 22) rfl))) (mvT hZ (hw _ (List.mem_of_getElem? (i := 23) rfl))) (notFace_of_selects (args := #[]) (mvT hZ (hw _ (List.mem_of_getElem? (i := 25) rfl)))) (mvT hZ (hw _ (List.mem_of_getElem? (i := 25) rfl))) (mvT hZ (hw _ (List.mem_of_getElem? (i := 24) rfl))) (by decide) (backOf (W := 0) (rm4 l Z a0 hw [] b14 (p1 + p5) (p2 + p6) (p3 + p4) (p4 + p1) T14.heap n0 Z14 O14q.2.1 O14q.2.2.1 O14q.2.2.2.1 O14q.2.2.2.2) hZ (hw _ (List.mem_of_getElem? (i := 26) rfl)) (hw _ (List.mem_of_getElem? (i := 2) rfl)) (by decide) (by decide)) q15a q15c (g := (mkF m 84 #[.val (.int p1), .val (.int p2), .val (.int p3), .val (.int p4), .val (.int p5), .val (.int p6), .val (.ref b7), .val (.ref b9), .val (.int (((p1 + p2) + p3) + p4)), .val (.int (1 : Int32)), .val (.int (1 : Int32)), .unset] [(.ref b14)])) rfl (by rw [hml]; rfl) (Steps.refl _) (argsL := []) (rest := []) (lenOf pd_0_2 rfl) rfl (by show 2 * 0 + _ ≤ _; exact Nat.le_of_eq rfl) (hb hby at_84) (fun _ _ => ⟨rfl, rfl, (by decide : 2 + (1 + 0) ≤ _), (by decide : 8 + (4 + 0) ≤ _)⟩)
  dsimp only [Pt.U, Pt.locs, Pt.cells, Pt.slots] at X15 l15 y15 z15 st15 hQ15
  subst l15 y15 z15
  obtain ⟨rfl, N15q, e15q⟩ := hQ15
  have Z15 : n0 ≤ T15.heap.size := by rw [e15q]; exact Z14
  have Y15q : own_C Z T15.heap b9 p5 p6 p4 p1 := by rw [e15q]; exact Y14q
  have N15 := Fr.app N14 N15q
  obtain ⟨cq16, kq16, q16a, q16b, q16c⟩ := isOf hZ rfl Y15q.1
  obtain ⟨_, _, ⟨T16, L16, k16, n16⟩, -, X16, ⟨Lc16, hQ16, l16, y16, z16⟩, st16⟩ := X15.virtualBack hx (y := (⟨"com/example/psyche/psyche/selection/Confusion", "examples", "()I"⟩ : MethodName)) (z := (⟨"com/example/psyche/psyche/selection/Confusion", "examples", "()I"⟩ : MethodName)) hown (mvT hZ (hw _ (List.mem_of_getElem? (i := 22) rfl))) (mvT hZ (hw _ (List.mem_of_getElem? (i := 23) rfl))) (notFace_of_selects (args := #[]) (mvT hZ (hw _ (List.mem_of_getElem? (i := 25) rfl)))) (mvT hZ (hw _ (List.mem_of_getElem? (i := 25) rfl))) (mvT hZ (hw _ (List.mem_of_getElem? (i := 24) rfl))) (by decide) (backOf (W := 2) (rm4 l Z a0 hw [] b9 p5 p6 p4 p1 T15.heap n0 Z15 Y15q.2.1 Y15q.2.2.1 Y15q.2.2.2.1 Y15q.2.2.2.2) hZ (hw _ (List.mem_of_getElem? (i := 26) rfl)) (hw _ (List.mem_of_getElem? (i := 2) rfl)) (by decide) (by decide)) q16a q16c (g := (mkF m 91 #[.val (.int p1), .val (.int p2), .val (.int p3), .val (.int p4), .val (.int p5), .val (.int p6), .val (.ref b7), .val (.ref b9), .val (.int (((p1 + p2) + p3) + p4)), .val (.int (1 : Int32)), .val (.int (1 : Int32)), .unset] [(.ref b9), (.int (((p1 + p2) + p3) + p4)), (.int ((((p1 + p5) + (p2 + p6)) + (p3 + p4)) + (p4 + p1)))])) rfl (by rw [hml]; rfl) (Steps.refl _) (argsL := []) (rest := [(.int (((p1 + p2) + p3) + p4)), (.int ((((p1 + p5) + (p2 + p6)) + (p3 + p4)) + (p4 + p1)))]) (lenOf pd_0_2 rfl) rfl (by show 2 * 0 + _ ≤ _; exact Nat.le_of_eq rfl) (hb hby at_91) (fun _ _ => ⟨rfl, rfl, (by decide : 2 + (1 + 0) ≤ _), (by decide : 8 + (4 + 0) ≤ _)⟩)
  dsimp only [Pt.U, Pt.locs, Pt.cells, Pt.slots] at X16 l16 y16 z16 st16 hQ16
  subst l16 y16 z16
  obtain ⟨rfl, N16q, e16q⟩ := hQ16
  have N16 := Fr.app N15 N16q
  obtain ⟨fs, hr, hrun, hended, hW, hsame⟩ := X16.leave (v := some (.int (1 : Int32))) (fun h => by rw [Bd.returns] at h; cases h)
  refine ⟨_, _, pre0 _ ?_, hrun, hended, _, _, rfl, ?_, ⟨_, rfl⟩, hW, hsame.mono (by decide) (by decide)⟩
  · show Steps p.tables e below (s₁.setTop (mkF m 0 #[.val (.int p1), .val (.int p2), .val (.int p3), .val (.int p4), .val (.int p5), .val (.int p6), .unset, .unset, .unset, .unset, .unset, .unset] [])) _
    refine st7 _ ?_
    show Steps p.tables e below (T7.setTop (mkF m 3 #[.val (.int p1), .val (.int p2), .val (.int p3), .val (.int p4), .val (.int p5), .val (.int p6), .unset, .unset, .unset, .unset, .unset, .unset] [(.ref b7)])) _
    refine XS.dup X7.here hx rfl (hb hby at_3) rfl rfl ?_
    show Steps p.tables e below (T7.setTop (mkF m 4 #[.val (.int p1), .val (.int p2), .val (.int p3), .val (.int p4), .val (.int p5), .val (.int p6), .unset, .unset, .unset, .unset, .unset, .unset] [(.ref b7), (.ref b7)])) _
    refine XS.iloadN X7.here hx rfl (hb hby at_4) rfl ?_
    show Steps p.tables e below (T7.setTop (mkF m 5 #[.val (.int p1), .val (.int p2), .val (.int p3), .val (.int p4), .val (.int p5), .val (.int p6), .unset, .unset, .unset, .unset, .unset, .unset] [(.int p1), (.ref b7), (.ref b7)])) _
    refine XS.iloadN X7.here hx rfl (hb hby at_5) rfl ?_
    show Steps p.tables e below (T7.setTop (mkF m 6 #[.val (.int p1), .val (.int p2), .val (.int p3), .val (.int p4), .val (.int p5), .val (.int p6), .unset, .unset, .unset, .unset, .unset, .unset] [(.int p2), (.int p1), (.ref b7), (.ref b7)])) _
    refine XS.iloadN X7.here hx rfl (hb hby at_6) rfl ?_
    show Steps p.tables e below (T7.setTop (mkF m 7 #[.val (.int p1), .val (.int p2), .val (.int p3), .val (.int p4), .val (.int p5), .val (.int p6), .unset, .unset, .unset, .unset, .unset, .unset] [(.int p3), (.int p2), (.int p1), (.ref b7), (.ref b7)])) _
    refine XS.iloadN X7.here hx rfl (hb hby at_7) rfl ?_
    show Steps p.tables e below (T7.setTop (mkF m 8 #[.val (.int p1), .val (.int p2), .val (.int p3), .val (.int p4), .val (.int p5), .val (.int p6), .unset, .unset, .unset, .unset, .unset, .unset] [(.int p4), (.int p3), (.int p2), (.int p1), (.ref b7), (.ref b7)])) _
    refine st8.trans ?_
    show Steps p.tables e below (T8.setTop (mkF m 11 #[.val (.int p1), .val (.int p2), .val (.int p3), .val (.int p4), .val (.int p5), .val (.int p6), .unset, .unset, .unset, .unset, .unset, .unset] [(.ref b7)])) _
    refine XS.astore X8.here hx rfl (hb hby at_11) rfl rfl (l' := #[.val (.int p1), .val (.int p2), .val (.int p3), .val (.int p4), .val (.int p5), .val (.int p6), .val (.ref b7), .unset, .unset, .unset, .unset, .unset]) rfl ?_
    show Steps p.tables e below (T8.setTop (mkF m 13 #[.val (.int p1), .val (.int p2), .val (.int p3), .val (.int p4), .val (.int p5), .val (.int p6), .val (.ref b7), .unset, .unset, .unset, .unset, .unset] [])) _
    refine st9 _ ?_
    show Steps p.tables e below (T9.setTop (mkF m 16 #[.val (.int p1), .val (.int p2), .val (.int p3), .val (.int p4), .val (.int p5), .val (.int p6), .val (.ref b7), .unset, .unset, .unset, .unset, .unset] [(.ref b9)])) _
    refine XS.dup X9.here hx rfl (hb hby at_16) rfl rfl ?_
    show Steps p.tables e below (T9.setTop (mkF m 17 #[.val (.int p1), .val (.int p2), .val (.int p3), .val (.int p4), .val (.int p5), .val (.int p6), .val (.ref b7), .unset, .unset, .unset, .unset, .unset] [(.ref b9), (.ref b9)])) _
    refine XS.iload X9.here hx rfl (hb hby at_17) rfl ?_
    show Steps p.tables e below (T9.setTop (mkF m 19 #[.val (.int p1), .val (.int p2), .val (.int p3), .val (.int p4), .val (.int p5), .val (.int p6), .val (.ref b7), .unset, .unset, .unset, .unset, .unset] [(.int p5), (.ref b9), (.ref b9)])) _
    refine XS.iload X9.here hx rfl (hb hby at_19) rfl ?_
    show Steps p.tables e below (T9.setTop (mkF m 21 #[.val (.int p1), .val (.int p2), .val (.int p3), .val (.int p4), .val (.int p5), .val (.int p6), .val (.ref b7), .unset, .unset, .unset, .unset, .unset] [(.int p6), (.int p5), (.ref b9), (.ref b9)])) _
    refine XS.iloadN X9.here hx rfl (hb hby at_21) rfl ?_
    show Steps p.tables e below (T9.setTop (mkF m 22 #[.val (.int p1), .val (.int p2), .val (.int p3), .val (.int p4), .val (.int p5), .val (.int p6), .val (.ref b7), .unset, .unset, .unset, .unset, .unset] [(.int p4), (.int p6), (.int p5), (.ref b9), (.ref b9)])) _
    refine XS.iloadN X9.here hx rfl (hb hby at_22) rfl ?_
    show Steps p.tables e below (T9.setTop (mkF m 23 #[.val (.int p1), .val (.int p2), .val (.int p3), .val (.int p4), .val (.int p5), .val (.int p6), .val (.ref b7), .unset, .unset, .unset, .unset, .unset] [(.int p1), (.int p4), (.int p6), (.int p5), (.ref b9), (.ref b9)])) _
    refine st10.trans ?_
    show Steps p.tables e below (T10.setTop (mkF m 26 #[.val (.int p1), .val (.int p2), .val (.int p3), .val (.int p4), .val (.int p5), .val (.int p6), .val (.ref b7), .unset, .unset, .unset, .unset, .unset] [(.ref b9)])) _
    refine XS.astore X10.here hx rfl (hb hby at_26) rfl rfl (l' := #[.val (.int p1), .val (.int p2), .val (.int p3), .val (.int p4), .val (.int p5), .val (.int p6), .val (.ref b7), .val (.ref b9), .unset, .unset, .unset, .unset]) rfl ?_
    show Steps p.tables e below (T10.setTop (mkF m 28 #[.val (.int p1), .val (.int p2), .val (.int p3), .val (.int p4), .val (.int p5), .val (.int p6), .val (.ref b7), .val (.ref b9), .unset, .unset, .unset, .unset] [])) _
    refine XS.aload X10.here hx rfl (hb hby at_28) rfl rfl ?_
    show Steps p.tables e below (T10.setTop (mkF m 30 #[.val (.int p1), .val (.int p2), .val (.int p3), .val (.int p4), .val (.int p5), .val (.int p6), .val (.ref b7), .val (.ref b9), .unset, .unset, .unset, .unset] [(.ref b7)])) _
    refine st11.trans ?_
    show Steps p.tables e below (T11.setTop (mkF m 33 #[.val (.int p1), .val (.int p2), .val (.int p3), .val (.int p4), .val (.int p5), .val (.int p6), .val (.ref b7), .val (.ref b9), .unset, .unset, .unset, .unset] [(.int (((p1 + p2) + p3) + p4))])) _
    refine XS.istore X11.here hx rfl (hb hby at_33) rfl (l' := #[.val (.int p1), .val (.int p2), .val (.int p3), .val (.int p4), .val (.int p5), .val (.int p6), .val (.ref b7), .val (.ref b9), .val (.int (((p1 + p2) + p3) + p4)), .unset, .unset, .unset]) rfl ?_
    show Steps p.tables e below (T11.setTop (mkF m 35 #[.val (.int p1), .val (.int p2), .val (.int p3), .val (.int p4), .val (.int p5), .val (.int p6), .val (.ref b7), .val (.ref b9), .val (.int (((p1 + p2) + p3) + p4)), .unset, .unset, .unset] [])) _
    refine XS.iload X11.here hx rfl (hb hby at_35) rfl ?_
    show Steps p.tables e below (T11.setTop (mkF m 37 #[.val (.int p1), .val (.int p2), .val (.int p3), .val (.int p4), .val (.int p5), .val (.int p6), .val (.ref b7), .val (.ref b9), .val (.int (((p1 + p2) + p3) + p4)), .unset, .unset, .unset] [(.int (((p1 + p2) + p3) + p4))])) _
    refine XS.aload X11.here hx rfl (hb hby at_37) rfl rfl ?_
    show Steps p.tables e below (T11.setTop (mkF m 39 #[.val (.int p1), .val (.int p2), .val (.int p3), .val (.int p4), .val (.int p5), .val (.int p6), .val (.ref b7), .val (.ref b9), .val (.int (((p1 + p2) + p3) + p4)), .unset, .unset, .unset] [(.ref b7), (.int (((p1 + p2) + p3) + p4))])) _
    refine st12.trans ?_
    show Steps p.tables e below (T12.setTop (mkF m 42 #[.val (.int p1), .val (.int p2), .val (.int p3), .val (.int p4), .val (.int p5), .val (.int p6), .val (.ref b7), .val (.ref b9), .val (.int (((p1 + p2) + p3) + p4)), .unset, .unset, .unset] [(.int (p1 + p2)), (.int (((p1 + p2) + p3) + p4))])) _
    refine XS.iloadN X12.here hx rfl (hb hby at_42) rfl ?_
    show Steps p.tables e below (T12.setTop (mkF m 43 #[.val (.int p1), .val (.int p2), .val (.int p3), .val (.int p4), .val (.int p5), .val (.int p6), .val (.ref b7), .val (.ref b9), .val (.int (((p1 + p2) + p3) + p4)), .unset, .unset, .unset] [(.int p3), (.int (p1 + p2)), (.int (((p1 + p2) + p3) + p4))])) _
    refine XS.iadd X12.here hx rfl (hb hby at_43) rfl ?_
    show Steps p.tables e below (T12.setTop (mkF m 44 #[.val (.int p1), .val (.int p2), .val (.int p3), .val (.int p4), .val (.int p5), .val (.int p6), .val (.ref b7), .val (.ref b9), .val (.int (((p1 + p2) + p3) + p4)), .unset, .unset, .unset] [(.int ((p1 + p2) + p3)), (.int (((p1 + p2) + p3) + p4))])) _
    refine XS.iloadN X12.here hx rfl (hb hby at_44) rfl ?_
    show Steps p.tables e below (T12.setTop (mkF m 45 #[.val (.int p1), .val (.int p2), .val (.int p3), .val (.int p4), .val (.int p5), .val (.int p6), .val (.ref b7), .val (.ref b9), .val (.int (((p1 + p2) + p3) + p4)), .unset, .unset, .unset] [(.int p4), (.int ((p1 + p2) + p3)), (.int (((p1 + p2) + p3) + p4))])) _
    refine XS.iadd X12.here hx rfl (hb hby at_45) rfl ?_
    show Steps p.tables e below (T12.setTop (mkF m 46 #[.val (.int p1), .val (.int p2), .val (.int p3), .val (.int p4), .val (.int p5), .val (.int p6), .val (.ref b7), .val (.ref b9), .val (.int (((p1 + p2) + p3) + p4)), .unset, .unset, .unset] [(.int (((p1 + p2) + p3) + p4)), (.int (((p1 + p2) + p3) + p4))])) _
    refine XS.icmpNo X12.here hx rfl (hb hby at_46) rfl (teq hx46).2 ?_
    show Steps p.tables e below (T12.setTop (mkF m 49 #[.val (.int p1), .val (.int p2), .val (.int p3), .val (.int p4), .val (.int p5), .val (.int p6), .val (.ref b7), .val (.ref b9), .val (.int (((p1 + p2) + p3) + p4)), .unset, .unset, .unset] [])) _
    refine XS.iconst X12.here hx rfl (hb hby at_49) ?_
    show Steps p.tables e below (T12.setTop (mkF m 50 #[.val (.int p1), .val (.int p2), .val (.int p3), .val (.int p4), .val (.int p5), .val (.int p6), .val (.ref b7), .val (.ref b9), .val (.int (((p1 + p2) + p3) + p4)), .unset, .unset, .unset] [(.int (1 : Int32))])) _
    refine XS.goto X12.here hx rfl (pc0 := 50) (pc' := 54) rfl (hb hby at_50) (by decide) (by decide) ?_
    show Steps p.tables e below (T12.setTop (mkF m 54 #[.val (.int p1), .val (.int p2), .val (.int p3), .val (.int p4), .val (.int p5), .val (.int p6), .val (.ref b7), .val (.ref b9), .val (.int (((p1 + p2) + p3) + p4)), .unset, .unset, .unset] [(.int (1 : Int32))])) _
    refine XS.istore X12.here hx rfl (hb hby at_54) rfl (l' := #[.val (.int p1), .val (.int p2), .val (.int p3), .val (.int p4), .val (.int p5), .val (.int p6), .val (.ref b7), .val (.ref b9), .val (.int (((p1 + p2) + p3) + p4)), .val (.int (1 : Int32)), .unset, .unset]) rfl ?_
    show Steps p.tables e below (T12.setTop (mkF m 56 #[.val (.int p1), .val (.int p2), .val (.int p3), .val (.int p4), .val (.int p5), .val (.int p6), .val (.ref b7), .val (.ref b9), .val (.int (((p1 + p2) + p3) + p4)), .val (.int (1 : Int32)), .unset, .unset] [])) _
    refine XS.iload X12.here hx rfl (hb hby at_56) rfl ?_
    show Steps p.tables e below (T12.setTop (mkF m 58 #[.val (.int p1), .val (.int p2), .val (.int p3), .val (.int p4), .val (.int p5), .val (.int p6), .val (.ref b7), .val (.ref b9), .val (.int (((p1 + p2) + p3) + p4)), .val (.int (1 : Int32)), .unset, .unset] [(.int (((p1 + p2) + p3) + p4))])) _
    refine XS.aload X12.here hx rfl (hb hby at_58) rfl rfl ?_
    show Steps p.tables e below (T12.setTop (mkF m 60 #[.val (.int p1), .val (.int p2), .val (.int p3), .val (.int p4), .val (.int p5), .val (.int p6), .val (.ref b7), .val (.ref b9), .val (.int (((p1 + p2) + p3) + p4)), .val (.int (1 : Int32)), .unset, .unset] [(.ref b7), (.int (((p1 + p2) + p3) + p4))])) _
    refine st13.trans ?_
    show Steps p.tables e below (T13.setTop (mkF m 63 #[.val (.int p1), .val (.int p2), .val (.int p3), .val (.int p4), .val (.int p5), .val (.int p6), .val (.ref b7), .val (.ref b9), .val (.int (((p1 + p2) + p3) + p4)), .val (.int (1 : Int32)), .unset, .unset] [(.int (p1 + p4)), (.int (((p1 + p2) + p3) + p4))])) _
    refine XS.iloadN X13.here hx rfl (hb hby at_63) rfl ?_
    show Steps p.tables e below (T13.setTop (mkF m 64 #[.val (.int p1), .val (.int p2), .val (.int p3), .val (.int p4), .val (.int p5), .val (.int p6), .val (.ref b7), .val (.ref b9), .val (.int (((p1 + p2) + p3) + p4)), .val (.int (1 : Int32)), .unset, .unset] [(.int p2), (.int (p1 + p4)), (.int (((p1 + p2) + p3) + p4))])) _
    refine XS.iadd X13.here hx rfl (hb hby at_64) rfl ?_
    show Steps p.tables e below (T13.setTop (mkF m 65 #[.val (.int p1), .val (.int p2), .val (.int p3), .val (.int p4), .val (.int p5), .val (.int p6), .val (.ref b7), .val (.ref b9), .val (.int (((p1 + p2) + p3) + p4)), .val (.int (1 : Int32)), .unset, .unset] [(.int ((p1 + p4) + p2)), (.int (((p1 + p2) + p3) + p4))])) _
    refine XS.iloadN X13.here hx rfl (hb hby at_65) rfl ?_
    show Steps p.tables e below (T13.setTop (mkF m 66 #[.val (.int p1), .val (.int p2), .val (.int p3), .val (.int p4), .val (.int p5), .val (.int p6), .val (.ref b7), .val (.ref b9), .val (.int (((p1 + p2) + p3) + p4)), .val (.int (1 : Int32)), .unset, .unset] [(.int p3), (.int ((p1 + p4) + p2)), (.int (((p1 + p2) + p3) + p4))])) _
    refine XS.iadd X13.here hx rfl (hb hby at_66) rfl ?_
    show Steps p.tables e below (T13.setTop (mkF m 67 #[.val (.int p1), .val (.int p2), .val (.int p3), .val (.int p4), .val (.int p5), .val (.int p6), .val (.ref b7), .val (.ref b9), .val (.int (((p1 + p2) + p3) + p4)), .val (.int (1 : Int32)), .unset, .unset] [(.int (((p1 + p4) + p2) + p3)), (.int (((p1 + p2) + p3) + p4))])) _
    refine XS.icmpNo X13.here hx rfl (hb hby at_67) rfl (teq hx67).2 ?_
    show Steps p.tables e below (T13.setTop (mkF m 70 #[.val (.int p1), .val (.int p2), .val (.int p3), .val (.int p4), .val (.int p5), .val (.int p6), .val (.ref b7), .val (.ref b9), .val (.int (((p1 + p2) + p3) + p4)), .val (.int (1 : Int32)), .unset, .unset] [])) _
    refine XS.iconst X13.here hx rfl (hb hby at_70) ?_
    show Steps p.tables e below (T13.setTop (mkF m 71 #[.val (.int p1), .val (.int p2), .val (.int p3), .val (.int p4), .val (.int p5), .val (.int p6), .val (.ref b7), .val (.ref b9), .val (.int (((p1 + p2) + p3) + p4)), .val (.int (1 : Int32)), .unset, .unset] [(.int (1 : Int32))])) _
    refine XS.goto X13.here hx rfl (pc0 := 71) (pc' := 75) rfl (hb hby at_71) (by decide) (by decide) ?_
    show Steps p.tables e below (T13.setTop (mkF m 75 #[.val (.int p1), .val (.int p2), .val (.int p3), .val (.int p4), .val (.int p5), .val (.int p6), .val (.ref b7), .val (.ref b9), .val (.int (((p1 + p2) + p3) + p4)), .val (.int (1 : Int32)), .unset, .unset] [(.int (1 : Int32))])) _
    refine XS.istore X13.here hx rfl (hb hby at_75) rfl (l' := #[.val (.int p1), .val (.int p2), .val (.int p3), .val (.int p4), .val (.int p5), .val (.int p6), .val (.ref b7), .val (.ref b9), .val (.int (((p1 + p2) + p3) + p4)), .val (.int (1 : Int32)), .val (.int (1 : Int32)), .unset]) rfl ?_
    show Steps p.tables e below (T13.setTop (mkF m 77 #[.val (.int p1), .val (.int p2), .val (.int p3), .val (.int p4), .val (.int p5), .val (.int p6), .val (.ref b7), .val (.ref b9), .val (.int (((p1 + p2) + p3) + p4)), .val (.int (1 : Int32)), .val (.int (1 : Int32)), .unset] [])) _
    refine XS.aload X13.here hx rfl (hb hby at_77) rfl rfl ?_
    show Steps p.tables e below (T13.setTop (mkF m 79 #[.val (.int p1), .val (.int p2), .val (.int p3), .val (.int p4), .val (.int p5), .val (.int p6), .val (.ref b7), .val (.ref b9), .val (.int (((p1 + p2) + p3) + p4)), .val (.int (1 : Int32)), .val (.int (1 : Int32)), .unset] [(.ref b7)])) _
    refine XS.aload X13.here hx rfl (hb hby at_79) rfl rfl ?_
    show Steps p.tables e below (T13.setTop (mkF m 81 #[.val (.int p1), .val (.int p2), .val (.int p3), .val (.int p4), .val (.int p5), .val (.int p6), .val (.ref b7), .val (.ref b9), .val (.int (((p1 + p2) + p3) + p4)), .val (.int (1 : Int32)), .val (.int (1 : Int32)), .unset] [(.ref b9), (.ref b7)])) _
    refine st14.trans ?_
    show Steps p.tables e below (T14.setTop (mkF m 84 #[.val (.int p1), .val (.int p2), .val (.int p3), .val (.int p4), .val (.int p5), .val (.int p6), .val (.ref b7), .val (.ref b9), .val (.int (((p1 + p2) + p3) + p4)), .val (.int (1 : Int32)), .val (.int (1 : Int32)), .unset] [(.ref b14)])) _
    refine st15.trans ?_
    show Steps p.tables e below (T15.setTop (mkF m 87 #[.val (.int p1), .val (.int p2), .val (.int p3), .val (.int p4), .val (.int p5), .val (.int p6), .val (.ref b7), .val (.ref b9), .val (.int (((p1 + p2) + p3) + p4)), .val (.int (1 : Int32)), .val (.int (1 : Int32)), .unset] [(.int ((((p1 + p5) + (p2 + p6)) + (p3 + p4)) + (p4 + p1)))])) _
    refine XS.iload X15.here hx rfl (hb hby at_87) rfl ?_
    show Steps p.tables e below (T15.setTop (mkF m 89 #[.val (.int p1), .val (.int p2), .val (.int p3), .val (.int p4), .val (.int p5), .val (.int p6), .val (.ref b7), .val (.ref b9), .val (.int (((p1 + p2) + p3) + p4)), .val (.int (1 : Int32)), .val (.int (1 : Int32)), .unset] [(.int (((p1 + p2) + p3) + p4)), (.int ((((p1 + p5) + (p2 + p6)) + (p3 + p4)) + (p4 + p1)))])) _
    refine XS.aload X15.here hx rfl (hb hby at_89) rfl rfl ?_
    show Steps p.tables e below (T15.setTop (mkF m 91 #[.val (.int p1), .val (.int p2), .val (.int p3), .val (.int p4), .val (.int p5), .val (.int p6), .val (.ref b7), .val (.ref b9), .val (.int (((p1 + p2) + p3) + p4)), .val (.int (1 : Int32)), .val (.int (1 : Int32)), .unset] [(.ref b9), (.int (((p1 + p2) + p3) + p4)), (.int ((((p1 + p5) + (p2 + p6)) + (p3 + p4)) + (p4 + p1)))])) _
    refine st16.trans ?_
    show Steps p.tables e below (T16.setTop (mkF m 94 #[.val (.int p1), .val (.int p2), .val (.int p3), .val (.int p4), .val (.int p5), .val (.int p6), .val (.ref b7), .val (.ref b9), .val (.int (((p1 + p2) + p3) + p4)), .val (.int (1 : Int32)), .val (.int (1 : Int32)), .unset] [(.int (((p5 + p6) + p4) + p1)), (.int (((p1 + p2) + p3) + p4)), (.int ((((p1 + p5) + (p2 + p6)) + (p3 + p4)) + (p4 + p1)))])) _
    refine XS.iadd X16.here hx rfl (hb hby at_94) rfl ?_
    show Steps p.tables e below (T16.setTop (mkF m 95 #[.val (.int p1), .val (.int p2), .val (.int p3), .val (.int p4), .val (.int p5), .val (.int p6), .val (.ref b7), .val (.ref b9), .val (.int (((p1 + p2) + p3) + p4)), .val (.int (1 : Int32)), .val (.int (1 : Int32)), .unset] [(.int ((((p1 + p2) + p3) + p4) + (((p5 + p6) + p4) + p1))), (.int ((((p1 + p5) + (p2 + p6)) + (p3 + p4)) + (p4 + p1)))])) _
    refine XS.icmpNo X16.here hx rfl (hb hby at_95) rfl (teq hx95).2 ?_
    show Steps p.tables e below (T16.setTop (mkF m 98 #[.val (.int p1), .val (.int p2), .val (.int p3), .val (.int p4), .val (.int p5), .val (.int p6), .val (.ref b7), .val (.ref b9), .val (.int (((p1 + p2) + p3) + p4)), .val (.int (1 : Int32)), .val (.int (1 : Int32)), .unset] [])) _
    refine XS.iconst X16.here hx rfl (hb hby at_98) ?_
    show Steps p.tables e below (T16.setTop (mkF m 99 #[.val (.int p1), .val (.int p2), .val (.int p3), .val (.int p4), .val (.int p5), .val (.int p6), .val (.ref b7), .val (.ref b9), .val (.int (((p1 + p2) + p3) + p4)), .val (.int (1 : Int32)), .val (.int (1 : Int32)), .unset] [(.int (1 : Int32))])) _
    refine XS.goto X16.here hx rfl (pc0 := 99) (pc' := 103) rfl (hb hby at_99) (by decide) (by decide) ?_
    show Steps p.tables e below (T16.setTop (mkF m 103 #[.val (.int p1), .val (.int p2), .val (.int p3), .val (.int p4), .val (.int p5), .val (.int p6), .val (.ref b7), .val (.ref b9), .val (.int (((p1 + p2) + p3) + p4)), .val (.int (1 : Int32)), .val (.int (1 : Int32)), .unset] [(.int (1 : Int32))])) _
    refine XS.istore X16.here hx rfl (hb hby at_103) rfl (l' := #[.val (.int p1), .val (.int p2), .val (.int p3), .val (.int p4), .val (.int p5), .val (.int p6), .val (.ref b7), .val (.ref b9), .val (.int (((p1 + p2) + p3) + p4)), .val (.int (1 : Int32)), .val (.int (1 : Int32)), .val (.int (1 : Int32))]) rfl ?_
    show Steps p.tables e below (T16.setTop (mkF m 105 #[.val (.int p1), .val (.int p2), .val (.int p3), .val (.int p4), .val (.int p5), .val (.int p6), .val (.ref b7), .val (.ref b9), .val (.int (((p1 + p2) + p3) + p4)), .val (.int (1 : Int32)), .val (.int (1 : Int32)), .val (.int (1 : Int32))] [])) _
    refine XS.iload X16.here hx rfl (hb hby at_105) rfl ?_
    show Steps p.tables e below (T16.setTop (mkF m 107 #[.val (.int p1), .val (.int p2), .val (.int p3), .val (.int p4), .val (.int p5), .val (.int p6), .val (.ref b7), .val (.ref b9), .val (.int (((p1 + p2) + p3) + p4)), .val (.int (1 : Int32)), .val (.int (1 : Int32)), .val (.int (1 : Int32))] [(.int (1 : Int32))])) _
    refine XS.ifNo X16.here hx rfl (hb hby at_107) rfl ((if0 _ _).trans (feq hc107).1) ?_
    show Steps p.tables e below (T16.setTop (mkF m 110 #[.val (.int p1), .val (.int p2), .val (.int p3), .val (.int p4), .val (.int p5), .val (.int p6), .val (.ref b7), .val (.ref b9), .val (.int (((p1 + p2) + p3) + p4)), .val (.int (1 : Int32)), .val (.int (1 : Int32)), .val (.int (1 : Int32))] [])) _
    refine XS.iload X16.here hx rfl (hb hby at_110) rfl ?_
    show Steps p.tables e below (T16.setTop (mkF m 112 #[.val (.int p1), .val (.int p2), .val (.int p3), .val (.int p4), .val (.int p5), .val (.int p6), .val (.ref b7), .val (.ref b9), .val (.int (((p1 + p2) + p3) + p4)), .val (.int (1 : Int32)), .val (.int (1 : Int32)), .val (.int (1 : Int32))] [(.int (1 : Int32))])) _
    refine XS.ifNo X16.here hx rfl (hb hby at_112) rfl ((if0 _ _).trans (feq hc112).1) ?_
    show Steps p.tables e below (T16.setTop (mkF m 115 #[.val (.int p1), .val (.int p2), .val (.int p3), .val (.int p4), .val (.int p5), .val (.int p6), .val (.ref b7), .val (.ref b9), .val (.int (((p1 + p2) + p3) + p4)), .val (.int (1 : Int32)), .val (.int (1 : Int32)), .val (.int (1 : Int32))] [])) _
    refine XS.iload X16.here hx rfl (hb hby at_115) rfl ?_
    show Steps p.tables e below (T16.setTop (mkF m 117 #[.val (.int p1), .val (.int p2), .val (.int p3), .val (.int p4), .val (.int p5), .val (.int p6), .val (.ref b7), .val (.ref b9), .val (.int (((p1 + p2) + p3) + p4)), .val (.int (1 : Int32)), .val (.int (1 : Int32)), .val (.int (1 : Int32))] [(.int (1 : Int32))])) _
    refine XS.ifNo X16.here hx rfl (hb hby at_117) rfl ((if0 _ _).trans (feq hc117).1) ?_
    show Steps p.tables e below (T16.setTop (mkF m 120 #[.val (.int p1), .val (.int p2), .val (.int p3), .val (.int p4), .val (.int p5), .val (.int p6), .val (.ref b7), .val (.ref b9), .val (.int (((p1 + p2) + p3) + p4)), .val (.int (1 : Int32)), .val (.int (1 : Int32)), .val (.int (1 : Int32))] [])) _
    refine XS.iconst X16.here hx rfl (hb hby at_120) ?_
    show Steps p.tables e below (T16.setTop (mkF m 121 #[.val (.int p1), .val (.int p2), .val (.int p3), .val (.int p4), .val (.int p5), .val (.int p6), .val (.ref b7), .val (.ref b9), .val (.int (((p1 + p2) + p3) + p4)), .val (.int (1 : Int32)), .val (.int (1 : Int32)), .val (.int (1 : Int32))] [(.int (1 : Int32))])) _
    refine XS.goto X16.here hx rfl (pc0 := 121) (pc' := 125) rfl (hb hby at_121) (by decide) (by decide) ?_
    show Steps p.tables e below (T16.setTop (mkF m 125 #[.val (.int p1), .val (.int p2), .val (.int p3), .val (.int p4), .val (.int p5), .val (.int p6), .val (.ref b7), .val (.ref b9), .val (.int (((p1 + p2) + p3) + p4)), .val (.int (1 : Int32)), .val (.int (1 : Int32)), .val (.int (1 : Int32))] [(.int (1 : Int32))])) _
    exact retN X16 hx (t := .boolean) Bd.returns (by simp) (hb hby at_125) hr
  · show Q0 Z p1 p2 p3 p4 p5 p6 h0 n0 _ T16.heap _
    exact ⟨rfl, N16⟩
theorem rm0 (l : Launch) (Z : State) (a0 : Array Value) (hw : ∀ d ∈ tables_1, d.before a0 Z = true) (ws : List Jvm.Cond) (p1 : Int32) (p2 : Int32) (p3 : Int32) (p4 : Int32) (p5 : Int32) (p6 : Int32) (h0 : Heap) (n0 : Nat) (Z0 : n0 ≤ h0.size) :
    MetFree l x (head1 (Jvm.Cond.code x code maxLocals ret :: ws) room_1) (fun a U => a = #[(.int p1), (.int p2), (.int p3), (.int p4), (.int p5), (.int p6)] ∧ Z.Warmed39 U.vm ∧ U.heap = h0) (fun _ _ _ _ _ => True) (fun _ U o U' => ∃ v L, o = .returned v ∧ Q0 Z p1 p2 p3 p4 p5 p6 h0 n0 v U'.heap L ∧ FrameEnd U o U' L room_1.cells room_1.slots) := by
  exact rm0_f l Z a0 hw ws p1 p2 p3 p4 p5 p6 h0 n0 Z0 (by decide) (by decide) (by decide) rfl (own_right p1 p2 p3 p4) (own_plus p1 p2 p3 p4 p5 p6)
set_option maxRecDepth 65536 in
set_option maxHeartbeats 40000000 in
theorem comes_1 {Post : Tables → Env → Array Value → State → Outcome → State → Prop} (hpost : ∀ tb e args s v u, (limb_1_1.after args s (.returned v) u = true ∧ limb_1_2.after args s (.returned v) u = true ∧ True) → FrameEnd s (.returned v) u (Jvm.fieldLocs frame_1_writes args s ++ Jvm.arrayLocs frame_1_arrays args s ++ Jvm.staticLocs frame_1_statics s) 16 128 → Post tb e args s (.returned v) u) :
    ArmFor flags0 classFile x code maxLocals ret World_1 tables_1 room_1 Calls_1 rest_1 Pre_1 Post := by
  intro l hfl _ _ p e ha hc hk s m args below hf hA hF happ hP
  obtain ⟨hcalls, hrest, hpre⟩ := hP
  obtain ⟨-, -, -, hnamed, -, -, -, hat⟩ := (Spec.applies_iff hf).mp happ
  obtain ⟨hg, hn⟩ := and_e (Cond.before_iff.mp (show (Jvm.Cond.and given_1 narrow_1).before args s = true from hpre))
  obtain ⟨g17, g18⟩ := and_e hg
  obtain ⟨g19, g20⟩ := and_e g18
  obtain ⟨g21, g22⟩ := and_e g20
  obtain ⟨g23, g24⟩ := and_e g22
  obtain ⟨g25, g26⟩ := and_e g24
  obtain ⟨g27, g28⟩ := and_e g26
  obtain ⟨w0, w1, w2, w3, w4, w5, rfl⟩ : ∃ w0 w1 w2 w3 w4 w5 : Value, args = #[w0, w1, w2, w3, w4, w5] := by
    have hs : args.size = 6 := by simpa [Cond.value, given_1] using g17
    obtain ⟨L⟩ := args
    match L, hs with
    | [w0, w1, w2, w3, w4, w5], _ => exact ⟨w0, w1, w2, w3, w4, w5, rfl⟩
  have hw := fun d (hd : d ∈ tables_1) => atoms_spec (ws := Jvm.Cond.code x code maxLocals ret :: tables_1) hat d (List.mem_cons_of_mem _ hd)
  have hfit : Fit s := fun {y c} hc i hi => by
    obtain ⟨ha, rfl⟩ := Array.getElem?_eq_some_iff.mp hc
    have q := List.all_eq_true.mp ((Array.all_eq_true_iff_forall_mem.mp hF) _ (Array.getElem_mem ha)) i (List.mem_range.mpr hi)
    simpa [Array.getElem?_eq_getElem hi] using q
  obtain ⟨i0, ei0⟩ := is_v g19
  obtain rfl : w0 = (.int i0) := Option.some.inj ei0
  obtain ⟨i1, ei1⟩ := is_v g21
  obtain rfl : w1 = (.int i1) := Option.some.inj ei1
  obtain ⟨i2, ei2⟩ := is_v g23
  obtain rfl : w2 = (.int i2) := Option.some.inj ei2
  obtain ⟨i3, ei3⟩ := is_v g25
  obtain rfl : w3 = (.int i3) := Option.some.inj ei3
  obtain ⟨i4, ei4⟩ := is_v g27
  obtain rfl : w4 = (.int i4) := Option.some.inj ei4
  obtain ⟨i5, ei5⟩ := is_v g28
  obtain rfl : w5 = (.int i5) := Option.some.inj ei5
  obtain ⟨n, o, h1, h2, h3, _, L, rfl, ⟨rfl, N⟩, hq⟩ := rm0 l s _ hw tables_1 i0 i1 i2 i3 i4 i5 s.heap s.heap.size (Nat.le_refl _) p e ha hc hk s m _ below hf ((Spec.applies_iff_loose hf).mp happ).1 ⟨rfl, State.Warmed39.refl s, rfl⟩ trivial
  refine ⟨n, _, h1, h2, h3, hpost _ _ _ _ _ _ ⟨Cond.after_iff.mpr rfl, Cond.after_iff.mpr (eq_i res_at (Term.int_eval (1)) rfl), trivial⟩ ⟨hq.1, hq.2.1, (hq.2.2.sift fun y hy => Or.inr (N y hy)).mono (by decide) (by decide)⟩⟩
theorem main_1_1 : Claimed_1_1 := comes_1 fun _ _ _ _ _ _ h hF => ⟨h.1, hF⟩
theorem main_1_2 : Claimed_1_2 := comes_1 fun _ _ _ _ _ _ h hF => ⟨h.2.1, hF⟩
end Jvm.Pilot.@@N@@
namespace Jvm.Pilot.@@N@@
open Jvm Jvm.ClassFile Sem Op Lib Jvm.Free Jvm.Stand Jvm.Pilot.@@N@@.Jvm.D
/-! MADE BY PROGRAM (witnessworld.py) out of the Statement's table words and the real class files: 8 classes; the members and pool entries that the words name. The judged class is class 1, her method 1. -/
namespace start1
open Jvm.ClassFile
def u (s : String) : CpInfo := .utf8 (stringToUtf16 s)
/-- a pool by its gaps: so many unusable entries, then the entry; so many at the end -/
def gap : Nat → List CpInfo → List CpInfo
  | 0, r => r
  | n + 1, r => .unusable :: gap n r
def poolList (es : List (Nat × CpInfo)) (last : Nat) : List CpInfo := es.foldr (fun e r => gap e.1 (e.2 :: r)) (gap last [])
def pool (es : List (Nat × CpInfo)) (last : Nat) : Array CpInfo := ⟨poolList es last⟩
def fileOf (pool : Array CpInfo) (this : Nat) (attrs : Array Attribute := #[]) (ms : Array MethodInfo := #[]) (fl : Nat := 33) (sup : Nat := 0) (ifs : Array Nat := #[]) (fds : Array FieldInfo := #[]) : ClassFile where
  minorVersion := 0
  majorVersion := 65
  constantPool := pool
  accessFlags := fl
  thisClass := this
  superClass := sup
  interfaces := ifs
  fields := fds
  methods := ms
  attributes := attrs
def plain (name : String) (sup : Option ClassId) : Class where
  name := name
  kind := .ordinary
  loader := none
  accessFlags := 33
  super := sup
  interfaces := #[]
  cf := none
  fields := #[]
  methods := #[]
  instanceTypes := #[]
  staticTypes := #[]
  resolved := #[]
  callSites := []
  init := .initialized
  statics := none
  mirror := none

def pool0 : Array CpInfo := pool [(5, u "<init>"), (0, u "()V"), (1, .class_ 10), (1, u "java/lang/Object")] 113

def k0c0 : Code := { maxStack := 0, maxLocals := 1, code := object_method_1_code, exceptionTable := #[], attributes := #[] }
def k0m0 : Method := { name := "<init>", desc := "()V", sig := { parameters := [], returnType := none }, accessFlags := 1, code := some k0c0 }
/-- java/lang/Object -/
def k0 : Class := { plain "java/lang/Object" none with
  accessFlags := 33
  interfaces := #[]
  cf := some (fileOf pool0 8 #[] #[{ accessFlags := 1, nameIndex := 5, descriptorIndex := 6, attributes := #[] }] 33 0 #[] #[])
  fields := #[]
  methods := #[k0m0]
  instanceTypes := #[]
  staticTypes := #[]
  resolved := Array.replicate 124 none
  statics := none }

def pool1 : Array CpInfo := pool [(2, .class_ 4), (1, u "java/lang/Object"), (0, u "<init>"), (0, u "()V"), (0, .class_ 8), (0, u "com/example/psyche/psyche/selection/Confusion"), (0, .methodref 7 10), (0, .nameAndType 5 11), (0, u "(IIII)V"), (0, .methodref 7 13), (0, .nameAndType 14 15), (0, u "examples"), (0, u "()I"), (0, .methodref 7 17), (0, .nameAndType 18 15), (0, u "taken"), (0, .methodref 7 20), (0, .nameAndType 21 15), (0, u "right"), (0, .methodref 7 23), (0, .nameAndType 24 25), (0, u "plus"), (0, u "(Lcom/example/psyche/psyche/selection/Confusion;)Lcom/example/psyche/psyche/selection/Confusion;"), (0, .class_ 27), (0, u "com/example/psyche/psyche/selection/ConfusionExamplesPinLaw"), (2, u "law"), (0, u "(IIIIII)Z")] 3

def k1m0 : Method := { name := "<init>", desc := "()V", sig := { parameters := [], returnType := none }, accessFlags := 2, code := none }
def k1c1 : Code := { maxStack := 6, maxLocals := 12, code := code, exceptionTable := #[], attributes := #[] }
def k1m1 : Method := { name := "law", desc := "(IIIIII)Z", sig := { parameters := [.int, .int, .int, .int, .int, .int], returnType := some .boolean }, accessFlags := 9, code := some k1c1 }
/-- com/example/psyche/psyche/selection/ConfusionExamplesPinLaw -/
def k1 : Class := { plain "com/example/psyche/psyche/selection/ConfusionExamplesPinLaw" (some 0) with
  accessFlags := 49
  interfaces := #[]
  cf := some (fileOf pool1 26 #[] #[{ accessFlags := 2, nameIndex := 5, descriptorIndex := 6, attributes := #[] }, { accessFlags := 9, nameIndex := 30, descriptorIndex := 31, attributes := #[] }] 49 2 #[] #[])
  fields := #[]
  methods := #[k1m0, k1m1]
  instanceTypes := #[]
  staticTypes := #[]
  resolved := Array.replicate 35 none
  statics := none }

def pool2 : Array CpInfo := pool [(1, .methodref 2 3), (0, .class_ 4), (0, .nameAndType 5 6), (0, u "java/lang/Object"), (0, u "<init>"), (0, u "()V"), (0, .class_ 8), (0, u "java/lang/Record")] 13

def k2c0 : Code := { maxStack := 1, maxLocals := 1, code := jdk_30_method_1_code, exceptionTable := #[], attributes := #[] }
def k2m0 : Method := { name := "<init>", desc := "()V", sig := { parameters := [], returnType := none }, accessFlags := 4, code := some k2c0 }
/-- java/lang/Record -/
def k2 : Class := { plain "java/lang/Record" (some 0) with
  accessFlags := 1057
  interfaces := #[]
  cf := some (fileOf pool2 7 #[] #[{ accessFlags := 4, nameIndex := 5, descriptorIndex := 6, attributes := #[] }] 1057 2 #[] #[])
  fields := #[]
  methods := #[k2m0]
  instanceTypes := #[]
  staticTypes := #[]
  resolved := Array.replicate 22 none
  statics := none }

def pool3 : Array CpInfo := pool [(1, .methodref 2 3), (0, .class_ 4), (0, .nameAndType 5 6), (0, u "java/lang/Record"), (0, u "<init>"), (0, u "()V"), (0, .fieldref 8 9), (0, .class_ 10), (0, .nameAndType 11 12), (0, u "com/example/psyche/psyche/selection/Confusion"), (0, u "truePositives"), (0, u "I"), (0, .fieldref 8 14), (0, .nameAndType 15 12), (0, u "falsePositives"), (0, .fieldref 8 17), (0, .nameAndType 18 12), (0, u "falseNegatives"), (0, .fieldref 8 20), (0, .nameAndType 21 12), (0, u "trueNegatives"), (27, .methodref 8 50), (0, .nameAndType 5 51), (0, u "(IIII)V"), (2, u "right"), (0, u "()I"), (2, u "examples"), (6, u "taken"), (20, u "plus"), (0, u "(Lcom/example/psyche/psyche/selection/Confusion;)Lcom/example/psyche/psyche/selection/Confusion;")] 28

def k3c0 : Code := { maxStack := 2, maxLocals := 5, code := prog_8_method_1_code, exceptionTable := #[], attributes := #[] }
def k3m0 : Method := { name := "<init>", desc := "(IIII)V", sig := { parameters := [.int, .int, .int, .int], returnType := none }, accessFlags := 1, code := some k3c0 }
def k3c1 : Code := { maxStack := 7, maxLocals := 2, code := prog_8_method_3_code, exceptionTable := #[], attributes := #[] }
def k3m1 : Method := { name := "plus", desc := "(Lcom/example/psyche/psyche/selection/Confusion;)Lcom/example/psyche/psyche/selection/Confusion;", sig := { parameters := [(.object "com/example/psyche/psyche/selection/Confusion")], returnType := some (.object "com/example/psyche/psyche/selection/Confusion") }, accessFlags := 1, code := some k3c1 }
def k3c2 : Code := { maxStack := 2, maxLocals := 1, code := prog_8_method_4_code, exceptionTable := #[], attributes := #[] }
def k3m2 : Method := { name := "examples", desc := "()I", sig := { parameters := [], returnType := some .int }, accessFlags := 1, code := some k3c2 }
def k3c3 : Code := { maxStack := 2, maxLocals := 1, code := prog_8_method_5_code, exceptionTable := #[], attributes := #[] }
def k3m3 : Method := { name := "right", desc := "()I", sig := { parameters := [], returnType := some .int }, accessFlags := 1, code := some k3c3 }
def k3c4 : Code := { maxStack := 2, maxLocals := 1, code := prog_8_method_6_code, exceptionTable := #[], attributes := #[] }
def k3m4 : Method := { name := "taken", desc := "()I", sig := { parameters := [], returnType := some .int }, accessFlags := 1, code := some k3c4 }
/-- com/example/psyche/psyche/selection/Confusion -/
def k3 : Class := { plain "com/example/psyche/psyche/selection/Confusion" (some 2) with
  accessFlags := 49
  interfaces := #[]
  cf := some (fileOf pool3 8 #[] #[{ accessFlags := 1, nameIndex := 5, descriptorIndex := 51, attributes := #[] }, { accessFlags := 1, nameIndex := 86, descriptorIndex := 87, attributes := #[] }, { accessFlags := 1, nameIndex := 58, descriptorIndex := 55, attributes := #[] }, { accessFlags := 1, nameIndex := 54, descriptorIndex := 55, attributes := #[] }, { accessFlags := 1, nameIndex := 65, descriptorIndex := 55, attributes := #[] }] 49 2 #[] #[{ accessFlags := 18, nameIndex := 11, descriptorIndex := 12, attributes := #[] }, { accessFlags := 18, nameIndex := 15, descriptorIndex := 12, attributes := #[] }, { accessFlags := 18, nameIndex := 18, descriptorIndex := 12, attributes := #[] }, { accessFlags := 18, nameIndex := 21, descriptorIndex := 12, attributes := #[] }])
  fields := #[{ name := "truePositives", type := .int, accessFlags := 18, slot := 0, constantValue := 0 }, { name := "falsePositives", type := .int, accessFlags := 18, slot := 1, constantValue := 0 }, { name := "falseNegatives", type := .int, accessFlags := 18, slot := 2, constantValue := 0 }, { name := "trueNegatives", type := .int, accessFlags := 18, slot := 3, constantValue := 0 }]
  methods := #[k3m0, k3m1, k3m2, k3m3, k3m4]
  instanceTypes := #[.int, .int, .int, .int]
  staticTypes := #[]
  resolved := Array.replicate 116 none
  statics := none }

def pool4 : Array CpInfo := pool [(1, u "java/lang/Cloneable"), (0, .class_ 1), (0, u "java/lang/Object"), (0, .class_ 3)] 3

/-- java/lang/Cloneable -/
def k4 : Class := { plain "java/lang/Cloneable" (some 0) with
  accessFlags := 1537
  interfaces := #[]
  cf := some (fileOf pool4 2 #[] #[] 1537 4 #[] #[])
  fields := #[]
  methods := #[]
  instanceTypes := #[]
  staticTypes := #[]
  resolved := Array.replicate 8 none
  statics := none }

def pool5 : Array CpInfo := pool [(1, u "java/io/Serializable"), (0, .class_ 1), (0, u "java/lang/Object"), (0, .class_ 3)] 3

/-- java/io/Serializable -/
def k5 : Class := { plain "java/io/Serializable" (some 0) with
  accessFlags := 1537
  interfaces := #[]
  cf := some (fileOf pool5 2 #[] #[] 1537 4 #[] #[])
  fields := #[]
  methods := #[]
  instanceTypes := #[]
  staticTypes := #[]
  resolved := Array.replicate 8 none
  statics := none }

/-- the primitive byte -/
def k6 : Class := { plain "byte" none with kind := .primitive 'B', accessFlags := 0x411 }
/-- [B -/
def k7 : Class := { plain "[B" (some 0) with kind := .array 6 .byte, interfaces := #[4, 5], accessFlags := 1041 }

def heap : Heap := #[]
def classes : Array Class := #[k0, k1, k2, k3, k4, k5, k6, k7]
def interned : List (Array UInt16 × Addr) := []
def slotsUsed : Nat := 0
def theMethod : MethodId := ⟨1, 1⟩
def args0 : Array Value := #[.int 1, .int 2, .int 3, .int 4, .int 5, .int 6]
def aboutOver (below : List Frame) : State where
  vm := { classes := classes, interned := interned.toArray }
  heap := heap
  slotsUsed := slotsUsed
  threads := #[{ frames := .invoking theMethod args0 :: below }]
def below0 : List Frame := [.native { method := ⟨0, 0⟩, args := #[] }]
def about1 : State := aboutOver below0
def p0 : Program := .bare "" "" ""
def e0 : Env := launch0.env 0 0 0
theorem w_frames : about1.frames = Frame.invoking theMethod args0 :: below0 := rfl
set_option maxRecDepth 65536 in
theorem w_args : argsFit about1.vm theMethod args0 = true := by decide +kernel
set_option maxRecDepth 65536 in
theorem w_heap : heapFits about1 = true := by decide +kernel
set_option maxRecDepth 65536 in
theorem w_runnable : about1.curStatus? = some .runnable := by decide +kernel
set_option maxRecDepth 65536 in
theorem w_alone : about1.alone = true := by decide +kernel
set_option maxRecDepth 65536 in
theorem w_named : about1.methodNamed? x = some theMethod := by decide +kernel
set_option maxRecDepth 65536 in
theorem w_hears : about1.hears theMethod below0 = true := by decide +kernel
set_option maxRecDepth 65536 in
theorem w_ripe : about1.ripe theMethod args0 below0 = true := by decide +kernel
theorem w_running : about1.status = .running := rfl
set_option maxRecDepth 65536 in
theorem w_room : about1.hasRoom e0.platform room_1 = true :=
  launch0.hasRoom_least _ room_1 (by decide +kernel) (by decide +kernel) (by decide +kernel) (by decide +kernel) (by decide +kernel) (by decide +kernel)
theorem allAtoms_all (ts : List Jvm.Cond) (a : Array Jvm.Value) (st : Jvm.State) : (allAtoms ts).before a st = ts.all (fun c => c.before a st) := by
  induction ts with
  | nil => rfl
  | cons c t ih =>
    show (Jvm.Cond.and c (allAtoms t)).before a st = _
    rw [Jvm.Cond.before_and, ih, List.all_cons]
def words1 : List Jvm.Cond := Jvm.Cond.code x code maxLocals ret :: tables_1
/-- a 'code' word, met by the world's own term for the bytes: nothing is compared byte by byte -/
theorem code_word {y : MethodName} {bytes : ByteArray} {mx : Nat} {rt : Option FieldType} {a : Array Value} {s : State} {m : MethodId} {meth : Method} {c : Code} (h1 : s.methodNamed? y = some m) (h2 : s.vm.method? m = some meth) (h3 : meth.code = some c) (h4 : c.code = bytes)
    (h5 : (c.maxLocals == mx && c.exceptionTable.isEmpty && decide (c.maxStack ≤ mostOperands) && decide (meth.sig.returnType = rt) && !meth.locks && decide (parseMethodDescriptor y.desc = some meth.sig)) = true) : (Jvm.Cond.code y bytes mx rt).before a s = true := by
  simp only [Bool.and_eq_true, beq_iff_eq, Bool.not_eq_true', decide_eq_true_eq] at h5
  obtain ⟨⟨⟨⟨⟨g1, g2⟩, g3⟩, g4⟩, g5⟩, g6⟩ := h5
  simp [Cond.before, Cond.holds, Cond.value, h1, h2, h3, h4, g1, g2, g3, g4, g5, g6]
def isCode : Jvm.Cond → Bool
  | .code _ _ _ _ => true
  | _ => false
theorem all_split {L : List Jvm.Cond} {P : Jvm.Cond → Bool} (h1 : L.all (fun c => isCode c || P c) = true) (h2 : ∀ c ∈ L.filter isCode, P c = true) : L.all P = true := by
  refine List.all_eq_true.mpr fun c hc => ?_
  have h := List.all_eq_true.mp h1 c hc
  rcases Bool.eq_false_or_eq_true (isCode c) with hi | hi
  · exact h2 c (List.mem_filter.mpr ⟨hc, hi⟩)
  · simpa [hi] using h
set_option maxRecDepth 65536 in
theorem w_c0 : (Jvm.Cond.code x code maxLocals ret).before args0 about1 = true := code_word (m := ⟨1, 1⟩) (meth := k1m1) (c := k1c1) (by decide +kernel) rfl rfl rfl (by decide +kernel)
set_option maxRecDepth 65536 in
theorem w_c1 : (Jvm.Cond.code ({ cls := "com/example/psyche/psyche/selection/Confusion", name := "<init>", desc := "(IIII)V" } : Jvm.MethodName) prog_8_method_1_code (5 : Nat) (Option.none : Option Jvm.ClassFile.FieldType)).before args0 about1 = true := code_word (m := ⟨3, 0⟩) (meth := k3m0) (c := k3c0) (by decide +kernel) rfl rfl rfl (by decide +kernel)
set_option maxRecDepth 65536 in
theorem w_c2 : (Jvm.Cond.code ({ cls := "java/lang/Record", name := "<init>", desc := "()V" } : Jvm.MethodName) jdk_30_method_1_code (1 : Nat) (Option.none : Option Jvm.ClassFile.FieldType)).before args0 about1 = true := code_word (m := ⟨2, 0⟩) (meth := k2m0) (c := k2c0) (by decide +kernel) rfl rfl rfl (by decide +kernel)
set_option maxRecDepth 65536 in
theorem w_c3 : (Jvm.Cond.code ({ cls := "java/lang/Object", name := "<init>", desc := "()V" } : Jvm.MethodName) object_method_1_code (1 : Nat) (Option.none : Option Jvm.ClassFile.FieldType)).before args0 about1 = true := code_word (m := ⟨0, 0⟩) (meth := k0m0) (c := k0c0) (by decide +kernel) rfl rfl rfl (by decide +kernel)
set_option maxRecDepth 65536 in
theorem w_c4 : (Jvm.Cond.code ({ cls := "com/example/psyche/psyche/selection/Confusion", name := "examples", desc := "()I" } : Jvm.MethodName) prog_8_method_4_code (1 : Nat) (Option.some Jvm.ClassFile.FieldType.int)).before args0 about1 = true := code_word (m := ⟨3, 2⟩) (meth := k3m2) (c := k3c2) (by decide +kernel) rfl rfl rfl (by decide +kernel)
set_option maxRecDepth 65536 in
theorem w_c5 : (Jvm.Cond.code ({ cls := "com/example/psyche/psyche/selection/Confusion", name := "taken", desc := "()I" } : Jvm.MethodName) prog_8_method_6_code (1 : Nat) (Option.some Jvm.ClassFile.FieldType.int)).before args0 about1 = true := code_word (m := ⟨3, 4⟩) (meth := k3m4) (c := k3c4) (by decide +kernel) rfl rfl rfl (by decide +kernel)
set_option maxRecDepth 65536 in
theorem w_c6 : (Jvm.Cond.code ({ cls := "com/example/psyche/psyche/selection/Confusion", name := "right", desc := "()I" } : Jvm.MethodName) prog_8_method_5_code (1 : Nat) (Option.some Jvm.ClassFile.FieldType.int)).before args0 about1 = true := code_word (m := ⟨3, 3⟩) (meth := k3m3) (c := k3c3) (by decide +kernel) rfl rfl rfl (by decide +kernel)
set_option maxRecDepth 65536 in
theorem w_c7 : (Jvm.Cond.code ({ cls := "com/example/psyche/psyche/selection/Confusion", name := "plus", desc := "(Lcom/example/psyche/psyche/selection/Confusion;)Lcom/example/psyche/psyche/selection/Confusion;" } : Jvm.MethodName) prog_8_method_3_code (2 : Nat) (Option.some (Jvm.ClassFile.FieldType.object "com/example/psyche/psyche/selection/Confusion"))).before args0 about1 = true := code_word (m := ⟨3, 1⟩) (meth := k3m1) (c := k3c1) (by decide +kernel) rfl rfl rfl (by decide +kernel)
def codes1 : List Jvm.Cond := [Jvm.Cond.code x code maxLocals ret, Jvm.Cond.code ({ cls := "com/example/psyche/psyche/selection/Confusion", name := "<init>", desc := "(IIII)V" } : Jvm.MethodName) prog_8_method_1_code (5 : Nat) (Option.none : Option Jvm.ClassFile.FieldType), Jvm.Cond.code ({ cls := "java/lang/Record", name := "<init>", desc := "()V" } : Jvm.MethodName) jdk_30_method_1_code (1 : Nat) (Option.none : Option Jvm.ClassFile.FieldType), Jvm.Cond.code ({ cls := "java/lang/Object", name := "<init>", desc := "()V" } : Jvm.MethodName) object_method_1_code (1 : Nat) (Option.none : Option Jvm.ClassFile.FieldType), Jvm.Cond.code ({ cls := "com/example/psyche/psyche/selection/Confusion", name := "examples", desc := "()I" } : Jvm.MethodName) prog_8_method_4_code (1 : Nat) (Option.some Jvm.ClassFile.FieldType.int), Jvm.Cond.code ({ cls := "com/example/psyche/psyche/selection/Confusion", name := "taken", desc := "()I" } : Jvm.MethodName) prog_8_method_6_code (1 : Nat) (Option.some Jvm.ClassFile.FieldType.int), Jvm.Cond.code ({ cls := "com/example/psyche/psyche/selection/Confusion", name := "right", desc := "()I" } : Jvm.MethodName) prog_8_method_5_code (1 : Nat) (Option.some Jvm.ClassFile.FieldType.int), Jvm.Cond.code ({ cls := "com/example/psyche/psyche/selection/Confusion", name := "plus", desc := "(Lcom/example/psyche/psyche/selection/Confusion;)Lcom/example/psyche/psyche/selection/Confusion;" } : Jvm.MethodName) prog_8_method_3_code (2 : Nat) (Option.some (Jvm.ClassFile.FieldType.object "com/example/psyche/psyche/selection/Confusion"))]
set_option maxRecDepth 65536 in
theorem codes_eq : words1.filter isCode = codes1 := rfl
theorem w_codes : ∀ c ∈ words1.filter isCode, c.before args0 about1 = true := by
  rw [codes_eq]
  intro c hc
  simp only [codes1, List.mem_cons, List.not_mem_nil, or_false] at hc
  rcases hc with rfl | rfl | rfl | rfl | rfl | rfl | rfl | rfl
  · exact w_c0
  · exact w_c1
  · exact w_c2
  · exact w_c3
  · exact w_c4
  · exact w_c5
  · exact w_c6
  · exact w_c7
set_option maxRecDepth 65536 in
theorem w_t1 : (words1.take 24).all (fun c => isCode c || c.before args0 about1) = true := by decide +kernel
set_option maxRecDepth 65536 in
theorem w_t2 : (words1.drop 24).all (fun c => isCode c || c.before args0 about1) = true := by decide +kernel
theorem w_tables : (allAtoms (Jvm.Cond.code x code maxLocals ret :: tables_1)).before args0 about1 = true := by
  rw [allAtoms_all]
  show words1.all (fun c => c.before args0 about1) = true
  refine all_split ?_ w_codes
  rw [← List.take_append_drop 24 words1, List.all_append, w_t1, w_t2]
  rfl
set_option maxRecDepth 65536 in
theorem w_case : (Jvm.Cond.and given_1 narrow_1).before args0 about1 = true := by decide +kernel
theorem w_applies : (headSpec (Jvm.Cond.code x code maxLocals ret :: tables_1) room_1).applies x e0.platform about1 = true :=
  (Spec.applies_iff w_frames).mpr ⟨w_running, w_runnable, w_alone, w_named, w_hears, w_ripe, w_room, w_tables⟩
theorem atStart : AtStart classFile x code maxLocals ret World_1 tables_1 room_1 Calls_1 rest_1 Pre_1 launch0 p0 e0 about1 theMethod args0 below0 :=
  ⟨lists_1, trivial, launch0.admits_env _ _ _, launch0.least_env, fairChoices_fair.cas, fairChoices_fair.clock, w_frames, w_args, w_heap, w_applies, trivial, trivial, w_case⟩
end start1
theorem witness_1 : WitnessClaimed_1 := ⟨start1.p0, start1.e0, start1.about1, start1.theMethod, start1.args0, start1.below0, start1.atStart⟩
end Jvm.Pilot.@@N@@
