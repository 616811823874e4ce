import JvmDerived
import JvmDerived.Pilot.@@N@@Statement
import JvmDerived.Pilot.@@N@@Code
set_option linter.unusedVariables false
set_option linter.unusedSimpArgs false
namespace Jvm.RoadKit
open Sem ClassFile Op Lib Jvm.Stand Jvm.Free Jvm.LawKit
section New
variable {p : Program} {l : Launch} {e : Env} {R : Room} {s : State} {m : MethodId} {args : Array Value} {below : List Frame} {meth : Method} {c : Code} {T : State} {locs : List Loc} {cells slots : Nat}
theorem retI (X : Stand p l e R s m args below meth c T locs cells slots) (hx : p.tables.exec = Jvm.exec) {pc : Nat} {Ls : Array Slot} {z : Int32} {rest : List Value} (hret : meth.sig.returnType = some .int) (hd : decode c.code pc = .ok (.ireturn, 1)) {fs : List Frame}
    (hl : ∀ (f : JFrame) (acts : List Action), f.method = m → f.locked = none → f.entered = [] → (doReturn e (T.setTop f) acts (some (.int z))).1 = T.setFrames fs) : Steps p.tables e below (T.setTop (mkF m pc Ls (.int z :: rest))) (T.setFrames fs) := by
  have hm' : T.vm.method? m = some meth := X.method'
  have hn : narrow .int (.int z) = .int z := rfl
  show Steps p.tables e below (T.setTop { method := m, pc := pc, locals := Ls, stack := _ :: rest, locked := none }) _
  jvm_step X.here [X.here.top, hx, hd, hm', hret, hn]
  first | (intro acts; rw [hl _ acts rfl rfl rfl]) | rw [hl _ _ rfl rfl rfl]
  exact Steps.refl _
end New
end Jvm.RoadKit
namespace Jvm.Pilot.@@N@@
open Jvm Jvm.ClassFile Sem Op Lib Jvm.Free Jvm.Stand Jvm.LawKit Jvm.RoadKit Bundle Jvm.Pilot.@@N@@.Jvm.D
def own_b (x : Int32) : Int32 := x.toInt8.toInt32.toInt8.toInt32
def own_B (Z : State) (h : Heap) (a t : Addr) (k : ClassId) (n : Int32) (vs : List Value) : Prop := Exa Z h a "com/example/verdant_canopy/verdantcanopy/core/CanonicalBuffer" ∧ Fld Z h a "com/example/verdant_canopy/verdantcanopy/core/CanonicalBuffer" "bytes" "[B" (.ref t) ∧ Fld Z h a "com/example/verdant_canopy/verdantcanopy/core/CanonicalBuffer" "length" "I" (.int n) ∧ Arv Z h t k .byte (256 : Int32) vs (.int (0 : Int32)) ∧ a ≠ t
theorem own_mask (x : Int32) : (own_b x &&& (255 : Int32)) = (x &&& (255 : Int32)) := by
  apply Int32.toInt_inj.mp
  rw [c_mask (own_b x) 255 8 (by decide) (by decide), c_mask x 255 8 (by decide) (by decide)]
  have s1 := (c_i2b x).1
  have s2 : ((own_b x).toInt - x.toInt8.toInt32.toInt) % 256 = 0 := (c_i2b x.toInt8.toInt32).1
  have k : ((2 ^ 8 : Nat) : Int) = 256 := by decide
  rw [k]
  omega
theorem own_four (x : Int32) : (x &&& (3 : Int32)) = (0 : Int32) ∨ (x &&& (3 : Int32)) = (1 : Int32) ∨ (x &&& (3 : Int32)) = (2 : Int32) ∨ (x &&& (3 : Int32)) = (3 : Int32) := by
  have e := c_mask x 3 2 (by decide) (by decide)
  have k : ((2 ^ 2 : Nat) : Int) = 4 := by decide
  rw [k] at e
  have k0 : (0 : Int32).toInt = 0 := by decide
  have k1 : (1 : Int32).toInt = 1 := by decide
  have k2 : (2 : Int32).toInt = 2 := by decide
  have k3 : (3 : Int32).toInt = 3 := by decide
  simp only [← Int32.toInt_inj, k0, k1, k2, k3]
  omega
theorem d1_0 : decode prog_48_method_1_code 0 = .ok (.aload_n 0, 1) := by decide +kernel
theorem d1_1 : decode prog_48_method_1_code 1 = .ok (.invokespecial 3, 3) := by decide +kernel
theorem d1_4 : decode prog_48_method_1_code 4 = .ok (.aload_n 0, 1) := by decide +kernel
theorem d1_5 : decode prog_48_method_1_code 5 = .ok (.sipush 256, 3) := by decide +kernel
theorem d1_8 : decode prog_48_method_1_code 8 = .ok (.newarray .byte, 2) := by decide +kernel
theorem d1_10 : decode prog_48_method_1_code 10 = .ok (.putfield 11, 3) := by decide +kernel
theorem d1_13 : decode prog_48_method_1_code 13 = .ok (.return_, 1) := by decide +kernel
theorem pn_1 : plainName "com/example/verdant_canopy/verdantcanopy/core/CanonicalBuffer" = true := by first | (simp [plainName, overriddenIn]; done) | decide +kernel
theorem ef_1 (m : MethodId) (x0 : Addr) : entryFrame m #[(.ref x0)] 1 = mkF m 0 #[.val (.ref x0)] [] := by first | (simp [entryFrame, mkF, argsToLocals, Value.category]; done) | rfl
def Q1 (Z : State) (a1 : Addr) (u_bytes_a1 : Value) (h0 : Heap) (n0 : Nat) (v : Option Value) (h : Heap) (L : List Loc) : Prop := v = none ∧ Fr n0 L ∧ Keep h0 h [a1] ∧ ∃ (t : Addr) (k : ClassId), n0 ≤ t ∧ own_B Z h a1 t k (0 : Int32) [(.int (0 : Int32)), (.int (0 : Int32)), (.int (0 : Int32)), (.int (0 : Int32))]
set_option maxRecDepth 65536 in
set_option maxHeartbeats 40000000 in
theorem rm1 (l : Launch) (Z : State) (a0 : Array Value) (hw : ∀ d ∈ tables_1, d.before a0 Z = true) (ws : List Jvm.Cond) (a1 : Addr) (u_bytes_a1 : Value) (h0 : Heap) (n0 : Nat) (Z0 : n0 ≤ h0.size) (E_a1 : Exa Z h0 a1 "com/example/verdant_canopy/verdantcanopy/core/CanonicalBuffer") (F_bytes_a1 : Fld Z h0 a1 "com/example/verdant_canopy/verdantcanopy/core/CanonicalBuffer" "bytes" "[B" u_bytes_a1) (g_a1 : n0 ≤ a1) (F_length_a1 : Fld Z h0 a1 "com/example/verdant_canopy/verdantcanopy/core/CanonicalBuffer" "length" "I" (.int (0 : Int32))) :
    MetFree l (⟨"com/example/verdant_canopy/verdantcanopy/core/CanonicalBuffer", "<init>", "()V"⟩ : MethodName) (head1 (Jvm.Cond.code (⟨"com/example/verdant_canopy/verdantcanopy/core/CanonicalBuffer", "<init>", "()V"⟩ : MethodName) prog_48_method_1_code 1 none :: ws) ({ frames := 1, cells := 1, slots := 256, locals := 12 } : Room)) (fun a U => a = #[(.ref a1)] ∧ Z.Warmed39 U.vm ∧ U.heap = h0) (fun _ _ _ _ _ => True) (fun _ U o U' => ∃ v L, o = .returned v ∧ Q1 Z a1 u_bytes_a1 h0 n0 v U'.heap L ∧ FrameEnd U o U' L ({ frames := 1, cells := 1, slots := 256, locals := 12 } : Room).cells ({ frames := 1, cells := 1, slots := 256, locals := 12 } : Room).slots) := by
  refine MetFree.of_bodySF (plainFor_of_name pn_1) hisR ?_
  intro p e s m args below meth c s₁ Bd hml0 hP hK
  obtain ⟨rfl, hZ, hh⟩ := hP
  have hx := Bd.exec
  have hby := Bd.bytes
  have hml : c.maxLocals = 1 := hml0
  have hown : s.vm.findClass "com/example/verdant_canopy/verdantcanopy/core/CanonicalBuffer" = some m.cls := findClass_of_methodNamed Bd.named
  have hnm := (name_of_methodNamed Bd.named Bd.method).1
  have X0 : Stand p l e ({ frames := 1, cells := 1, slots := 256, locals := 12 } : Room) s m #[(.ref a1)] below meth c s₁ [] 0 0 := Stand.of_body Bd
  have e0 : s₁.heap = h0 := by rw [← hh, Bd.state]; rfl
  have N0 := Fr.nil n0
  have pre0 : ∀ t, Steps p.tables e below (s₁.setTop (mkF m 0 #[.val (.ref a1)] [])) t → Steps p.tables e below (s₁.setTop (entryFrame m #[(.ref a1)] 1)) t := fun t k => castTop (ef_1 m a1) k
  obtain ⟨T2, X2, e2, st2⟩ := initO X0 hx hZ hown (hw _ (List.mem_of_getElem? (i := 6) rfl)) (hw _ (List.mem_of_getElem? (i := 7) rfl)) (hw _ (List.mem_of_getElem? (i := 8) rfl)) e0 (g := (mkF m 1 #[.val (.ref a1)] [(.ref a1)])) rfl (by rw [hml]; rfl) rfl (hb hby d1_1) (by decide) (W := 0) (by show 2 * 0 + _ ≤ _; exact Nat.le_of_eq rfl) (by decide)
  obtain ⟨T3, h3, k3, X3, e3, E3, A3, st3⟩ := newP X2 hx hZ (hw _ (List.mem_of_getElem? (i := 9) rfl)) e2 (g := (mkF m 8 #[.val (.ref a1)] [(.int (256 : Int32)), (.ref a1)])) rfl (hb hby d1_8) rfl (by decide) (cap := 256) (by decide) (by decide) (by decide) (by decide)
  obtain ⟨b3, g3⟩ : ∃ z, z = h0.size := ⟨_, rfl⟩
  rw [← g3] at A3 st3
  have V_b3 : Arv Z h3 b3 k3 .byte (256 : Int32) [(.int (0 : Int32)), (.int (0 : Int32)), (.int (0 : Int32)), (.int (0 : Int32))] (.int (0 : Int32)) := (Arv.new A3 (by decide)).pad (pad_rep [] (.int (0 : Int32)) 4)
  have ne13 : a1 ≠ b3 := Nat.ne_of_lt (Nat.lt_of_lt_of_le F_bytes_a1.lt (Nat.le_of_eq g3.symm))
  have g_b3 : n0 ≤ b3 := Nat.le_trans Z0 (Nat.le_of_eq g3.symm)
  have sz_b3 : h0.size ≤ b3 := (Nat.le_trans (Keep.refl h0 [a1]).1 (Nat.le_of_eq g3.symm))
  have K3 : Keep h0 h3 [a1] := (Keep.refl h0 [a1]).ext E3
  obtain ⟨T4, h4, X4, e4, W4, st4⟩ := putF X3 hx hZ hown (host := "") (Or.inl (hw _ (List.mem_of_getElem? (i := 10) rfl))) Via.refl e3 (F_bytes_a1.ext E3) (E_a1.ext E3) (Or.inl (hw _ (List.mem_of_getElem? (i := 11) rfl))) (hw _ (List.mem_of_getElem? (i := 1) rfl)) (ty := (.array .byte)) (by decide) rfl rfl (g := (mkF m 10 #[.val (.ref a1)] [(.ref b3), (.ref a1)])) rfl rfl (hb hby d1_10)
  have Fw4 := (F_bytes_a1.ext E3).same W4
  have K4 : Keep h0 h4 [a1] := K3.wr W4 (Or.inl (List.mem_of_getElem? (i := 0) rfl))
  have N4 := Fr.snoc X4 N0 g_a1
  obtain ⟨fs, hr, hrun, hended, hW, hsame⟩ := X4.leave (v := none) (fun _ => rfl)
  refine ⟨_, _, pre0 _ ?_, hrun, hended, _, _, rfl, ?_, ⟨_, rfl⟩, hW, hsame.mono (by decide) (by decide)⟩
  · show Steps p.tables e below (s₁.setTop (mkF m 0 #[.val (.ref a1)] [])) _
    refine XS.aloadN X0.here hx rfl (hb hby d1_0) rfl rfl ?_
    show Steps p.tables e below (s₁.setTop (mkF m 1 #[.val (.ref a1)] [(.ref a1)])) _
    refine st2 _ ?_
    show Steps p.tables e below (T2.setTop (mkF m 4 #[.val (.ref a1)] [])) _
    refine XS.aloadN X2.here hx rfl (hb hby d1_4) rfl rfl ?_
    show Steps p.tables e below (T2.setTop (mkF m 5 #[.val (.ref a1)] [(.ref a1)])) _
    refine XS.sipush X2.here hx rfl (hb hby d1_5) ?_
    show Steps p.tables e below (T2.setTop (mkF m 8 #[.val (.ref a1)] [(.int (256 : Int32)), (.ref a1)])) _
    refine st3 _ ?_
    show Steps p.tables e below (T3.setTop (mkF m 10 #[.val (.ref a1)] [(.ref b3), (.ref a1)])) _
    refine st4 _ ?_
    show Steps p.tables e below (T4.setTop (mkF m 13 #[.val (.ref a1)] [])) _
    exact X4.returnOut hx Bd.returns (hb hby d1_13) hr
  · show Q1 Z a1 u_bytes_a1 h0 n0 _ T4.heap _
    rw [e4]
    exact ⟨rfl, N4, K4, b3, k3, g_b3, (E_a1.ext E3).wr W4, Fw4, (F_length_a1.ext E3).other W4 (Or.inr (slot_ne (Or.inl (hw _ (List.mem_of_getElem? (i := 18) rfl))) (Or.inl (hw _ (List.mem_of_getElem? (i := 11) rfl))) (by decide) (t := .int) (t' := (.array .byte)) (by decide) (by decide))), V_b3.other W4 (Ne.symm ne13), ne13⟩
theorem d3_0 : decode prog_48_method_8_code 0 = .ok (.aload_n 0, 1) := by decide +kernel
theorem d3_1 : decode prog_48_method_8_code 1 = .ok (.getfield 11, 3) := by decide +kernel
theorem d3_4 : decode prog_48_method_8_code 4 = .ok (.aload_n 0, 1) := by decide +kernel
theorem d3_5 : decode prog_48_method_8_code 5 = .ok (.dup, 1) := by decide +kernel
theorem d3_6 : decode prog_48_method_8_code 6 = .ok (.getfield 15, 3) := by decide +kernel
theorem d3_9 : decode prog_48_method_8_code 9 = .ok (.dup_x1, 1) := by decide +kernel
theorem d3_10 : decode prog_48_method_8_code 10 = .ok (.iconst 1, 1) := by decide +kernel
theorem d3_11 : decode prog_48_method_8_code 11 = .ok (.iadd, 1) := by decide +kernel
theorem d3_12 : decode prog_48_method_8_code 12 = .ok (.putfield 15, 3) := by decide +kernel
theorem d3_15 : decode prog_48_method_8_code 15 = .ok (.iload_n 1, 1) := by decide +kernel
theorem d3_16 : decode prog_48_method_8_code 16 = .ok (.i2b, 1) := by decide +kernel
theorem d3_17 : decode prog_48_method_8_code 17 = .ok (.bastore, 1) := by decide +kernel
theorem d3_18 : decode prog_48_method_8_code 18 = .ok (.return_, 1) := by decide +kernel
theorem pn_3 : plainName "com/example/verdant_canopy/verdantcanopy/core/CanonicalBuffer" = true := by first | (simp [plainName, overriddenIn]; done) | decide +kernel
theorem ef_3 (m : MethodId) (x0 : Addr) (x1 : Int32) : entryFrame m #[(.ref x0), (.int x1)] 2 = mkF m 0 #[.val (.ref x0), .val (.int x1)] [] := by first | (simp [entryFrame, mkF, argsToLocals, Value.category]; done) | rfl
def Q3 (Z : State) (a1 : Addr) (p2 : Int32) (w3 : Addr) (kc : ClassId) (w5 : Int32) (vs : List Value) (i : Nat) (h0 : Heap) (n0 : Nat) (v : Option Value) (h : Heap) (L : List Loc) : Prop := v = none ∧ Fr n0 L ∧ Keep h0 h [a1, w3] ∧ own_B Z h a1 w3 kc (w5 + (1 : Int32)) (vs.set i (.int (own_b p2)))
set_option maxRecDepth 65536 in
set_option maxHeartbeats 40000000 in
theorem rm3 (l : Launch) (Z : State) (a0 : Array Value) (hw : ∀ d ∈ tables_1, d.before a0 Z = true) (ws : List Jvm.Cond) (a1 : Addr) (p2 : Int32) (w3 : Addr) (kc : ClassId) (w5 : Int32) (vs : List Value) (i : Nat) (h0 : Heap) (n0 : Nat) (Z0 : n0 ≤ h0.size) (B : own_B Z h0 a1 w3 kc w5 vs) (g_a1 : n0 ≤ a1) (g_w3 : n0 ≤ w3) (hi : w5.toNatClampNeg = i) (hl : i < vs.length) (hin : ¬ w5 < 0 ∧ w5 < (256 : Int32)) :
    MetFree l (⟨"com/example/verdant_canopy/verdantcanopy/core/CanonicalBuffer", "put", "(I)V"⟩ : MethodName) (head1 (Jvm.Cond.code (⟨"com/example/verdant_canopy/verdantcanopy/core/CanonicalBuffer", "put", "(I)V"⟩ : MethodName) prog_48_method_8_code 2 none :: ws) ({ frames := 0, cells := 0, slots := 0, locals := 0 } : Room)) (fun a U => a = #[(.ref a1), (.int p2)] ∧ Z.Warmed39 U.vm ∧ U.heap = h0) (fun _ _ _ _ _ => True) (fun _ U o U' => ∃ v L, o = .returned v ∧ Q3 Z a1 p2 w3 kc w5 vs i h0 n0 v U'.heap L ∧ FrameEnd U o U' L ({ frames := 0, cells := 0, slots := 0, locals := 0 } : Room).cells ({ frames := 0, cells := 0, slots := 0, locals := 0 } : Room).slots) := by
  refine MetFree.of_bodySF (plainFor_of_name pn_3) hisR ?_
  intro p e s m args below meth c s₁ Bd hml0 hP hK
  obtain ⟨rfl, hZ, hh⟩ := hP
  have hx := Bd.exec
  have hby := Bd.bytes
  have hml : c.maxLocals = 2 := hml0
  have hown : s.vm.findClass "com/example/verdant_canopy/verdantcanopy/core/CanonicalBuffer" = some m.cls := findClass_of_methodNamed Bd.named
  have hnm := (name_of_methodNamed Bd.named Bd.method).1
  have X0 : Stand p l e ({ frames := 0, cells := 0, slots := 0, locals := 0 } : Room) s m #[(.ref a1), (.int p2)] below meth c s₁ [] 0 0 := Stand.of_body Bd
  have e0 : s₁.heap = h0 := by rw [← hh, Bd.state]; rfl
  have N0 := Fr.nil n0
  obtain ⟨E_a1, F_bytes_a1, F_length_a1, V, hne⟩ := B
  have pre0 : ∀ t, Steps p.tables e below (s₁.setTop (mkF m 0 #[.val (.ref a1), .val (.int p2)] [])) t → Steps p.tables e below (s₁.setTop (entryFrame m #[(.ref a1), (.int p2)] 2)) t := fun t k => castTop (ef_3 m a1 p2) k
  obtain ⟨T4, X4, e4, st4⟩ := getF X0 hx hZ hown (host := "") (Or.inl (hw _ (List.mem_of_getElem? (i := 10) rfl))) Via.refl e0 F_bytes_a1 (g := (mkF m 1 #[.val (.ref a1), .val (.int p2)] [(.ref a1)])) rfl rfl (hb hby d3_1)
  obtain ⟨T6, X6, e6, st6⟩ := getF X4 hx hZ hown (host := "") (Or.inl (hw _ (List.mem_of_getElem? (i := 17) rfl))) Via.refl e4 F_length_a1 (g := (mkF m 6 #[.val (.ref a1), .val (.int p2)] [(.ref a1), (.ref a1), (.ref w3)])) rfl rfl (hb hby d3_6)
  obtain ⟨T7, h7, X7, e7, W7, st7⟩ := putF X6 hx hZ hown (host := "") (Or.inl (hw _ (List.mem_of_getElem? (i := 17) rfl))) Via.refl e6 F_length_a1 E_a1 (Or.inl (hw _ (List.mem_of_getElem? (i := 18) rfl))) (hw _ (List.mem_of_getElem? (i := 1) rfl)) (ty := .int) (by decide) rfl rfl (g := (mkF m 12 #[.val (.ref a1), .val (.int p2)] [(.int (w5 + (1 : Int32))), (.ref a1), (.int w5), (.ref w3)])) rfl rfl (hb hby d3_12)
  have Fw7 := F_length_a1.same W7
  have K7 : Keep h0 h7 [a1, w3] := (Keep.refl h0 [a1, w3]).wr W7 (Or.inl (List.mem_of_getElem? (i := 0) rfl))
  have N7 := Fr.snoc X7 N0 g_a1
  obtain ⟨cl_w3, Ar_w3, q_w3, S_w3, M_w3, H_w3, G_w3⟩ := V.other W7 (Ne.symm hne)
  have hin17 : ¬ (w5 < 0 ∨ cl_w3.slots.size ≤ (w5).toNatClampNeg) := inb_of S_w3 hin
  obtain ⟨T8, h8, X8, e8, W8, st8⟩ := stB X7 hx hZ e7 Ar_w3 (j := w5) hin17 (g := (mkF m 17 #[.val (.ref a1), .val (.int p2)] [(.int (p2.toInt8.toInt32)), (.int w5), (.ref w3)])) rfl rfl (hb hby d3_17)
  have N8 := Fr.snoc X8 N7 g_w3
  have K8 : Keep h0 h8 [a1, w3] := K7.wr W8 (Or.inl (List.mem_of_getElem? (i := 1) rfl))
  obtain ⟨fs, hr, hrun, hended, hW, hsame⟩ := X8.leave (v := none) (fun _ => rfl)
  refine ⟨_, _, pre0 _ ?_, hrun, hended, _, _, rfl, ?_, ⟨_, rfl⟩, hW, hsame.mono (by decide) (by decide)⟩
  · show Steps p.tables e below (s₁.setTop (mkF m 0 #[.val (.ref a1), .val (.int p2)] [])) _
    refine XS.aloadN X0.here hx rfl (hb hby d3_0) rfl rfl ?_
    show Steps p.tables e below (s₁.setTop (mkF m 1 #[.val (.ref a1), .val (.int p2)] [(.ref a1)])) _
    refine st4 _ ?_
    show Steps p.tables e below (T4.setTop (mkF m 4 #[.val (.ref a1), .val (.int p2)] [(.ref w3)])) _
    refine XS.aloadN X4.here hx rfl (hb hby d3_4) rfl rfl ?_
    show Steps p.tables e below (T4.setTop (mkF m 5 #[.val (.ref a1), .val (.int p2)] [(.ref a1), (.ref w3)])) _
    refine XS.dup X4.here hx rfl (hb hby d3_5) rfl rfl ?_
    show Steps p.tables e below (T4.setTop (mkF m 6 #[.val (.ref a1), .val (.int p2)] [(.ref a1), (.ref a1), (.ref w3)])) _
    refine st6 _ ?_
    show Steps p.tables e below (T6.setTop (mkF m 9 #[.val (.ref a1), .val (.int p2)] [(.int w5), (.ref a1), (.ref w3)])) _
    refine XS.dupX1 X6.here hx rfl (hb hby d3_9) rfl rfl rfl ?_
    show Steps p.tables e below (T6.setTop (mkF m 10 #[.val (.ref a1), .val (.int p2)] [(.int w5), (.ref a1), (.int w5), (.ref w3)])) _
    refine XS.iconst X6.here hx rfl (hb hby d3_10) ?_
    show Steps p.tables e below (T6.setTop (mkF m 11 #[.val (.ref a1), .val (.int p2)] [(.int (1 : Int32)), (.int w5), (.ref a1), (.int w5), (.ref w3)])) _
    refine XS.iadd X6.here hx rfl (hb hby d3_11) rfl ?_
    show Steps p.tables e below (T6.setTop (mkF m 12 #[.val (.ref a1), .val (.int p2)] [(.int (w5 + (1 : Int32))), (.ref a1), (.int w5), (.ref w3)])) _
    refine st7 _ ?_
    show Steps p.tables e below (T7.setTop (mkF m 15 #[.val (.ref a1), .val (.int p2)] [(.int w5), (.ref w3)])) _
    refine XS.iloadN X7.here hx rfl (hb hby d3_15) rfl ?_
    show Steps p.tables e below (T7.setTop (mkF m 16 #[.val (.ref a1), .val (.int p2)] [(.int p2), (.int w5), (.ref w3)])) _
    refine XS.i2b X7.here hx rfl (hb hby d3_16) rfl ?_
    show Steps p.tables e below (T7.setTop (mkF m 17 #[.val (.ref a1), .val (.int p2)] [(.int (p2.toInt8.toInt32)), (.int w5), (.ref w3)])) _
    refine st8 _ ?_
    show Steps p.tables e below (T8.setTop (mkF m 18 #[.val (.ref a1), .val (.int p2)] [])) _
    exact X8.returnOut hx Bd.returns (hb hby d3_18) hr
  · show Q3 Z a1 p2 w3 kc w5 vs i h0 n0 _ T8.heap _
    rw [e8]
    exact ⟨rfl, N8, K8, (E_a1.wr W7).wr W8, (F_bytes_a1.other W7 (Or.inr (slot_ne (Or.inl (hw _ (List.mem_of_getElem? (i := 11) rfl))) (Or.inl (hw _ (List.mem_of_getElem? (i := 18) rfl))) (by decide) (t := (.array .byte)) (t' := .int) (by decide) (by decide)))).other W8 (Or.inl hne), Fw7.other W8 (Or.inl hne), Arv.set Ar_w3 q_w3 S_w3 M_w3 H_w3 G_w3 (fits_nar_byte _) W8 i hi hl, hne⟩
theorem d4_0 : decode prog_48_method_2_code 0 = .ok (.aload_n 0, 1) := by decide +kernel
theorem d4_1 : decode prog_48_method_2_code 1 = .ok (.getfield 15, 3) := by decide +kernel
theorem d4_4 : decode prog_48_method_2_code 4 = .ok (.ireturn, 1) := by decide +kernel
theorem pn_4 : plainName "com/example/verdant_canopy/verdantcanopy/core/CanonicalBuffer" = true := by first | (simp [plainName, overriddenIn]; done) | decide +kernel
theorem ef_4 (m : MethodId) (x0 : Addr) : entryFrame m #[(.ref x0)] 1 = mkF m 0 #[.val (.ref x0)] [] := by first | (simp [entryFrame, mkF, argsToLocals, Value.category]; done) | rfl
def Q4 (Z : State) (a1 : Addr) (w2 : Int32) (h0 : Heap) (n0 : Nat) (v : Option Value) (h : Heap) (L : List Loc) : Prop := v = some (.int w2) ∧ Fr n0 L ∧ h = h0
set_option maxRecDepth 65536 in
set_option maxHeartbeats 40000000 in
theorem rm4 (l : Launch) (Z : State) (a0 : Array Value) (hw : ∀ d ∈ tables_1, d.before a0 Z = true) (ws : List Jvm.Cond) (a1 : Addr) (w2 : Int32) (h0 : Heap) (n0 : Nat) (Z0 : n0 ≤ h0.size) (F_length_a1 : Fld Z h0 a1 "com/example/verdant_canopy/verdantcanopy/core/CanonicalBuffer" "length" "I" (.int w2)) :
    MetFree l (⟨"com/example/verdant_canopy/verdantcanopy/core/CanonicalBuffer", "length", "()I"⟩ : MethodName) (head1 (Jvm.Cond.code (⟨"com/example/verdant_canopy/verdantcanopy/core/CanonicalBuffer", "length", "()I"⟩ : MethodName) prog_48_method_2_code 1 (some .int) :: ws) ({ frames := 0, cells := 0, slots := 0, locals := 0 } : Room)) (fun a U => a = #[(.ref a1)] ∧ Z.Warmed39 U.vm ∧ U.heap = h0) (fun _ _ _ _ _ => True) (fun _ U o U' => ∃ v L, o = .returned v ∧ Q4 Z a1 w2 h0 n0 v U'.heap L ∧ FrameEnd U o U' L ({ frames := 0, cells := 0, slots := 0, locals := 0 } : Room).cells ({ frames := 0, cells := 0, slots := 0, locals := 0 } : Room).slots) := by
  refine MetFree.of_bodySF (plainFor_of_name pn_4) hisR ?_
  intro p e s m args below meth c s₁ Bd hml0 hP hK
  obtain ⟨rfl, hZ, hh⟩ := hP
  have hx := Bd.exec
  have hby := Bd.bytes
  have hml : c.maxLocals = 1 := hml0
  have hown : s.vm.findClass "com/example/verdant_canopy/verdantcanopy/core/CanonicalBuffer" = some m.cls := findClass_of_methodNamed Bd.named
  have hnm := (name_of_methodNamed Bd.named Bd.method).1
  have X0 : Stand p l e ({ frames := 0, cells := 0, slots := 0, locals := 0 } : Room) s m #[(.ref a1)] below meth c s₁ [] 0 0 := Stand.of_body Bd
  have e0 : s₁.heap = h0 := by rw [← hh, Bd.state]; rfl
  have N0 := Fr.nil n0
  have pre0 : ∀ t, Steps p.tables e below (s₁.setTop (mkF m 0 #[.val (.ref a1)] [])) t → Steps p.tables e below (s₁.setTop (entryFrame m #[(.ref a1)] 1)) t := fun t k => castTop (ef_4 m a1) k
  obtain ⟨T3, X3, e3, st3⟩ := getF X0 hx hZ hown (host := "") (Or.inl (hw _ (List.mem_of_getElem? (i := 17) rfl))) Via.refl e0 F_length_a1 (g := (mkF m 1 #[.val (.ref a1)] [(.ref a1)])) rfl rfl (hb hby d4_1)
  obtain ⟨fs, hr, hrun, hended, hW, hsame⟩ := X3.leave (v := some (.int w2)) (fun h => by rw [Bd.returns] at h; cases h)
  refine ⟨_, _, pre0 _ ?_, hrun, hended, _, _, rfl, ?_, ⟨_, rfl⟩, hW, hsame.mono (by decide) (by decide)⟩
  · show Steps p.tables e below (s₁.setTop (mkF m 0 #[.val (.ref a1)] [])) _
    refine XS.aloadN X0.here hx rfl (hb hby d4_0) rfl rfl ?_
    show Steps p.tables e below (s₁.setTop (mkF m 1 #[.val (.ref a1)] [(.ref a1)])) _
    refine st3 _ ?_
    show Steps p.tables e below (T3.setTop (mkF m 4 #[.val (.ref a1)] [(.int w2)])) _
    exact retI X3 hx Bd.returns (hb hby d4_4) hr
  · show Q4 Z a1 w2 h0 n0 _ T3.heap _
    rw [e3]
    exact ⟨rfl, N0, rfl⟩
theorem d5_0 : decode prog_48_method_5_code 0 = .ok (.aload_n 0, 1) := by decide +kernel
theorem d5_1 : decode prog_48_method_5_code 1 = .ok (.getfield 11, 3) := by decide +kernel
theorem d5_4 : decode prog_48_method_5_code 4 = .ok (.areturn, 1) := by decide +kernel
theorem pn_5 : plainName "com/example/verdant_canopy/verdantcanopy/core/CanonicalBuffer" = true := by first | (simp [plainName, overriddenIn]; done) | decide +kernel
theorem ef_5 (m : MethodId) (x0 : Addr) : entryFrame m #[(.ref x0)] 1 = mkF m 0 #[.val (.ref x0)] [] := by first | (simp [entryFrame, mkF, argsToLocals, Value.category]; done) | rfl
def Q5 (Z : State) (a1 : Addr) (w2 : Addr) (h0 : Heap) (n0 : Nat) (v : Option Value) (h : Heap) (L : List Loc) : Prop := v = some (.ref w2) ∧ Fr n0 L ∧ h = h0
set_option maxRecDepth 65536 in
set_option maxHeartbeats 40000000 in
theorem rm5 (l : Launch) (Z : State) (a0 : Array Value) (hw : ∀ d ∈ tables_1, d.before a0 Z = true) (ws : List Jvm.Cond) (a1 : Addr) (w2 : Addr) (h0 : Heap) (n0 : Nat) (Z0 : n0 ≤ h0.size) (F_bytes_a1 : Fld Z h0 a1 "com/example/verdant_canopy/verdantcanopy/core/CanonicalBuffer" "bytes" "[B" (.ref w2)) :
    MetFree l (⟨"com/example/verdant_canopy/verdantcanopy/core/CanonicalBuffer", "bytes", "()[B"⟩ : MethodName) (head1 (Jvm.Cond.code (⟨"com/example/verdant_canopy/verdantcanopy/core/CanonicalBuffer", "bytes", "()[B"⟩ : MethodName) prog_48_method_5_code 1 (some (.array .byte)) :: ws) ({ frames := 0, cells := 0, slots := 0, locals := 0 } : Room)) (fun a U => a = #[(.ref a1)] ∧ Z.Warmed39 U.vm ∧ U.heap = h0) (fun _ _ _ _ _ => True) (fun _ U o U' => ∃ v L, o = .returned v ∧ Q5 Z a1 w2 h0 n0 v U'.heap L ∧ FrameEnd U o U' L ({ frames := 0, cells := 0, slots := 0, locals := 0 } : Room).cells ({ frames := 0, cells := 0, slots := 0, locals := 0 } : Room).slots) := by
  refine MetFree.of_bodySF (plainFor_of_name pn_5) hisR ?_
  intro p e s m args below meth c s₁ Bd hml0 hP hK
  obtain ⟨rfl, hZ, hh⟩ := hP
  have hx := Bd.exec
  have hby := Bd.bytes
  have hml : c.maxLocals = 1 := hml0
  have hown : s.vm.findClass "com/example/verdant_canopy/verdantcanopy/core/CanonicalBuffer" = some m.cls := findClass_of_methodNamed Bd.named
  have hnm := (name_of_methodNamed Bd.named Bd.method).1
  have X0 : Stand p l e ({ frames := 0, cells := 0, slots := 0, locals := 0 } : Room) s m #[(.ref a1)] below meth c s₁ [] 0 0 := Stand.of_body Bd
  have e0 : s₁.heap = h0 := by rw [← hh, Bd.state]; rfl
  have N0 := Fr.nil n0
  have pre0 : ∀ t, Steps p.tables e below (s₁.setTop (mkF m 0 #[.val (.ref a1)] [])) t → Steps p.tables e below (s₁.setTop (entryFrame m #[(.ref a1)] 1)) t := fun t k => castTop (ef_5 m a1) k
  obtain ⟨T3, X3, e3, st3⟩ := getF X0 hx hZ hown (host := "") (Or.inl (hw _ (List.mem_of_getElem? (i := 10) rfl))) Via.refl e0 F_bytes_a1 (g := (mkF m 1 #[.val (.ref a1)] [(.ref a1)])) rfl rfl (hb hby d5_1)
  obtain ⟨fs, hr, hrun, hended, hW, hsame⟩ := X3.leave (v := some (.ref w2)) (fun h => by rw [Bd.returns] at h; cases h)
  refine ⟨_, _, pre0 _ ?_, hrun, hended, _, _, rfl, ?_, ⟨_, rfl⟩, hW, hsame.mono (by decide) (by decide)⟩
  · show Steps p.tables e below (s₁.setTop (mkF m 0 #[.val (.ref a1)] [])) _
    refine XS.aloadN X0.here hx rfl (hb hby d5_0) rfl rfl ?_
    show Steps p.tables e below (s₁.setTop (mkF m 1 #[.val (.ref a1)] [(.ref a1)])) _
    refine st3 _ ?_
    show Steps p.tables e below (T3.setTop (mkF m 4 #[.val (.ref a1)] [(.ref w2)])) _
    jvm_step X3.here [X3.here.top, hx, (hb hby d5_4), X3.method', Bd.returns, Value.isRef, FieldType.isReference]
    first | (intro acts; rw [hr _ acts rfl rfl rfl]) | rw [hr _ _ rfl rfl rfl]
    exact Steps.refl _
  · show Q5 Z a1 w2 h0 n0 _ T3.heap _
    rw [e3]
    exact ⟨rfl, N0, rfl⟩
theorem d6_0 : decode prog_48_method_6_code 0 = .ok (.aload_n 0, 1) := by decide +kernel
theorem d6_1 : decode prog_48_method_6_code 1 = .ok (.iconst 0, 1) := by decide +kernel
theorem d6_2 : decode prog_48_method_6_code 2 = .ok (.putfield 15, 3) := by decide +kernel
theorem d6_5 : decode prog_48_method_6_code 5 = .ok (.return_, 1) := by decide +kernel
theorem pn_6 : plainName "com/example/verdant_canopy/verdantcanopy/core/CanonicalBuffer" = true := by first | (simp [plainName, overriddenIn]; done) | decide +kernel
theorem ef_6 (m : MethodId) (x0 : Addr) : entryFrame m #[(.ref x0)] 1 = mkF m 0 #[.val (.ref x0)] [] := by first | (simp [entryFrame, mkF, argsToLocals, Value.category]; done) | rfl
def Q6 (Z : State) (a1 : Addr) (t : Addr) (kc : ClassId) (n : Int32) (vs : List Value) (h0 : Heap) (n0 : Nat) (v : Option Value) (h : Heap) (L : List Loc) : Prop := v = none ∧ Fr n0 L ∧ Keep h0 h [a1] ∧ own_B Z h a1 t kc (0 : Int32) vs
set_option maxRecDepth 65536 in
set_option maxHeartbeats 40000000 in
theorem rm6 (l : Launch) (Z : State) (a0 : Array Value) (hw : ∀ d ∈ tables_1, d.before a0 Z = true) (ws : List Jvm.Cond) (a1 : Addr) (t : Addr) (kc : ClassId) (n : Int32) (vs : List Value) (h0 : Heap) (n0 : Nat) (Z0 : n0 ≤ h0.size) (B : own_B Z h0 a1 t kc n vs) (g_a1 : n0 ≤ a1) :
    MetFree l (⟨"com/example/verdant_canopy/verdantcanopy/core/CanonicalBuffer", "clear", "()V"⟩ : MethodName) (head1 (Jvm.Cond.code (⟨"com/example/verdant_canopy/verdantcanopy/core/CanonicalBuffer", "clear", "()V"⟩ : MethodName) prog_48_method_6_code 1 none :: ws) ({ frames := 0, cells := 0, slots := 0, locals := 0 } : Room)) (fun a U => a = #[(.ref a1)] ∧ Z.Warmed39 U.vm ∧ U.heap = h0) (fun _ _ _ _ _ => True) (fun _ U o U' => ∃ v L, o = .returned v ∧ Q6 Z a1 t kc n vs h0 n0 v U'.heap L ∧ FrameEnd U o U' L ({ frames := 0, cells := 0, slots := 0, locals := 0 } : Room).cells ({ frames := 0, cells := 0, slots := 0, locals := 0 } : Room).slots) := by
  refine MetFree.of_bodySF (plainFor_of_name pn_6) hisR ?_
  intro p e s m args below meth c s₁ Bd hml0 hP hK
  obtain ⟨rfl, hZ, hh⟩ := hP
  have hx := Bd.exec
  have hby := Bd.bytes
  have hml : c.maxLocals = 1 := hml0
  have hown : s.vm.findClass "com/example/verdant_canopy/verdantcanopy/core/CanonicalBuffer" = some m.cls := findClass_of_methodNamed Bd.named
  have hnm := (name_of_methodNamed Bd.named Bd.method).1
  have X0 : Stand p l e ({ frames := 0, cells := 0, slots := 0, locals := 0 } : Room) s m #[(.ref a1)] below meth c s₁ [] 0 0 := Stand.of_body Bd
  have e0 : s₁.heap = h0 := by rw [← hh, Bd.state]; rfl
  have N0 := Fr.nil n0
  obtain ⟨E_a1, F_bytes_a1, F_length_a1, V, hne⟩ := B
  have pre0 : ∀ t, Steps p.tables e below (s₁.setTop (mkF m 0 #[.val (.ref a1)] [])) t → Steps p.tables e below (s₁.setTop (entryFrame m #[(.ref a1)] 1)) t := fun t k => castTop (ef_6 m a1) k
  obtain ⟨T2, h2, X2, e2, W2, st2⟩ := putF X0 hx hZ hown (host := "") (Or.inl (hw _ (List.mem_of_getElem? (i := 17) rfl))) Via.refl e0 F_length_a1 E_a1 (Or.inl (hw _ (List.mem_of_getElem? (i := 18) rfl))) (hw _ (List.mem_of_getElem? (i := 1) rfl)) (ty := .int) (by decide) rfl rfl (g := (mkF m 2 #[.val (.ref a1)] [(.int (0 : Int32)), (.ref a1)])) rfl rfl (hb hby d6_2)
  have Fw2 := F_length_a1.same W2
  have K2 : Keep h0 h2 [a1] := (Keep.refl h0 [a1]).wr W2 (Or.inl (List.mem_of_getElem? (i := 0) rfl))
  have N2 := Fr.snoc X2 N0 g_a1
  obtain ⟨fs, hr, hrun, hended, hW, hsame⟩ := X2.leave (v := none) (fun _ => rfl)
  refine ⟨_, _, pre0 _ ?_, hrun, hended, _, _, rfl, ?_, ⟨_, rfl⟩, hW, hsame.mono (by decide) (by decide)⟩
  · show Steps p.tables e below (s₁.setTop (mkF m 0 #[.val (.ref a1)] [])) _
    refine XS.aloadN X0.here hx rfl (hb hby d6_0) rfl rfl ?_
    show Steps p.tables e below (s₁.setTop (mkF m 1 #[.val (.ref a1)] [(.ref a1)])) _
    refine XS.iconst X0.here hx rfl (hb hby d6_1) ?_
    show Steps p.tables e below (s₁.setTop (mkF m 2 #[.val (.ref a1)] [(.int (0 : Int32)), (.ref a1)])) _
    refine st2 _ ?_
    show Steps p.tables e below (T2.setTop (mkF m 5 #[.val (.ref a1)] [])) _
    exact X2.returnOut hx Bd.returns (hb hby d6_5) hr
  · show Q6 Z a1 t kc n vs h0 n0 _ T2.heap _
    rw [e2]
    exact ⟨rfl, N2, K2, E_a1.wr W2, F_bytes_a1.other W2 (Or.inr (slot_ne (Or.inl (hw _ (List.mem_of_getElem? (i := 11) rfl))) (Or.inl (hw _ (List.mem_of_getElem? (i := 18) rfl))) (by decide) (t := (.array .byte)) (t' := .int) (by decide) (by decide))), Fw2, V.other W2 (Ne.symm hne), hne⟩
def Q0 (Z : State) (p1 : Int32) (p2 : Int32) (p3 : Int32) (p4 : Int32) (h0 : Heap) (n0 : Nat) (v : Option Value) (h : Heap) (L : List Loc) : Prop := v = some (.int (1 : Int32)) ∧ Fr n0 L
theorem pn_0 : plainName "com/example/verdant_canopy/verdantcanopy/core/CanonicalBufferPutPinLaw" = true := by first | (simp [plainName, overriddenIn]; done) | decide +kernel
theorem pd_0_0 : parseMethodDescriptor "()V" = some ⟨[], none⟩ := by decide +kernel
theorem pd_0_1 : parseMethodDescriptor "(I)V" = some ⟨[.int], none⟩ := by decide +kernel
theorem pd_0_2 : parseMethodDescriptor "()I" = some ⟨[], some .int⟩ := by decide +kernel
theorem pd_0_3 : parseMethodDescriptor "()[B" = some ⟨[], some (.array .byte)⟩ := by decide +kernel
theorem ef_0 (m : MethodId) (x0 : Int32) (x1 : Int32) (x2 : Int32) (x3 : Int32) : entryFrame m #[(.int x0), (.int x1), (.int x2), (.int x3)] maxLocals = mkF m 0 #[.val (.int x0), .val (.int x1), .val (.int x2), .val (.int x3), .unset, .unset, .unset, .unset, .unset] [] := by first | (simp [entryFrame, mkF, argsToLocals, Value.category, maxLocals]; done) | rfl
set_option maxRecDepth 65536 in
set_option maxHeartbeats 40000000 in
theorem rm0_p0 (l : Launch) (Z : State) (a0 : Array Value) (hw : ∀ d ∈ tables_1, d.before a0 Z = true) (ws : List Jvm.Cond) (p1 : Int32) (p2 : Int32) (p3 : Int32) (p4 : Int32) (h0 : Heap) (n0 : Nat) (Z0 : n0 ≤ h0.size) (hn : (p4 &&& (3 : Int32)) = (0 : Int32)) (hc8 : ¬ ((p4 &&& (4 : Int32)) = (0 : Int32))) (hc29 : ¬ ((1 : Int32) = (0 : Int32))) (hc46 : (p4 &&& (3 : Int32)) < (1 : Int32)) (hc58 : (p4 &&& (3 : Int32)) < (2 : Int32)) (hc70 : (p4 &&& (3 : Int32)) < (3 : Int32)) (hc112 : (p4 &&& (3 : Int32)) < (1 : Int32)) (hc136 : (p4 &&& (3 : Int32)) < (2 : Int32)) (hc160 : (p4 &&& (3 : Int32)) < (3 : Int32)) (hc183 : ¬ ((1 : Int32) = (0 : Int32))) (hc188 : (p4 &&& (3 : Int32)) = (0 : Int32)) (hc213 : ((own_b p3) &&& (255 : Int32)) = (p3 &&& (255 : Int32))) (hx86 : (0 : Int32) = (p4 &&& (3 : Int32))) (hx104 : (256 : Int32) = (256 : Int32)) :
    MetFree l x (head1 (Jvm.Cond.code x code maxLocals ret :: ws) room_1) (fun a U => a = #[(.int p1), (.int p2), (.int p3), (.int p4)] ∧ Z.Warmed39 U.vm ∧ U.heap = h0) (fun _ _ _ _ _ => True) (fun _ U o U' => ∃ v L, o = .returned v ∧ Q0 Z p1 p2 p3 p4 h0 n0 v U'.heap L ∧ FrameEnd U o U' L room_1.cells room_1.slots) := by
  refine MetFree.of_bodySF (plainFor_of_name pn_0) hisR ?_
  intro p e s m args below meth c s₁ Bd hml0 hP hK
  obtain ⟨rfl, hZ, hh⟩ := hP
  have hx := Bd.exec
  have hby := Bd.bytes
  have hml : c.maxLocals = 9 := hml0
  have hown : s.vm.findClass "com/example/verdant_canopy/verdantcanopy/core/CanonicalBufferPutPinLaw" = some m.cls := findClass_of_methodNamed Bd.named
  have hnm := (name_of_methodNamed Bd.named Bd.method).1
  have X0 : Stand p l e room_1 s m #[(.int p1), (.int p2), (.int p3), (.int p4)] below meth c s₁ [] 0 0 := Stand.of_body Bd
  have e0 : s₁.heap = h0 := by rw [← hh, Bd.state]; rfl
  have N0 := Fr.nil n0
  have pre0 : ∀ t, Steps p.tables e below (s₁.setTop (mkF m 0 #[.val (.int p1), .val (.int p2), .val (.int p3), .val (.int p4), .unset, .unset, .unset, .unset, .unset] [])) t → Steps p.tables e below (s₁.setTop (entryFrame m #[(.int p1), (.int p2), (.int p3), (.int p4)] maxLocals)) t := fun t k => castTop (ef_0 m p1 p2 p3 p4) k
  obtain ⟨T5, h5, X5, e5, E5, A5, D5, -, st5⟩ := newO X0 hx hZ hown (hw _ (List.mem_of_getElem? (i := 0) rfl)) (hw _ (List.mem_of_getElem? (i := 1) rfl)) (hw _ (List.mem_of_getElem? (i := 2) rfl)) e0 (g := (mkF m 18 #[.val (.int p1), .val (.int p2), .val (.int p3), .val (.int p4), .val (.int (p4 &&& (3 : Int32))), .val (.int (1 : Int32)), .unset, .unset, .unset] [])) rfl (hb hby at_18) (by decide) (by decide)
  obtain ⟨b5, g5⟩ : ∃ z, z = h0.size := ⟨_, rfl⟩
  rw [← g5] at A5 D5 st5
  have F_bytes_b5 : Fld Z h5 b5 "com/example/verdant_canopy/verdantcanopy/core/CanonicalBuffer" "bytes" "[B" .null := D5 (Or.inl (hw _ (List.mem_of_getElem? (i := 11) rfl))) (ty := (.array .byte)) (by decide)
  have F_length_b5 : Fld Z h5 b5 "com/example/verdant_canopy/verdantcanopy/core/CanonicalBuffer" "length" "I" (.int (0 : Int32)) := D5 (Or.inl (hw _ (List.mem_of_getElem? (i := 18) rfl))) (ty := .int) (by decide)
  have E_b5 := A5
  have g_b5 : n0 ≤ b5 := Nat.le_trans Z0 (Nat.le_of_eq g5.symm)
  have sz_b5 : h0.size ≤ b5 := (Nat.le_trans (Keep.refl h0 []).1 (Nat.le_of_eq g5.symm))
  have K5 : Keep h0 h5 [] := (Keep.refl h0 []).ext E5
  obtain ⟨_, _, ⟨T6, L6, k6, n6⟩, -, X6, ⟨Lc6, hQ6, l6, y6, z6⟩, st6⟩ := X5.specialBack hx (y := (⟨"com/example/verdant_canopy/verdantcanopy/core/CanonicalBuffer", "<init>", "()V"⟩ : MethodName)) rfl hown (mvT hZ (hw _ (List.mem_of_getElem? (i := 3) rfl))) (mvT hZ (hw _ (List.mem_of_getElem? (i := 4) rfl))) (mvT hZ (hw _ (List.mem_of_getElem? (i := 5) rfl))) (by decide) (backOf (W := 1) (rm1 l Z a0 hw [] b5 .null h5 n0 (Nat.le_trans Z0 E5.1) E_b5 F_bytes_b5 g_b5 F_length_b5) hZ (hw _ (List.mem_of_getElem? (i := 5) rfl)) (hw _ (List.mem_of_getElem? (i := 2) rfl)) (by decide) (by decide)) (g := (mkF m 22 #[.val (.int p1), .val (.int p2), .val (.int p3), .val (.int p4), .val (.int (p4 &&& (3 : Int32))), .val (.int (1 : Int32)), .unset, .unset, .unset] [(.ref b5), (.ref b5)])) rfl (by rw [hml]; rfl) (Steps.refl _) (a := b5) (argsL := []) (rest := [(.ref b5)]) (lenOf pd_0_0 rfl) rfl (by show 2 * 0 + _ ≤ _; exact Nat.le_of_eq rfl) (hb hby at_22) (fun _ _ => ⟨rfl, e5, (by decide : 1 + 1 ≤ _), (by decide : 2 + 256 ≤ _)⟩)
  dsimp only [Pt.U, Pt.locs, Pt.cells, Pt.slots] at X6 l6 y6 z6 st6 hQ6
  subst l6 y6 z6
  obtain ⟨rfl, N6q, K6q, t, kc, gt, B6⟩ := hQ6
  have Z6 : n0 ≤ T6.heap.size := Nat.le_trans (Nat.le_trans Z0 E5.1) K6q.1
  have N6 := Fr.app N0 N6q
  obtain ⟨cq7, kq7, q7a, q7b, q7c⟩ := isOf hZ rfl B6.1
  obtain ⟨_, _, ⟨T7, L7, k7, n7⟩, -, X7, ⟨Lc7, hQ7, l7, y7, z7⟩, st7⟩ := X6.virtualBack hx (y := (⟨"com/example/verdant_canopy/verdantcanopy/core/CanonicalBuffer", "put", "(I)V"⟩ : MethodName)) (z := (⟨"com/example/verdant_canopy/verdantcanopy/core/CanonicalBuffer", "put", "(I)V"⟩ : MethodName)) hown (mvT hZ (hw _ (List.mem_of_getElem? (i := 12) rfl))) (mvT hZ (hw _ (List.mem_of_getElem? (i := 13) rfl))) (notFace_of_selects (args := #[]) (mvT hZ (hw _ (List.mem_of_getElem? (i := 15) rfl)))) (mvT hZ (hw _ (List.mem_of_getElem? (i := 15) rfl))) (mvT hZ (hw _ (List.mem_of_getElem? (i := 14) rfl))) (by decide) (backOf (W := 0) (rm3 l Z a0 hw [] b5 p3 t kc (0 : Int32) ([(.int (0 : Int32)), (.int (0 : Int32)), (.int (0 : Int32)), (.int (0 : Int32))] : List Value) 0 T6.heap n0 Z6 B6 g_b5 gt (by decide) (Nat.le_of_ble_eq_true rfl) ⟨by decide, by decide⟩) hZ (hw _ (List.mem_of_getElem? (i := 16) rfl)) (hw _ (List.mem_of_getElem? (i := 2) rfl)) (by decide) (by decide)) q7a q7c (g := (mkF m 35 #[.val (.int p1), .val (.int p2), .val (.int p3), .val (.int p4), .val (.int (p4 &&& (3 : Int32))), .val (.int (1 : Int32)), .val (.ref b5), .unset, .unset] [(.int p3), (.ref b5)])) rfl (by rw [hml]; rfl) (Steps.refl _) (argsL := [(.int p3)]) (rest := []) (lenOf pd_0_1 rfl) rfl (by show 2 * 0 + _ ≤ _; exact Nat.le_of_eq rfl) (hb hby at_35) (fun _ _ => ⟨rfl, rfl, (by decide : 1 + (1 + 0) ≤ _), (by decide : 2 + (256 + 0) ≤ _)⟩)
  dsimp only [Pt.U, Pt.locs, Pt.cells, Pt.slots] at X7 l7 y7 z7 st7 hQ7
  subst l7 y7 z7
  obtain ⟨rfl, N7q, K7q, B7⟩ := hQ7
  have Z7 : n0 ≤ T7.heap.size := Nat.le_trans Z6 K7q.1
  have N7 := Fr.app N6 N7q
  obtain ⟨cq8, kq8, q8a, q8b, q8c⟩ := isOf hZ rfl B7.1
  obtain ⟨_, _, ⟨T8, L8, k8, n8⟩, -, X8, ⟨Lc8, hQ8, l8, y8, z8⟩, st8⟩ := X7.virtualBack hx (y := (⟨"com/example/verdant_canopy/verdantcanopy/core/CanonicalBuffer", "clear", "()V"⟩ : MethodName)) (z := (⟨"com/example/verdant_canopy/verdantcanopy/core/CanonicalBuffer", "clear", "()V"⟩ : MethodName)) hown (mvT hZ (hw _ (List.mem_of_getElem? (i := 29) rfl))) (mvT hZ (hw _ (List.mem_of_getElem? (i := 30) rfl))) (notFace_of_selects (args := #[]) (mvT hZ (hw _ (List.mem_of_getElem? (i := 32) rfl)))) (mvT hZ (hw _ (List.mem_of_getElem? (i := 32) rfl))) (mvT hZ (hw _ (List.mem_of_getElem? (i := 31) rfl))) (by decide) (backOf (W := 0) (rm6 l Z a0 hw [] b5 t kc ((0 : Int32) + (1 : Int32)) (([(.int (0 : Int32)), (.int (0 : Int32)), (.int (0 : Int32)), (.int (0 : Int32))] : List Value).set 0 (.int (own_b p3))) T7.heap n0 Z7 B7 g_b5) hZ (hw _ (List.mem_of_getElem? (i := 33) rfl)) (hw _ (List.mem_of_getElem? (i := 2) rfl)) (by decide) (by decide)) q8a q8c (g := (mkF m 40 #[.val (.int p1), .val (.int p2), .val (.int p3), .val (.int p4), .val (.int (p4 &&& (3 : Int32))), .val (.int (1 : Int32)), .val (.ref b5), .unset, .unset] [(.ref b5)])) rfl (by rw [hml]; rfl) (Steps.refl _) (argsL := []) (rest := []) (lenOf pd_0_0 rfl) rfl (by show 2 * 0 + _ ≤ _; exact Nat.le_of_eq rfl) (hb hby at_40) (fun _ _ => ⟨rfl, rfl, (by decide : 1 + (1 + 0) ≤ _), (by decide : 2 + (256 + 0) ≤ _)⟩)
  dsimp only [Pt.U, Pt.locs, Pt.cells, Pt.slots] at X8 l8 y8 z8 st8 hQ8
  subst l8 y8 z8
  obtain ⟨rfl, N8q, K8q, B8⟩ := hQ8
  have Z8 : n0 ≤ T8.heap.size := Nat.le_trans Z7 K8q.1
  have N8 := Fr.app N7 N8q
  obtain ⟨cq9, kq9, q9a, q9b, q9c⟩ := isOf hZ rfl B8.1
  obtain ⟨_, _, ⟨T9, L9, k9, n9⟩, -, X9, ⟨Lc9, hQ9, l9, y9, z9⟩, st9⟩ := X8.virtualBack hx (y := (⟨"com/example/verdant_canopy/verdantcanopy/core/CanonicalBuffer", "length", "()I"⟩ : MethodName)) (z := (⟨"com/example/verdant_canopy/verdantcanopy/core/CanonicalBuffer", "length", "()I"⟩ : MethodName)) hown (mvT hZ (hw _ (List.mem_of_getElem? (i := 19) rfl))) (mvT hZ (hw _ (List.mem_of_getElem? (i := 20) rfl))) (notFace_of_selects (args := #[]) (mvT hZ (hw _ (List.mem_of_getElem? (i := 22) rfl)))) (mvT hZ (hw _ (List.mem_of_getElem? (i := 22) rfl))) (mvT hZ (hw _ (List.mem_of_getElem? (i := 21) rfl))) (by decide) (backOf (W := 0) (rm4 l Z a0 hw [] b5 (0 : Int32) T8.heap n0 Z8 B8.2.2.1) hZ (hw _ (List.mem_of_getElem? (i := 23) rfl)) (hw _ (List.mem_of_getElem? (i := 2) rfl)) (by decide) (by decide)) q9a q9c (g := (mkF m 81 #[.val (.int p1), .val (.int p2), .val (.int p3), .val (.int p4), .val (.int (p4 &&& (3 : Int32))), .val (.int (1 : Int32)), .val (.ref b5), .unset, .unset] [(.ref b5)])) rfl (by rw [hml]; rfl) (Steps.refl _) (argsL := []) (rest := []) (lenOf pd_0_2 rfl) rfl (by show 2 * 0 + _ ≤ _; exact Nat.le_of_eq rfl) (hb hby at_81) (fun _ _ => ⟨rfl, rfl, (by decide : 1 + (1 + 0) ≤ _), (by decide : 2 + (256 + 0) ≤ _)⟩)
  dsimp only [Pt.U, Pt.locs, Pt.cells, Pt.slots] at X9 l9 y9 z9 st9 hQ9
  subst l9 y9 z9
  obtain ⟨rfl, N9q, e9q⟩ := hQ9
  have Z9 : n0 ≤ T9.heap.size := by rw [e9q]; exact Z8
  have B9 : own_B Z T9.heap b5 t kc (0 : Int32) (([(.int (0 : Int32)), (.int (0 : Int32)), (.int (0 : Int32)), (.int (0 : Int32))] : List Value).set 0 (.int (own_b p3))) := by rw [e9q]; exact B8
  have N9 := Fr.app N8 N9q
  obtain ⟨cq10, kq10, q10a, q10b, q10c⟩ := isOf hZ rfl B9.1
  obtain ⟨_, _, ⟨T10, L10, k10, n10⟩, -, X10, ⟨Lc10, hQ10, l10, y10, z10⟩, st10⟩ := X9.virtualBack hx (y := (⟨"com/example/verdant_canopy/verdantcanopy/core/CanonicalBuffer", "bytes", "()[B"⟩ : MethodName)) (z := (⟨"com/example/verdant_canopy/verdantcanopy/core/CanonicalBuffer", "bytes", "()[B"⟩ : MethodName)) hown (mvT hZ (hw _ (List.mem_of_getElem? (i := 24) rfl))) (mvT hZ (hw _ (List.mem_of_getElem? (i := 25) rfl))) (notFace_of_selects (args := #[]) (mvT hZ (hw _ (List.mem_of_getElem? (i := 27) rfl)))) (mvT hZ (hw _ (List.mem_of_getElem? (i := 27) rfl))) (mvT hZ (hw _ (List.mem_of_getElem? (i := 26) rfl))) (by decide) (backOf (W := 0) (rm5 l Z a0 hw [] b5 t T9.heap n0 Z9 B9.2.1) hZ (hw _ (List.mem_of_getElem? (i := 28) rfl)) (hw _ (List.mem_of_getElem? (i := 2) rfl)) (by decide) (by decide)) q10a q10c (g := (mkF m 93 #[.val (.int p1), .val (.int p2), .val (.int p3), .val (.int p4), .val (.int (p4 &&& (3 : Int32))), .val (.int (1 : Int32)), .val (.ref b5), .unset, .unset] [(.ref b5)])) rfl (by rw [hml]; rfl) (Steps.refl _) (argsL := []) (rest := []) (lenOf pd_0_3 rfl) rfl (by show 2 * 0 + _ ≤ _; exact Nat.le_of_eq rfl) (hb hby at_93) (fun _ _ => ⟨rfl, rfl, (by decide : 1 + (1 + 0) ≤ _), (by decide : 2 + (256 + 0) ≤ _)⟩)
  dsimp only [Pt.U, Pt.locs, Pt.cells, Pt.slots] at X10 l10 y10 z10 st10 hQ10
  subst l10 y10 z10
  obtain ⟨rfl, N10q, e10q⟩ := hQ10
  have Z10 : n0 ≤ T10.heap.size := by rw [e10q]; exact Z9
  have B10 : own_B Z T10.heap b5 t kc (0 : Int32) (([(.int (0 : Int32)), (.int (0 : Int32)), (.int (0 : Int32)), (.int (0 : Int32))] : List Value).set 0 (.int (own_b p3))) := by rw [e10q]; exact B9
  obtain ⟨cl_t, Ar_t, q_t, S_t, N_t, H_t, G_t⟩ := B10.2.2.2.1
  have hin206 : ¬ ((p4 &&& (3 : Int32)) < 0 ∨ cl_t.slots.size ≤ ((p4 &&& (3 : Int32))).toNatClampNeg) := inb_of S_t ⟨by rw [hn]; decide, by rw [hn]; decide⟩
  have hat206 : cl_t.slots[((p4 &&& (3 : Int32))).toNatClampNeg]? = some (.int (own_b p3)) := Has.at H_t hin206 (by rw [hn]; rfl)
  have N10 := Fr.app N9 N10q
  obtain ⟨fs, hr, hrun, hended, hW, hsame⟩ := X10.leave (v := some (.int (1 : Int32))) (fun h => by rw [Bd.returns] at h; cases h)
  refine ⟨_, _, pre0 _ ?_, hrun, hended, _, _, rfl, ?_, ⟨_, rfl⟩, hW, hsame.mono (by decide) (by decide)⟩
  · show Steps p.tables e below (s₁.setTop (mkF m 0 #[.val (.int p1), .val (.int p2), .val (.int p3), .val (.int p4), .unset, .unset, .unset, .unset, .unset] [])) _
    refine XS.iloadN X0.here hx rfl (hb hby at_0) rfl ?_
    show Steps p.tables e below (s₁.setTop (mkF m 1 #[.val (.int p1), .val (.int p2), .val (.int p3), .val (.int p4), .unset, .unset, .unset, .unset, .unset] [(.int p4)])) _
    refine XS.iconst X0.here hx rfl (hb hby at_1) ?_
    show Steps p.tables e below (s₁.setTop (mkF m 2 #[.val (.int p1), .val (.int p2), .val (.int p3), .val (.int p4), .unset, .unset, .unset, .unset, .unset] [(.int (3 : Int32)), (.int p4)])) _
    refine XS.iand X0.here hx rfl (hb hby at_2) rfl ?_
    show Steps p.tables e below (s₁.setTop (mkF m 3 #[.val (.int p1), .val (.int p2), .val (.int p3), .val (.int p4), .unset, .unset, .unset, .unset, .unset] [(.int (p4 &&& (3 : Int32)))])) _
    refine XS.istore X0.here hx rfl (hb hby at_3) rfl (l' := #[.val (.int p1), .val (.int p2), .val (.int p3), .val (.int p4), .val (.int (p4 &&& (3 : Int32))), .unset, .unset, .unset, .unset]) rfl ?_
    show Steps p.tables e below (s₁.setTop (mkF m 5 #[.val (.int p1), .val (.int p2), .val (.int p3), .val (.int p4), .val (.int (p4 &&& (3 : Int32))), .unset, .unset, .unset, .unset] [])) _
    refine XS.iloadN X0.here hx rfl (hb hby at_5) rfl ?_
    show Steps p.tables e below (s₁.setTop (mkF m 6 #[.val (.int p1), .val (.int p2), .val (.int p3), .val (.int p4), .val (.int (p4 &&& (3 : Int32))), .unset, .unset, .unset, .unset] [(.int p4)])) _
    refine XS.iconst X0.here hx rfl (hb hby at_6) ?_
    show Steps p.tables e below (s₁.setTop (mkF m 7 #[.val (.int p1), .val (.int p2), .val (.int p3), .val (.int p4), .val (.int (p4 &&& (3 : Int32))), .unset, .unset, .unset, .unset] [(.int (4 : Int32)), (.int p4)])) _
    refine XS.iand X0.here hx rfl (hb hby at_7) rfl ?_
    show Steps p.tables e below (s₁.setTop (mkF m 8 #[.val (.int p1), .val (.int p2), .val (.int p3), .val (.int p4), .val (.int (p4 &&& (3 : Int32))), .unset, .unset, .unset, .unset] [(.int (p4 &&& (4 : Int32)))])) _
    refine XS.ifNo X0.here hx rfl (hb hby at_8) rfl ((if0 _ _).trans (feq hc8).1) ?_
    show Steps p.tables e below (s₁.setTop (mkF m 11 #[.val (.int p1), .val (.int p2), .val (.int p3), .val (.int p4), .val (.int (p4 &&& (3 : Int32))), .unset, .unset, .unset, .unset] [])) _
    refine XS.iconst X0.here hx rfl (hb hby at_11) ?_
    show Steps p.tables e below (s₁.setTop (mkF m 12 #[.val (.int p1), .val (.int p2), .val (.int p3), .val (.int p4), .val (.int (p4 &&& (3 : Int32))), .unset, .unset, .unset, .unset] [(.int (1 : Int32))])) _
    refine XS.goto X0.here hx rfl (pc0 := 12) (pc' := 16) rfl (hb hby at_12) (by decide) (by decide) ?_
    show Steps p.tables e below (s₁.setTop (mkF m 16 #[.val (.int p1), .val (.int p2), .val (.int p3), .val (.int p4), .val (.int (p4 &&& (3 : Int32))), .unset, .unset, .unset, .unset] [(.int (1 : Int32))])) _
    refine XS.istore X0.here hx rfl (hb hby at_16) rfl (l' := #[.val (.int p1), .val (.int p2), .val (.int p3), .val (.int p4), .val (.int (p4 &&& (3 : Int32))), .val (.int (1 : Int32)), .unset, .unset, .unset]) rfl ?_
    show Steps p.tables e below (s₁.setTop (mkF m 18 #[.val (.int p1), .val (.int p2), .val (.int p3), .val (.int p4), .val (.int (p4 &&& (3 : Int32))), .val (.int (1 : Int32)), .unset, .unset, .unset] [])) _
    refine st5 _ ?_
    show Steps p.tables e below (T5.setTop (mkF m 21 #[.val (.int p1), .val (.int p2), .val (.int p3), .val (.int p4), .val (.int (p4 &&& (3 : Int32))), .val (.int (1 : Int32)), .unset, .unset, .unset] [(.ref b5)])) _
    refine XS.dup X5.here hx rfl (hb hby at_21) rfl rfl ?_
    show Steps p.tables e below (T5.setTop (mkF m 22 #[.val (.int p1), .val (.int p2), .val (.int p3), .val (.int p4), .val (.int (p4 &&& (3 : Int32))), .val (.int (1 : Int32)), .unset, .unset, .unset] [(.ref b5), (.ref b5)])) _
    refine st6.trans ?_
    show Steps p.tables e below (T6.setTop (mkF m 25 #[.val (.int p1), .val (.int p2), .val (.int p3), .val (.int p4), .val (.int (p4 &&& (3 : Int32))), .val (.int (1 : Int32)), .unset, .unset, .unset] [(.ref b5)])) _
    refine XS.astore X6.here hx rfl (hb hby at_25) rfl rfl (l' := #[.val (.int p1), .val (.int p2), .val (.int p3), .val (.int p4), .val (.int (p4 &&& (3 : Int32))), .val (.int (1 : Int32)), .val (.ref b5), .unset, .unset]) rfl ?_
    show Steps p.tables e below (T6.setTop (mkF m 27 #[.val (.int p1), .val (.int p2), .val (.int p3), .val (.int p4), .val (.int (p4 &&& (3 : Int32))), .val (.int (1 : Int32)), .val (.ref b5), .unset, .unset] [])) _
    refine XS.iload X6.here hx rfl (hb hby at_27) rfl ?_
    show Steps p.tables e below (T6.setTop (mkF m 29 #[.val (.int p1), .val (.int p2), .val (.int p3), .val (.int p4), .val (.int (p4 &&& (3 : Int32))), .val (.int (1 : Int32)), .val (.ref b5), .unset, .unset] [(.int (1 : Int32))])) _
    refine XS.ifNo X6.here hx rfl (hb hby at_29) rfl ((if0 _ _).trans (feq hc29).1) ?_
    show Steps p.tables e below (T6.setTop (mkF m 32 #[.val (.int p1), .val (.int p2), .val (.int p3), .val (.int p4), .val (.int (p4 &&& (3 : Int32))), .val (.int (1 : Int32)), .val (.ref b5), .unset, .unset] [])) _
    refine XS.aload X6.here hx rfl (hb hby at_32) rfl rfl ?_
    show Steps p.tables e below (T6.setTop (mkF m 34 #[.val (.int p1), .val (.int p2), .val (.int p3), .val (.int p4), .val (.int (p4 &&& (3 : Int32))), .val (.int (1 : Int32)), .val (.ref b5), .unset, .unset] [(.ref b5)])) _
    refine XS.iloadN X6.here hx rfl (hb hby at_34) rfl ?_
    show Steps p.tables e below (T6.setTop (mkF m 35 #[.val (.int p1), .val (.int p2), .val (.int p3), .val (.int p4), .val (.int (p4 &&& (3 : Int32))), .val (.int (1 : Int32)), .val (.ref b5), .unset, .unset] [(.int p3), (.ref b5)])) _
    refine st7.trans ?_
    show Steps p.tables e below (T7.setTop (mkF m 38 #[.val (.int p1), .val (.int p2), .val (.int p3), .val (.int p4), .val (.int (p4 &&& (3 : Int32))), .val (.int (1 : Int32)), .val (.ref b5), .unset, .unset] [])) _
    refine XS.aload X7.here hx rfl (hb hby at_38) rfl rfl ?_
    show Steps p.tables e below (T7.setTop (mkF m 40 #[.val (.int p1), .val (.int p2), .val (.int p3), .val (.int p4), .val (.int (p4 &&& (3 : Int32))), .val (.int (1 : Int32)), .val (.ref b5), .unset, .unset] [(.ref b5)])) _
    refine st8.trans ?_
    show Steps p.tables e below (T8.setTop (mkF m 43 #[.val (.int p1), .val (.int p2), .val (.int p3), .val (.int p4), .val (.int (p4 &&& (3 : Int32))), .val (.int (1 : Int32)), .val (.ref b5), .unset, .unset] [])) _
    refine XS.iload X8.here hx rfl (hb hby at_43) rfl ?_
    show Steps p.tables e below (T8.setTop (mkF m 45 #[.val (.int p1), .val (.int p2), .val (.int p3), .val (.int p4), .val (.int (p4 &&& (3 : Int32))), .val (.int (1 : Int32)), .val (.ref b5), .unset, .unset] [(.int (p4 &&& (3 : Int32)))])) _
    refine XS.iconst X8.here hx rfl (hb hby at_45) ?_
    show Steps p.tables e below (T8.setTop (mkF m 46 #[.val (.int p1), .val (.int p2), .val (.int p3), .val (.int p4), .val (.int (p4 &&& (3 : Int32))), .val (.int (1 : Int32)), .val (.ref b5), .unset, .unset] [(.int (1 : Int32)), (.int (p4 &&& (3 : Int32)))])) _
    refine XS.icmpYes X8.here hx rfl (pc0 := 46) (pc' := 55) rfl (hb hby at_46) rfl (tlt hc46).1 (by decide) (by decide) ?_
    show Steps p.tables e below (T8.setTop (mkF m 55 #[.val (.int p1), .val (.int p2), .val (.int p3), .val (.int p4), .val (.int (p4 &&& (3 : Int32))), .val (.int (1 : Int32)), .val (.ref b5), .unset, .unset] [])) _
    refine XS.iload X8.here hx rfl (hb hby at_55) rfl ?_
    show Steps p.tables e below (T8.setTop (mkF m 57 #[.val (.int p1), .val (.int p2), .val (.int p3), .val (.int p4), .val (.int (p4 &&& (3 : Int32))), .val (.int (1 : Int32)), .val (.ref b5), .unset, .unset] [(.int (p4 &&& (3 : Int32)))])) _
    refine XS.iconst X8.here hx rfl (hb hby at_57) ?_
    show Steps p.tables e below (T8.setTop (mkF m 58 #[.val (.int p1), .val (.int p2), .val (.int p3), .val (.int p4), .val (.int (p4 &&& (3 : Int32))), .val (.int (1 : Int32)), .val (.ref b5), .unset, .unset] [(.int (2 : Int32)), (.int (p4 &&& (3 : Int32)))])) _
    refine XS.icmpYes X8.here hx rfl (pc0 := 58) (pc' := 67) rfl (hb hby at_58) rfl (tlt hc58).1 (by decide) (by decide) ?_
    show Steps p.tables e below (T8.setTop (mkF m 67 #[.val (.int p1), .val (.int p2), .val (.int p3), .val (.int p4), .val (.int (p4 &&& (3 : Int32))), .val (.int (1 : Int32)), .val (.ref b5), .unset, .unset] [])) _
    refine XS.iload X8.here hx rfl (hb hby at_67) rfl ?_
    show Steps p.tables e below (T8.setTop (mkF m 69 #[.val (.int p1), .val (.int p2), .val (.int p3), .val (.int p4), .val (.int (p4 &&& (3 : Int32))), .val (.int (1 : Int32)), .val (.ref b5), .unset, .unset] [(.int (p4 &&& (3 : Int32)))])) _
    refine XS.iconst X8.here hx rfl (hb hby at_69) ?_
    show Steps p.tables e below (T8.setTop (mkF m 70 #[.val (.int p1), .val (.int p2), .val (.int p3), .val (.int p4), .val (.int (p4 &&& (3 : Int32))), .val (.int (1 : Int32)), .val (.ref b5), .unset, .unset] [(.int (3 : Int32)), (.int (p4 &&& (3 : Int32)))])) _
    refine XS.icmpYes X8.here hx rfl (pc0 := 70) (pc' := 79) rfl (hb hby at_70) rfl (tlt hc70).1 (by decide) (by decide) ?_
    show Steps p.tables e below (T8.setTop (mkF m 79 #[.val (.int p1), .val (.int p2), .val (.int p3), .val (.int p4), .val (.int (p4 &&& (3 : Int32))), .val (.int (1 : Int32)), .val (.ref b5), .unset, .unset] [])) _
    refine XS.aload X8.here hx rfl (hb hby at_79) rfl rfl ?_
    show Steps p.tables e below (T8.setTop (mkF m 81 #[.val (.int p1), .val (.int p2), .val (.int p3), .val (.int p4), .val (.int (p4 &&& (3 : Int32))), .val (.int (1 : Int32)), .val (.ref b5), .unset, .unset] [(.ref b5)])) _
    refine st9.trans ?_
    show Steps p.tables e below (T9.setTop (mkF m 84 #[.val (.int p1), .val (.int p2), .val (.int p3), .val (.int p4), .val (.int (p4 &&& (3 : Int32))), .val (.int (1 : Int32)), .val (.ref b5), .unset, .unset] [(.int (0 : Int32))])) _
    refine XS.iload X9.here hx rfl (hb hby at_84) rfl ?_
    show Steps p.tables e below (T9.setTop (mkF m 86 #[.val (.int p1), .val (.int p2), .val (.int p3), .val (.int p4), .val (.int (p4 &&& (3 : Int32))), .val (.int (1 : Int32)), .val (.ref b5), .unset, .unset] [(.int (p4 &&& (3 : Int32))), (.int (0 : Int32))])) _
    refine XS.icmpYes X9.here hx rfl (pc0 := 86) (pc' := 91) rfl (hb hby at_86) rfl (teq hx86).1 (by decide) (by decide) ?_
    show Steps p.tables e below (T9.setTop (mkF m 91 #[.val (.int p1), .val (.int p2), .val (.int p3), .val (.int p4), .val (.int (p4 &&& (3 : Int32))), .val (.int (1 : Int32)), .val (.ref b5), .unset, .unset] [])) _
    refine XS.aload X9.here hx rfl (hb hby at_91) rfl rfl ?_
    show Steps p.tables e below (T9.setTop (mkF m 93 #[.val (.int p1), .val (.int p2), .val (.int p3), .val (.int p4), .val (.int (p4 &&& (3 : Int32))), .val (.int (1 : Int32)), .val (.ref b5), .unset, .unset] [(.ref b5)])) _
    refine st10.trans ?_
    show Steps p.tables e below (T10.setTop (mkF m 96 #[.val (.int p1), .val (.int p2), .val (.int p3), .val (.int p4), .val (.int (p4 &&& (3 : Int32))), .val (.int (1 : Int32)), .val (.ref b5), .unset, .unset] [(.ref t)])) _
    refine XS.astore X10.here hx rfl (hb hby at_96) rfl rfl (l' := #[.val (.int p1), .val (.int p2), .val (.int p3), .val (.int p4), .val (.int (p4 &&& (3 : Int32))), .val (.int (1 : Int32)), .val (.ref b5), .val (.ref t), .unset]) rfl ?_
    show Steps p.tables e below (T10.setTop (mkF m 98 #[.val (.int p1), .val (.int p2), .val (.int p3), .val (.int p4), .val (.int (p4 &&& (3 : Int32))), .val (.int (1 : Int32)), .val (.ref b5), .val (.ref t), .unset] [])) _
    refine XS.aload X10.here hx rfl (hb hby at_98) rfl rfl ?_
    show Steps p.tables e below (T10.setTop (mkF m 100 #[.val (.int p1), .val (.int p2), .val (.int p3), .val (.int p4), .val (.int (p4 &&& (3 : Int32))), .val (.int (1 : Int32)), .val (.ref b5), .val (.ref t), .unset] [(.ref t)])) _
    refine X10.arraylength hx Ar_t.1 (State.isArrayOf_alike hZ.alike Ar_t.2.1) (g := (mkF m 100 #[.val (.int p1), .val (.int p2), .val (.int p3), .val (.int p4), .val (.int (p4 &&& (3 : Int32))), .val (.int (1 : Int32)), .val (.ref b5), .val (.ref t), .unset] [(.ref t)])) rfl rfl (hb hby at_100) _ ?_
    rw [len_of S_t N_t]
    show Steps p.tables e below (T10.setTop (mkF m 101 #[.val (.int p1), .val (.int p2), .val (.int p3), .val (.int p4), .val (.int (p4 &&& (3 : Int32))), .val (.int (1 : Int32)), .val (.ref b5), .val (.ref t), .unset] [(.int (256 : Int32))])) _
    refine XS.sipush X10.here hx rfl (hb hby at_101) ?_
    show Steps p.tables e below (T10.setTop (mkF m 104 #[.val (.int p1), .val (.int p2), .val (.int p3), .val (.int p4), .val (.int (p4 &&& (3 : Int32))), .val (.int (1 : Int32)), .val (.ref b5), .val (.ref t), .unset] [(.int (256 : Int32)), (.int (256 : Int32))])) _
    refine XS.icmpYes X10.here hx rfl (pc0 := 104) (pc' := 109) rfl (hb hby at_104) rfl (teq hx104).1 (by decide) (by decide) ?_
    show Steps p.tables e below (T10.setTop (mkF m 109 #[.val (.int p1), .val (.int p2), .val (.int p3), .val (.int p4), .val (.int (p4 &&& (3 : Int32))), .val (.int (1 : Int32)), .val (.ref b5), .val (.ref t), .unset] [])) _
    refine XS.iload X10.here hx rfl (hb hby at_109) rfl ?_
    show Steps p.tables e below (T10.setTop (mkF m 111 #[.val (.int p1), .val (.int p2), .val (.int p3), .val (.int p4), .val (.int (p4 &&& (3 : Int32))), .val (.int (1 : Int32)), .val (.ref b5), .val (.ref t), .unset] [(.int (p4 &&& (3 : Int32)))])) _
    refine XS.iconst X10.here hx rfl (hb hby at_111) ?_
    show Steps p.tables e below (T10.setTop (mkF m 112 #[.val (.int p1), .val (.int p2), .val (.int p3), .val (.int p4), .val (.int (p4 &&& (3 : Int32))), .val (.int (1 : Int32)), .val (.ref b5), .val (.ref t), .unset] [(.int (1 : Int32)), (.int (p4 &&& (3 : Int32)))])) _
    refine XS.icmpYes X10.here hx rfl (pc0 := 112) (pc' := 133) rfl (hb hby at_112) rfl (tlt hc112).1 (by decide) (by decide) ?_
    show Steps p.tables e below (T10.setTop (mkF m 133 #[.val (.int p1), .val (.int p2), .val (.int p3), .val (.int p4), .val (.int (p4 &&& (3 : Int32))), .val (.int (1 : Int32)), .val (.ref b5), .val (.ref t), .unset] [])) _
    refine XS.iload X10.here hx rfl (hb hby at_133) rfl ?_
    show Steps p.tables e below (T10.setTop (mkF m 135 #[.val (.int p1), .val (.int p2), .val (.int p3), .val (.int p4), .val (.int (p4 &&& (3 : Int32))), .val (.int (1 : Int32)), .val (.ref b5), .val (.ref t), .unset] [(.int (p4 &&& (3 : Int32)))])) _
    refine XS.iconst X10.here hx rfl (hb hby at_135) ?_
    show Steps p.tables e below (T10.setTop (mkF m 136 #[.val (.int p1), .val (.int p2), .val (.int p3), .val (.int p4), .val (.int (p4 &&& (3 : Int32))), .val (.int (1 : Int32)), .val (.ref b5), .val (.ref t), .unset] [(.int (2 : Int32)), (.int (p4 &&& (3 : Int32)))])) _
    refine XS.icmpYes X10.here hx rfl (pc0 := 136) (pc' := 157) rfl (hb hby at_136) rfl (tlt hc136).1 (by decide) (by decide) ?_
    show Steps p.tables e below (T10.setTop (mkF m 157 #[.val (.int p1), .val (.int p2), .val (.int p3), .val (.int p4), .val (.int (p4 &&& (3 : Int32))), .val (.int (1 : Int32)), .val (.ref b5), .val (.ref t), .unset] [])) _
    refine XS.iload X10.here hx rfl (hb hby at_157) rfl ?_
    show Steps p.tables e below (T10.setTop (mkF m 159 #[.val (.int p1), .val (.int p2), .val (.int p3), .val (.int p4), .val (.int (p4 &&& (3 : Int32))), .val (.int (1 : Int32)), .val (.ref b5), .val (.ref t), .unset] [(.int (p4 &&& (3 : Int32)))])) _
    refine XS.iconst X10.here hx rfl (hb hby at_159) ?_
    show Steps p.tables e below (T10.setTop (mkF m 160 #[.val (.int p1), .val (.int p2), .val (.int p3), .val (.int p4), .val (.int (p4 &&& (3 : Int32))), .val (.int (1 : Int32)), .val (.ref b5), .val (.ref t), .unset] [(.int (3 : Int32)), (.int (p4 &&& (3 : Int32)))])) _
    refine XS.icmpYes X10.here hx rfl (pc0 := 160) (pc' := 181) rfl (hb hby at_160) rfl (tlt hc160).1 (by decide) (by decide) ?_
    show Steps p.tables e below (T10.setTop (mkF m 181 #[.val (.int p1), .val (.int p2), .val (.int p3), .val (.int p4), .val (.int (p4 &&& (3 : Int32))), .val (.int (1 : Int32)), .val (.ref b5), .val (.ref t), .unset] [])) _
    refine XS.iload X10.here hx rfl (hb hby at_181) rfl ?_
    show Steps p.tables e below (T10.setTop (mkF m 183 #[.val (.int p1), .val (.int p2), .val (.int p3), .val (.int p4), .val (.int (p4 &&& (3 : Int32))), .val (.int (1 : Int32)), .val (.ref b5), .val (.ref t), .unset] [(.int (1 : Int32))])) _
    refine XS.ifNo X10.here hx rfl (hb hby at_183) rfl ((if0 _ _).trans (feq hc183).1) ?_
    show Steps p.tables e below (T10.setTop (mkF m 186 #[.val (.int p1), .val (.int p2), .val (.int p3), .val (.int p4), .val (.int (p4 &&& (3 : Int32))), .val (.int (1 : Int32)), .val (.ref b5), .val (.ref t), .unset] [])) _
    refine XS.iload X10.here hx rfl (hb hby at_186) rfl ?_
    show Steps p.tables e below (T10.setTop (mkF m 188 #[.val (.int p1), .val (.int p2), .val (.int p3), .val (.int p4), .val (.int (p4 &&& (3 : Int32))), .val (.int (1 : Int32)), .val (.ref b5), .val (.ref t), .unset] [(.int (p4 &&& (3 : Int32)))])) _
    refine XS.ifNo X10.here hx rfl (hb hby at_188) rfl ((if0 _ _).trans (teq hc188).2) ?_
    show Steps p.tables e below (T10.setTop (mkF m 191 #[.val (.int p1), .val (.int p2), .val (.int p3), .val (.int p4), .val (.int (p4 &&& (3 : Int32))), .val (.int (1 : Int32)), .val (.ref b5), .val (.ref t), .unset] [])) _
    refine XS.iloadN X10.here hx rfl (hb hby at_191) rfl ?_
    show Steps p.tables e below (T10.setTop (mkF m 192 #[.val (.int p1), .val (.int p2), .val (.int p3), .val (.int p4), .val (.int (p4 &&& (3 : Int32))), .val (.int (1 : Int32)), .val (.ref b5), .val (.ref t), .unset] [(.int p3)])) _
    refine XS.sipush X10.here hx rfl (hb hby at_192) ?_
    show Steps p.tables e below (T10.setTop (mkF m 195 #[.val (.int p1), .val (.int p2), .val (.int p3), .val (.int p4), .val (.int (p4 &&& (3 : Int32))), .val (.int (1 : Int32)), .val (.ref b5), .val (.ref t), .unset] [(.int (255 : Int32)), (.int p3)])) _
    refine XS.iand X10.here hx rfl (hb hby at_195) rfl ?_
    show Steps p.tables e below (T10.setTop (mkF m 196 #[.val (.int p1), .val (.int p2), .val (.int p3), .val (.int p4), .val (.int (p4 &&& (3 : Int32))), .val (.int (1 : Int32)), .val (.ref b5), .val (.ref t), .unset] [(.int (p3 &&& (255 : Int32)))])) _
    refine XS.goto X10.here hx rfl (pc0 := 196) (pc' := 200) rfl (hb hby at_196) (by decide) (by decide) ?_
    show Steps p.tables e below (T10.setTop (mkF m 200 #[.val (.int p1), .val (.int p2), .val (.int p3), .val (.int p4), .val (.int (p4 &&& (3 : Int32))), .val (.int (1 : Int32)), .val (.ref b5), .val (.ref t), .unset] [(.int (p3 &&& (255 : Int32)))])) _
    refine XS.istore X10.here hx rfl (hb hby at_200) rfl (l' := #[.val (.int p1), .val (.int p2), .val (.int p3), .val (.int p4), .val (.int (p4 &&& (3 : Int32))), .val (.int (1 : Int32)), .val (.ref b5), .val (.ref t), .val (.int (p3 &&& (255 : Int32)))]) rfl ?_
    show Steps p.tables e below (T10.setTop (mkF m 202 #[.val (.int p1), .val (.int p2), .val (.int p3), .val (.int p4), .val (.int (p4 &&& (3 : Int32))), .val (.int (1 : Int32)), .val (.ref b5), .val (.ref t), .val (.int (p3 &&& (255 : Int32)))] [])) _
    refine XS.aload X10.here hx rfl (hb hby at_202) rfl rfl ?_
    show Steps p.tables e below (T10.setTop (mkF m 204 #[.val (.int p1), .val (.int p2), .val (.int p3), .val (.int p4), .val (.int (p4 &&& (3 : Int32))), .val (.int (1 : Int32)), .val (.ref b5), .val (.ref t), .val (.int (p3 &&& (255 : Int32)))] [(.ref t)])) _
    refine XS.iload X10.here hx rfl (hb hby at_204) rfl ?_
    show Steps p.tables e below (T10.setTop (mkF m 206 #[.val (.int p1), .val (.int p2), .val (.int p3), .val (.int p4), .val (.int (p4 &&& (3 : Int32))), .val (.int (1 : Int32)), .val (.ref b5), .val (.ref t), .val (.int (p3 &&& (255 : Int32)))] [(.int (p4 &&& (3 : Int32))), (.ref t)])) _
    refine X10.baloadBytes hx (j := (p4 &&& (3 : Int32))) (v := (.int (own_b p3))) Ar_t.1 (State.isArrayOf_alike hZ.alike Ar_t.2.1) Ar_t.2.2 hin206 hat206 (g := (mkF m 206 #[.val (.int p1), .val (.int p2), .val (.int p3), .val (.int p4), .val (.int (p4 &&& (3 : Int32))), .val (.int (1 : Int32)), .val (.ref b5), .val (.ref t), .val (.int (p3 &&& (255 : Int32)))] [(.int (p4 &&& (3 : Int32))), (.ref t)])) rfl rfl (hb hby at_206) _ ?_
    show Steps p.tables e below (T10.setTop (mkF m 207 #[.val (.int p1), .val (.int p2), .val (.int p3), .val (.int p4), .val (.int (p4 &&& (3 : Int32))), .val (.int (1 : Int32)), .val (.ref b5), .val (.ref t), .val (.int (p3 &&& (255 : Int32)))] [(.int (own_b p3))])) _
    refine XS.sipush X10.here hx rfl (hb hby at_207) ?_
    show Steps p.tables e below (T10.setTop (mkF m 210 #[.val (.int p1), .val (.int p2), .val (.int p3), .val (.int p4), .val (.int (p4 &&& (3 : Int32))), .val (.int (1 : Int32)), .val (.ref b5), .val (.ref t), .val (.int (p3 &&& (255 : Int32)))] [(.int (255 : Int32)), (.int (own_b p3))])) _
    refine XS.iand X10.here hx rfl (hb hby at_210) rfl ?_
    show Steps p.tables e below (T10.setTop (mkF m 211 #[.val (.int p1), .val (.int p2), .val (.int p3), .val (.int p4), .val (.int (p4 &&& (3 : Int32))), .val (.int (1 : Int32)), .val (.ref b5), .val (.ref t), .val (.int (p3 &&& (255 : Int32)))] [(.int ((own_b p3) &&& (255 : Int32)))])) _
    refine XS.iload X10.here hx rfl (hb hby at_211) rfl ?_
    show Steps p.tables e below (T10.setTop (mkF m 213 #[.val (.int p1), .val (.int p2), .val (.int p3), .val (.int p4), .val (.int (p4 &&& (3 : Int32))), .val (.int (1 : Int32)), .val (.ref b5), .val (.ref t), .val (.int (p3 &&& (255 : Int32)))] [(.int (p3 &&& (255 : Int32))), (.int ((own_b p3) &&& (255 : Int32)))])) _
    refine XS.icmpNo X10.here hx rfl (hb hby at_213) rfl (teq hc213).2 ?_
    show Steps p.tables e below (T10.setTop (mkF m 216 #[.val (.int p1), .val (.int p2), .val (.int p3), .val (.int p4), .val (.int (p4 &&& (3 : Int32))), .val (.int (1 : Int32)), .val (.ref b5), .val (.ref t), .val (.int (p3 &&& (255 : Int32)))] [])) _
    refine XS.iconst X10.here hx rfl (hb hby at_216) ?_
    show Steps p.tables e below (T10.setTop (mkF m 217 #[.val (.int p1), .val (.int p2), .val (.int p3), .val (.int p4), .val (.int (p4 &&& (3 : Int32))), .val (.int (1 : Int32)), .val (.ref b5), .val (.ref t), .val (.int (p3 &&& (255 : Int32)))] [(.int (1 : Int32))])) _
    refine XS.goto X10.here hx rfl (pc0 := 217) (pc' := 221) rfl (hb hby at_217) (by decide) (by decide) ?_
    show Steps p.tables e below (T10.setTop (mkF m 221 #[.val (.int p1), .val (.int p2), .val (.int p3), .val (.int p4), .val (.int (p4 &&& (3 : Int32))), .val (.int (1 : Int32)), .val (.ref b5), .val (.ref t), .val (.int (p3 &&& (255 : Int32)))] [(.int (1 : Int32))])) _
    exact retN X10 hx (t := .boolean) Bd.returns (by simp) (hb hby at_221) hr
  · show Q0 Z p1 p2 p3 p4 h0 n0 _ T10.heap _
    exact ⟨rfl, N10⟩
set_option maxRecDepth 65536 in
set_option maxHeartbeats 40000000 in
theorem rm0_p1 (l : Launch) (Z : State) (a0 : Array Value) (hw : ∀ d ∈ tables_1, d.before a0 Z = true) (ws : List Jvm.Cond) (p1 : Int32) (p2 : Int32) (p3 : Int32) (p4 : Int32) (h0 : Heap) (n0 : Nat) (Z0 : n0 ≤ h0.size) (hn : (p4 &&& (3 : Int32)) = (1 : Int32)) (hc8 : ¬ ((p4 &&& (4 : Int32)) = (0 : Int32))) (hc29 : ¬ ((1 : Int32) = (0 : Int32))) (hc46 : ¬ ((p4 &&& (3 : Int32)) < (1 : Int32))) (hc58 : (p4 &&& (3 : Int32)) < (2 : Int32)) (hc70 : (p4 &&& (3 : Int32)) < (3 : Int32)) (hc112 : ¬ ((p4 &&& (3 : Int32)) < (1 : Int32))) (hc128 : ((own_b p1) &&& (255 : Int32)) = (p1 &&& (255 : Int32))) (hc136 : (p4 &&& (3 : Int32)) < (2 : Int32)) (hc160 : (p4 &&& (3 : Int32)) < (3 : Int32)) (hc183 : ¬ ((1 : Int32) = (0 : Int32))) (hc188 : ¬ ((p4 &&& (3 : Int32)) = (0 : Int32))) (hc213 : ((0 : Int32) &&& (255 : Int32)) = (0 : Int32)) (hx86 : ((0 : Int32) + (1 : Int32)) = (p4 &&& (3 : Int32))) (hx104 : (256 : Int32) = (256 : Int32)) :
    MetFree l x (head1 (Jvm.Cond.code x code maxLocals ret :: ws) room_1) (fun a U => a = #[(.int p1), (.int p2), (.int p3), (.int p4)] ∧ Z.Warmed39 U.vm ∧ U.heap = h0) (fun _ _ _ _ _ => True) (fun _ U o U' => ∃ v L, o = .returned v ∧ Q0 Z p1 p2 p3 p4 h0 n0 v U'.heap L ∧ FrameEnd U o U' L room_1.cells room_1.slots) := by
  refine MetFree.of_bodySF (plainFor_of_name pn_0) hisR ?_
  intro p e s m args below meth c s₁ Bd hml0 hP hK
  obtain ⟨rfl, hZ, hh⟩ := hP
  have hx := Bd.exec
  have hby := Bd.bytes
  have hml : c.maxLocals = 9 := hml0
  have hown : s.vm.findClass "com/example/verdant_canopy/verdantcanopy/core/CanonicalBufferPutPinLaw" = some m.cls := findClass_of_methodNamed Bd.named
  have hnm := (name_of_methodNamed Bd.named Bd.method).1
  have X0 : Stand p l e room_1 s m #[(.int p1), (.int p2), (.int p3), (.int p4)] below meth c s₁ [] 0 0 := Stand.of_body Bd
  have e0 : s₁.heap = h0 := by rw [← hh, Bd.state]; rfl
  have N0 := Fr.nil n0
  have pre0 : ∀ t, Steps p.tables e below (s₁.setTop (mkF m 0 #[.val (.int p1), .val (.int p2), .val (.int p3), .val (.int p4), .unset, .unset, .unset, .unset, .unset] [])) t → Steps p.tables e below (s₁.setTop (entryFrame m #[(.int p1), (.int p2), (.int p3), (.int p4)] maxLocals)) t := fun t k => castTop (ef_0 m p1 p2 p3 p4) k
  obtain ⟨T5, h5, X5, e5, E5, A5, D5, -, st5⟩ := newO X0 hx hZ hown (hw _ (List.mem_of_getElem? (i := 0) rfl)) (hw _ (List.mem_of_getElem? (i := 1) rfl)) (hw _ (List.mem_of_getElem? (i := 2) rfl)) e0 (g := (mkF m 18 #[.val (.int p1), .val (.int p2), .val (.int p3), .val (.int p4), .val (.int (p4 &&& (3 : Int32))), .val (.int (1 : Int32)), .unset, .unset, .unset] [])) rfl (hb hby at_18) (by decide) (by decide)
  obtain ⟨b5, g5⟩ : ∃ z, z = h0.size := ⟨_, rfl⟩
  rw [← g5] at A5 D5 st5
  have F_bytes_b5 : Fld Z h5 b5 "com/example/verdant_canopy/verdantcanopy/core/CanonicalBuffer" "bytes" "[B" .null := D5 (Or.inl (hw _ (List.mem_of_getElem? (i := 11) rfl))) (ty := (.array .byte)) (by decide)
  have F_length_b5 : Fld Z h5 b5 "com/example/verdant_canopy/verdantcanopy/core/CanonicalBuffer" "length" "I" (.int (0 : Int32)) := D5 (Or.inl (hw _ (List.mem_of_getElem? (i := 18) rfl))) (ty := .int) (by decide)
  have E_b5 := A5
  have g_b5 : n0 ≤ b5 := Nat.le_trans Z0 (Nat.le_of_eq g5.symm)
  have sz_b5 : h0.size ≤ b5 := (Nat.le_trans (Keep.refl h0 []).1 (Nat.le_of_eq g5.symm))
  have K5 : Keep h0 h5 [] := (Keep.refl h0 []).ext E5
  obtain ⟨_, _, ⟨T6, L6, k6, n6⟩, -, X6, ⟨Lc6, hQ6, l6, y6, z6⟩, st6⟩ := X5.specialBack hx (y := (⟨"com/example/verdant_canopy/verdantcanopy/core/CanonicalBuffer", "<init>", "()V"⟩ : MethodName)) rfl hown (mvT hZ (hw _ (List.mem_of_getElem? (i := 3) rfl))) (mvT hZ (hw _ (List.mem_of_getElem? (i := 4) rfl))) (mvT hZ (hw _ (List.mem_of_getElem? (i := 5) rfl))) (by decide) (backOf (W := 1) (rm1 l Z a0 hw [] b5 .null h5 n0 (Nat.le_trans Z0 E5.1) E_b5 F_bytes_b5 g_b5 F_length_b5) hZ (hw _ (List.mem_of_getElem? (i := 5) rfl)) (hw _ (List.mem_of_getElem? (i := 2) rfl)) (by decide) (by decide)) (g := (mkF m 22 #[.val (.int p1), .val (.int p2), .val (.int p3), .val (.int p4), .val (.int (p4 &&& (3 : Int32))), .val (.int (1 : Int32)), .unset, .unset, .unset] [(.ref b5), (.ref b5)])) rfl (by rw [hml]; rfl) (Steps.refl _) (a := b5) (argsL := []) (rest := [(.ref b5)]) (lenOf pd_0_0 rfl) rfl (by show 2 * 0 + _ ≤ _; exact Nat.le_of_eq rfl) (hb hby at_22) (fun _ _ => ⟨rfl, e5, (by decide : 1 + 1 ≤ _), (by decide : 2 + 256 ≤ _)⟩)
  dsimp only [Pt.U, Pt.locs, Pt.cells, Pt.slots] at X6 l6 y6 z6 st6 hQ6
  subst l6 y6 z6
  obtain ⟨rfl, N6q, K6q, t, kc, gt, B6⟩ := hQ6
  have Z6 : n0 ≤ T6.heap.size := Nat.le_trans (Nat.le_trans Z0 E5.1) K6q.1
  have N6 := Fr.app N0 N6q
  obtain ⟨cq7, kq7, q7a, q7b, q7c⟩ := isOf hZ rfl B6.1
  obtain ⟨_, _, ⟨T7, L7, k7, n7⟩, -, X7, ⟨Lc7, hQ7, l7, y7, z7⟩, st7⟩ := X6.virtualBack hx (y := (⟨"com/example/verdant_canopy/verdantcanopy/core/CanonicalBuffer", "put", "(I)V"⟩ : MethodName)) (z := (⟨"com/example/verdant_canopy/verdantcanopy/core/CanonicalBuffer", "put", "(I)V"⟩ : MethodName)) hown (mvT hZ (hw _ (List.mem_of_getElem? (i := 12) rfl))) (mvT hZ (hw _ (List.mem_of_getElem? (i := 13) rfl))) (notFace_of_selects (args := #[]) (mvT hZ (hw _ (List.mem_of_getElem? (i := 15) rfl)))) (mvT hZ (hw _ (List.mem_of_getElem? (i := 15) rfl))) (mvT hZ (hw _ (List.mem_of_getElem? (i := 14) rfl))) (by decide) (backOf (W := 0) (rm3 l Z a0 hw [] b5 p3 t kc (0 : Int32) ([(.int (0 : Int32)), (.int (0 : Int32)), (.int (0 : Int32)), (.int (0 : Int32))] : List Value) 0 T6.heap n0 Z6 B6 g_b5 gt (by decide) (Nat.le_of_ble_eq_true rfl) ⟨by decide, by decide⟩) hZ (hw _ (List.mem_of_getElem? (i := 16) rfl)) (hw _ (List.mem_of_getElem? (i := 2) rfl)) (by decide) (by decide)) q7a q7c (g := (mkF m 35 #[.val (.int p1), .val (.int p2), .val (.int p3), .val (.int p4), .val (.int (p4 &&& (3 : Int32))), .val (.int (1 : Int32)), .val (.ref b5), .unset, .unset] [(.int p3), (.ref b5)])) rfl (by rw [hml]; rfl) (Steps.refl _) (argsL := [(.int p3)]) (rest := []) (lenOf pd_0_1 rfl) rfl (by show 2 * 0 + _ ≤ _; exact Nat.le_of_eq rfl) (hb hby at_35) (fun _ _ => ⟨rfl, rfl, (by decide : 1 + (1 + 0) ≤ _), (by decide : 2 + (256 + 0) ≤ _)⟩)
  dsimp only [Pt.U, Pt.locs, Pt.cells, Pt.slots] at X7 l7 y7 z7 st7 hQ7
  subst l7 y7 z7
  obtain ⟨rfl, N7q, K7q, B7⟩ := hQ7
  have Z7 : n0 ≤ T7.heap.size := Nat.le_trans Z6 K7q.1
  have N7 := Fr.app N6 N7q
  obtain ⟨cq8, kq8, q8a, q8b, q8c⟩ := isOf hZ rfl B7.1
  obtain ⟨_, _, ⟨T8, L8, k8, n8⟩, -, X8, ⟨Lc8, hQ8, l8, y8, z8⟩, st8⟩ := X7.virtualBack hx (y := (⟨"com/example/verdant_canopy/verdantcanopy/core/CanonicalBuffer", "clear", "()V"⟩ : MethodName)) (z := (⟨"com/example/verdant_canopy/verdantcanopy/core/CanonicalBuffer", "clear", "()V"⟩ : MethodName)) hown (mvT hZ (hw _ (List.mem_of_getElem? (i := 29) rfl))) (mvT hZ (hw _ (List.mem_of_getElem? (i := 30) rfl))) (notFace_of_selects (args := #[]) (mvT hZ (hw _ (List.mem_of_getElem? (i := 32) rfl)))) (mvT hZ (hw _ (List.mem_of_getElem? (i := 32) rfl))) (mvT hZ (hw _ (List.mem_of_getElem? (i := 31) rfl))) (by decide) (backOf (W := 0) (rm6 l Z a0 hw [] b5 t kc ((0 : Int32) + (1 : Int32)) (([(.int (0 : Int32)), (.int (0 : Int32)), (.int (0 : Int32)), (.int (0 : Int32))] : List Value).set 0 (.int (own_b p3))) T7.heap n0 Z7 B7 g_b5) hZ (hw _ (List.mem_of_getElem? (i := 33) rfl)) (hw _ (List.mem_of_getElem? (i := 2) rfl)) (by decide) (by decide)) q8a q8c (g := (mkF m 40 #[.val (.int p1), .val (.int p2), .val (.int p3), .val (.int p4), .val (.int (p4 &&& (3 : Int32))), .val (.int (1 : Int32)), .val (.ref b5), .unset, .unset] [(.ref b5)])) rfl (by rw [hml]; rfl) (Steps.refl _) (argsL := []) (rest := []) (lenOf pd_0_0 rfl) rfl (by show 2 * 0 + _ ≤ _; exact Nat.le_of_eq rfl) (hb hby at_40) (fun _ _ => ⟨rfl, rfl, (by decide : 1 + (1 + 0) ≤ _), (by decide : 2 + (256 + 0) ≤ _)⟩)
  dsimp only [Pt.U, Pt.locs, Pt.cells, Pt.slots] at X8 l8 y8 z8 st8 hQ8
  subst l8 y8 z8
  obtain ⟨rfl, N8q, K8q, B8⟩ := hQ8
  have Z8 : n0 ≤ T8.heap.size := Nat.le_trans Z7 K8q.1
  have N8 := Fr.app N7 N8q
  obtain ⟨cq9, kq9, q9a, q9b, q9c⟩ := isOf hZ rfl B8.1
  obtain ⟨_, _, ⟨T9, L9, k9, n9⟩, -, X9, ⟨Lc9, hQ9, l9, y9, z9⟩, st9⟩ := X8.virtualBack hx (y := (⟨"com/example/verdant_canopy/verdantcanopy/core/CanonicalBuffer", "put", "(I)V"⟩ : MethodName)) (z := (⟨"com/example/verdant_canopy/verdantcanopy/core/CanonicalBuffer", "put", "(I)V"⟩ : MethodName)) hown (mvT hZ (hw _ (List.mem_of_getElem? (i := 12) rfl))) (mvT hZ (hw _ (List.mem_of_getElem? (i := 13) rfl))) (notFace_of_selects (args := #[]) (mvT hZ (hw _ (List.mem_of_getElem? (i := 15) rfl)))) (mvT hZ (hw _ (List.mem_of_getElem? (i := 15) rfl))) (mvT hZ (hw _ (List.mem_of_getElem? (i := 14) rfl))) (by decide) (backOf (W := 0) (rm3 l Z a0 hw [] b5 p1 t kc (0 : Int32) (([(.int (0 : Int32)), (.int (0 : Int32)), (.int (0 : Int32)), (.int (0 : Int32))] : List Value).set 0 (.int (own_b p3))) 0 T8.heap n0 Z8 B8 g_b5 gt (by decide) (Nat.le_of_ble_eq_true rfl) ⟨by decide, by decide⟩) hZ (hw _ (List.mem_of_getElem? (i := 16) rfl)) (hw _ (List.mem_of_getElem? (i := 2) rfl)) (by decide) (by decide)) q9a q9c (g := (mkF m 52 #[.val (.int p1), .val (.int p2), .val (.int p3), .val (.int p4), .val (.int (p4 &&& (3 : Int32))), .val (.int (1 : Int32)), .val (.ref b5), .unset, .unset] [(.int p1), (.ref b5)])) rfl (by rw [hml]; rfl) (Steps.refl _) (argsL := [(.int p1)]) (rest := []) (lenOf pd_0_1 rfl) rfl (by show 2 * 0 + _ ≤ _; exact Nat.le_of_eq rfl) (hb hby at_52) (fun _ _ => ⟨rfl, rfl, (by decide : 1 + (1 + 0) ≤ _), (by decide : 2 + (256 + 0) ≤ _)⟩)
  dsimp only [Pt.U, Pt.locs, Pt.cells, Pt.slots] at X9 l9 y9 z9 st9 hQ9
  subst l9 y9 z9
  obtain ⟨rfl, N9q, K9q, B9⟩ := hQ9
  have Z9 : n0 ≤ T9.heap.size := Nat.le_trans Z8 K9q.1
  have N9 := Fr.app N8 N9q
  obtain ⟨cq10, kq10, q10a, q10b, q10c⟩ := isOf hZ rfl B9.1
  obtain ⟨_, _, ⟨T10, L10, k10, n10⟩, -, X10, ⟨Lc10, hQ10, l10, y10, z10⟩, st10⟩ := X9.virtualBack hx (y := (⟨"com/example/verdant_canopy/verdantcanopy/core/CanonicalBuffer", "length", "()I"⟩ : MethodName)) (z := (⟨"com/example/verdant_canopy/verdantcanopy/core/CanonicalBuffer", "length", "()I"⟩ : MethodName)) hown (mvT hZ (hw _ (List.mem_of_getElem? (i := 19) rfl))) (mvT hZ (hw _ (List.mem_of_getElem? (i := 20) rfl))) (notFace_of_selects (args := #[]) (mvT hZ (hw _ (List.mem_of_getElem? (i := 22) rfl)))) (mvT hZ (hw _ (List.mem_of_getElem? (i := 22) rfl))) (mvT hZ (hw _ (List.mem_of_getElem? (i := 21) rfl))) (by decide) (backOf (W := 0) (rm4 l Z a0 hw [] b5 ((0 : Int32) + (1 : Int32)) T9.heap n0 Z9 B9.2.2.1) hZ (hw _ (List.mem_of_getElem? (i := 23) rfl)) (hw _ (List.mem_of_getElem? (i := 2) rfl)) (by decide) (by decide)) q10a q10c (g := (mkF m 81 #[.val (.int p1), .val (.int p2), .val (.int p3), .val (.int p4), .val (.int (p4 &&& (3 : Int32))), .val (.int (1 : Int32)), .val (.ref b5), .unset, .unset] [(.ref b5)])) rfl (by rw [hml]; rfl) (Steps.refl _) (argsL := []) (rest := []) (lenOf pd_0_2 rfl) rfl (by show 2 * 0 + _ ≤ _; exact Nat.le_of_eq rfl) (hb hby at_81) (fun _ _ => ⟨rfl, rfl, (by decide : 1 + (1 + 0) ≤ _), (by decide : 2 + (256 + 0) ≤ _)⟩)
  dsimp only [Pt.U, Pt.locs, Pt.cells, Pt.slots] at X10 l10 y10 z10 st10 hQ10
  subst l10 y10 z10
  obtain ⟨rfl, N10q, e10q⟩ := hQ10
  have Z10 : n0 ≤ T10.heap.size := by rw [e10q]; exact Z9
  have B10 : own_B Z T10.heap b5 t kc ((0 : Int32) + (1 : Int32)) ((([(.int (0 : Int32)), (.int (0 : Int32)), (.int (0 : Int32)), (.int (0 : Int32))] : List Value).set 0 (.int (own_b p3))).set 0 (.int (own_b p1))) := by rw [e10q]; exact B9
  have N10 := Fr.app N9 N10q
  obtain ⟨cq11, kq11, q11a, q11b, q11c⟩ := isOf hZ rfl B10.1
  obtain ⟨_, _, ⟨T11, L11, k11, n11⟩, -, X11, ⟨Lc11, hQ11, l11, y11, z11⟩, st11⟩ := X10.virtualBack hx (y := (⟨"com/example/verdant_canopy/verdantcanopy/core/CanonicalBuffer", "bytes", "()[B"⟩ : MethodName)) (z := (⟨"com/example/verdant_canopy/verdantcanopy/core/CanonicalBuffer", "bytes", "()[B"⟩ : MethodName)) hown (mvT hZ (hw _ (List.mem_of_getElem? (i := 24) rfl))) (mvT hZ (hw _ (List.mem_of_getElem? (i := 25) rfl))) (notFace_of_selects (args := #[]) (mvT hZ (hw _ (List.mem_of_getElem? (i := 27) rfl)))) (mvT hZ (hw _ (List.mem_of_getElem? (i := 27) rfl))) (mvT hZ (hw _ (List.mem_of_getElem? (i := 26) rfl))) (by decide) (backOf (W := 0) (rm5 l Z a0 hw [] b5 t T10.heap n0 Z10 B10.2.1) hZ (hw _ (List.mem_of_getElem? (i := 28) rfl)) (hw _ (List.mem_of_getElem? (i := 2) rfl)) (by decide) (by decide)) q11a q11c (g := (mkF m 93 #[.val (.int p1), .val (.int p2), .val (.int p3), .val (.int p4), .val (.int (p4 &&& (3 : Int32))), .val (.int (1 : Int32)), .val (.ref b5), .unset, .unset] [(.ref b5)])) rfl (by rw [hml]; rfl) (Steps.refl _) (argsL := []) (rest := []) (lenOf pd_0_3 rfl) rfl (by show 2 * 0 + _ ≤ _; exact Nat.le_of_eq rfl) (hb hby at_93) (fun _ _ => ⟨rfl, rfl, (by decide : 1 + (1 + 0) ≤ _), (by decide : 2 + (256 + 0) ≤ _)⟩)
  dsimp only [Pt.U, Pt.locs, Pt.cells, Pt.slots] at X11 l11 y11 z11 st11 hQ11
  subst l11 y11 z11
  obtain ⟨rfl, N11q, e11q⟩ := hQ11
  have Z11 : n0 ≤ T11.heap.size := by rw [e11q]; exact Z10
  have B11 : own_B Z T11.heap b5 t kc ((0 : Int32) + (1 : Int32)) ((([(.int (0 : Int32)), (.int (0 : Int32)), (.int (0 : Int32)), (.int (0 : Int32))] : List Value).set 0 (.int (own_b p3))).set 0 (.int (own_b p1))) := by rw [e11q]; exact B10
  obtain ⟨cl_t, Ar_t, q_t, S_t, N_t, H_t, G_t⟩ := B11.2.2.2.1
  have hin118 : ¬ ((0 : Int32) < 0 ∨ cl_t.slots.size ≤ ((0 : Int32)).toNatClampNeg) := inb_of S_t ⟨by decide, by decide⟩
  have hat118 : cl_t.slots[((0 : Int32)).toNatClampNeg]? = some (.int (own_b p1)) := Has.at H_t hin118 rfl
  have hin206 : ¬ ((p4 &&& (3 : Int32)) < 0 ∨ cl_t.slots.size ≤ ((p4 &&& (3 : Int32))).toNatClampNeg) := inb_of S_t ⟨by rw [hn]; decide, by rw [hn]; decide⟩
  have hat206 : cl_t.slots[((p4 &&& (3 : Int32))).toNatClampNeg]? = some (.int (0 : Int32)) := Has.at H_t hin206 (by rw [hn]; rfl)
  have N11 := Fr.app N10 N11q
  obtain ⟨fs, hr, hrun, hended, hW, hsame⟩ := X11.leave (v := some (.int (1 : Int32))) (fun h => by rw [Bd.returns] at h; cases h)
  refine ⟨_, _, pre0 _ ?_, hrun, hended, _, _, rfl, ?_, ⟨_, rfl⟩, hW, hsame.mono (by decide) (by decide)⟩
  · show Steps p.tables e below (s₁.setTop (mkF m 0 #[.val (.int p1), .val (.int p2), .val (.int p3), .val (.int p4), .unset, .unset, .unset, .unset, .unset] [])) _
    refine XS.iloadN X0.here hx rfl (hb hby at_0) rfl ?_
    show Steps p.tables e below (s₁.setTop (mkF m 1 #[.val (.int p1), .val (.int p2), .val (.int p3), .val (.int p4), .unset, .unset, .unset, .unset, .unset] [(.int p4)])) _
    refine XS.iconst X0.here hx rfl (hb hby at_1) ?_
    show Steps p.tables e below (s₁.setTop (mkF m 2 #[.val (.int p1), .val (.int p2), .val (.int p3), .val (.int p4), .unset, .unset, .unset, .unset, .unset] [(.int (3 : Int32)), (.int p4)])) _
    refine XS.iand X0.here hx rfl (hb hby at_2) rfl ?_
    show Steps p.tables e below (s₁.setTop (mkF m 3 #[.val (.int p1), .val (.int p2), .val (.int p3), .val (.int p4), .unset, .unset, .unset, .unset, .unset] [(.int (p4 &&& (3 : Int32)))])) _
    refine XS.istore X0.here hx rfl (hb hby at_3) rfl (l' := #[.val (.int p1), .val (.int p2), .val (.int p3), .val (.int p4), .val (.int (p4 &&& (3 : Int32))), .unset, .unset, .unset, .unset]) rfl ?_
    show Steps p.tables e below (s₁.setTop (mkF m 5 #[.val (.int p1), .val (.int p2), .val (.int p3), .val (.int p4), .val (.int (p4 &&& (3 : Int32))), .unset, .unset, .unset, .unset] [])) _
    refine XS.iloadN X0.here hx rfl (hb hby at_5) rfl ?_
    show Steps p.tables e below (s₁.setTop (mkF m 6 #[.val (.int p1), .val (.int p2), .val (.int p3), .val (.int p4), .val (.int (p4 &&& (3 : Int32))), .unset, .unset, .unset, .unset] [(.int p4)])) _
    refine XS.iconst X0.here hx rfl (hb hby at_6) ?_
    show Steps p.tables e below (s₁.setTop (mkF m 7 #[.val (.int p1), .val (.int p2), .val (.int p3), .val (.int p4), .val (.int (p4 &&& (3 : Int32))), .unset, .unset, .unset, .unset] [(.int (4 : Int32)), (.int p4)])) _
    refine XS.iand X0.here hx rfl (hb hby at_7) rfl ?_
    show Steps p.tables e below (s₁.setTop (mkF m 8 #[.val (.int p1), .val (.int p2), .val (.int p3), .val (.int p4), .val (.int (p4 &&& (3 : Int32))), .unset, .unset, .unset, .unset] [(.int (p4 &&& (4 : Int32)))])) _
    refine XS.ifNo X0.here hx rfl (hb hby at_8) rfl ((if0 _ _).trans (feq hc8).1) ?_
    show Steps p.tables e below (s₁.setTop (mkF m 11 #[.val (.int p1), .val (.int p2), .val (.int p3), .val (.int p4), .val (.int (p4 &&& (3 : Int32))), .unset, .unset, .unset, .unset] [])) _
    refine XS.iconst X0.here hx rfl (hb hby at_11) ?_
    show Steps p.tables e below (s₁.setTop (mkF m 12 #[.val (.int p1), .val (.int p2), .val (.int p3), .val (.int p4), .val (.int (p4 &&& (3 : Int32))), .unset, .unset, .unset, .unset] [(.int (1 : Int32))])) _
    refine XS.goto X0.here hx rfl (pc0 := 12) (pc' := 16) rfl (hb hby at_12) (by decide) (by decide) ?_
    show Steps p.tables e below (s₁.setTop (mkF m 16 #[.val (.int p1), .val (.int p2), .val (.int p3), .val (.int p4), .val (.int (p4 &&& (3 : Int32))), .unset, .unset, .unset, .unset] [(.int (1 : Int32))])) _
    refine XS.istore X0.here hx rfl (hb hby at_16) rfl (l' := #[.val (.int p1), .val (.int p2), .val (.int p3), .val (.int p4), .val (.int (p4 &&& (3 : Int32))), .val (.int (1 : Int32)), .unset, .unset, .unset]) rfl ?_
    show Steps p.tables e below (s₁.setTop (mkF m 18 #[.val (.int p1), .val (.int p2), .val (.int p3), .val (.int p4), .val (.int (p4 &&& (3 : Int32))), .val (.int (1 : Int32)), .unset, .unset, .unset] [])) _
    refine st5 _ ?_
    show Steps p.tables e below (T5.setTop (mkF m 21 #[.val (.int p1), .val (.int p2), .val (.int p3), .val (.int p4), .val (.int (p4 &&& (3 : Int32))), .val (.int (1 : Int32)), .unset, .unset, .unset] [(.ref b5)])) _
    refine XS.dup X5.here hx rfl (hb hby at_21) rfl rfl ?_
    show Steps p.tables e below (T5.setTop (mkF m 22 #[.val (.int p1), .val (.int p2), .val (.int p3), .val (.int p4), .val (.int (p4 &&& (3 : Int32))), .val (.int (1 : Int32)), .unset, .unset, .unset] [(.ref b5), (.ref b5)])) _
    refine st6.trans ?_
    show Steps p.tables e below (T6.setTop (mkF m 25 #[.val (.int p1), .val (.int p2), .val (.int p3), .val (.int p4), .val (.int (p4 &&& (3 : Int32))), .val (.int (1 : Int32)), .unset, .unset, .unset] [(.ref b5)])) _
    refine XS.astore X6.here hx rfl (hb hby at_25) rfl rfl (l' := #[.val (.int p1), .val (.int p2), .val (.int p3), .val (.int p4), .val (.int (p4 &&& (3 : Int32))), .val (.int (1 : Int32)), .val (.ref b5), .unset, .unset]) rfl ?_
    show Steps p.tables e below (T6.setTop (mkF m 27 #[.val (.int p1), .val (.int p2), .val (.int p3), .val (.int p4), .val (.int (p4 &&& (3 : Int32))), .val (.int (1 : Int32)), .val (.ref b5), .unset, .unset] [])) _
    refine XS.iload X6.here hx rfl (hb hby at_27) rfl ?_
    show Steps p.tables e below (T6.setTop (mkF m 29 #[.val (.int p1), .val (.int p2), .val (.int p3), .val (.int p4), .val (.int (p4 &&& (3 : Int32))), .val (.int (1 : Int32)), .val (.ref b5), .unset, .unset] [(.int (1 : Int32))])) _
    refine XS.ifNo X6.here hx rfl (hb hby at_29) rfl ((if0 _ _).trans (feq hc29).1) ?_
    show Steps p.tables e below (T6.setTop (mkF m 32 #[.val (.int p1), .val (.int p2), .val (.int p3), .val (.int p4), .val (.int (p4 &&& (3 : Int32))), .val (.int (1 : Int32)), .val (.ref b5), .unset, .unset] [])) _
    refine XS.aload X6.here hx rfl (hb hby at_32) rfl rfl ?_
    show Steps p.tables e below (T6.setTop (mkF m 34 #[.val (.int p1), .val (.int p2), .val (.int p3), .val (.int p4), .val (.int (p4 &&& (3 : Int32))), .val (.int (1 : Int32)), .val (.ref b5), .unset, .unset] [(.ref b5)])) _
    refine XS.iloadN X6.here hx rfl (hb hby at_34) rfl ?_
    show Steps p.tables e below (T6.setTop (mkF m 35 #[.val (.int p1), .val (.int p2), .val (.int p3), .val (.int p4), .val (.int (p4 &&& (3 : Int32))), .val (.int (1 : Int32)), .val (.ref b5), .unset, .unset] [(.int p3), (.ref b5)])) _
    refine st7.trans ?_
    show Steps p.tables e below (T7.setTop (mkF m 38 #[.val (.int p1), .val (.int p2), .val (.int p3), .val (.int p4), .val (.int (p4 &&& (3 : Int32))), .val (.int (1 : Int32)), .val (.ref b5), .unset, .unset] [])) _
    refine XS.aload X7.here hx rfl (hb hby at_38) rfl rfl ?_
    show Steps p.tables e below (T7.setTop (mkF m 40 #[.val (.int p1), .val (.int p2), .val (.int p3), .val (.int p4), .val (.int (p4 &&& (3 : Int32))), .val (.int (1 : Int32)), .val (.ref b5), .unset, .unset] [(.ref b5)])) _
    refine st8.trans ?_
    show Steps p.tables e below (T8.setTop (mkF m 43 #[.val (.int p1), .val (.int p2), .val (.int p3), .val (.int p4), .val (.int (p4 &&& (3 : Int32))), .val (.int (1 : Int32)), .val (.ref b5), .unset, .unset] [])) _
    refine XS.iload X8.here hx rfl (hb hby at_43) rfl ?_
    show Steps p.tables e below (T8.setTop (mkF m 45 #[.val (.int p1), .val (.int p2), .val (.int p3), .val (.int p4), .val (.int (p4 &&& (3 : Int32))), .val (.int (1 : Int32)), .val (.ref b5), .unset, .unset] [(.int (p4 &&& (3 : Int32)))])) _
    refine XS.iconst X8.here hx rfl (hb hby at_45) ?_
    show Steps p.tables e below (T8.setTop (mkF m 46 #[.val (.int p1), .val (.int p2), .val (.int p3), .val (.int p4), .val (.int (p4 &&& (3 : Int32))), .val (.int (1 : Int32)), .val (.ref b5), .unset, .unset] [(.int (1 : Int32)), (.int (p4 &&& (3 : Int32)))])) _
    refine XS.icmpNo X8.here hx rfl (hb hby at_46) rfl (flt hc46).1 ?_
    show Steps p.tables e below (T8.setTop (mkF m 49 #[.val (.int p1), .val (.int p2), .val (.int p3), .val (.int p4), .val (.int (p4 &&& (3 : Int32))), .val (.int (1 : Int32)), .val (.ref b5), .unset, .unset] [])) _
    refine XS.aload X8.here hx rfl (hb hby at_49) rfl rfl ?_
    show Steps p.tables e below (T8.setTop (mkF m 51 #[.val (.int p1), .val (.int p2), .val (.int p3), .val (.int p4), .val (.int (p4 &&& (3 : Int32))), .val (.int (1 : Int32)), .val (.ref b5), .unset, .unset] [(.ref b5)])) _
    refine XS.iloadN X8.here hx rfl (hb hby at_51) rfl ?_
    show Steps p.tables e below (T8.setTop (mkF m 52 #[.val (.int p1), .val (.int p2), .val (.int p3), .val (.int p4), .val (.int (p4 &&& (3 : Int32))), .val (.int (1 : Int32)), .val (.ref b5), .unset, .unset] [(.int p1), (.ref b5)])) _
    refine st9.trans ?_
    show Steps p.tables e below (T9.setTop (mkF m 55 #[.val (.int p1), .val (.int p2), .val (.int p3), .val (.int p4), .val (.int (p4 &&& (3 : Int32))), .val (.int (1 : Int32)), .val (.ref b5), .unset, .unset] [])) _
    refine XS.iload X9.here hx rfl (hb hby at_55) rfl ?_
    show Steps p.tables e below (T9.setTop (mkF m 57 #[.val (.int p1), .val (.int p2), .val (.int p3), .val (.int p4), .val (.int (p4 &&& (3 : Int32))), .val (.int (1 : Int32)), .val (.ref b5), .unset, .unset] [(.int (p4 &&& (3 : Int32)))])) _
    refine XS.iconst X9.here hx rfl (hb hby at_57) ?_
    show Steps p.tables e below (T9.setTop (mkF m 58 #[.val (.int p1), .val (.int p2), .val (.int p3), .val (.int p4), .val (.int (p4 &&& (3 : Int32))), .val (.int (1 : Int32)), .val (.ref b5), .unset, .unset] [(.int (2 : Int32)), (.int (p4 &&& (3 : Int32)))])) _
    refine XS.icmpYes X9.here hx rfl (pc0 := 58) (pc' := 67) rfl (hb hby at_58) rfl (tlt hc58).1 (by decide) (by decide) ?_
    show Steps p.tables e below (T9.setTop (mkF m 67 #[.val (.int p1), .val (.int p2), .val (.int p3), .val (.int p4), .val (.int (p4 &&& (3 : Int32))), .val (.int (1 : Int32)), .val (.ref b5), .unset, .unset] [])) _
    refine XS.iload X9.here hx rfl (hb hby at_67) rfl ?_
    show Steps p.tables e below (T9.setTop (mkF m 69 #[.val (.int p1), .val (.int p2), .val (.int p3), .val (.int p4), .val (.int (p4 &&& (3 : Int32))), .val (.int (1 : Int32)), .val (.ref b5), .unset, .unset] [(.int (p4 &&& (3 : Int32)))])) _
    refine XS.iconst X9.here hx rfl (hb hby at_69) ?_
    show Steps p.tables e below (T9.setTop (mkF m 70 #[.val (.int p1), .val (.int p2), .val (.int p3), .val (.int p4), .val (.int (p4 &&& (3 : Int32))), .val (.int (1 : Int32)), .val (.ref b5), .unset, .unset] [(.int (3 : Int32)), (.int (p4 &&& (3 : Int32)))])) _
    refine XS.icmpYes X9.here hx rfl (pc0 := 70) (pc' := 79) rfl (hb hby at_70) rfl (tlt hc70).1 (by decide) (by decide) ?_
    show Steps p.tables e below (T9.setTop (mkF m 79 #[.val (.int p1), .val (.int p2), .val (.int p3), .val (.int p4), .val (.int (p4 &&& (3 : Int32))), .val (.int (1 : Int32)), .val (.ref b5), .unset, .unset] [])) _
    refine XS.aload X9.here hx rfl (hb hby at_79) rfl rfl ?_
    show Steps p.tables e below (T9.setTop (mkF m 81 #[.val (.int p1), .val (.int p2), .val (.int p3), .val (.int p4), .val (.int (p4 &&& (3 : Int32))), .val (.int (1 : Int32)), .val (.ref b5), .unset, .unset] [(.ref b5)])) _
    refine st10.trans ?_
    show Steps p.tables e below (T10.setTop (mkF m 84 #[.val (.int p1), .val (.int p2), .val (.int p3), .val (.int p4), .val (.int (p4 &&& (3 : Int32))), .val (.int (1 : Int32)), .val (.ref b5), .unset, .unset] [(.int ((0 : Int32) + (1 : Int32)))])) _
    refine XS.iload X10.here hx rfl (hb hby at_84) rfl ?_
    show Steps p.tables e below (T10.setTop (mkF m 86 #[.val (.int p1), .val (.int p2), .val (.int p3), .val (.int p4), .val (.int (p4 &&& (3 : Int32))), .val (.int (1 : Int32)), .val (.ref b5), .unset, .unset] [(.int (p4 &&& (3 : Int32))), (.int ((0 : Int32) + (1 : Int32)))])) _
    refine XS.icmpYes X10.here hx rfl (pc0 := 86) (pc' := 91) rfl (hb hby at_86) rfl (teq hx86).1 (by decide) (by decide) ?_
    show Steps p.tables e below (T10.setTop (mkF m 91 #[.val (.int p1), .val (.int p2), .val (.int p3), .val (.int p4), .val (.int (p4 &&& (3 : Int32))), .val (.int (1 : Int32)), .val (.ref b5), .unset, .unset] [])) _
    refine XS.aload X10.here hx rfl (hb hby at_91) rfl rfl ?_
    show Steps p.tables e below (T10.setTop (mkF m 93 #[.val (.int p1), .val (.int p2), .val (.int p3), .val (.int p4), .val (.int (p4 &&& (3 : Int32))), .val (.int (1 : Int32)), .val (.ref b5), .unset, .unset] [(.ref b5)])) _
    refine st11.trans ?_
    show Steps p.tables e below (T11.setTop (mkF m 96 #[.val (.int p1), .val (.int p2), .val (.int p3), .val (.int p4), .val (.int (p4 &&& (3 : Int32))), .val (.int (1 : Int32)), .val (.ref b5), .unset, .unset] [(.ref t)])) _
    refine XS.astore X11.here hx rfl (hb hby at_96) rfl rfl (l' := #[.val (.int p1), .val (.int p2), .val (.int p3), .val (.int p4), .val (.int (p4 &&& (3 : Int32))), .val (.int (1 : Int32)), .val (.ref b5), .val (.ref t), .unset]) rfl ?_
    show Steps p.tables e below (T11.setTop (mkF m 98 #[.val (.int p1), .val (.int p2), .val (.int p3), .val (.int p4), .val (.int (p4 &&& (3 : Int32))), .val (.int (1 : Int32)), .val (.ref b5), .val (.ref t), .unset] [])) _
    refine XS.aload X11.here hx rfl (hb hby at_98) rfl rfl ?_
    show Steps p.tables e below (T11.setTop (mkF m 100 #[.val (.int p1), .val (.int p2), .val (.int p3), .val (.int p4), .val (.int (p4 &&& (3 : Int32))), .val (.int (1 : Int32)), .val (.ref b5), .val (.ref t), .unset] [(.ref t)])) _
    refine X11.arraylength hx Ar_t.1 (State.isArrayOf_alike hZ.alike Ar_t.2.1) (g := (mkF m 100 #[.val (.int p1), .val (.int p2), .val (.int p3), .val (.int p4), .val (.int (p4 &&& (3 : Int32))), .val (.int (1 : Int32)), .val (.ref b5), .val (.ref t), .unset] [(.ref t)])) rfl rfl (hb hby at_100) _ ?_
    rw [len_of S_t N_t]
    show Steps p.tables e below (T11.setTop (mkF m 101 #[.val (.int p1), .val (.int p2), .val (.int p3), .val (.int p4), .val (.int (p4 &&& (3 : Int32))), .val (.int (1 : Int32)), .val (.ref b5), .val (.ref t), .unset] [(.int (256 : Int32))])) _
    refine XS.sipush X11.here hx rfl (hb hby at_101) ?_
    show Steps p.tables e below (T11.setTop (mkF m 104 #[.val (.int p1), .val (.int p2), .val (.int p3), .val (.int p4), .val (.int (p4 &&& (3 : Int32))), .val (.int (1 : Int32)), .val (.ref b5), .val (.ref t), .unset] [(.int (256 : Int32)), (.int (256 : Int32))])) _
    refine XS.icmpYes X11.here hx rfl (pc0 := 104) (pc' := 109) rfl (hb hby at_104) rfl (teq hx104).1 (by decide) (by decide) ?_
    show Steps p.tables e below (T11.setTop (mkF m 109 #[.val (.int p1), .val (.int p2), .val (.int p3), .val (.int p4), .val (.int (p4 &&& (3 : Int32))), .val (.int (1 : Int32)), .val (.ref b5), .val (.ref t), .unset] [])) _
    refine XS.iload X11.here hx rfl (hb hby at_109) rfl ?_
    show Steps p.tables e below (T11.setTop (mkF m 111 #[.val (.int p1), .val (.int p2), .val (.int p3), .val (.int p4), .val (.int (p4 &&& (3 : Int32))), .val (.int (1 : Int32)), .val (.ref b5), .val (.ref t), .unset] [(.int (p4 &&& (3 : Int32)))])) _
    refine XS.iconst X11.here hx rfl (hb hby at_111) ?_
    show Steps p.tables e below (T11.setTop (mkF m 112 #[.val (.int p1), .val (.int p2), .val (.int p3), .val (.int p4), .val (.int (p4 &&& (3 : Int32))), .val (.int (1 : Int32)), .val (.ref b5), .val (.ref t), .unset] [(.int (1 : Int32)), (.int (p4 &&& (3 : Int32)))])) _
    refine XS.icmpNo X11.here hx rfl (hb hby at_112) rfl (flt hc112).1 ?_
    show Steps p.tables e below (T11.setTop (mkF m 115 #[.val (.int p1), .val (.int p2), .val (.int p3), .val (.int p4), .val (.int (p4 &&& (3 : Int32))), .val (.int (1 : Int32)), .val (.ref b5), .val (.ref t), .unset] [])) _
    refine XS.aload X11.here hx rfl (hb hby at_115) rfl rfl ?_
    show Steps p.tables e below (T11.setTop (mkF m 117 #[.val (.int p1), .val (.int p2), .val (.int p3), .val (.int p4), .val (.int (p4 &&& (3 : Int32))), .val (.int (1 : Int32)), .val (.ref b5), .val (.ref t), .unset] [(.ref t)])) _
    refine XS.iconst X11.here hx rfl (hb hby at_117) ?_
    show Steps p.tables e below (T11.setTop (mkF m 118 #[.val (.int p1), .val (.int p2), .val (.int p3), .val (.int p4), .val (.int (p4 &&& (3 : Int32))), .val (.int (1 : Int32)), .val (.ref b5), .val (.ref t), .unset] [(.int (0 : Int32)), (.ref t)])) _
    refine X11.baloadBytes hx (j := (0 : Int32)) (v := (.int (own_b p1))) Ar_t.1 (State.isArrayOf_alike hZ.alike Ar_t.2.1) Ar_t.2.2 hin118 hat118 (g := (mkF m 118 #[.val (.int p1), .val (.int p2), .val (.int p3), .val (.int p4), .val (.int (p4 &&& (3 : Int32))), .val (.int (1 : Int32)), .val (.ref b5), .val (.ref t), .unset] [(.int (0 : Int32)), (.ref t)])) rfl rfl (hb hby at_118) _ ?_
    show Steps p.tables e below (T11.setTop (mkF m 119 #[.val (.int p1), .val (.int p2), .val (.int p3), .val (.int p4), .val (.int (p4 &&& (3 : Int32))), .val (.int (1 : Int32)), .val (.ref b5), .val (.ref t), .unset] [(.int (own_b p1))])) _
    refine XS.sipush X11.here hx rfl (hb hby at_119) ?_
    show Steps p.tables e below (T11.setTop (mkF m 122 #[.val (.int p1), .val (.int p2), .val (.int p3), .val (.int p4), .val (.int (p4 &&& (3 : Int32))), .val (.int (1 : Int32)), .val (.ref b5), .val (.ref t), .unset] [(.int (255 : Int32)), (.int (own_b p1))])) _
    refine XS.iand X11.here hx rfl (hb hby at_122) rfl ?_
    show Steps p.tables e below (T11.setTop (mkF m 123 #[.val (.int p1), .val (.int p2), .val (.int p3), .val (.int p4), .val (.int (p4 &&& (3 : Int32))), .val (.int (1 : Int32)), .val (.ref b5), .val (.ref t), .unset] [(.int ((own_b p1) &&& (255 : Int32)))])) _
    refine XS.iloadN X11.here hx rfl (hb hby at_123) rfl ?_
    show Steps p.tables e below (T11.setTop (mkF m 124 #[.val (.int p1), .val (.int p2), .val (.int p3), .val (.int p4), .val (.int (p4 &&& (3 : Int32))), .val (.int (1 : Int32)), .val (.ref b5), .val (.ref t), .unset] [(.int p1), (.int ((own_b p1) &&& (255 : Int32)))])) _
    refine XS.sipush X11.here hx rfl (hb hby at_124) ?_
    show Steps p.tables e below (T11.setTop (mkF m 127 #[.val (.int p1), .val (.int p2), .val (.int p3), .val (.int p4), .val (.int (p4 &&& (3 : Int32))), .val (.int (1 : Int32)), .val (.ref b5), .val (.ref t), .unset] [(.int (255 : Int32)), (.int p1), (.int ((own_b p1) &&& (255 : Int32)))])) _
    refine XS.iand X11.here hx rfl (hb hby at_127) rfl ?_
    show Steps p.tables e below (T11.setTop (mkF m 128 #[.val (.int p1), .val (.int p2), .val (.int p3), .val (.int p4), .val (.int (p4 &&& (3 : Int32))), .val (.int (1 : Int32)), .val (.ref b5), .val (.ref t), .unset] [(.int (p1 &&& (255 : Int32))), (.int ((own_b p1) &&& (255 : Int32)))])) _
    refine XS.icmpYes X11.here hx rfl (pc0 := 128) (pc' := 133) rfl (hb hby at_128) rfl (teq hc128).1 (by decide) (by decide) ?_
    show Steps p.tables e below (T11.setTop (mkF m 133 #[.val (.int p1), .val (.int p2), .val (.int p3), .val (.int p4), .val (.int (p4 &&& (3 : Int32))), .val (.int (1 : Int32)), .val (.ref b5), .val (.ref t), .unset] [])) _
    refine XS.iload X11.here hx rfl (hb hby at_133) rfl ?_
    show Steps p.tables e below (T11.setTop (mkF m 135 #[.val (.int p1), .val (.int p2), .val (.int p3), .val (.int p4), .val (.int (p4 &&& (3 : Int32))), .val (.int (1 : Int32)), .val (.ref b5), .val (.ref t), .unset] [(.int (p4 &&& (3 : Int32)))])) _
    refine XS.iconst X11.here hx rfl (hb hby at_135) ?_
    show Steps p.tables e below (T11.setTop (mkF m 136 #[.val (.int p1), .val (.int p2), .val (.int p3), .val (.int p4), .val (.int (p4 &&& (3 : Int32))), .val (.int (1 : Int32)), .val (.ref b5), .val (.ref t), .unset] [(.int (2 : Int32)), (.int (p4 &&& (3 : Int32)))])) _
    refine XS.icmpYes X11.here hx rfl (pc0 := 136) (pc' := 157) rfl (hb hby at_136) rfl (tlt hc136).1 (by decide) (by decide) ?_
    show Steps p.tables e below (T11.setTop (mkF m 157 #[.val (.int p1), .val (.int p2), .val (.int p3), .val (.int p4), .val (.int (p4 &&& (3 : Int32))), .val (.int (1 : Int32)), .val (.ref b5), .val (.ref t), .unset] [])) _
    refine XS.iload X11.here hx rfl (hb hby at_157) rfl ?_
    show Steps p.tables e below (T11.setTop (mkF m 159 #[.val (.int p1), .val (.int p2), .val (.int p3), .val (.int p4), .val (.int (p4 &&& (3 : Int32))), .val (.int (1 : Int32)), .val (.ref b5), .val (.ref t), .unset] [(.int (p4 &&& (3 : Int32)))])) _
    refine XS.iconst X11.here hx rfl (hb hby at_159) ?_
    show Steps p.tables e below (T11.setTop (mkF m 160 #[.val (.int p1), .val (.int p2), .val (.int p3), .val (.int p4), .val (.int (p4 &&& (3 : Int32))), .val (.int (1 : Int32)), .val (.ref b5), .val (.ref t), .unset] [(.int (3 : Int32)), (.int (p4 &&& (3 : Int32)))])) _
    refine XS.icmpYes X11.here hx rfl (pc0 := 160) (pc' := 181) rfl (hb hby at_160) rfl (tlt hc160).1 (by decide) (by decide) ?_
    show Steps p.tables e below (T11.setTop (mkF m 181 #[.val (.int p1), .val (.int p2), .val (.int p3), .val (.int p4), .val (.int (p4 &&& (3 : Int32))), .val (.int (1 : Int32)), .val (.ref b5), .val (.ref t), .unset] [])) _
    refine XS.iload X11.here hx rfl (hb hby at_181) rfl ?_
    show Steps p.tables e below (T11.setTop (mkF m 183 #[.val (.int p1), .val (.int p2), .val (.int p3), .val (.int p4), .val (.int (p4 &&& (3 : Int32))), .val (.int (1 : Int32)), .val (.ref b5), .val (.ref t), .unset] [(.int (1 : Int32))])) _
    refine XS.ifNo X11.here hx rfl (hb hby at_183) rfl ((if0 _ _).trans (feq hc183).1) ?_
    show Steps p.tables e below (T11.setTop (mkF m 186 #[.val (.int p1), .val (.int p2), .val (.int p3), .val (.int p4), .val (.int (p4 &&& (3 : Int32))), .val (.int (1 : Int32)), .val (.ref b5), .val (.ref t), .unset] [])) _
    refine XS.iload X11.here hx rfl (hb hby at_186) rfl ?_
    show Steps p.tables e below (T11.setTop (mkF m 188 #[.val (.int p1), .val (.int p2), .val (.int p3), .val (.int p4), .val (.int (p4 &&& (3 : Int32))), .val (.int (1 : Int32)), .val (.ref b5), .val (.ref t), .unset] [(.int (p4 &&& (3 : Int32)))])) _
    refine XS.ifYes X11.here hx rfl (pc0 := 188) (pc' := 199) rfl (hb hby at_188) rfl ((if0 _ _).trans (feq hc188).2) (by decide) (by decide) ?_
    show Steps p.tables e below (T11.setTop (mkF m 199 #[.val (.int p1), .val (.int p2), .val (.int p3), .val (.int p4), .val (.int (p4 &&& (3 : Int32))), .val (.int (1 : Int32)), .val (.ref b5), .val (.ref t), .unset] [])) _
    refine XS.iconst X11.here hx rfl (hb hby at_199) ?_
    show Steps p.tables e below (T11.setTop (mkF m 200 #[.val (.int p1), .val (.int p2), .val (.int p3), .val (.int p4), .val (.int (p4 &&& (3 : Int32))), .val (.int (1 : Int32)), .val (.ref b5), .val (.ref t), .unset] [(.int (0 : Int32))])) _
    refine XS.istore X11.here hx rfl (hb hby at_200) rfl (l' := #[.val (.int p1), .val (.int p2), .val (.int p3), .val (.int p4), .val (.int (p4 &&& (3 : Int32))), .val (.int (1 : Int32)), .val (.ref b5), .val (.ref t), .val (.int (0 : Int32))]) rfl ?_
    show Steps p.tables e below (T11.setTop (mkF m 202 #[.val (.int p1), .val (.int p2), .val (.int p3), .val (.int p4), .val (.int (p4 &&& (3 : Int32))), .val (.int (1 : Int32)), .val (.ref b5), .val (.ref t), .val (.int (0 : Int32))] [])) _
    refine XS.aload X11.here hx rfl (hb hby at_202) rfl rfl ?_
    show Steps p.tables e below (T11.setTop (mkF m 204 #[.val (.int p1), .val (.int p2), .val (.int p3), .val (.int p4), .val (.int (p4 &&& (3 : Int32))), .val (.int (1 : Int32)), .val (.ref b5), .val (.ref t), .val (.int (0 : Int32))] [(.ref t)])) _
    refine XS.iload X11.here hx rfl (hb hby at_204) rfl ?_
    show Steps p.tables e below (T11.setTop (mkF m 206 #[.val (.int p1), .val (.int p2), .val (.int p3), .val (.int p4), .val (.int (p4 &&& (3 : Int32))), .val (.int (1 : Int32)), .val (.ref b5), .val (.ref t), .val (.int (0 : Int32))] [(.int (p4 &&& (3 : Int32))), (.ref t)])) _
    refine X11.baloadBytes hx (j := (p4 &&& (3 : Int32))) (v := (.int (0 : Int32))) Ar_t.1 (State.isArrayOf_alike hZ.alike Ar_t.2.1) Ar_t.2.2 hin206 hat206 (g := (mkF m 206 #[.val (.int p1), .val (.int p2), .val (.int p3), .val (.int p4), .val (.int (p4 &&& (3 : Int32))), .val (.int (1 : Int32)), .val (.ref b5), .val (.ref t), .val (.int (0 : Int32))] [(.int (p4 &&& (3 : Int32))), (.ref t)])) rfl rfl (hb hby at_206) _ ?_
    show Steps p.tables e below (T11.setTop (mkF m 207 #[.val (.int p1), .val (.int p2), .val (.int p3), .val (.int p4), .val (.int (p4 &&& (3 : Int32))), .val (.int (1 : Int32)), .val (.ref b5), .val (.ref t), .val (.int (0 : Int32))] [(.int (0 : Int32))])) _
    refine XS.sipush X11.here hx rfl (hb hby at_207) ?_
    show Steps p.tables e below (T11.setTop (mkF m 210 #[.val (.int p1), .val (.int p2), .val (.int p3), .val (.int p4), .val (.int (p4 &&& (3 : Int32))), .val (.int (1 : Int32)), .val (.ref b5), .val (.ref t), .val (.int (0 : Int32))] [(.int (255 : Int32)), (.int (0 : Int32))])) _
    refine XS.iand X11.here hx rfl (hb hby at_210) rfl ?_
    show Steps p.tables e below (T11.setTop (mkF m 211 #[.val (.int p1), .val (.int p2), .val (.int p3), .val (.int p4), .val (.int (p4 &&& (3 : Int32))), .val (.int (1 : Int32)), .val (.ref b5), .val (.ref t), .val (.int (0 : Int32))] [(.int ((0 : Int32) &&& (255 : Int32)))])) _
    refine XS.iload X11.here hx rfl (hb hby at_211) rfl ?_
    show Steps p.tables e below (T11.setTop (mkF m 213 #[.val (.int p1), .val (.int p2), .val (.int p3), .val (.int p4), .val (.int (p4 &&& (3 : Int32))), .val (.int (1 : Int32)), .val (.ref b5), .val (.ref t), .val (.int (0 : Int32))] [(.int (0 : Int32)), (.int ((0 : Int32) &&& (255 : Int32)))])) _
    refine XS.icmpNo X11.here hx rfl (hb hby at_213) rfl (teq hc213).2 ?_
    show Steps p.tables e below (T11.setTop (mkF m 216 #[.val (.int p1), .val (.int p2), .val (.int p3), .val (.int p4), .val (.int (p4 &&& (3 : Int32))), .val (.int (1 : Int32)), .val (.ref b5), .val (.ref t), .val (.int (0 : Int32))] [])) _
    refine XS.iconst X11.here hx rfl (hb hby at_216) ?_
    show Steps p.tables e below (T11.setTop (mkF m 217 #[.val (.int p1), .val (.int p2), .val (.int p3), .val (.int p4), .val (.int (p4 &&& (3 : Int32))), .val (.int (1 : Int32)), .val (.ref b5), .val (.ref t), .val (.int (0 : Int32))] [(.int (1 : Int32))])) _
    refine XS.goto X11.here hx rfl (pc0 := 217) (pc' := 221) rfl (hb hby at_217) (by decide) (by decide) ?_
    show Steps p.tables e below (T11.setTop (mkF m 221 #[.val (.int p1), .val (.int p2), .val (.int p3), .val (.int p4), .val (.int (p4 &&& (3 : Int32))), .val (.int (1 : Int32)), .val (.ref b5), .val (.ref t), .val (.int (0 : Int32))] [(.int (1 : Int32))])) _
    exact retN X11 hx (t := .boolean) Bd.returns (by simp) (hb hby at_221) hr
  · show Q0 Z p1 p2 p3 p4 h0 n0 _ T11.heap _
    exact ⟨rfl, N11⟩
set_option maxRecDepth 65536 in
set_option maxHeartbeats 40000000 in
theorem rm0_p2 (l : Launch) (Z : State) (a0 : Array Value) (hw : ∀ d ∈ tables_1, d.before a0 Z = true) (ws : List Jvm.Cond) (p1 : Int32) (p2 : Int32) (p3 : Int32) (p4 : Int32) (h0 : Heap) (n0 : Nat) (Z0 : n0 ≤ h0.size) (hn : (p4 &&& (3 : Int32)) = (2 : Int32)) (hc8 : ¬ ((p4 &&& (4 : Int32)) = (0 : Int32))) (hc29 : ¬ ((1 : Int32) = (0 : Int32))) (hc46 : ¬ ((p4 &&& (3 : Int32)) < (1 : Int32))) (hc58 : ¬ ((p4 &&& (3 : Int32)) < (2 : Int32))) (hc70 : (p4 &&& (3 : Int32)) < (3 : Int32)) (hc112 : ¬ ((p4 &&& (3 : Int32)) < (1 : Int32))) (hc128 : ((own_b p1) &&& (255 : Int32)) = (p1 &&& (255 : Int32))) (hc136 : ¬ ((p4 &&& (3 : Int32)) < (2 : Int32))) (hc152 : ((own_b p2) &&& (255 : Int32)) = (p2 &&& (255 : Int32))) (hc160 : (p4 &&& (3 : Int32)) < (3 : Int32)) (hc183 : ¬ ((1 : Int32) = (0 : Int32))) (hc188 : ¬ ((p4 &&& (3 : Int32)) = (0 : Int32))) (hc213 : ((0 : Int32) &&& (255 : Int32)) = (0 : Int32)) (hx86 : (((0 : Int32) + (1 : Int32)) + (1 : Int32)) = (p4 &&& (3 : Int32))) (hx104 : (256 : Int32) = (256 : Int32)) :
    MetFree l x (head1 (Jvm.Cond.code x code maxLocals ret :: ws) room_1) (fun a U => a = #[(.int p1), (.int p2), (.int p3), (.int p4)] ∧ Z.Warmed39 U.vm ∧ U.heap = h0) (fun _ _ _ _ _ => True) (fun _ U o U' => ∃ v L, o = .returned v ∧ Q0 Z p1 p2 p3 p4 h0 n0 v U'.heap L ∧ FrameEnd U o U' L room_1.cells room_1.slots) := by
  refine MetFree.of_bodySF (plainFor_of_name pn_0) hisR ?_
  intro p e s m args below meth c s₁ Bd hml0 hP hK
  obtain ⟨rfl, hZ, hh⟩ := hP
  have hx := Bd.exec
  have hby := Bd.bytes
  have hml : c.maxLocals = 9 := hml0
  have hown : s.vm.findClass "com/example/verdant_canopy/verdantcanopy/core/CanonicalBufferPutPinLaw" = some m.cls := findClass_of_methodNamed Bd.named
  have hnm := (name_of_methodNamed Bd.named Bd.method).1
  have X0 : Stand p l e room_1 s m #[(.int p1), (.int p2), (.int p3), (.int p4)] below meth c s₁ [] 0 0 := Stand.of_body Bd
  have e0 : s₁.heap = h0 := by rw [← hh, Bd.state]; rfl
  have N0 := Fr.nil n0
  have pre0 : ∀ t, Steps p.tables e below (s₁.setTop (mkF m 0 #[.val (.int p1), .val (.int p2), .val (.int p3), .val (.int p4), .unset, .unset, .unset, .unset, .unset] [])) t → Steps p.tables e below (s₁.setTop (entryFrame m #[(.int p1), (.int p2), (.int p3), (.int p4)] maxLocals)) t := fun t k => castTop (ef_0 m p1 p2 p3 p4) k
  obtain ⟨T5, h5, X5, e5, E5, A5, D5, -, st5⟩ := newO X0 hx hZ hown (hw _ (List.mem_of_getElem? (i := 0) rfl)) (hw _ (List.mem_of_getElem? (i := 1) rfl)) (hw _ (List.mem_of_getElem? (i := 2) rfl)) e0 (g := (mkF m 18 #[.val (.int p1), .val (.int p2), .val (.int p3), .val (.int p4), .val (.int (p4 &&& (3 : Int32))), .val (.int (1 : Int32)), .unset, .unset, .unset] [])) rfl (hb hby at_18) (by decide) (by decide)
  obtain ⟨b5, g5⟩ : ∃ z, z = h0.size := ⟨_, rfl⟩
  rw [← g5] at A5 D5 st5
  have F_bytes_b5 : Fld Z h5 b5 "com/example/verdant_canopy/verdantcanopy/core/CanonicalBuffer" "bytes" "[B" .null := D5 (Or.inl (hw _ (List.mem_of_getElem? (i := 11) rfl))) (ty := (.array .byte)) (by decide)
  have F_length_b5 : Fld Z h5 b5 "com/example/verdant_canopy/verdantcanopy/core/CanonicalBuffer" "length" "I" (.int (0 : Int32)) := D5 (Or.inl (hw _ (List.mem_of_getElem? (i := 18) rfl))) (ty := .int) (by decide)
  have E_b5 := A5
  have g_b5 : n0 ≤ b5 := Nat.le_trans Z0 (Nat.le_of_eq g5.symm)
  have sz_b5 : h0.size ≤ b5 := (Nat.le_trans (Keep.refl h0 []).1 (Nat.le_of_eq g5.symm))
  have K5 : Keep h0 h5 [] := (Keep.refl h0 []).ext E5
  obtain ⟨_, _, ⟨T6, L6, k6, n6⟩, -, X6, ⟨Lc6, hQ6, l6, y6, z6⟩, st6⟩ := X5.specialBack hx (y := (⟨"com/example/verdant_canopy/verdantcanopy/core/CanonicalBuffer", "<init>", "()V"⟩ : MethodName)) rfl hown (mvT hZ (hw _ (List.mem_of_getElem? (i := 3) rfl))) (mvT hZ (hw _ (List.mem_of_getElem? (i := 4) rfl))) (mvT hZ (hw _ (List.mem_of_getElem? (i := 5) rfl))) (by decide) (backOf (W := 1) (rm1 l Z a0 hw [] b5 .null h5 n0 (Nat.le_trans Z0 E5.1) E_b5 F_bytes_b5 g_b5 F_length_b5) hZ (hw _ (List.mem_of_getElem? (i := 5) rfl)) (hw _ (List.mem_of_getElem? (i := 2) rfl)) (by decide) (by decide)) (g := (mkF m 22 #[.val (.int p1), .val (.int p2), .val (.int p3), .val (.int p4), .val (.int (p4 &&& (3 : Int32))), .val (.int (1 : Int32)), .unset, .unset, .unset] [(.ref b5), (.ref b5)])) rfl (by rw [hml]; rfl) (Steps.refl _) (a := b5) (argsL := []) (rest := [(.ref b5)]) (lenOf pd_0_0 rfl) rfl (by show 2 * 0 + _ ≤ _; exact Nat.le_of_eq rfl) (hb hby at_22) (fun _ _ => ⟨rfl, e5, (by decide : 1 + 1 ≤ _), (by decide : 2 + 256 ≤ _)⟩)
  dsimp only [Pt.U, Pt.locs, Pt.cells, Pt.slots] at X6 l6 y6 z6 st6 hQ6
  subst l6 y6 z6
  obtain ⟨rfl, N6q, K6q, t, kc, gt, B6⟩ := hQ6
  have Z6 : n0 ≤ T6.heap.size := Nat.le_trans (Nat.le_trans Z0 E5.1) K6q.1
  have N6 := Fr.app N0 N6q
  obtain ⟨cq7, kq7, q7a, q7b, q7c⟩ := isOf hZ rfl B6.1
  obtain ⟨_, _, ⟨T7, L7, k7, n7⟩, -, X7, ⟨Lc7, hQ7, l7, y7, z7⟩, st7⟩ := X6.virtualBack hx (y := (⟨"com/example/verdant_canopy/verdantcanopy/core/CanonicalBuffer", "put", "(I)V"⟩ : MethodName)) (z := (⟨"com/example/verdant_canopy/verdantcanopy/core/CanonicalBuffer", "put", "(I)V"⟩ : MethodName)) hown (mvT hZ (hw _ (List.mem_of_getElem? (i := 12) rfl))) (mvT hZ (hw _ (List.mem_of_getElem? (i := 13) rfl))) (notFace_of_selects (args := #[]) (mvT hZ (hw _ (List.mem_of_getElem? (i := 15) rfl)))) (mvT hZ (hw _ (List.mem_of_getElem? (i := 15) rfl))) (mvT hZ (hw _ (List.mem_of_getElem? (i := 14) rfl))) (by decide) (backOf (W := 0) (rm3 l Z a0 hw [] b5 p3 t kc (0 : Int32) ([(.int (0 : Int32)), (.int (0 : Int32)), (.int (0 : Int32)), (.int (0 : Int32))] : List Value) 0 T6.heap n0 Z6 B6 g_b5 gt (by decide) (Nat.le_of_ble_eq_true rfl) ⟨by decide, by decide⟩) hZ (hw _ (List.mem_of_getElem? (i := 16) rfl)) (hw _ (List.mem_of_getElem? (i := 2) rfl)) (by decide) (by decide)) q7a q7c (g := (mkF m 35 #[.val (.int p1), .val (.int p2), .val (.int p3), .val (.int p4), .val (.int (p4 &&& (3 : Int32))), .val (.int (1 : Int32)), .val (.ref b5), .unset, .unset] [(.int p3), (.ref b5)])) rfl (by rw [hml]; rfl) (Steps.refl _) (argsL := [(.int p3)]) (rest := []) (lenOf pd_0_1 rfl) rfl (by show 2 * 0 + _ ≤ _; exact Nat.le_of_eq rfl) (hb hby at_35) (fun _ _ => ⟨rfl, rfl, (by decide : 1 + (1 + 0) ≤ _), (by decide : 2 + (256 + 0) ≤ _)⟩)
  dsimp only [Pt.U, Pt.locs, Pt.cells, Pt.slots] at X7 l7 y7 z7 st7 hQ7
  subst l7 y7 z7
  obtain ⟨rfl, N7q, K7q, B7⟩ := hQ7
  have Z7 : n0 ≤ T7.heap.size := Nat.le_trans Z6 K7q.1
  have N7 := Fr.app N6 N7q
  obtain ⟨cq8, kq8, q8a, q8b, q8c⟩ := isOf hZ rfl B7.1
  obtain ⟨_, _, ⟨T8, L8, k8, n8⟩, -, X8, ⟨Lc8, hQ8, l8, y8, z8⟩, st8⟩ := X7.virtualBack hx (y := (⟨"com/example/verdant_canopy/verdantcanopy/core/CanonicalBuffer", "clear", "()V"⟩ : MethodName)) (z := (⟨"com/example/verdant_canopy/verdantcanopy/core/CanonicalBuffer", "clear", "()V"⟩ : MethodName)) hown (mvT hZ (hw _ (List.mem_of_getElem? (i := 29) rfl))) (mvT hZ (hw _ (List.mem_of_getElem? (i := 30) rfl))) (notFace_of_selects (args := #[]) (mvT hZ (hw _ (List.mem_of_getElem? (i := 32) rfl)))) (mvT hZ (hw _ (List.mem_of_getElem? (i := 32) rfl))) (mvT hZ (hw _ (List.mem_of_getElem? (i := 31) rfl))) (by decide) (backOf (W := 0) (rm6 l Z a0 hw [] b5 t kc ((0 : Int32) + (1 : Int32)) (([(.int (0 : Int32)), (.int (0 : Int32)), (.int (0 : Int32)), (.int (0 : Int32))] : List Value).set 0 (.int (own_b p3))) T7.heap n0 Z7 B7 g_b5) hZ (hw _ (List.mem_of_getElem? (i := 33) rfl)) (hw _ (List.mem_of_getElem? (i := 2) rfl)) (by decide) (by decide)) q8a q8c (g := (mkF m 40 #[.val (.int p1), .val (.int p2), .val (.int p3), .val (.int p4), .val (.int (p4 &&& (3 : Int32))), .val (.int (1 : Int32)), .val (.ref b5), .unset, .unset] [(.ref b5)])) rfl (by rw [hml]; rfl) (Steps.refl _) (argsL := []) (rest := []) (lenOf pd_0_0 rfl) rfl (by show 2 * 0 + _ ≤ _; exact Nat.le_of_eq rfl) (hb hby at_40) (fun _ _ => ⟨rfl, rfl, (by decide : 1 + (1 + 0) ≤ _), (by decide : 2 + (256 + 0) ≤ _)⟩)
  dsimp only [Pt.U, Pt.locs, Pt.cells, Pt.slots] at X8 l8 y8 z8 st8 hQ8
  subst l8 y8 z8
  obtain ⟨rfl, N8q, K8q, B8⟩ := hQ8
  have Z8 : n0 ≤ T8.heap.size := Nat.le_trans Z7 K8q.1
  have N8 := Fr.app N7 N8q
  obtain ⟨cq9, kq9, q9a, q9b, q9c⟩ := isOf hZ rfl B8.1
  obtain ⟨_, _, ⟨T9, L9, k9, n9⟩, -, X9, ⟨Lc9, hQ9, l9, y9, z9⟩, st9⟩ := X8.virtualBack hx (y := (⟨"com/example/verdant_canopy/verdantcanopy/core/CanonicalBuffer", "put", "(I)V"⟩ : MethodName)) (z := (⟨"com/example/verdant_canopy/verdantcanopy/core/CanonicalBuffer", "put", "(I)V"⟩ : MethodName)) hown (mvT hZ (hw _ (List.mem_of_getElem? (i := 12) rfl))) (mvT hZ (hw _ (List.mem_of_getElem? (i := 13) rfl))) (notFace_of_selects (args := #[]) (mvT hZ (hw _ (List.mem_of_getElem? (i := 15) rfl)))) (mvT hZ (hw _ (List.mem_of_getElem? (i := 15) rfl))) (mvT hZ (hw _ (List.mem_of_getElem? (i := 14) rfl))) (by decide) (backOf (W := 0) (rm3 l Z a0 hw [] b5 p1 t kc (0 : Int32) (([(.int (0 : Int32)), (.int (0 : Int32)), (.int (0 : Int32)), (.int (0 : Int32))] : List Value).set 0 (.int (own_b p3))) 0 T8.heap n0 Z8 B8 g_b5 gt (by decide) (Nat.le_of_ble_eq_true rfl) ⟨by decide, by decide⟩) hZ (hw _ (List.mem_of_getElem? (i := 16) rfl)) (hw _ (List.mem_of_getElem? (i := 2) rfl)) (by decide) (by decide)) q9a q9c (g := (mkF m 52 #[.val (.int p1), .val (.int p2), .val (.int p3), .val (.int p4), .val (.int (p4 &&& (3 : Int32))), .val (.int (1 : Int32)), .val (.ref b5), .unset, .unset] [(.int p1), (.ref b5)])) rfl (by rw [hml]; rfl) (Steps.refl _) (argsL := [(.int p1)]) (rest := []) (lenOf pd_0_1 rfl) rfl (by show 2 * 0 + _ ≤ _; exact Nat.le_of_eq rfl) (hb hby at_52) (fun _ _ => ⟨rfl, rfl, (by decide : 1 + (1 + 0) ≤ _), (by decide : 2 + (256 + 0) ≤ _)⟩)
  dsimp only [Pt.U, Pt.locs, Pt.cells, Pt.slots] at X9 l9 y9 z9 st9 hQ9
  subst l9 y9 z9
  obtain ⟨rfl, N9q, K9q, B9⟩ := hQ9
  have Z9 : n0 ≤ T9.heap.size := Nat.le_trans Z8 K9q.1
  have N9 := Fr.app N8 N9q
  obtain ⟨cq10, kq10, q10a, q10b, q10c⟩ := isOf hZ rfl B9.1
  obtain ⟨_, _, ⟨T10, L10, k10, n10⟩, -, X10, ⟨Lc10, hQ10, l10, y10, z10⟩, st10⟩ := X9.virtualBack hx (y := (⟨"com/example/verdant_canopy/verdantcanopy/core/CanonicalBuffer", "put", "(I)V"⟩ : MethodName)) (z := (⟨"com/example/verdant_canopy/verdantcanopy/core/CanonicalBuffer", "put", "(I)V"⟩ : MethodName)) hown (mvT hZ (hw _ (List.mem_of_getElem? (i := 12) rfl))) (mvT hZ (hw _ (List.mem_of_getElem? (i := 13) rfl))) (notFace_of_selects (args := #[]) (mvT hZ (hw _ (List.mem_of_getElem? (i := 15) rfl)))) (mvT hZ (hw _ (List.mem_of_getElem? (i := 15) rfl))) (mvT hZ (hw _ (List.mem_of_getElem? (i := 14) rfl))) (by decide) (backOf (W := 0) (rm3 l Z a0 hw [] b5 p2 t kc ((0 : Int32) + (1 : Int32)) ((([(.int (0 : Int32)), (.int (0 : Int32)), (.int (0 : Int32)), (.int (0 : Int32))] : List Value).set 0 (.int (own_b p3))).set 0 (.int (own_b p1))) 1 T9.heap n0 Z9 B9 g_b5 gt (by decide) (Nat.le_of_ble_eq_true rfl) ⟨by decide, by decide⟩) hZ (hw _ (List.mem_of_getElem? (i := 16) rfl)) (hw _ (List.mem_of_getElem? (i := 2) rfl)) (by decide) (by decide)) q10a q10c (g := (mkF m 64 #[.val (.int p1), .val (.int p2), .val (.int p3), .val (.int p4), .val (.int (p4 &&& (3 : Int32))), .val (.int (1 : Int32)), .val (.ref b5), .unset, .unset] [(.int p2), (.ref b5)])) rfl (by rw [hml]; rfl) (Steps.refl _) (argsL := [(.int p2)]) (rest := []) (lenOf pd_0_1 rfl) rfl (by show 2 * 0 + _ ≤ _; exact Nat.le_of_eq rfl) (hb hby at_64) (fun _ _ => ⟨rfl, rfl, (by decide : 1 + (1 + 0) ≤ _), (by decide : 2 + (256 + 0) ≤ _)⟩)
  dsimp only [Pt.U, Pt.locs, Pt.cells, Pt.slots] at X10 l10 y10 z10 st10 hQ10
  subst l10 y10 z10
  obtain ⟨rfl, N10q, K10q, B10⟩ := hQ10
  have Z10 : n0 ≤ T10.heap.size := Nat.le_trans Z9 K10q.1
  have N10 := Fr.app N9 N10q
  obtain ⟨cq11, kq11, q11a, q11b, q11c⟩ := isOf hZ rfl B10.1
  obtain ⟨_, _, ⟨T11, L11, k11, n11⟩, -, X11, ⟨Lc11, hQ11, l11, y11, z11⟩, st11⟩ := X10.virtualBack hx (y := (⟨"com/example/verdant_canopy/verdantcanopy/core/CanonicalBuffer", "length", "()I"⟩ : MethodName)) (z := (⟨"com/example/verdant_canopy/verdantcanopy/core/CanonicalBuffer", "length", "()I"⟩ : MethodName)) hown (mvT hZ (hw _ (List.mem_of_getElem? (i := 19) rfl))) (mvT hZ (hw _ (List.mem_of_getElem? (i := 20) rfl))) (notFace_of_selects (args := #[]) (mvT hZ (hw _ (List.mem_of_getElem? (i := 22) rfl)))) (mvT hZ (hw _ (List.mem_of_getElem? (i := 22) rfl))) (mvT hZ (hw _ (List.mem_of_getElem? (i := 21) rfl))) (by decide) (backOf (W := 0) (rm4 l Z a0 hw [] b5 (((0 : Int32) + (1 : Int32)) + (1 : Int32)) T10.heap n0 Z10 B10.2.2.1) hZ (hw _ (List.mem_of_getElem? (i := 23) rfl)) (hw _ (List.mem_of_getElem? (i := 2) rfl)) (by decide) (by decide)) q11a q11c (g := (mkF m 81 #[.val (.int p1), .val (.int p2), .val (.int p3), .val (.int p4), .val (.int (p4 &&& (3 : Int32))), .val (.int (1 : Int32)), .val (.ref b5), .unset, .unset] [(.ref b5)])) rfl (by rw [hml]; rfl) (Steps.refl _) (argsL := []) (rest := []) (lenOf pd_0_2 rfl) rfl (by show 2 * 0 + _ ≤ _; exact Nat.le_of_eq rfl) (hb hby at_81) (fun _ _ => ⟨rfl, rfl, (by decide : 1 + (1 + 0) ≤ _), (by decide : 2 + (256 + 0) ≤ _)⟩)
  dsimp only [Pt.U, Pt.locs, Pt.cells, Pt.slots] at X11 l11 y11 z11 st11 hQ11
  subst l11 y11 z11
  obtain ⟨rfl, N11q, e11q⟩ := hQ11
  have Z11 : n0 ≤ T11.heap.size := by rw [e11q]; exact Z10
  have B11 : own_B Z T11.heap b5 t kc (((0 : Int32) + (1 : Int32)) + (1 : Int32)) (((([(.int (0 : Int32)), (.int (0 : Int32)), (.int (0 : Int32)), (.int (0 : Int32))] : List Value).set 0 (.int (own_b p3))).set 0 (.int (own_b p1))).set 1 (.int (own_b p2))) := by rw [e11q]; exact B10
  have N11 := Fr.app N10 N11q
  obtain ⟨cq12, kq12, q12a, q12b, q12c⟩ := isOf hZ rfl B11.1
  obtain ⟨_, _, ⟨T12, L12, k12, n12⟩, -, X12, ⟨Lc12, hQ12, l12, y12, z12⟩, st12⟩ := X11.virtualBack hx (y := (⟨"com/example/verdant_canopy/verdantcanopy/core/CanonicalBuffer", "bytes", "()[B"⟩ : MethodName)) (z := (⟨"com/example/verdant_canopy/verdantcanopy/core/CanonicalBuffer", "bytes", "()[B"⟩ : MethodName)) hown (mvT hZ (hw _ (List.mem_of_getElem? (i := 24) rfl))) (mvT hZ (hw _ (List.mem_of_getElem? (i := 25) rfl))) (notFace_of_selects (args := #[]) (mvT hZ (hw _ (List.mem_of_getElem? (i := 27) rfl)))) (mvT hZ (hw _ (List.mem_of_getElem? (i := 27) rfl))) (mvT hZ (hw _ (List.mem_of_getElem? (i := 26) rfl))) (by decide) (backOf (W := 0) (rm5 l Z a0 hw [] b5 t T11.heap n0 Z11 B11.2.1) hZ (hw _ (List.mem_of_getElem? (i := 28) rfl)) (hw _ (List.mem_of_getElem? (i := 2) rfl)) (by decide) (by decide)) q12a q12c (g := (mkF m 93 #[.val (.int p1), .val (.int p2), .val (.int p3), .val (.int p4), .val (.int (p4 &&& (3 : Int32))), .val (.int (1 : Int32)), .val (.ref b5), .unset, .unset] [(.ref b5)])) rfl (by rw [hml]; rfl) (Steps.refl _) (argsL := []) (rest := []) (lenOf pd_0_3 rfl) rfl (by show 2 * 0 + _ ≤ _; exact Nat.le_of_eq rfl) (hb hby at_93) (fun _ _ => ⟨rfl, rfl, (by decide : 1 + (1 + 0) ≤ _), (by decide : 2 + (256 + 0) ≤ _)⟩)
  dsimp only [Pt.U, Pt.locs, Pt.cells, Pt.slots] at X12 l12 y12 z12 st12 hQ12
  subst l12 y12 z12
  obtain ⟨rfl, N12q, e12q⟩ := hQ12
  have Z12 : n0 ≤ T12.heap.size := by rw [e12q]; exact Z11
  have B12 : own_B Z T12.heap b5 t kc (((0 : Int32) + (1 : Int32)) + (1 : Int32)) (((([(.int (0 : Int32)), (.int (0 : Int32)), (.int (0 : Int32)), (.int (0 : Int32))] : List Value).set 0 (.int (own_b p3))).set 0 (.int (own_b p1))).set 1 (.int (own_b p2))) := by rw [e12q]; exact B11
  obtain ⟨cl_t, Ar_t, q_t, S_t, N_t, H_t, G_t⟩ := B12.2.2.2.1
  have hin118 : ¬ ((0 : Int32) < 0 ∨ cl_t.slots.size ≤ ((0 : Int32)).toNatClampNeg) := inb_of S_t ⟨by decide, by decide⟩
  have hat118 : cl_t.slots[((0 : Int32)).toNatClampNeg]? = some (.int (own_b p1)) := Has.at H_t hin118 rfl
  have hin142 : ¬ ((1 : Int32) < 0 ∨ cl_t.slots.size ≤ ((1 : Int32)).toNatClampNeg) := inb_of S_t ⟨by decide, by decide⟩
  have hat142 : cl_t.slots[((1 : Int32)).toNatClampNeg]? = some (.int (own_b p2)) := Has.at H_t hin142 rfl
  have hin206 : ¬ ((p4 &&& (3 : Int32)) < 0 ∨ cl_t.slots.size ≤ ((p4 &&& (3 : Int32))).toNatClampNeg) := inb_of S_t ⟨by rw [hn]; decide, by rw [hn]; decide⟩
  have hat206 : cl_t.slots[((p4 &&& (3 : Int32))).toNatClampNeg]? = some (.int (0 : Int32)) := Has.at H_t hin206 (by rw [hn]; rfl)
  have N12 := Fr.app N11 N12q
  obtain ⟨fs, hr, hrun, hended, hW, hsame⟩ := X12.leave (v := some (.int (1 : Int32))) (fun h => by rw [Bd.returns] at h; cases h)
  refine ⟨_, _, pre0 _ ?_, hrun, hended, _, _, rfl, ?_, ⟨_, rfl⟩, hW, hsame.mono (by decide) (by decide)⟩
  · show Steps p.tables e below (s₁.setTop (mkF m 0 #[.val (.int p1), .val (.int p2), .val (.int p3), .val (.int p4), .unset, .unset, .unset, .unset, .unset] [])) _
    refine XS.iloadN X0.here hx rfl (hb hby at_0) rfl ?_
    show Steps p.tables e below (s₁.setTop (mkF m 1 #[.val (.int p1), .val (.int p2), .val (.int p3), .val (.int p4), .unset, .unset, .unset, .unset, .unset] [(.int p4)])) _
    refine XS.iconst X0.here hx rfl (hb hby at_1) ?_
    show Steps p.tables e below (s₁.setTop (mkF m 2 #[.val (.int p1), .val (.int p2), .val (.int p3), .val (.int p4), .unset, .unset, .unset, .unset, .unset] [(.int (3 : Int32)), (.int p4)])) _
    refine XS.iand X0.here hx rfl (hb hby at_2) rfl ?_
    show Steps p.tables e below (s₁.setTop (mkF m 3 #[.val (.int p1), .val (.int p2), .val (.int p3), .val (.int p4), .unset, .unset, .unset, .unset, .unset] [(.int (p4 &&& (3 : Int32)))])) _
    refine XS.istore X0.here hx rfl (hb hby at_3) rfl (l' := #[.val (.int p1), .val (.int p2), .val (.int p3), .val (.int p4), .val (.int (p4 &&& (3 : Int32))), .unset, .unset, .unset, .unset]) rfl ?_
    show Steps p.tables e below (s₁.setTop (mkF m 5 #[.val (.int p1), .val (.int p2), .val (.int p3), .val (.int p4), .val (.int (p4 &&& (3 : Int32))), .unset, .unset, .unset, .unset] [])) _
    refine XS.iloadN X0.here hx rfl (hb hby at_5) rfl ?_
    show Steps p.tables e below (s₁.setTop (mkF m 6 #[.val (.int p1), .val (.int p2), .val (.int p3), .val (.int p4), .val (.int (p4 &&& (3 : Int32))), .unset, .unset, .unset, .unset] [(.int p4)])) _
    refine XS.iconst X0.here hx rfl (hb hby at_6) ?_
    show Steps p.tables e below (s₁.setTop (mkF m 7 #[.val (.int p1), .val (.int p2), .val (.int p3), .val (.int p4), .val (.int (p4 &&& (3 : Int32))), .unset, .unset, .unset, .unset] [(.int (4 : Int32)), (.int p4)])) _
    refine XS.iand X0.here hx rfl (hb hby at_7) rfl ?_
    show Steps p.tables e below (s₁.setTop (mkF m 8 #[.val (.int p1), .val (.int p2), .val (.int p3), .val (.int p4), .val (.int (p4 &&& (3 : Int32))), .unset, .unset, .unset, .unset] [(.int (p4 &&& (4 : Int32)))])) _
    refine XS.ifNo X0.here hx rfl (hb hby at_8) rfl ((if0 _ _).trans (feq hc8).1) ?_
    show Steps p.tables e below (s₁.setTop (mkF m 11 #[.val (.int p1), .val (.int p2), .val (.int p3), .val (.int p4), .val (.int (p4 &&& (3 : Int32))), .unset, .unset, .unset, .unset] [])) _
    refine XS.iconst X0.here hx rfl (hb hby at_11) ?_
    show Steps p.tables e below (s₁.setTop (mkF m 12 #[.val (.int p1), .val (.int p2), .val (.int p3), .val (.int p4), .val (.int (p4 &&& (3 : Int32))), .unset, .unset, .unset, .unset] [(.int (1 : Int32))])) _
    refine XS.goto X0.here hx rfl (pc0 := 12) (pc' := 16) rfl (hb hby at_12) (by decide) (by decide) ?_
    show Steps p.tables e below (s₁.setTop (mkF m 16 #[.val (.int p1), .val (.int p2), .val (.int p3), .val (.int p4), .val (.int (p4 &&& (3 : Int32))), .unset, .unset, .unset, .unset] [(.int (1 : Int32))])) _
    refine XS.istore X0.here hx rfl (hb hby at_16) rfl (l' := #[.val (.int p1), .val (.int p2), .val (.int p3), .val (.int p4), .val (.int (p4 &&& (3 : Int32))), .val (.int (1 : Int32)), .unset, .unset, .unset]) rfl ?_
    show Steps p.tables e below (s₁.setTop (mkF m 18 #[.val (.int p1), .val (.int p2), .val (.int p3), .val (.int p4), .val (.int (p4 &&& (3 : Int32))), .val (.int (1 : Int32)), .unset, .unset, .unset] [])) _
    refine st5 _ ?_
    show Steps p.tables e below (T5.setTop (mkF m 21 #[.val (.int p1), .val (.int p2), .val (.int p3), .val (.int p4), .val (.int (p4 &&& (3 : Int32))), .val (.int (1 : Int32)), .unset, .unset, .unset] [(.ref b5)])) _
    refine XS.dup X5.here hx rfl (hb hby at_21) rfl rfl ?_
    show Steps p.tables e below (T5.setTop (mkF m 22 #[.val (.int p1), .val (.int p2), .val (.int p3), .val (.int p4), .val (.int (p4 &&& (3 : Int32))), .val (.int (1 : Int32)), .unset, .unset, .unset] [(.ref b5), (.ref b5)])) _
    refine st6.trans ?_
    show Steps p.tables e below (T6.setTop (mkF m 25 #[.val (.int p1), .val (.int p2), .val (.int p3), .val (.int p4), .val (.int (p4 &&& (3 : Int32))), .val (.int (1 : Int32)), .unset, .unset, .unset] [(.ref b5)])) _
    refine XS.astore X6.here hx rfl (hb hby at_25) rfl rfl (l' := #[.val (.int p1), .val (.int p2), .val (.int p3), .val (.int p4), .val (.int (p4 &&& (3 : Int32))), .val (.int (1 : Int32)), .val (.ref b5), .unset, .unset]) rfl ?_
    show Steps p.tables e below (T6.setTop (mkF m 27 #[.val (.int p1), .val (.int p2), .val (.int p3), .val (.int p4), .val (.int (p4 &&& (3 : Int32))), .val (.int (1 : Int32)), .val (.ref b5), .unset, .unset] [])) _
    refine XS.iload X6.here hx rfl (hb hby at_27) rfl ?_
    show Steps p.tables e below (T6.setTop (mkF m 29 #[.val (.int p1), .val (.int p2), .val (.int p3), .val (.int p4), .val (.int (p4 &&& (3 : Int32))), .val (.int (1 : Int32)), .val (.ref b5), .unset, .unset] [(.int (1 : Int32))])) _
    refine XS.ifNo X6.here hx rfl (hb hby at_29) rfl ((if0 _ _).trans (feq hc29).1) ?_
    show Steps p.tables e below (T6.setTop (mkF m 32 #[.val (.int p1), .val (.int p2), .val (.int p3), .val (.int p4), .val (.int (p4 &&& (3 : Int32))), .val (.int (1 : Int32)), .val (.ref b5), .unset, .unset] [])) _
    refine XS.aload X6.here hx rfl (hb hby at_32) rfl rfl ?_
    show Steps p.tables e below (T6.setTop (mkF m 34 #[.val (.int p1), .val (.int p2), .val (.int p3), .val (.int p4), .val (.int (p4 &&& (3 : Int32))), .val (.int (1 : Int32)), .val (.ref b5), .unset, .unset] [(.ref b5)])) _
    refine XS.iloadN X6.here hx rfl (hb hby at_34) rfl ?_
    show Steps p.tables e below (T6.setTop (mkF m 35 #[.val (.int p1), .val (.int p2), .val (.int p3), .val (.int p4), .val (.int (p4 &&& (3 : Int32))), .val (.int (1 : Int32)), .val (.ref b5), .unset, .unset] [(.int p3), (.ref b5)])) _
    refine st7.trans ?_
    show Steps p.tables e below (T7.setTop (mkF m 38 #[.val (.int p1), .val (.int p2), .val (.int p3), .val (.int p4), .val (.int (p4 &&& (3 : Int32))), .val (.int (1 : Int32)), .val (.ref b5), .unset, .unset] [])) _
    refine XS.aload X7.here hx rfl (hb hby at_38) rfl rfl ?_
    show Steps p.tables e below (T7.setTop (mkF m 40 #[.val (.int p1), .val (.int p2), .val (.int p3), .val (.int p4), .val (.int (p4 &&& (3 : Int32))), .val (.int (1 : Int32)), .val (.ref b5), .unset, .unset] [(.ref b5)])) _
    refine st8.trans ?_
    show Steps p.tables e below (T8.setTop (mkF m 43 #[.val (.int p1), .val (.int p2), .val (.int p3), .val (.int p4), .val (.int (p4 &&& (3 : Int32))), .val (.int (1 : Int32)), .val (.ref b5), .unset, .unset] [])) _
    refine XS.iload X8.here hx rfl (hb hby at_43) rfl ?_
    show Steps p.tables e below (T8.setTop (mkF m 45 #[.val (.int p1), .val (.int p2), .val (.int p3), .val (.int p4), .val (.int (p4 &&& (3 : Int32))), .val (.int (1 : Int32)), .val (.ref b5), .unset, .unset] [(.int (p4 &&& (3 : Int32)))])) _
    refine XS.iconst X8.here hx rfl (hb hby at_45) ?_
    show Steps p.tables e below (T8.setTop (mkF m 46 #[.val (.int p1), .val (.int p2), .val (.int p3), .val (.int p4), .val (.int (p4 &&& (3 : Int32))), .val (.int (1 : Int32)), .val (.ref b5), .unset, .unset] [(.int (1 : Int32)), (.int (p4 &&& (3 : Int32)))])) _
    refine XS.icmpNo X8.here hx rfl (hb hby at_46) rfl (flt hc46).1 ?_
    show Steps p.tables e below (T8.setTop (mkF m 49 #[.val (.int p1), .val (.int p2), .val (.int p3), .val (.int p4), .val (.int (p4 &&& (3 : Int32))), .val (.int (1 : Int32)), .val (.ref b5), .unset, .unset] [])) _
    refine XS.aload X8.here hx rfl (hb hby at_49) rfl rfl ?_
    show Steps p.tables e below (T8.setTop (mkF m 51 #[.val (.int p1), .val (.int p2), .val (.int p3), .val (.int p4), .val (.int (p4 &&& (3 : Int32))), .val (.int (1 : Int32)), .val (.ref b5), .unset, .unset] [(.ref b5)])) _
    refine XS.iloadN X8.here hx rfl (hb hby at_51) rfl ?_
    show Steps p.tables e below (T8.setTop (mkF m 52 #[.val (.int p1), .val (.int p2), .val (.int p3), .val (.int p4), .val (.int (p4 &&& (3 : Int32))), .val (.int (1 : Int32)), .val (.ref b5), .unset, .unset] [(.int p1), (.ref b5)])) _
    refine st9.trans ?_
    show Steps p.tables e below (T9.setTop (mkF m 55 #[.val (.int p1), .val (.int p2), .val (.int p3), .val (.int p4), .val (.int (p4 &&& (3 : Int32))), .val (.int (1 : Int32)), .val (.ref b5), .unset, .unset] [])) _
    refine XS.iload X9.here hx rfl (hb hby at_55) rfl ?_
    show Steps p.tables e below (T9.setTop (mkF m 57 #[.val (.int p1), .val (.int p2), .val (.int p3), .val (.int p4), .val (.int (p4 &&& (3 : Int32))), .val (.int (1 : Int32)), .val (.ref b5), .unset, .unset] [(.int (p4 &&& (3 : Int32)))])) _
    refine XS.iconst X9.here hx rfl (hb hby at_57) ?_
    show Steps p.tables e below (T9.setTop (mkF m 58 #[.val (.int p1), .val (.int p2), .val (.int p3), .val (.int p4), .val (.int (p4 &&& (3 : Int32))), .val (.int (1 : Int32)), .val (.ref b5), .unset, .unset] [(.int (2 : Int32)), (.int (p4 &&& (3 : Int32)))])) _
    refine XS.icmpNo X9.here hx rfl (hb hby at_58) rfl (flt hc58).1 ?_
    show Steps p.tables e below (T9.setTop (mkF m 61 #[.val (.int p1), .val (.int p2), .val (.int p3), .val (.int p4), .val (.int (p4 &&& (3 : Int32))), .val (.int (1 : Int32)), .val (.ref b5), .unset, .unset] [])) _
    refine XS.aload X9.here hx rfl (hb hby at_61) rfl rfl ?_
    show Steps p.tables e below (T9.setTop (mkF m 63 #[.val (.int p1), .val (.int p2), .val (.int p3), .val (.int p4), .val (.int (p4 &&& (3 : Int32))), .val (.int (1 : Int32)), .val (.ref b5), .unset, .unset] [(.ref b5)])) _
    refine XS.iloadN X9.here hx rfl (hb hby at_63) rfl ?_
    show Steps p.tables e below (T9.setTop (mkF m 64 #[.val (.int p1), .val (.int p2), .val (.int p3), .val (.int p4), .val (.int (p4 &&& (3 : Int32))), .val (.int (1 : Int32)), .val (.ref b5), .unset, .unset] [(.int p2), (.ref b5)])) _
    refine st10.trans ?_
    show Steps p.tables e below (T10.setTop (mkF m 67 #[.val (.int p1), .val (.int p2), .val (.int p3), .val (.int p4), .val (.int (p4 &&& (3 : Int32))), .val (.int (1 : Int32)), .val (.ref b5), .unset, .unset] [])) _
    refine XS.iload X10.here hx rfl (hb hby at_67) rfl ?_
    show Steps p.tables e below (T10.setTop (mkF m 69 #[.val (.int p1), .val (.int p2), .val (.int p3), .val (.int p4), .val (.int (p4 &&& (3 : Int32))), .val (.int (1 : Int32)), .val (.ref b5), .unset, .unset] [(.int (p4 &&& (3 : Int32)))])) _
    refine XS.iconst X10.here hx rfl (hb hby at_69) ?_
    show Steps p.tables e below (T10.setTop (mkF m 70 #[.val (.int p1), .val (.int p2), .val (.int p3), .val (.int p4), .val (.int (p4 &&& (3 : Int32))), .val (.int (1 : Int32)), .val (.ref b5), .unset, .unset] [(.int (3 : Int32)), (.int (p4 &&& (3 : Int32)))])) _
    refine XS.icmpYes X10.here hx rfl (pc0 := 70) (pc' := 79) rfl (hb hby at_70) rfl (tlt hc70).1 (by decide) (by decide) ?_
    show Steps p.tables e below (T10.setTop (mkF m 79 #[.val (.int p1), .val (.int p2), .val (.int p3), .val (.int p4), .val (.int (p4 &&& (3 : Int32))), .val (.int (1 : Int32)), .val (.ref b5), .unset, .unset] [])) _
    refine XS.aload X10.here hx rfl (hb hby at_79) rfl rfl ?_
    show Steps p.tables e below (T10.setTop (mkF m 81 #[.val (.int p1), .val (.int p2), .val (.int p3), .val (.int p4), .val (.int (p4 &&& (3 : Int32))), .val (.int (1 : Int32)), .val (.ref b5), .unset, .unset] [(.ref b5)])) _
    refine st11.trans ?_
    show Steps p.tables e below (T11.setTop (mkF m 84 #[.val (.int p1), .val (.int p2), .val (.int p3), .val (.int p4), .val (.int (p4 &&& (3 : Int32))), .val (.int (1 : Int32)), .val (.ref b5), .unset, .unset] [(.int (((0 : Int32) + (1 : Int32)) + (1 : Int32)))])) _
    refine XS.iload X11.here hx rfl (hb hby at_84) rfl ?_
    show Steps p.tables e below (T11.setTop (mkF m 86 #[.val (.int p1), .val (.int p2), .val (.int p3), .val (.int p4), .val (.int (p4 &&& (3 : Int32))), .val (.int (1 : Int32)), .val (.ref b5), .unset, .unset] [(.int (p4 &&& (3 : Int32))), (.int (((0 : Int32) + (1 : Int32)) + (1 : Int32)))])) _
    refine XS.icmpYes X11.here hx rfl (pc0 := 86) (pc' := 91) rfl (hb hby at_86) rfl (teq hx86).1 (by decide) (by decide) ?_
    show Steps p.tables e below (T11.setTop (mkF m 91 #[.val (.int p1), .val (.int p2), .val (.int p3), .val (.int p4), .val (.int (p4 &&& (3 : Int32))), .val (.int (1 : Int32)), .val (.ref b5), .unset, .unset] [])) _
    refine XS.aload X11.here hx rfl (hb hby at_91) rfl rfl ?_
    show Steps p.tables e below (T11.setTop (mkF m 93 #[.val (.int p1), .val (.int p2), .val (.int p3), .val (.int p4), .val (.int (p4 &&& (3 : Int32))), .val (.int (1 : Int32)), .val (.ref b5), .unset, .unset] [(.ref b5)])) _
    refine st12.trans ?_
    show Steps p.tables e below (T12.setTop (mkF m 96 #[.val (.int p1), .val (.int p2), .val (.int p3), .val (.int p4), .val (.int (p4 &&& (3 : Int32))), .val (.int (1 : Int32)), .val (.ref b5), .unset, .unset] [(.ref t)])) _
    refine XS.astore X12.here hx rfl (hb hby at_96) rfl rfl (l' := #[.val (.int p1), .val (.int p2), .val (.int p3), .val (.int p4), .val (.int (p4 &&& (3 : Int32))), .val (.int (1 : Int32)), .val (.ref b5), .val (.ref t), .unset]) rfl ?_
    show Steps p.tables e below (T12.setTop (mkF m 98 #[.val (.int p1), .val (.int p2), .val (.int p3), .val (.int p4), .val (.int (p4 &&& (3 : Int32))), .val (.int (1 : Int32)), .val (.ref b5), .val (.ref t), .unset] [])) _
    refine XS.aload X12.here hx rfl (hb hby at_98) rfl rfl ?_
    show Steps p.tables e below (T12.setTop (mkF m 100 #[.val (.int p1), .val (.int p2), .val (.int p3), .val (.int p4), .val (.int (p4 &&& (3 : Int32))), .val (.int (1 : Int32)), .val (.ref b5), .val (.ref t), .unset] [(.ref t)])) _
    refine X12.arraylength hx Ar_t.1 (State.isArrayOf_alike hZ.alike Ar_t.2.1) (g := (mkF m 100 #[.val (.int p1), .val (.int p2), .val (.int p3), .val (.int p4), .val (.int (p4 &&& (3 : Int32))), .val (.int (1 : Int32)), .val (.ref b5), .val (.ref t), .unset] [(.ref t)])) rfl rfl (hb hby at_100) _ ?_
    rw [len_of S_t N_t]
    show Steps p.tables e below (T12.setTop (mkF m 101 #[.val (.int p1), .val (.int p2), .val (.int p3), .val (.int p4), .val (.int (p4 &&& (3 : Int32))), .val (.int (1 : Int32)), .val (.ref b5), .val (.ref t), .unset] [(.int (256 : Int32))])) _
    refine XS.sipush X12.here hx rfl (hb hby at_101) ?_
    show Steps p.tables e below (T12.setTop (mkF m 104 #[.val (.int p1), .val (.int p2), .val (.int p3), .val (.int p4), .val (.int (p4 &&& (3 : Int32))), .val (.int (1 : Int32)), .val (.ref b5), .val (.ref t), .unset] [(.int (256 : Int32)), (.int (256 : Int32))])) _
    refine XS.icmpYes X12.here hx rfl (pc0 := 104) (pc' := 109) rfl (hb hby at_104) rfl (teq hx104).1 (by decide) (by decide) ?_
    show Steps p.tables e below (T12.setTop (mkF m 109 #[.val (.int p1), .val (.int p2), .val (.int p3), .val (.int p4), .val (.int (p4 &&& (3 : Int32))), .val (.int (1 : Int32)), .val (.ref b5), .val (.ref t), .unset] [])) _
    refine XS.iload X12.here hx rfl (hb hby at_109) rfl ?_
    show Steps p.tables e below (T12.setTop (mkF m 111 #[.val (.int p1), .val (.int p2), .val (.int p3), .val (.int p4), .val (.int (p4 &&& (3 : Int32))), .val (.int (1 : Int32)), .val (.ref b5), .val (.ref t), .unset] [(.int (p4 &&& (3 : Int32)))])) _
    refine XS.iconst X12.here hx rfl (hb hby at_111) ?_
    show Steps p.tables e below (T12.setTop (mkF m 112 #[.val (.int p1), .val (.int p2), .val (.int p3), .val (.int p4), .val (.int (p4 &&& (3 : Int32))), .val (.int (1 : Int32)), .val (.ref b5), .val (.ref t), .unset] [(.int (1 : Int32)), (.int (p4 &&& (3 : Int32)))])) _
    refine XS.icmpNo X12.here hx rfl (hb hby at_112) rfl (flt hc112).1 ?_
    show Steps p.tables e below (T12.setTop (mkF m 115 #[.val (.int p1), .val (.int p2), .val (.int p3), .val (.int p4), .val (.int (p4 &&& (3 : Int32))), .val (.int (1 : Int32)), .val (.ref b5), .val (.ref t), .unset] [])) _
    refine XS.aload X12.here hx rfl (hb hby at_115) rfl rfl ?_
    show Steps p.tables e below (T12.setTop (mkF m 117 #[.val (.int p1), .val (.int p2), .val (.int p3), .val (.int p4), .val (.int (p4 &&& (3 : Int32))), .val (.int (1 : Int32)), .val (.ref b5), .val (.ref t), .unset] [(.ref t)])) _
    refine XS.iconst X12.here hx rfl (hb hby at_117) ?_
    show Steps p.tables e below (T12.setTop (mkF m 118 #[.val (.int p1), .val (.int p2), .val (.int p3), .val (.int p4), .val (.int (p4 &&& (3 : Int32))), .val (.int (1 : Int32)), .val (.ref b5), .val (.ref t), .unset] [(.int (0 : Int32)), (.ref t)])) _
    refine X12.baloadBytes hx (j := (0 : Int32)) (v := (.int (own_b p1))) Ar_t.1 (State.isArrayOf_alike hZ.alike Ar_t.2.1) Ar_t.2.2 hin118 hat118 (g := (mkF m 118 #[.val (.int p1), .val (.int p2), .val (.int p3), .val (.int p4), .val (.int (p4 &&& (3 : Int32))), .val (.int (1 : Int32)), .val (.ref b5), .val (.ref t), .unset] [(.int (0 : Int32)), (.ref t)])) rfl rfl (hb hby at_118) _ ?_
    show Steps p.tables e below (T12.setTop (mkF m 119 #[.val (.int p1), .val (.int p2), .val (.int p3), .val (.int p4), .val (.int (p4 &&& (3 : Int32))), .val (.int (1 : Int32)), .val (.ref b5), .val (.ref t), .unset] [(.int (own_b p1))])) _
    refine XS.sipush X12.here hx rfl (hb hby at_119) ?_
    show Steps p.tables e below (T12.setTop (mkF m 122 #[.val (.int p1), .val (.int p2), .val (.int p3), .val (.int p4), .val (.int (p4 &&& (3 : Int32))), .val (.int (1 : Int32)), .val (.ref b5), .val (.ref t), .unset] [(.int (255 : Int32)), (.int (own_b p1))])) _
    refine XS.iand X12.here hx rfl (hb hby at_122) rfl ?_
    show Steps p.tables e below (T12.setTop (mkF m 123 #[.val (.int p1), .val (.int p2), .val (.int p3), .val (.int p4), .val (.int (p4 &&& (3 : Int32))), .val (.int (1 : Int32)), .val (.ref b5), .val (.ref t), .unset] [(.int ((own_b p1) &&& (255 : Int32)))])) _
    refine XS.iloadN X12.here hx rfl (hb hby at_123) rfl ?_
    show Steps p.tables e below (T12.setTop (mkF m 124 #[.val (.int p1), .val (.int p2), .val (.int p3), .val (.int p4), .val (.int (p4 &&& (3 : Int32))), .val (.int (1 : Int32)), .val (.ref b5), .val (.ref t), .unset] [(.int p1), (.int ((own_b p1) &&& (255 : Int32)))])) _
    refine XS.sipush X12.here hx rfl (hb hby at_124) ?_
    show Steps p.tables e below (T12.setTop (mkF m 127 #[.val (.int p1), .val (.int p2), .val (.int p3), .val (.int p4), .val (.int (p4 &&& (3 : Int32))), .val (.int (1 : Int32)), .val (.ref b5), .val (.ref t), .unset] [(.int (255 : Int32)), (.int p1), (.int ((own_b p1) &&& (255 : Int32)))])) _
    refine XS.iand X12.here hx rfl (hb hby at_127) rfl ?_
    show Steps p.tables e below (T12.setTop (mkF m 128 #[.val (.int p1), .val (.int p2), .val (.int p3), .val (.int p4), .val (.int (p4 &&& (3 : Int32))), .val (.int (1 : Int32)), .val (.ref b5), .val (.ref t), .unset] [(.int (p1 &&& (255 : Int32))), (.int ((own_b p1) &&& (255 : Int32)))])) _
    refine XS.icmpYes X12.here hx rfl (pc0 := 128) (pc' := 133) rfl (hb hby at_128) rfl (teq hc128).1 (by decide) (by decide) ?_
    show Steps p.tables e below (T12.setTop (mkF m 133 #[.val (.int p1), .val (.int p2), .val (.int p3), .val (.int p4), .val (.int (p4 &&& (3 : Int32))), .val (.int (1 : Int32)), .val (.ref b5), .val (.ref t), .unset] [])) _
    refine XS.iload X12.here hx rfl (hb hby at_133) rfl ?_
    show Steps p.tables e below (T12.setTop (mkF m 135 #[.val (.int p1), .val (.int p2), .val (.int p3), .val (.int p4), .val (.int (p4 &&& (3 : Int32))), .val (.int (1 : Int32)), .val (.ref b5), .val (.ref t), .unset] [(.int (p4 &&& (3 : Int32)))])) _
    refine XS.iconst X12.here hx rfl (hb hby at_135) ?_
    show Steps p.tables e below (T12.setTop (mkF m 136 #[.val (.int p1), .val (.int p2), .val (.int p3), .val (.int p4), .val (.int (p4 &&& (3 : Int32))), .val (.int (1 : Int32)), .val (.ref b5), .val (.ref t), .unset] [(.int (2 : Int32)), (.int (p4 &&& (3 : Int32)))])) _
    refine XS.icmpNo X12.here hx rfl (hb hby at_136) rfl (flt hc136).1 ?_
    show Steps p.tables e below (T12.setTop (mkF m 139 #[.val (.int p1), .val (.int p2), .val (.int p3), .val (.int p4), .val (.int (p4 &&& (3 : Int32))), .val (.int (1 : Int32)), .val (.ref b5), .val (.ref t), .unset] [])) _
    refine XS.aload X12.here hx rfl (hb hby at_139) rfl rfl ?_
    show Steps p.tables e below (T12.setTop (mkF m 141 #[.val (.int p1), .val (.int p2), .val (.int p3), .val (.int p4), .val (.int (p4 &&& (3 : Int32))), .val (.int (1 : Int32)), .val (.ref b5), .val (.ref t), .unset] [(.ref t)])) _
    refine XS.iconst X12.here hx rfl (hb hby at_141) ?_
    show Steps p.tables e below (T12.setTop (mkF m 142 #[.val (.int p1), .val (.int p2), .val (.int p3), .val (.int p4), .val (.int (p4 &&& (3 : Int32))), .val (.int (1 : Int32)), .val (.ref b5), .val (.ref t), .unset] [(.int (1 : Int32)), (.ref t)])) _
    refine X12.baloadBytes hx (j := (1 : Int32)) (v := (.int (own_b p2))) Ar_t.1 (State.isArrayOf_alike hZ.alike Ar_t.2.1) Ar_t.2.2 hin142 hat142 (g := (mkF m 142 #[.val (.int p1), .val (.int p2), .val (.int p3), .val (.int p4), .val (.int (p4 &&& (3 : Int32))), .val (.int (1 : Int32)), .val (.ref b5), .val (.ref t), .unset] [(.int (1 : Int32)), (.ref t)])) rfl rfl (hb hby at_142) _ ?_
    show Steps p.tables e below (T12.setTop (mkF m 143 #[.val (.int p1), .val (.int p2), .val (.int p3), .val (.int p4), .val (.int (p4 &&& (3 : Int32))), .val (.int (1 : Int32)), .val (.ref b5), .val (.ref t), .unset] [(.int (own_b p2))])) _
    refine XS.sipush X12.here hx rfl (hb hby at_143) ?_
    show Steps p.tables e below (T12.setTop (mkF m 146 #[.val (.int p1), .val (.int p2), .val (.int p3), .val (.int p4), .val (.int (p4 &&& (3 : Int32))), .val (.int (1 : Int32)), .val (.ref b5), .val (.ref t), .unset] [(.int (255 : Int32)), (.int (own_b p2))])) _
    refine XS.iand X12.here hx rfl (hb hby at_146) rfl ?_
    show Steps p.tables e below (T12.setTop (mkF m 147 #[.val (.int p1), .val (.int p2), .val (.int p3), .val (.int p4), .val (.int (p4 &&& (3 : Int32))), .val (.int (1 : Int32)), .val (.ref b5), .val (.ref t), .unset] [(.int ((own_b p2) &&& (255 : Int32)))])) _
    refine XS.iloadN X12.here hx rfl (hb hby at_147) rfl ?_
    show Steps p.tables e below (T12.setTop (mkF m 148 #[.val (.int p1), .val (.int p2), .val (.int p3), .val (.int p4), .val (.int (p4 &&& (3 : Int32))), .val (.int (1 : Int32)), .val (.ref b5), .val (.ref t), .unset] [(.int p2), (.int ((own_b p2) &&& (255 : Int32)))])) _
    refine XS.sipush X12.here hx rfl (hb hby at_148) ?_
    show Steps p.tables e below (T12.setTop (mkF m 151 #[.val (.int p1), .val (.int p2), .val (.int p3), .val (.int p4), .val (.int (p4 &&& (3 : Int32))), .val (.int (1 : Int32)), .val (.ref b5), .val (.ref t), .unset] [(.int (255 : Int32)), (.int p2), (.int ((own_b p2) &&& (255 : Int32)))])) _
    refine XS.iand X12.here hx rfl (hb hby at_151) rfl ?_
    show Steps p.tables e below (T12.setTop (mkF m 152 #[.val (.int p1), .val (.int p2), .val (.int p3), .val (.int p4), .val (.int (p4 &&& (3 : Int32))), .val (.int (1 : Int32)), .val (.ref b5), .val (.ref t), .unset] [(.int (p2 &&& (255 : Int32))), (.int ((own_b p2) &&& (255 : Int32)))])) _
    refine XS.icmpYes X12.here hx rfl (pc0 := 152) (pc' := 157) rfl (hb hby at_152) rfl (teq hc152).1 (by decide) (by decide) ?_
    show Steps p.tables e below (T12.setTop (mkF m 157 #[.val (.int p1), .val (.int p2), .val (.int p3), .val (.int p4), .val (.int (p4 &&& (3 : Int32))), .val (.int (1 : Int32)), .val (.ref b5), .val (.ref t), .unset] [])) _
    refine XS.iload X12.here hx rfl (hb hby at_157) rfl ?_
    show Steps p.tables e below (T12.setTop (mkF m 159 #[.val (.int p1), .val (.int p2), .val (.int p3), .val (.int p4), .val (.int (p4 &&& (3 : Int32))), .val (.int (1 : Int32)), .val (.ref b5), .val (.ref t), .unset] [(.int (p4 &&& (3 : Int32)))])) _
    refine XS.iconst X12.here hx rfl (hb hby at_159) ?_
    show Steps p.tables e below (T12.setTop (mkF m 160 #[.val (.int p1), .val (.int p2), .val (.int p3), .val (.int p4), .val (.int (p4 &&& (3 : Int32))), .val (.int (1 : Int32)), .val (.ref b5), .val (.ref t), .unset] [(.int (3 : Int32)), (.int (p4 &&& (3 : Int32)))])) _
    refine XS.icmpYes X12.here hx rfl (pc0 := 160) (pc' := 181) rfl (hb hby at_160) rfl (tlt hc160).1 (by decide) (by decide) ?_
    show Steps p.tables e below (T12.setTop (mkF m 181 #[.val (.int p1), .val (.int p2), .val (.int p3), .val (.int p4), .val (.int (p4 &&& (3 : Int32))), .val (.int (1 : Int32)), .val (.ref b5), .val (.ref t), .unset] [])) _
    refine XS.iload X12.here hx rfl (hb hby at_181) rfl ?_
    show Steps p.tables e below (T12.setTop (mkF m 183 #[.val (.int p1), .val (.int p2), .val (.int p3), .val (.int p4), .val (.int (p4 &&& (3 : Int32))), .val (.int (1 : Int32)), .val (.ref b5), .val (.ref t), .unset] [(.int (1 : Int32))])) _
    refine XS.ifNo X12.here hx rfl (hb hby at_183) rfl ((if0 _ _).trans (feq hc183).1) ?_
    show Steps p.tables e below (T12.setTop (mkF m 186 #[.val (.int p1), .val (.int p2), .val (.int p3), .val (.int p4), .val (.int (p4 &&& (3 : Int32))), .val (.int (1 : Int32)), .val (.ref b5), .val (.ref t), .unset] [])) _
    refine XS.iload X12.here hx rfl (hb hby at_186) rfl ?_
    show Steps p.tables e below (T12.setTop (mkF m 188 #[.val (.int p1), .val (.int p2), .val (.int p3), .val (.int p4), .val (.int (p4 &&& (3 : Int32))), .val (.int (1 : Int32)), .val (.ref b5), .val (.ref t), .unset] [(.int (p4 &&& (3 : Int32)))])) _
    refine XS.ifYes X12.here hx rfl (pc0 := 188) (pc' := 199) rfl (hb hby at_188) rfl ((if0 _ _).trans (feq hc188).2) (by decide) (by decide) ?_
    show Steps p.tables e below (T12.setTop (mkF m 199 #[.val (.int p1), .val (.int p2), .val (.int p3), .val (.int p4), .val (.int (p4 &&& (3 : Int32))), .val (.int (1 : Int32)), .val (.ref b5), .val (.ref t), .unset] [])) _
    refine XS.iconst X12.here hx rfl (hb hby at_199) ?_
    show Steps p.tables e below (T12.setTop (mkF m 200 #[.val (.int p1), .val (.int p2), .val (.int p3), .val (.int p4), .val (.int (p4 &&& (3 : Int32))), .val (.int (1 : Int32)), .val (.ref b5), .val (.ref t), .unset] [(.int (0 : Int32))])) _
    refine XS.istore X12.here hx rfl (hb hby at_200) rfl (l' := #[.val (.int p1), .val (.int p2), .val (.int p3), .val (.int p4), .val (.int (p4 &&& (3 : Int32))), .val (.int (1 : Int32)), .val (.ref b5), .val (.ref t), .val (.int (0 : Int32))]) rfl ?_
    show Steps p.tables e below (T12.setTop (mkF m 202 #[.val (.int p1), .val (.int p2), .val (.int p3), .val (.int p4), .val (.int (p4 &&& (3 : Int32))), .val (.int (1 : Int32)), .val (.ref b5), .val (.ref t), .val (.int (0 : Int32))] [])) _
    refine XS.aload X12.here hx rfl (hb hby at_202) rfl rfl ?_
    show Steps p.tables e below (T12.setTop (mkF m 204 #[.val (.int p1), .val (.int p2), .val (.int p3), .val (.int p4), .val (.int (p4 &&& (3 : Int32))), .val (.int (1 : Int32)), .val (.ref b5), .val (.ref t), .val (.int (0 : Int32))] [(.ref t)])) _
    refine XS.iload X12.here hx rfl (hb hby at_204) rfl ?_
    show Steps p.tables e below (T12.setTop (mkF m 206 #[.val (.int p1), .val (.int p2), .val (.int p3), .val (.int p4), .val (.int (p4 &&& (3 : Int32))), .val (.int (1 : Int32)), .val (.ref b5), .val (.ref t), .val (.int (0 : Int32))] [(.int (p4 &&& (3 : Int32))), (.ref t)])) _
    refine X12.baloadBytes hx (j := (p4 &&& (3 : Int32))) (v := (.int (0 : Int32))) Ar_t.1 (State.isArrayOf_alike hZ.alike Ar_t.2.1) Ar_t.2.2 hin206 hat206 (g := (mkF m 206 #[.val (.int p1), .val (.int p2), .val (.int p3), .val (.int p4), .val (.int (p4 &&& (3 : Int32))), .val (.int (1 : Int32)), .val (.ref b5), .val (.ref t), .val (.int (0 : Int32))] [(.int (p4 &&& (3 : Int32))), (.ref t)])) rfl rfl (hb hby at_206) _ ?_
    show Steps p.tables e below (T12.setTop (mkF m 207 #[.val (.int p1), .val (.int p2), .val (.int p3), .val (.int p4), .val (.int (p4 &&& (3 : Int32))), .val (.int (1 : Int32)), .val (.ref b5), .val (.ref t), .val (.int (0 : Int32))] [(.int (0 : Int32))])) _
    refine XS.sipush X12.here hx rfl (hb hby at_207) ?_
    show Steps p.tables e below (T12.setTop (mkF m 210 #[.val (.int p1), .val (.int p2), .val (.int p3), .val (.int p4), .val (.int (p4 &&& (3 : Int32))), .val (.int (1 : Int32)), .val (.ref b5), .val (.ref t), .val (.int (0 : Int32))] [(.int (255 : Int32)), (.int (0 : Int32))])) _
    refine XS.iand X12.here hx rfl (hb hby at_210) rfl ?_
    show Steps p.tables e below (T12.setTop (mkF m 211 #[.val (.int p1), .val (.int p2), .val (.int p3), .val (.int p4), .val (.int (p4 &&& (3 : Int32))), .val (.int (1 : Int32)), .val (.ref b5), .val (.ref t), .val (.int (0 : Int32))] [(.int ((0 : Int32) &&& (255 : Int32)))])) _
    refine XS.iload X12.here hx rfl (hb hby at_211) rfl ?_
    show Steps p.tables e below (T12.setTop (mkF m 213 #[.val (.int p1), .val (.int p2), .val (.int p3), .val (.int p4), .val (.int (p4 &&& (3 : Int32))), .val (.int (1 : Int32)), .val (.ref b5), .val (.ref t), .val (.int (0 : Int32))] [(.int (0 : Int32)), (.int ((0 : Int32) &&& (255 : Int32)))])) _
    refine XS.icmpNo X12.here hx rfl (hb hby at_213) rfl (teq hc213).2 ?_
    show Steps p.tables e below (T12.setTop (mkF m 216 #[.val (.int p1), .val (.int p2), .val (.int p3), .val (.int p4), .val (.int (p4 &&& (3 : Int32))), .val (.int (1 : Int32)), .val (.ref b5), .val (.ref t), .val (.int (0 : Int32))] [])) _
    refine XS.iconst X12.here hx rfl (hb hby at_216) ?_
    show Steps p.tables e below (T12.setTop (mkF m 217 #[.val (.int p1), .val (.int p2), .val (.int p3), .val (.int p4), .val (.int (p4 &&& (3 : Int32))), .val (.int (1 : Int32)), .val (.ref b5), .val (.ref t), .val (.int (0 : Int32))] [(.int (1 : Int32))])) _
    refine XS.goto X12.here hx rfl (pc0 := 217) (pc' := 221) rfl (hb hby at_217) (by decide) (by decide) ?_
    show Steps p.tables e below (T12.setTop (mkF m 221 #[.val (.int p1), .val (.int p2), .val (.int p3), .val (.int p4), .val (.int (p4 &&& (3 : Int32))), .val (.int (1 : Int32)), .val (.ref b5), .val (.ref t), .val (.int (0 : Int32))] [(.int (1 : Int32))])) _
    exact retN X12 hx (t := .boolean) Bd.returns (by simp) (hb hby at_221) hr
  · show Q0 Z p1 p2 p3 p4 h0 n0 _ T12.heap _
    exact ⟨rfl, N12⟩
set_option maxRecDepth 65536 in
set_option maxHeartbeats 40000000 in
theorem rm0_p3 (l : Launch) (Z : State) (a0 : Array Value) (hw : ∀ d ∈ tables_1, d.before a0 Z = true) (ws : List Jvm.Cond) (p1 : Int32) (p2 : Int32) (p3 : Int32) (p4 : Int32) (h0 : Heap) (n0 : Nat) (Z0 : n0 ≤ h0.size) (hn : (p4 &&& (3 : Int32)) = (3 : Int32)) (hc8 : ¬ ((p4 &&& (4 : Int32)) = (0 : Int32))) (hc29 : ¬ ((1 : Int32) = (0 : Int32))) (hc46 : ¬ ((p4 &&& (3 : Int32)) < (1 : Int32))) (hc58 : ¬ ((p4 &&& (3 : Int32)) < (2 : Int32))) (hc70 : ¬ ((p4 &&& (3 : Int32)) < (3 : Int32))) (hc112 : ¬ ((p4 &&& (3 : Int32)) < (1 : Int32))) (hc128 : ((own_b p1) &&& (255 : Int32)) = (p1 &&& (255 : Int32))) (hc136 : ¬ ((p4 &&& (3 : Int32)) < (2 : Int32))) (hc152 : ((own_b p2) &&& (255 : Int32)) = (p2 &&& (255 : Int32))) (hc160 : ¬ ((p4 &&& (3 : Int32)) < (3 : Int32))) (hc176 : ((own_b p3) &&& (255 : Int32)) = (p3 &&& (255 : Int32))) (hc183 : ¬ ((1 : Int32) = (0 : Int32))) (hc188 : ¬ ((p4 &&& (3 : Int32)) = (0 : Int32))) (hc213 : ((0 : Int32) &&& (255 : Int32)) = (0 : Int32)) (hx86 : ((((0 : Int32) + (1 : Int32)) + (1 : Int32)) + (1 : Int32)) = (p4 &&& (3 : Int32))) (hx104 : (256 : Int32) = (256 : Int32)) :
    MetFree l x (head1 (Jvm.Cond.code x code maxLocals ret :: ws) room_1) (fun a U => a = #[(.int p1), (.int p2), (.int p3), (.int p4)] ∧ Z.Warmed39 U.vm ∧ U.heap = h0) (fun _ _ _ _ _ => True) (fun _ U o U' => ∃ v L, o = .returned v ∧ Q0 Z p1 p2 p3 p4 h0 n0 v U'.heap L ∧ FrameEnd U o U' L room_1.cells room_1.slots) := by
  refine MetFree.of_bodySF (plainFor_of_name pn_0) hisR ?_
  intro p e s m args below meth c s₁ Bd hml0 hP hK
  obtain ⟨rfl, hZ, hh⟩ := hP
  have hx := Bd.exec
  have hby := Bd.bytes
  have hml : c.maxLocals = 9 := hml0
  have hown : s.vm.findClass "com/example/verdant_canopy/verdantcanopy/core/CanonicalBufferPutPinLaw" = some m.cls := findClass_of_methodNamed Bd.named
  have hnm := (name_of_methodNamed Bd.named Bd.method).1
  have X0 : Stand p l e room_1 s m #[(.int p1), (.int p2), (.int p3), (.int p4)] below meth c s₁ [] 0 0 := Stand.of_body Bd
  have e0 : s₁.heap = h0 := by rw [← hh, Bd.state]; rfl
  have N0 := Fr.nil n0
  have pre0 : ∀ t, Steps p.tables e below (s₁.setTop (mkF m 0 #[.val (.int p1), .val (.int p2), .val (.int p3), .val (.int p4), .unset, .unset, .unset, .unset, .unset] [])) t → Steps p.tables e below (s₁.setTop (entryFrame m #[(.int p1), (.int p2), (.int p3), (.int p4)] maxLocals)) t := fun t k => castTop (ef_0 m p1 p2 p3 p4) k
  obtain ⟨T5, h5, X5, e5, E5, A5, D5, -, st5⟩ := newO X0 hx hZ hown (hw _ (List.mem_of_getElem? (i := 0) rfl)) (hw _ (List.mem_of_getElem? (i := 1) rfl)) (hw _ (List.mem_of_getElem? (i := 2) rfl)) e0 (g := (mkF m 18 #[.val (.int p1), .val (.int p2), .val (.int p3), .val (.int p4), .val (.int (p4 &&& (3 : Int32))), .val (.int (1 : Int32)), .unset, .unset, .unset] [])) rfl (hb hby at_18) (by decide) (by decide)
  obtain ⟨b5, g5⟩ : ∃ z, z = h0.size := ⟨_, rfl⟩
  rw [← g5] at A5 D5 st5
  have F_bytes_b5 : Fld Z h5 b5 "com/example/verdant_canopy/verdantcanopy/core/CanonicalBuffer" "bytes" "[B" .null := D5 (Or.inl (hw _ (List.mem_of_getElem? (i := 11) rfl))) (ty := (.array .byte)) (by decide)
  have F_length_b5 : Fld Z h5 b5 "com/example/verdant_canopy/verdantcanopy/core/CanonicalBuffer" "length" "I" (.int (0 : Int32)) := D5 (Or.inl (hw _ (List.mem_of_getElem? (i := 18) rfl))) (ty := .int) (by decide)
  have E_b5 := A5
  have g_b5 : n0 ≤ b5 := Nat.le_trans Z0 (Nat.le_of_eq g5.symm)
  have sz_b5 : h0.size ≤ b5 := (Nat.le_trans (Keep.refl h0 []).1 (Nat.le_of_eq g5.symm))
  have K5 : Keep h0 h5 [] := (Keep.refl h0 []).ext E5
  obtain ⟨_, _, ⟨T6, L6, k6, n6⟩, -, X6, ⟨Lc6, hQ6, l6, y6, z6⟩, st6⟩ := X5.specialBack hx (y := (⟨"com/example/verdant_canopy/verdantcanopy/core/CanonicalBuffer", "<init>", "()V"⟩ : MethodName)) rfl hown (mvT hZ (hw _ (List.mem_of_getElem? (i := 3) rfl))) (mvT hZ (hw _ (List.mem_of_getElem? (i := 4) rfl))) (mvT hZ (hw _ (List.mem_of_getElem? (i := 5) rfl))) (by decide) (backOf (W := 1) (rm1 l Z a0 hw [] b5 .null h5 n0 (Nat.le_trans Z0 E5.1) E_b5 F_bytes_b5 g_b5 F_length_b5) hZ (hw _ (List.mem_of_getElem? (i := 5) rfl)) (hw _ (List.mem_of_getElem? (i := 2) rfl)) (by decide) (by decide)) (g := (mkF m 22 #[.val (.int p1), .val (.int p2), .val (.int p3), .val (.int p4), .val (.int (p4 &&& (3 : Int32))), .val (.int (1 : Int32)), .unset, .unset, .unset] [(.ref b5), (.ref b5)])) rfl (by rw [hml]; rfl) (Steps.refl _) (a := b5) (argsL := []) (rest := [(.ref b5)]) (lenOf pd_0_0 rfl) rfl (by show 2 * 0 + _ ≤ _; exact Nat.le_of_eq rfl) (hb hby at_22) (fun _ _ => ⟨rfl, e5, (by decide : 1 + 1 ≤ _), (by decide : 2 + 256 ≤ _)⟩)
  dsimp only [Pt.U, Pt.locs, Pt.cells, Pt.slots] at X6 l6 y6 z6 st6 hQ6
  subst l6 y6 z6
  obtain ⟨rfl, N6q, K6q, t, kc, gt, B6⟩ := hQ6
  have Z6 : n0 ≤ T6.heap.size := Nat.le_trans (Nat.le_trans Z0 E5.1) K6q.1
  have N6 := Fr.app N0 N6q
  obtain ⟨cq7, kq7, q7a, q7b, q7c⟩ := isOf hZ rfl B6.1
  obtain ⟨_, _, ⟨T7, L7, k7, n7⟩, -, X7, ⟨Lc7, hQ7, l7, y7, z7⟩, st7⟩ := X6.virtualBack hx (y := (⟨"com/example/verdant_canopy/verdantcanopy/core/CanonicalBuffer", "put", "(I)V"⟩ : MethodName)) (z := (⟨"com/example/verdant_canopy/verdantcanopy/core/CanonicalBuffer", "put", "(I)V"⟩ : MethodName)) hown (mvT hZ (hw _ (List.mem_of_getElem? (i := 12) rfl))) (mvT hZ (hw _ (List.mem_of_getElem? (i := 13) rfl))) (notFace_of_selects (args := #[]) (mvT hZ (hw _ (List.mem_of_getElem? (i := 15) rfl)))) (mvT hZ (hw _ (List.mem_of_getElem? (i := 15) rfl))) (mvT hZ (hw _ (List.mem_of_getElem? (i := 14) rfl))) (by decide) (backOf (W := 0) (rm3 l Z a0 hw [] b5 p3 t kc (0 : Int32) ([(.int (0 : Int32)), (.int (0 : Int32)), (.int (0 : Int32)), (.int (0 : Int32))] : List Value) 0 T6.heap n0 Z6 B6 g_b5 gt (by decide) (Nat.le_of_ble_eq_true rfl) ⟨by decide, by decide⟩) hZ (hw _ (List.mem_of_getElem? (i := 16) rfl)) (hw _ (List.mem_of_getElem? (i := 2) rfl)) (by decide) (by decide)) q7a q7c (g := (mkF m 35 #[.val (.int p1), .val (.int p2), .val (.int p3), .val (.int p4), .val (.int (p4 &&& (3 : Int32))), .val (.int (1 : Int32)), .val (.ref b5), .unset, .unset] [(.int p3), (.ref b5)])) rfl (by rw [hml]; rfl) (Steps.refl _) (argsL := [(.int p3)]) (rest := []) (lenOf pd_0_1 rfl) rfl (by show 2 * 0 + _ ≤ _; exact Nat.le_of_eq rfl) (hb hby at_35) (fun _ _ => ⟨rfl, rfl, (by decide : 1 + (1 + 0) ≤ _), (by decide : 2 + (256 + 0) ≤ _)⟩)
  dsimp only [Pt.U, Pt.locs, Pt.cells, Pt.slots] at X7 l7 y7 z7 st7 hQ7
  subst l7 y7 z7
  obtain ⟨rfl, N7q, K7q, B7⟩ := hQ7
  have Z7 : n0 ≤ T7.heap.size := Nat.le_trans Z6 K7q.1
  have N7 := Fr.app N6 N7q
  obtain ⟨cq8, kq8, q8a, q8b, q8c⟩ := isOf hZ rfl B7.1
  obtain ⟨_, _, ⟨T8, L8, k8, n8⟩, -, X8, ⟨Lc8, hQ8, l8, y8, z8⟩, st8⟩ := X7.virtualBack hx (y := (⟨"com/example/verdant_canopy/verdantcanopy/core/CanonicalBuffer", "clear", "()V"⟩ : MethodName)) (z := (⟨"com/example/verdant_canopy/verdantcanopy/core/CanonicalBuffer", "clear", "()V"⟩ : MethodName)) hown (mvT hZ (hw _ (List.mem_of_getElem? (i := 29) rfl))) (mvT hZ (hw _ (List.mem_of_getElem? (i := 30) rfl))) (notFace_of_selects (args := #[]) (mvT hZ (hw _ (List.mem_of_getElem? (i := 32) rfl)))) (mvT hZ (hw _ (List.mem_of_getElem? (i := 32) rfl))) (mvT hZ (hw _ (List.mem_of_getElem? (i := 31) rfl))) (by decide) (backOf (W := 0) (rm6 l Z a0 hw [] b5 t kc ((0 : Int32) + (1 : Int32)) (([(.int (0 : Int32)), (.int (0 : Int32)), (.int (0 : Int32)), (.int (0 : Int32))] : List Value).set 0 (.int (own_b p3))) T7.heap n0 Z7 B7 g_b5) hZ (hw _ (List.mem_of_getElem? (i := 33) rfl)) (hw _ (List.mem_of_getElem? (i := 2) rfl)) (by decide) (by decide)) q8a q8c (g := (mkF m 40 #[.val (.int p1), .val (.int p2), .val (.int p3), .val (.int p4), .val (.int (p4 &&& (3 : Int32))), .val (.int (1 : Int32)), .val (.ref b5), .unset, .unset] [(.ref b5)])) rfl (by rw [hml]; rfl) (Steps.refl _) (argsL := []) (rest := []) (lenOf pd_0_0 rfl) rfl (by show 2 * 0 + _ ≤ _; exact Nat.le_of_eq rfl) (hb hby at_40) (fun _ _ => ⟨rfl, rfl, (by decide : 1 + (1 + 0) ≤ _), (by decide : 2 + (256 + 0) ≤ _)⟩)
  dsimp only [Pt.U, Pt.locs, Pt.cells, Pt.slots] at X8 l8 y8 z8 st8 hQ8
  subst l8 y8 z8
  obtain ⟨rfl, N8q, K8q, B8⟩ := hQ8
  have Z8 : n0 ≤ T8.heap.size := Nat.le_trans Z7 K8q.1
  have N8 := Fr.app N7 N8q
  obtain ⟨cq9, kq9, q9a, q9b, q9c⟩ := isOf hZ rfl B8.1
  obtain ⟨_, _, ⟨T9, L9, k9, n9⟩, -, X9, ⟨Lc9, hQ9, l9, y9, z9⟩, st9⟩ := X8.virtualBack hx (y := (⟨"com/example/verdant_canopy/verdantcanopy/core/CanonicalBuffer", "put", "(I)V"⟩ : MethodName)) (z := (⟨"com/example/verdant_canopy/verdantcanopy/core/CanonicalBuffer", "put", "(I)V"⟩ : MethodName)) hown (mvT hZ (hw _ (List.mem_of_getElem? (i := 12) rfl))) (mvT hZ (hw _ (List.mem_of_getElem? (i := 13) rfl))) (notFace_of_selects (args := #[]) (mvT hZ (hw _ (List.mem_of_getElem? (i := 15) rfl)))) (mvT hZ (hw _ (List.mem_of_getElem? (i := 15) rfl))) (mvT hZ (hw _ (List.mem_of_getElem? (i := 14) rfl))) (by decide) (backOf (W := 0) (rm3 l Z a0 hw [] b5 p1 t kc (0 : Int32) (([(.int (0 : Int32)), (.int (0 : Int32)), (.int (0 : Int32)), (.int (0 : Int32))] : List Value).set 0 (.int (own_b p3))) 0 T8.heap n0 Z8 B8 g_b5 gt (by decide) (Nat.le_of_ble_eq_true rfl) ⟨by decide, by decide⟩) hZ (hw _ (List.mem_of_getElem? (i := 16) rfl)) (hw _ (List.mem_of_getElem? (i := 2) rfl)) (by decide) (by decide)) q9a q9c (g := (mkF m 52 #[.val (.int p1), .val (.int p2), .val (.int p3), .val (.int p4), .val (.int (p4 &&& (3 : Int32))), .val (.int (1 : Int32)), .val (.ref b5), .unset, .unset] [(.int p1), (.ref b5)])) rfl (by rw [hml]; rfl) (Steps.refl _) (argsL := [(.int p1)]) (rest := []) (lenOf pd_0_1 rfl) rfl (by show 2 * 0 + _ ≤ _; exact Nat.le_of_eq rfl) (hb hby at_52) (fun _ _ => ⟨rfl, rfl, (by decide : 1 + (1 + 0) ≤ _), (by decide : 2 + (256 + 0) ≤ _)⟩)
  dsimp only [Pt.U, Pt.locs, Pt.cells, Pt.slots] at X9 l9 y9 z9 st9 hQ9
  subst l9 y9 z9
  obtain ⟨rfl, N9q, K9q, B9⟩ := hQ9
  have Z9 : n0 ≤ T9.heap.size := Nat.le_trans Z8 K9q.1
  have N9 := Fr.app N8 N9q
  obtain ⟨cq10, kq10, q10a, q10b, q10c⟩ := isOf hZ rfl B9.1
  obtain ⟨_, _, ⟨T10, L10, k10, n10⟩, -, X10, ⟨Lc10, hQ10, l10, y10, z10⟩, st10⟩ := X9.virtualBack hx (y := (⟨"com/example/verdant_canopy/verdantcanopy/core/CanonicalBuffer", "put", "(I)V"⟩ : MethodName)) (z := (⟨"com/example/verdant_canopy/verdantcanopy/core/CanonicalBuffer", "put", "(I)V"⟩ : MethodName)) hown (mvT hZ (hw _ (List.mem_of_getElem? (i := 12) rfl))) (mvT hZ (hw _ (List.mem_of_getElem? (i := 13) rfl))) (notFace_of_selects (args := #[]) (mvT hZ (hw _ (List.mem_of_getElem? (i := 15) rfl)))) (mvT hZ (hw _ (List.mem_of_getElem? (i := 15) rfl))) (mvT hZ (hw _ (List.mem_of_getElem? (i := 14) rfl))) (by decide) (backOf (W := 0) (rm3 l Z a0 hw [] b5 p2 t kc ((0 : Int32) + (1 : Int32)) ((([(.int (0 : Int32)), (.int (0 : Int32)), (.int (0 : Int32)), (.int (0 : Int32))] : List Value).set 0 (.int (own_b p3))).set 0 (.int (own_b p1))) 1 T9.heap n0 Z9 B9 g_b5 gt (by decide) (Nat.le_of_ble_eq_true rfl) ⟨by decide, by decide⟩) hZ (hw _ (List.mem_of_getElem? (i := 16) rfl)) (hw _ (List.mem_of_getElem? (i := 2) rfl)) (by decide) (by decide)) q10a q10c (g := (mkF m 64 #[.val (.int p1), .val (.int p2), .val (.int p3), .val (.int p4), .val (.int (p4 &&& (3 : Int32))), .val (.int (1 : Int32)), .val (.ref b5), .unset, .unset] [(.int p2), (.ref b5)])) rfl (by rw [hml]; rfl) (Steps.refl _) (argsL := [(.int p2)]) (rest := []) (lenOf pd_0_1 rfl) rfl (by show 2 * 0 + _ ≤ _; exact Nat.le_of_eq rfl) (hb hby at_64) (fun _ _ => ⟨rfl, rfl, (by decide : 1 + (1 + 0) ≤ _), (by decide : 2 + (256 + 0) ≤ _)⟩)
  dsimp only [Pt.U, Pt.locs, Pt.cells, Pt.slots] at X10 l10 y10 z10 st10 hQ10
  subst l10 y10 z10
  obtain ⟨rfl, N10q, K10q, B10⟩ := hQ10
  have Z10 : n0 ≤ T10.heap.size := Nat.le_trans Z9 K10q.1
  have N10 := Fr.app N9 N10q
  obtain ⟨cq11, kq11, q11a, q11b, q11c⟩ := isOf hZ rfl B10.1
  obtain ⟨_, _, ⟨T11, L11, k11, n11⟩, -, X11, ⟨Lc11, hQ11, l11, y11, z11⟩, st11⟩ := X10.virtualBack hx (y := (⟨"com/example/verdant_canopy/verdantcanopy/core/CanonicalBuffer", "put", "(I)V"⟩ : MethodName)) (z := (⟨"com/example/verdant_canopy/verdantcanopy/core/CanonicalBuffer", "put", "(I)V"⟩ : MethodName)) hown (mvT hZ (hw _ (List.mem_of_getElem? (i := 12) rfl))) (mvT hZ (hw _ (List.mem_of_getElem? (i := 13) rfl))) (notFace_of_selects (args := #[]) (mvT hZ (hw _ (List.mem_of_getElem? (i := 15) rfl)))) (mvT hZ (hw _ (List.mem_of_getElem? (i := 15) rfl))) (mvT hZ (hw _ (List.mem_of_getElem? (i := 14) rfl))) (by decide) (backOf (W := 0) (rm3 l Z a0 hw [] b5 p3 t kc (((0 : Int32) + (1 : Int32)) + (1 : Int32)) (((([(.int (0 : Int32)), (.int (0 : Int32)), (.int (0 : Int32)), (.int (0 : Int32))] : List Value).set 0 (.int (own_b p3))).set 0 (.int (own_b p1))).set 1 (.int (own_b p2))) 2 T10.heap n0 Z10 B10 g_b5 gt (by decide) (Nat.le_of_ble_eq_true rfl) ⟨by decide, by decide⟩) hZ (hw _ (List.mem_of_getElem? (i := 16) rfl)) (hw _ (List.mem_of_getElem? (i := 2) rfl)) (by decide) (by decide)) q11a q11c (g := (mkF m 76 #[.val (.int p1), .val (.int p2), .val (.int p3), .val (.int p4), .val (.int (p4 &&& (3 : Int32))), .val (.int (1 : Int32)), .val (.ref b5), .unset, .unset] [(.int p3), (.ref b5)])) rfl (by rw [hml]; rfl) (Steps.refl _) (argsL := [(.int p3)]) (rest := []) (lenOf pd_0_1 rfl) rfl (by show 2 * 0 + _ ≤ _; exact Nat.le_of_eq rfl) (hb hby at_76) (fun _ _ => ⟨rfl, rfl, (by decide : 1 + (1 + 0) ≤ _), (by decide : 2 + (256 + 0) ≤ _)⟩)
  dsimp only [Pt.U, Pt.locs, Pt.cells, Pt.slots] at X11 l11 y11 z11 st11 hQ11
  subst l11 y11 z11
  obtain ⟨rfl, N11q, K11q, B11⟩ := hQ11
  have Z11 : n0 ≤ T11.heap.size := Nat.le_trans Z10 K11q.1
  have N11 := Fr.app N10 N11q
  obtain ⟨cq12, kq12, q12a, q12b, q12c⟩ := isOf hZ rfl B11.1
  obtain ⟨_, _, ⟨T12, L12, k12, n12⟩, -, X12, ⟨Lc12, hQ12, l12, y12, z12⟩, st12⟩ := X11.virtualBack hx (y := (⟨"com/example/verdant_canopy/verdantcanopy/core/CanonicalBuffer", "length", "()I"⟩ : MethodName)) (z := (⟨"com/example/verdant_canopy/verdantcanopy/core/CanonicalBuffer", "length", "()I"⟩ : MethodName)) hown (mvT hZ (hw _ (List.mem_of_getElem? (i := 19) rfl))) (mvT hZ (hw _ (List.mem_of_getElem? (i := 20) rfl))) (notFace_of_selects (args := #[]) (mvT hZ (hw _ (List.mem_of_getElem? (i := 22) rfl)))) (mvT hZ (hw _ (List.mem_of_getElem? (i := 22) rfl))) (mvT hZ (hw _ (List.mem_of_getElem? (i := 21) rfl))) (by decide) (backOf (W := 0) (rm4 l Z a0 hw [] b5 ((((0 : Int32) + (1 : Int32)) + (1 : Int32)) + (1 : Int32)) T11.heap n0 Z11 B11.2.2.1) hZ (hw _ (List.mem_of_getElem? (i := 23) rfl)) (hw _ (List.mem_of_getElem? (i := 2) rfl)) (by decide) (by decide)) q12a q12c (g := (mkF m 81 #[.val (.int p1), .val (.int p2), .val (.int p3), .val (.int p4), .val (.int (p4 &&& (3 : Int32))), .val (.int (1 : Int32)), .val (.ref b5), .unset, .unset] [(.ref b5)])) rfl (by rw [hml]; rfl) (Steps.refl _) (argsL := []) (rest := []) (lenOf pd_0_2 rfl) rfl (by show 2 * 0 + _ ≤ _; exact Nat.le_of_eq rfl) (hb hby at_81) (fun _ _ => ⟨rfl, rfl, (by decide : 1 + (1 + 0) ≤ _), (by decide : 2 + (256 + 0) ≤ _)⟩)
  dsimp only [Pt.U, Pt.locs, Pt.cells, Pt.slots] at X12 l12 y12 z12 st12 hQ12
  subst l12 y12 z12
  obtain ⟨rfl, N12q, e12q⟩ := hQ12
  have Z12 : n0 ≤ T12.heap.size := by rw [e12q]; exact Z11
  have B12 : own_B Z T12.heap b5 t kc ((((0 : Int32) + (1 : Int32)) + (1 : Int32)) + (1 : Int32)) ((((([(.int (0 : Int32)), (.int (0 : Int32)), (.int (0 : Int32)), (.int (0 : Int32))] : List Value).set 0 (.int (own_b p3))).set 0 (.int (own_b p1))).set 1 (.int (own_b p2))).set 2 (.int (own_b p3))) := by rw [e12q]; exact B11
  have N12 := Fr.app N11 N12q
  obtain ⟨cq13, kq13, q13a, q13b, q13c⟩ := isOf hZ rfl B12.1
  obtain ⟨_, _, ⟨T13, L13, k13, n13⟩, -, X13, ⟨Lc13, hQ13, l13, y13, z13⟩, st13⟩ := X12.virtualBack hx (y := (⟨"com/example/verdant_canopy/verdantcanopy/core/CanonicalBuffer", "bytes", "()[B"⟩ : MethodName)) (z := (⟨"com/example/verdant_canopy/verdantcanopy/core/CanonicalBuffer", "bytes", "()[B"⟩ : MethodName)) hown (mvT hZ (hw _ (List.mem_of_getElem? (i := 24) rfl))) (mvT hZ (hw _ (List.mem_of_getElem? (i := 25) rfl))) (notFace_of_selects (args := #[]) (mvT hZ (hw _ (List.mem_of_getElem? (i := 27) rfl)))) (mvT hZ (hw _ (List.mem_of_getElem? (i := 27) rfl))) (mvT hZ (hw _ (List.mem_of_getElem? (i := 26) rfl))) (by decide) (backOf (W := 0) (rm5 l Z a0 hw [] b5 t T12.heap n0 Z12 B12.2.1) hZ (hw _ (List.mem_of_getElem? (i := 28) rfl)) (hw _ (List.mem_of_getElem? (i := 2) rfl)) (by decide) (by decide)) q13a q13c (g := (mkF m 93 #[.val (.int p1), .val (.int p2), .val (.int p3), .val (.int p4), .val (.int (p4 &&& (3 : Int32))), .val (.int (1 : Int32)), .val (.ref b5), .unset, .unset] [(.ref b5)])) rfl (by rw [hml]; rfl) (Steps.refl _) (argsL := []) (rest := []) (lenOf pd_0_3 rfl) rfl (by show 2 * 0 + _ ≤ _; exact Nat.le_of_eq rfl) (hb hby at_93) (fun _ _ => ⟨rfl, rfl, (by decide : 1 + (1 + 0) ≤ _), (by decide : 2 + (256 + 0) ≤ _)⟩)
  dsimp only [Pt.U, Pt.locs, Pt.cells, Pt.slots] at X13 l13 y13 z13 st13 hQ13
  subst l13 y13 z13
  obtain ⟨rfl, N13q, e13q⟩ := hQ13
  have Z13 : n0 ≤ T13.heap.size := by rw [e13q]; exact Z12
  have B13 : own_B Z T13.heap b5 t kc ((((0 : Int32) + (1 : Int32)) + (1 : Int32)) + (1 : Int32)) ((((([(.int (0 : Int32)), (.int (0 : Int32)), (.int (0 : Int32)), (.int (0 : Int32))] : List Value).set 0 (.int (own_b p3))).set 0 (.int (own_b p1))).set 1 (.int (own_b p2))).set 2 (.int (own_b p3))) := by rw [e13q]; exact B12
  obtain ⟨cl_t, Ar_t, q_t, S_t, N_t, H_t, G_t⟩ := B13.2.2.2.1
  have hin118 : ¬ ((0 : Int32) < 0 ∨ cl_t.slots.size ≤ ((0 : Int32)).toNatClampNeg) := inb_of S_t ⟨by decide, by decide⟩
  have hat118 : cl_t.slots[((0 : Int32)).toNatClampNeg]? = some (.int (own_b p1)) := Has.at H_t hin118 rfl
  have hin142 : ¬ ((1 : Int32) < 0 ∨ cl_t.slots.size ≤ ((1 : Int32)).toNatClampNeg) := inb_of S_t ⟨by decide, by decide⟩
  have hat142 : cl_t.slots[((1 : Int32)).toNatClampNeg]? = some (.int (own_b p2)) := Has.at H_t hin142 rfl
  have hin166 : ¬ ((2 : Int32) < 0 ∨ cl_t.slots.size ≤ ((2 : Int32)).toNatClampNeg) := inb_of S_t ⟨by decide, by decide⟩
  have hat166 : cl_t.slots[((2 : Int32)).toNatClampNeg]? = some (.int (own_b p3)) := Has.at H_t hin166 rfl
  have hin206 : ¬ ((p4 &&& (3 : Int32)) < 0 ∨ cl_t.slots.size ≤ ((p4 &&& (3 : Int32))).toNatClampNeg) := inb_of S_t ⟨by rw [hn]; decide, by rw [hn]; decide⟩
  have hat206 : cl_t.slots[((p4 &&& (3 : Int32))).toNatClampNeg]? = some (.int (0 : Int32)) := Has.at H_t hin206 (by rw [hn]; rfl)
  have N13 := Fr.app N12 N13q
  obtain ⟨fs, hr, hrun, hended, hW, hsame⟩ := X13.leave (v := some (.int (1 : Int32))) (fun h => by rw [Bd.returns] at h; cases h)
  refine ⟨_, _, pre0 _ ?_, hrun, hended, _, _, rfl, ?_, ⟨_, rfl⟩, hW, hsame.mono (by decide) (by decide)⟩
  · show Steps p.tables e below (s₁.setTop (mkF m 0 #[.val (.int p1), .val (.int p2), .val (.int p3), .val (.int p4), .unset, .unset, .unset, .unset, .unset] [])) _
    refine XS.iloadN X0.here hx rfl (hb hby at_0) rfl ?_
    show Steps p.tables e below (s₁.setTop (mkF m 1 #[.val (.int p1), .val (.int p2), .val (.int p3), .val (.int p4), .unset, .unset, .unset, .unset, .unset] [(.int p4)])) _
    refine XS.iconst X0.here hx rfl (hb hby at_1) ?_
    show Steps p.tables e below (s₁.setTop (mkF m 2 #[.val (.int p1), .val (.int p2), .val (.int p3), .val (.int p4), .unset, .unset, .unset, .unset, .unset] [(.int (3 : Int32)), (.int p4)])) _
    refine XS.iand X0.here hx rfl (hb hby at_2) rfl ?_
    show Steps p.tables e below (s₁.setTop (mkF m 3 #[.val (.int p1), .val (.int p2), .val (.int p3), .val (.int p4), .unset, .unset, .unset, .unset, .unset] [(.int (p4 &&& (3 : Int32)))])) _
    refine XS.istore X0.here hx rfl (hb hby at_3) rfl (l' := #[.val (.int p1), .val (.int p2), .val (.int p3), .val (.int p4), .val (.int (p4 &&& (3 : Int32))), .unset, .unset, .unset, .unset]) rfl ?_
    show Steps p.tables e below (s₁.setTop (mkF m 5 #[.val (.int p1), .val (.int p2), .val (.int p3), .val (.int p4), .val (.int (p4 &&& (3 : Int32))), .unset, .unset, .unset, .unset] [])) _
    refine XS.iloadN X0.here hx rfl (hb hby at_5) rfl ?_
    show Steps p.tables e below (s₁.setTop (mkF m 6 #[.val (.int p1), .val (.int p2), .val (.int p3), .val (.int p4), .val (.int (p4 &&& (3 : Int32))), .unset, .unset, .unset, .unset] [(.int p4)])) _
    refine XS.iconst X0.here hx rfl (hb hby at_6) ?_
    show Steps p.tables e below (s₁.setTop (mkF m 7 #[.val (.int p1), .val (.int p2), .val (.int p3), .val (.int p4), .val (.int (p4 &&& (3 : Int32))), .unset, .unset, .unset, .unset] [(.int (4 : Int32)), (.int p4)])) _
    refine XS.iand X0.here hx rfl (hb hby at_7) rfl ?_
    show Steps p.tables e below (s₁.setTop (mkF m 8 #[.val (.int p1), .val (.int p2), .val (.int p3), .val (.int p4), .val (.int (p4 &&& (3 : Int32))), .unset, .unset, .unset, .unset] [(.int (p4 &&& (4 : Int32)))])) _
    refine XS.ifNo X0.here hx rfl (hb hby at_8) rfl ((if0 _ _).trans (feq hc8).1) ?_
    show Steps p.tables e below (s₁.setTop (mkF m 11 #[.val (.int p1), .val (.int p2), .val (.int p3), .val (.int p4), .val (.int (p4 &&& (3 : Int32))), .unset, .unset, .unset, .unset] [])) _
    refine XS.iconst X0.here hx rfl (hb hby at_11) ?_
    show Steps p.tables e below (s₁.setTop (mkF m 12 #[.val (.int p1), .val (.int p2), .val (.int p3), .val (.int p4), .val (.int (p4 &&& (3 : Int32))), .unset, .unset, .unset, .unset] [(.int (1 : Int32))])) _
    refine XS.goto X0.here hx rfl (pc0 := 12) (pc' := 16) rfl (hb hby at_12) (by decide) (by decide) ?_
    show Steps p.tables e below (s₁.setTop (mkF m 16 #[.val (.int p1), .val (.int p2), .val (.int p3), .val (.int p4), .val (.int (p4 &&& (3 : Int32))), .unset, .unset, .unset, .unset] [(.int (1 : Int32))])) _
    refine XS.istore X0.here hx rfl (hb hby at_16) rfl (l' := #[.val (.int p1), .val (.int p2), .val (.int p3), .val (.int p4), .val (.int (p4 &&& (3 : Int32))), .val (.int (1 : Int32)), .unset, .unset, .unset]) rfl ?_
    show Steps p.tables e below (s₁.setTop (mkF m 18 #[.val (.int p1), .val (.int p2), .val (.int p3), .val (.int p4), .val (.int (p4 &&& (3 : Int32))), .val (.int (1 : Int32)), .unset, .unset, .unset] [])) _
    refine st5 _ ?_
    show Steps p.tables e below (T5.setTop (mkF m 21 #[.val (.int p1), .val (.int p2), .val (.int p3), .val (.int p4), .val (.int (p4 &&& (3 : Int32))), .val (.int (1 : Int32)), .unset, .unset, .unset] [(.ref b5)])) _
    refine XS.dup X5.here hx rfl (hb hby at_21) rfl rfl ?_
    show Steps p.tables e below (T5.setTop (mkF m 22 #[.val (.int p1), .val (.int p2), .val (.int p3), .val (.int p4), .val (.int (p4 &&& (3 : Int32))), .val (.int (1 : Int32)), .unset, .unset, .unset] [(.ref b5), (.ref b5)])) _
    refine st6.trans ?_
    show Steps p.tables e below (T6.setTop (mkF m 25 #[.val (.int p1), .val (.int p2), .val (.int p3), .val (.int p4), .val (.int (p4 &&& (3 : Int32))), .val (.int (1 : Int32)), .unset, .unset, .unset] [(.ref b5)])) _
    refine XS.astore X6.here hx rfl (hb hby at_25) rfl rfl (l' := #[.val (.int p1), .val (.int p2), .val (.int p3), .val (.int p4), .val (.int (p4 &&& (3 : Int32))), .val (.int (1 : Int32)), .val (.ref b5), .unset, .unset]) rfl ?_
    show Steps p.tables e below (T6.setTop (mkF m 27 #[.val (.int p1), .val (.int p2), .val (.int p3), .val (.int p4), .val (.int (p4 &&& (3 : Int32))), .val (.int (1 : Int32)), .val (.ref b5), .unset, .unset] [])) _
    refine XS.iload X6.here hx rfl (hb hby at_27) rfl ?_
    show Steps p.tables e below (T6.setTop (mkF m 29 #[.val (.int p1), .val (.int p2), .val (.int p3), .val (.int p4), .val (.int (p4 &&& (3 : Int32))), .val (.int (1 : Int32)), .val (.ref b5), .unset, .unset] [(.int (1 : Int32))])) _
    refine XS.ifNo X6.here hx rfl (hb hby at_29) rfl ((if0 _ _).trans (feq hc29).1) ?_
    show Steps p.tables e below (T6.setTop (mkF m 32 #[.val (.int p1), .val (.int p2), .val (.int p3), .val (.int p4), .val (.int (p4 &&& (3 : Int32))), .val (.int (1 : Int32)), .val (.ref b5), .unset, .unset] [])) _
    refine XS.aload X6.here hx rfl (hb hby at_32) rfl rfl ?_
    show Steps p.tables e below (T6.setTop (mkF m 34 #[.val (.int p1), .val (.int p2), .val (.int p3), .val (.int p4), .val (.int (p4 &&& (3 : Int32))), .val (.int (1 : Int32)), .val (.ref b5), .unset, .unset] [(.ref b5)])) _
    refine XS.iloadN X6.here hx rfl (hb hby at_34) rfl ?_
    show Steps p.tables e below (T6.setTop (mkF m 35 #[.val (.int p1), .val (.int p2), .val (.int p3), .val (.int p4), .val (.int (p4 &&& (3 : Int32))), .val (.int (1 : Int32)), .val (.ref b5), .unset, .unset] [(.int p3), (.ref b5)])) _
    refine st7.trans ?_
    show Steps p.tables e below (T7.setTop (mkF m 38 #[.val (.int p1), .val (.int p2), .val (.int p3), .val (.int p4), .val (.int (p4 &&& (3 : Int32))), .val (.int (1 : Int32)), .val (.ref b5), .unset, .unset] [])) _
    refine XS.aload X7.here hx rfl (hb hby at_38) rfl rfl ?_
    show Steps p.tables e below (T7.setTop (mkF m 40 #[.val (.int p1), .val (.int p2), .val (.int p3), .val (.int p4), .val (.int (p4 &&& (3 : Int32))), .val (.int (1 : Int32)), .val (.ref b5), .unset, .unset] [(.ref b5)])) _
    refine st8.trans ?_
    show Steps p.tables e below (T8.setTop (mkF m 43 #[.val (.int p1), .val (.int p2), .val (.int p3), .val (.int p4), .val (.int (p4 &&& (3 : Int32))), .val (.int (1 : Int32)), .val (.ref b5), .unset, .unset] [])) _
    refine XS.iload X8.here hx rfl (hb hby at_43) rfl ?_
    show Steps p.tables e below (T8.setTop (mkF m 45 #[.val (.int p1), .val (.int p2), .val (.int p3), .val (.int p4), .val (.int (p4 &&& (3 : Int32))), .val (.int (1 : Int32)), .val (.ref b5), .unset, .unset] [(.int (p4 &&& (3 : Int32)))])) _
    refine XS.iconst X8.here hx rfl (hb hby at_45) ?_
    show Steps p.tables e below (T8.setTop (mkF m 46 #[.val (.int p1), .val (.int p2), .val (.int p3), .val (.int p4), .val (.int (p4 &&& (3 : Int32))), .val (.int (1 : Int32)), .val (.ref b5), .unset, .unset] [(.int (1 : Int32)), (.int (p4 &&& (3 : Int32)))])) _
    refine XS.icmpNo X8.here hx rfl (hb hby at_46) rfl (flt hc46).1 ?_
    show Steps p.tables e below (T8.setTop (mkF m 49 #[.val (.int p1), .val (.int p2), .val (.int p3), .val (.int p4), .val (.int (p4 &&& (3 : Int32))), .val (.int (1 : Int32)), .val (.ref b5), .unset, .unset] [])) _
    refine XS.aload X8.here hx rfl (hb hby at_49) rfl rfl ?_
    show Steps p.tables e below (T8.setTop (mkF m 51 #[.val (.int p1), .val (.int p2), .val (.int p3), .val (.int p4), .val (.int (p4 &&& (3 : Int32))), .val (.int (1 : Int32)), .val (.ref b5), .unset, .unset] [(.ref b5)])) _
    refine XS.iloadN X8.here hx rfl (hb hby at_51) rfl ?_
    show Steps p.tables e below (T8.setTop (mkF m 52 #[.val (.int p1), .val (.int p2), .val (.int p3), .val (.int p4), .val (.int (p4 &&& (3 : Int32))), .val (.int (1 : Int32)), .val (.ref b5), .unset, .unset] [(.int p1), (.ref b5)])) _
    refine st9.trans ?_
    show Steps p.tables e below (T9.setTop (mkF m 55 #[.val (.int p1), .val (.int p2), .val (.int p3), .val (.int p4), .val (.int (p4 &&& (3 : Int32))), .val (.int (1 : Int32)), .val (.ref b5), .unset, .unset] [])) _
    refine XS.iload X9.here hx rfl (hb hby at_55) rfl ?_
    show Steps p.tables e below (T9.setTop (mkF m 57 #[.val (.int p1), .val (.int p2), .val (.int p3), .val (.int p4), .val (.int (p4 &&& (3 : Int32))), .val (.int (1 : Int32)), .val (.ref b5), .unset, .unset] [(.int (p4 &&& (3 : Int32)))])) _
    refine XS.iconst X9.here hx rfl (hb hby at_57) ?_
    show Steps p.tables e below (T9.setTop (mkF m 58 #[.val (.int p1), .val (.int p2), .val (.int p3), .val (.int p4), .val (.int (p4 &&& (3 : Int32))), .val (.int (1 : Int32)), .val (.ref b5), .unset, .unset] [(.int (2 : Int32)), (.int (p4 &&& (3 : Int32)))])) _
    refine XS.icmpNo X9.here hx rfl (hb hby at_58) rfl (flt hc58).1 ?_
    show Steps p.tables e below (T9.setTop (mkF m 61 #[.val (.int p1), .val (.int p2), .val (.int p3), .val (.int p4), .val (.int (p4 &&& (3 : Int32))), .val (.int (1 : Int32)), .val (.ref b5), .unset, .unset] [])) _
    refine XS.aload X9.here hx rfl (hb hby at_61) rfl rfl ?_
    show Steps p.tables e below (T9.setTop (mkF m 63 #[.val (.int p1), .val (.int p2), .val (.int p3), .val (.int p4), .val (.int (p4 &&& (3 : Int32))), .val (.int (1 : Int32)), .val (.ref b5), .unset, .unset] [(.ref b5)])) _
    refine XS.iloadN X9.here hx rfl (hb hby at_63) rfl ?_
    show Steps p.tables e below (T9.setTop (mkF m 64 #[.val (.int p1), .val (.int p2), .val (.int p3), .val (.int p4), .val (.int (p4 &&& (3 : Int32))), .val (.int (1 : Int32)), .val (.ref b5), .unset, .unset] [(.int p2), (.ref b5)])) _
    refine st10.trans ?_
    show Steps p.tables e below (T10.setTop (mkF m 67 #[.val (.int p1), .val (.int p2), .val (.int p3), .val (.int p4), .val (.int (p4 &&& (3 : Int32))), .val (.int (1 : Int32)), .val (.ref b5), .unset, .unset] [])) _
    refine XS.iload X10.here hx rfl (hb hby at_67) rfl ?_
    show Steps p.tables e below (T10.setTop (mkF m 69 #[.val (.int p1), .val (.int p2), .val (.int p3), .val (.int p4), .val (.int (p4 &&& (3 : Int32))), .val (.int (1 : Int32)), .val (.ref b5), .unset, .unset] [(.int (p4 &&& (3 : Int32)))])) _
    refine XS.iconst X10.here hx rfl (hb hby at_69) ?_
    show Steps p.tables e below (T10.setTop (mkF m 70 #[.val (.int p1), .val (.int p2), .val (.int p3), .val (.int p4), .val (.int (p4 &&& (3 : Int32))), .val (.int (1 : Int32)), .val (.ref b5), .unset, .unset] [(.int (3 : Int32)), (.int (p4 &&& (3 : Int32)))])) _
    refine XS.icmpNo X10.here hx rfl (hb hby at_70) rfl (flt hc70).1 ?_
    show Steps p.tables e below (T10.setTop (mkF m 73 #[.val (.int p1), .val (.int p2), .val (.int p3), .val (.int p4), .val (.int (p4 &&& (3 : Int32))), .val (.int (1 : Int32)), .val (.ref b5), .unset, .unset] [])) _
    refine XS.aload X10.here hx rfl (hb hby at_73) rfl rfl ?_
    show Steps p.tables e below (T10.setTop (mkF m 75 #[.val (.int p1), .val (.int p2), .val (.int p3), .val (.int p4), .val (.int (p4 &&& (3 : Int32))), .val (.int (1 : Int32)), .val (.ref b5), .unset, .unset] [(.ref b5)])) _
    refine XS.iloadN X10.here hx rfl (hb hby at_75) rfl ?_
    show Steps p.tables e below (T10.setTop (mkF m 76 #[.val (.int p1), .val (.int p2), .val (.int p3), .val (.int p4), .val (.int (p4 &&& (3 : Int32))), .val (.int (1 : Int32)), .val (.ref b5), .unset, .unset] [(.int p3), (.ref b5)])) _
    refine st11.trans ?_
    show Steps p.tables e below (T11.setTop (mkF m 79 #[.val (.int p1), .val (.int p2), .val (.int p3), .val (.int p4), .val (.int (p4 &&& (3 : Int32))), .val (.int (1 : Int32)), .val (.ref b5), .unset, .unset] [])) _
    refine XS.aload X11.here hx rfl (hb hby at_79) rfl rfl ?_
    show Steps p.tables e below (T11.setTop (mkF m 81 #[.val (.int p1), .val (.int p2), .val (.int p3), .val (.int p4), .val (.int (p4 &&& (3 : Int32))), .val (.int (1 : Int32)), .val (.ref b5), .unset, .unset] [(.ref b5)])) _
    refine st12.trans ?_
    show Steps p.tables e below (T12.setTop (mkF m 84 #[.val (.int p1), .val (.int p2), .val (.int p3), .val (.int p4), .val (.int (p4 &&& (3 : Int32))), .val (.int (1 : Int32)), .val (.ref b5), .unset, .unset] [(.int ((((0 : Int32) + (1 : Int32)) + (1 : Int32)) + (1 : Int32)))])) _
    refine XS.iload X12.here hx rfl (hb hby at_84) rfl ?_
    show Steps p.tables e below (T12.setTop (mkF m 86 #[.val (.int p1), .val (.int p2), .val (.int p3), .val (.int p4), .val (.int (p4 &&& (3 : Int32))), .val (.int (1 : Int32)), .val (.ref b5), .unset, .unset] [(.int (p4 &&& (3 : Int32))), (.int ((((0 : Int32) + (1 : Int32)) + (1 : Int32)) + (1 : Int32)))])) _
    refine XS.icmpYes X12.here hx rfl (pc0 := 86) (pc' := 91) rfl (hb hby at_86) rfl (teq hx86).1 (by decide) (by decide) ?_
    show Steps p.tables e below (T12.setTop (mkF m 91 #[.val (.int p1), .val (.int p2), .val (.int p3), .val (.int p4), .val (.int (p4 &&& (3 : Int32))), .val (.int (1 : Int32)), .val (.ref b5), .unset, .unset] [])) _
    refine XS.aload X12.here hx rfl (hb hby at_91) rfl rfl ?_
    show Steps p.tables e below (T12.setTop (mkF m 93 #[.val (.int p1), .val (.int p2), .val (.int p3), .val (.int p4), .val (.int (p4 &&& (3 : Int32))), .val (.int (1 : Int32)), .val (.ref b5), .unset, .unset] [(.ref b5)])) _
    refine st13.trans ?_
    show Steps p.tables e below (T13.setTop (mkF m 96 #[.val (.int p1), .val (.int p2), .val (.int p3), .val (.int p4), .val (.int (p4 &&& (3 : Int32))), .val (.int (1 : Int32)), .val (.ref b5), .unset, .unset] [(.ref t)])) _
    refine XS.astore X13.here hx rfl (hb hby at_96) rfl rfl (l' := #[.val (.int p1), .val (.int p2), .val (.int p3), .val (.int p4), .val (.int (p4 &&& (3 : Int32))), .val (.int (1 : Int32)), .val (.ref b5), .val (.ref t), .unset]) rfl ?_
    show Steps p.tables e below (T13.setTop (mkF m 98 #[.val (.int p1), .val (.int p2), .val (.int p3), .val (.int p4), .val (.int (p4 &&& (3 : Int32))), .val (.int (1 : Int32)), .val (.ref b5), .val (.ref t), .unset] [])) _
    refine XS.aload X13.here hx rfl (hb hby at_98) rfl rfl ?_
    show Steps p.tables e below (T13.setTop (mkF m 100 #[.val (.int p1), .val (.int p2), .val (.int p3), .val (.int p4), .val (.int (p4 &&& (3 : Int32))), .val (.int (1 : Int32)), .val (.ref b5), .val (.ref t), .unset] [(.ref t)])) _
    refine X13.arraylength hx Ar_t.1 (State.isArrayOf_alike hZ.alike Ar_t.2.1) (g := (mkF m 100 #[.val (.int p1), .val (.int p2), .val (.int p3), .val (.int p4), .val (.int (p4 &&& (3 : Int32))), .val (.int (1 : Int32)), .val (.ref b5), .val (.ref t), .unset] [(.ref t)])) rfl rfl (hb hby at_100) _ ?_
    rw [len_of S_t N_t]
    show Steps p.tables e below (T13.setTop (mkF m 101 #[.val (.int p1), .val (.int p2), .val (.int p3), .val (.int p4), .val (.int (p4 &&& (3 : Int32))), .val (.int (1 : Int32)), .val (.ref b5), .val (.ref t), .unset] [(.int (256 : Int32))])) _
    refine XS.sipush X13.here hx rfl (hb hby at_101) ?_
    show Steps p.tables e below (T13.setTop (mkF m 104 #[.val (.int p1), .val (.int p2), .val (.int p3), .val (.int p4), .val (.int (p4 &&& (3 : Int32))), .val (.int (1 : Int32)), .val (.ref b5), .val (.ref t), .unset] [(.int (256 : Int32)), (.int (256 : Int32))])) _
    refine XS.icmpYes X13.here hx rfl (pc0 := 104) (pc' := 109) rfl (hb hby at_104) rfl (teq hx104).1 (by decide) (by decide) ?_
    show Steps p.tables e below (T13.setTop (mkF m 109 #[.val (.int p1), .val (.int p2), .val (.int p3), .val (.int p4), .val (.int (p4 &&& (3 : Int32))), .val (.int (1 : Int32)), .val (.ref b5), .val (.ref t), .unset] [])) _
    refine XS.iload X13.here hx rfl (hb hby at_109) rfl ?_
    show Steps p.tables e below (T13.setTop (mkF m 111 #[.val (.int p1), .val (.int p2), .val (.int p3), .val (.int p4), .val (.int (p4 &&& (3 : Int32))), .val (.int (1 : Int32)), .val (.ref b5), .val (.ref t), .unset] [(.int (p4 &&& (3 : Int32)))])) _
    refine XS.iconst X13.here hx rfl (hb hby at_111) ?_
    show Steps p.tables e below (T13.setTop (mkF m 112 #[.val (.int p1), .val (.int p2), .val (.int p3), .val (.int p4), .val (.int (p4 &&& (3 : Int32))), .val (.int (1 : Int32)), .val (.ref b5), .val (.ref t), .unset] [(.int (1 : Int32)), (.int (p4 &&& (3 : Int32)))])) _
    refine XS.icmpNo X13.here hx rfl (hb hby at_112) rfl (flt hc112).1 ?_
    show Steps p.tables e below (T13.setTop (mkF m 115 #[.val (.int p1), .val (.int p2), .val (.int p3), .val (.int p4), .val (.int (p4 &&& (3 : Int32))), .val (.int (1 : Int32)), .val (.ref b5), .val (.ref t), .unset] [])) _
    refine XS.aload X13.here hx rfl (hb hby at_115) rfl rfl ?_
    show Steps p.tables e below (T13.setTop (mkF m 117 #[.val (.int p1), .val (.int p2), .val (.int p3), .val (.int p4), .val (.int (p4 &&& (3 : Int32))), .val (.int (1 : Int32)), .val (.ref b5), .val (.ref t), .unset] [(.ref t)])) _
    refine XS.iconst X13.here hx rfl (hb hby at_117) ?_
    show Steps p.tables e below (T13.setTop (mkF m 118 #[.val (.int p1), .val (.int p2), .val (.int p3), .val (.int p4), .val (.int (p4 &&& (3 : Int32))), .val (.int (1 : Int32)), .val (.ref b5), .val (.ref t), .unset] [(.int (0 : Int32)), (.ref t)])) _
    refine X13.baloadBytes hx (j := (0 : Int32)) (v := (.int (own_b p1))) Ar_t.1 (State.isArrayOf_alike hZ.alike Ar_t.2.1) Ar_t.2.2 hin118 hat118 (g := (mkF m 118 #[.val (.int p1), .val (.int p2), .val (.int p3), .val (.int p4), .val (.int (p4 &&& (3 : Int32))), .val (.int (1 : Int32)), .val (.ref b5), .val (.ref t), .unset] [(.int (0 : Int32)), (.ref t)])) rfl rfl (hb hby at_118) _ ?_
    show Steps p.tables e below (T13.setTop (mkF m 119 #[.val (.int p1), .val (.int p2), .val (.int p3), .val (.int p4), .val (.int (p4 &&& (3 : Int32))), .val (.int (1 : Int32)), .val (.ref b5), .val (.ref t), .unset] [(.int (own_b p1))])) _
    refine XS.sipush X13.here hx rfl (hb hby at_119) ?_
    show Steps p.tables e below (T13.setTop (mkF m 122 #[.val (.int p1), .val (.int p2), .val (.int p3), .val (.int p4), .val (.int (p4 &&& (3 : Int32))), .val (.int (1 : Int32)), .val (.ref b5), .val (.ref t), .unset] [(.int (255 : Int32)), (.int (own_b p1))])) _
    refine XS.iand X13.here hx rfl (hb hby at_122) rfl ?_
    show Steps p.tables e below (T13.setTop (mkF m 123 #[.val (.int p1), .val (.int p2), .val (.int p3), .val (.int p4), .val (.int (p4 &&& (3 : Int32))), .val (.int (1 : Int32)), .val (.ref b5), .val (.ref t), .unset] [(.int ((own_b p1) &&& (255 : Int32)))])) _
    refine XS.iloadN X13.here hx rfl (hb hby at_123) rfl ?_
    show Steps p.tables e below (T13.setTop (mkF m 124 #[.val (.int p1), .val (.int p2), .val (.int p3), .val (.int p4), .val (.int (p4 &&& (3 : Int32))), .val (.int (1 : Int32)), .val (.ref b5), .val (.ref t), .unset] [(.int p1), (.int ((own_b p1) &&& (255 : Int32)))])) _
    refine XS.sipush X13.here hx rfl (hb hby at_124) ?_
    show Steps p.tables e below (T13.setTop (mkF m 127 #[.val (.int p1), .val (.int p2), .val (.int p3), .val (.int p4), .val (.int (p4 &&& (3 : Int32))), .val (.int (1 : Int32)), .val (.ref b5), .val (.ref t), .unset] [(.int (255 : Int32)), (.int p1), (.int ((own_b p1) &&& (255 : Int32)))])) _
    refine XS.iand X13.here hx rfl (hb hby at_127) rfl ?_
    show Steps p.tables e below (T13.setTop (mkF m 128 #[.val (.int p1), .val (.int p2), .val (.int p3), .val (.int p4), .val (.int (p4 &&& (3 : Int32))), .val (.int (1 : Int32)), .val (.ref b5), .val (.ref t), .unset] [(.int (p1 &&& (255 : Int32))), (.int ((own_b p1) &&& (255 : Int32)))])) _
    refine XS.icmpYes X13.here hx rfl (pc0 := 128) (pc' := 133) rfl (hb hby at_128) rfl (teq hc128).1 (by decide) (by decide) ?_
    show Steps p.tables e below (T13.setTop (mkF m 133 #[.val (.int p1), .val (.int p2), .val (.int p3), .val (.int p4), .val (.int (p4 &&& (3 : Int32))), .val (.int (1 : Int32)), .val (.ref b5), .val (.ref t), .unset] [])) _
    refine XS.iload X13.here hx rfl (hb hby at_133) rfl ?_
    show Steps p.tables e below (T13.setTop (mkF m 135 #[.val (.int p1), .val (.int p2), .val (.int p3), .val (.int p4), .val (.int (p4 &&& (3 : Int32))), .val (.int (1 : Int32)), .val (.ref b5), .val (.ref t), .unset] [(.int (p4 &&& (3 : Int32)))])) _
    refine XS.iconst X13.here hx rfl (hb hby at_135) ?_
    show Steps p.tables e below (T13.setTop (mkF m 136 #[.val (.int p1), .val (.int p2), .val (.int p3), .val (.int p4), .val (.int (p4 &&& (3 : Int32))), .val (.int (1 : Int32)), .val (.ref b5), .val (.ref t), .unset] [(.int (2 : Int32)), (.int (p4 &&& (3 : Int32)))])) _
    refine XS.icmpNo X13.here hx rfl (hb hby at_136) rfl (flt hc136).1 ?_
    show Steps p.tables e below (T13.setTop (mkF m 139 #[.val (.int p1), .val (.int p2), .val (.int p3), .val (.int p4), .val (.int (p4 &&& (3 : Int32))), .val (.int (1 : Int32)), .val (.ref b5), .val (.ref t), .unset] [])) _
    refine XS.aload X13.here hx rfl (hb hby at_139) rfl rfl ?_
    show Steps p.tables e below (T13.setTop (mkF m 141 #[.val (.int p1), .val (.int p2), .val (.int p3), .val (.int p4), .val (.int (p4 &&& (3 : Int32))), .val (.int (1 : Int32)), .val (.ref b5), .val (.ref t), .unset] [(.ref t)])) _
    refine XS.iconst X13.here hx rfl (hb hby at_141) ?_
    show Steps p.tables e below (T13.setTop (mkF m 142 #[.val (.int p1), .val (.int p2), .val (.int p3), .val (.int p4), .val (.int (p4 &&& (3 : Int32))), .val (.int (1 : Int32)), .val (.ref b5), .val (.ref t), .unset] [(.int (1 : Int32)), (.ref t)])) _
    refine X13.baloadBytes hx (j := (1 : Int32)) (v := (.int (own_b p2))) Ar_t.1 (State.isArrayOf_alike hZ.alike Ar_t.2.1) Ar_t.2.2 hin142 hat142 (g := (mkF m 142 #[.val (.int p1), .val (.int p2), .val (.int p3), .val (.int p4), .val (.int (p4 &&& (3 : Int32))), .val (.int (1 : Int32)), .val (.ref b5), .val (.ref t), .unset] [(.int (1 : Int32)), (.ref t)])) rfl rfl (hb hby at_142) _ ?_
    show Steps p.tables e below (T13.setTop (mkF m 143 #[.val (.int p1), .val (.int p2), .val (.int p3), .val (.int p4), .val (.int (p4 &&& (3 : Int32))), .val (.int (1 : Int32)), .val (.ref b5), .val (.ref t), .unset] [(.int (own_b p2))])) _
    refine XS.sipush X13.here hx rfl (hb hby at_143) ?_
    show Steps p.tables e below (T13.setTop (mkF m 146 #[.val (.int p1), .val (.int p2), .val (.int p3), .val (.int p4), .val (.int (p4 &&& (3 : Int32))), .val (.int (1 : Int32)), .val (.ref b5), .val (.ref t), .unset] [(.int (255 : Int32)), (.int (own_b p2))])) _
    refine XS.iand X13.here hx rfl (hb hby at_146) rfl ?_
    show Steps p.tables e below (T13.setTop (mkF m 147 #[.val (.int p1), .val (.int p2), .val (.int p3), .val (.int p4), .val (.int (p4 &&& (3 : Int32))), .val (.int (1 : Int32)), .val (.ref b5), .val (.ref t), .unset] [(.int ((own_b p2) &&& (255 : Int32)))])) _
    refine XS.iloadN X13.here hx rfl (hb hby at_147) rfl ?_
    show Steps p.tables e below (T13.setTop (mkF m 148 #[.val (.int p1), .val (.int p2), .val (.int p3), .val (.int p4), .val (.int (p4 &&& (3 : Int32))), .val (.int (1 : Int32)), .val (.ref b5), .val (.ref t), .unset] [(.int p2), (.int ((own_b p2) &&& (255 : Int32)))])) _
    refine XS.sipush X13.here hx rfl (hb hby at_148) ?_
    show Steps p.tables e below (T13.setTop (mkF m 151 #[.val (.int p1), .val (.int p2), .val (.int p3), .val (.int p4), .val (.int (p4 &&& (3 : Int32))), .val (.int (1 : Int32)), .val (.ref b5), .val (.ref t), .unset] [(.int (255 : Int32)), (.int p2), (.int ((own_b p2) &&& (255 : Int32)))])) _
    refine XS.iand X13.here hx rfl (hb hby at_151) rfl ?_
    show Steps p.tables e below (T13.setTop (mkF m 152 #[.val (.int p1), .val (.int p2), .val (.int p3), .val (.int p4), .val (.int (p4 &&& (3 : Int32))), .val (.int (1 : Int32)), .val (.ref b5), .val (.ref t), .unset] [(.int (p2 &&& (255 : Int32))), (.int ((own_b p2) &&& (255 : Int32)))])) _
    refine XS.icmpYes X13.here hx rfl (pc0 := 152) (pc' := 157) rfl (hb hby at_152) rfl (teq hc152).1 (by decide) (by decide) ?_
    show Steps p.tables e below (T13.setTop (mkF m 157 #[.val (.int p1), .val (.int p2), .val (.int p3), .val (.int p4), .val (.int (p4 &&& (3 : Int32))), .val (.int (1 : Int32)), .val (.ref b5), .val (.ref t), .unset] [])) _
    refine XS.iload X13.here hx rfl (hb hby at_157) rfl ?_
    show Steps p.tables e below (T13.setTop (mkF m 159 #[.val (.int p1), .val (.int p2), .val (.int p3), .val (.int p4), .val (.int (p4 &&& (3 : Int32))), .val (.int (1 : Int32)), .val (.ref b5), .val (.ref t), .unset] [(.int (p4 &&& (3 : Int32)))])) _
    refine XS.iconst X13.here hx rfl (hb hby at_159) ?_
    show Steps p.tables e below (T13.setTop (mkF m 160 #[.val (.int p1), .val (.int p2), .val (.int p3), .val (.int p4), .val (.int (p4 &&& (3 : Int32))), .val (.int (1 : Int32)), .val (.ref b5), .val (.ref t), .unset] [(.int (3 : Int32)), (.int (p4 &&& (3 : Int32)))])) _
    refine XS.icmpNo X13.here hx rfl (hb hby at_160) rfl (flt hc160).1 ?_
    show Steps p.tables e below (T13.setTop (mkF m 163 #[.val (.int p1), .val (.int p2), .val (.int p3), .val (.int p4), .val (.int (p4 &&& (3 : Int32))), .val (.int (1 : Int32)), .val (.ref b5), .val (.ref t), .unset] [])) _
    refine XS.aload X13.here hx rfl (hb hby at_163) rfl rfl ?_
    show Steps p.tables e below (T13.setTop (mkF m 165 #[.val (.int p1), .val (.int p2), .val (.int p3), .val (.int p4), .val (.int (p4 &&& (3 : Int32))), .val (.int (1 : Int32)), .val (.ref b5), .val (.ref t), .unset] [(.ref t)])) _
    refine XS.iconst X13.here hx rfl (hb hby at_165) ?_
    show Steps p.tables e below (T13.setTop (mkF m 166 #[.val (.int p1), .val (.int p2), .val (.int p3), .val (.int p4), .val (.int (p4 &&& (3 : Int32))), .val (.int (1 : Int32)), .val (.ref b5), .val (.ref t), .unset] [(.int (2 : Int32)), (.ref t)])) _
    refine X13.baloadBytes hx (j := (2 : Int32)) (v := (.int (own_b p3))) Ar_t.1 (State.isArrayOf_alike hZ.alike Ar_t.2.1) Ar_t.2.2 hin166 hat166 (g := (mkF m 166 #[.val (.int p1), .val (.int p2), .val (.int p3), .val (.int p4), .val (.int (p4 &&& (3 : Int32))), .val (.int (1 : Int32)), .val (.ref b5), .val (.ref t), .unset] [(.int (2 : Int32)), (.ref t)])) rfl rfl (hb hby at_166) _ ?_
    show Steps p.tables e below (T13.setTop (mkF m 167 #[.val (.int p1), .val (.int p2), .val (.int p3), .val (.int p4), .val (.int (p4 &&& (3 : Int32))), .val (.int (1 : Int32)), .val (.ref b5), .val (.ref t), .unset] [(.int (own_b p3))])) _
    refine XS.sipush X13.here hx rfl (hb hby at_167) ?_
    show Steps p.tables e below (T13.setTop (mkF m 170 #[.val (.int p1), .val (.int p2), .val (.int p3), .val (.int p4), .val (.int (p4 &&& (3 : Int32))), .val (.int (1 : Int32)), .val (.ref b5), .val (.ref t), .unset] [(.int (255 : Int32)), (.int (own_b p3))])) _
    refine XS.iand X13.here hx rfl (hb hby at_170) rfl ?_
    show Steps p.tables e below (T13.setTop (mkF m 171 #[.val (.int p1), .val (.int p2), .val (.int p3), .val (.int p4), .val (.int (p4 &&& (3 : Int32))), .val (.int (1 : Int32)), .val (.ref b5), .val (.ref t), .unset] [(.int ((own_b p3) &&& (255 : Int32)))])) _
    refine XS.iloadN X13.here hx rfl (hb hby at_171) rfl ?_
    show Steps p.tables e below (T13.setTop (mkF m 172 #[.val (.int p1), .val (.int p2), .val (.int p3), .val (.int p4), .val (.int (p4 &&& (3 : Int32))), .val (.int (1 : Int32)), .val (.ref b5), .val (.ref t), .unset] [(.int p3), (.int ((own_b p3) &&& (255 : Int32)))])) _
    refine XS.sipush X13.here hx rfl (hb hby at_172) ?_
    show Steps p.tables e below (T13.setTop (mkF m 175 #[.val (.int p1), .val (.int p2), .val (.int p3), .val (.int p4), .val (.int (p4 &&& (3 : Int32))), .val (.int (1 : Int32)), .val (.ref b5), .val (.ref t), .unset] [(.int (255 : Int32)), (.int p3), (.int ((own_b p3) &&& (255 : Int32)))])) _
    refine XS.iand X13.here hx rfl (hb hby at_175) rfl ?_
    show Steps p.tables e below (T13.setTop (mkF m 176 #[.val (.int p1), .val (.int p2), .val (.int p3), .val (.int p4), .val (.int (p4 &&& (3 : Int32))), .val (.int (1 : Int32)), .val (.ref b5), .val (.ref t), .unset] [(.int (p3 &&& (255 : Int32))), (.int ((own_b p3) &&& (255 : Int32)))])) _
    refine XS.icmpYes X13.here hx rfl (pc0 := 176) (pc' := 181) rfl (hb hby at_176) rfl (teq hc176).1 (by decide) (by decide) ?_
    show Steps p.tables e below (T13.setTop (mkF m 181 #[.val (.int p1), .val (.int p2), .val (.int p3), .val (.int p4), .val (.int (p4 &&& (3 : Int32))), .val (.int (1 : Int32)), .val (.ref b5), .val (.ref t), .unset] [])) _
    refine XS.iload X13.here hx rfl (hb hby at_181) rfl ?_
    show Steps p.tables e below (T13.setTop (mkF m 183 #[.val (.int p1), .val (.int p2), .val (.int p3), .val (.int p4), .val (.int (p4 &&& (3 : Int32))), .val (.int (1 : Int32)), .val (.ref b5), .val (.ref t), .unset] [(.int (1 : Int32))])) _
    refine XS.ifNo X13.here hx rfl (hb hby at_183) rfl ((if0 _ _).trans (feq hc183).1) ?_
    show Steps p.tables e below (T13.setTop (mkF m 186 #[.val (.int p1), .val (.int p2), .val (.int p3), .val (.int p4), .val (.int (p4 &&& (3 : Int32))), .val (.int (1 : Int32)), .val (.ref b5), .val (.ref t), .unset] [])) _
    refine XS.iload X13.here hx rfl (hb hby at_186) rfl ?_
    show Steps p.tables e below (T13.setTop (mkF m 188 #[.val (.int p1), .val (.int p2), .val (.int p3), .val (.int p4), .val (.int (p4 &&& (3 : Int32))), .val (.int (1 : Int32)), .val (.ref b5), .val (.ref t), .unset] [(.int (p4 &&& (3 : Int32)))])) _
    refine XS.ifYes X13.here hx rfl (pc0 := 188) (pc' := 199) rfl (hb hby at_188) rfl ((if0 _ _).trans (feq hc188).2) (by decide) (by decide) ?_
    show Steps p.tables e below (T13.setTop (mkF m 199 #[.val (.int p1), .val (.int p2), .val (.int p3), .val (.int p4), .val (.int (p4 &&& (3 : Int32))), .val (.int (1 : Int32)), .val (.ref b5), .val (.ref t), .unset] [])) _
    refine XS.iconst X13.here hx rfl (hb hby at_199) ?_
    show Steps p.tables e below (T13.setTop (mkF m 200 #[.val (.int p1), .val (.int p2), .val (.int p3), .val (.int p4), .val (.int (p4 &&& (3 : Int32))), .val (.int (1 : Int32)), .val (.ref b5), .val (.ref t), .unset] [(.int (0 : Int32))])) _
    refine XS.istore X13.here hx rfl (hb hby at_200) rfl (l' := #[.val (.int p1), .val (.int p2), .val (.int p3), .val (.int p4), .val (.int (p4 &&& (3 : Int32))), .val (.int (1 : Int32)), .val (.ref b5), .val (.ref t), .val (.int (0 : Int32))]) rfl ?_
    show Steps p.tables e below (T13.setTop (mkF m 202 #[.val (.int p1), .val (.int p2), .val (.int p3), .val (.int p4), .val (.int (p4 &&& (3 : Int32))), .val (.int (1 : Int32)), .val (.ref b5), .val (.ref t), .val (.int (0 : Int32))] [])) _
    refine XS.aload X13.here hx rfl (hb hby at_202) rfl rfl ?_
    show Steps p.tables e below (T13.setTop (mkF m 204 #[.val (.int p1), .val (.int p2), .val (.int p3), .val (.int p4), .val (.int (p4 &&& (3 : Int32))), .val (.int (1 : Int32)), .val (.ref b5), .val (.ref t), .val (.int (0 : Int32))] [(.ref t)])) _
    refine XS.iload X13.here hx rfl (hb hby at_204) rfl ?_
    show Steps p.tables e below (T13.setTop (mkF m 206 #[.val (.int p1), .val (.int p2), .val (.int p3), .val (.int p4), .val (.int (p4 &&& (3 : Int32))), .val (.int (1 : Int32)), .val (.ref b5), .val (.ref t), .val (.int (0 : Int32))] [(.int (p4 &&& (3 : Int32))), (.ref t)])) _
    refine X13.baloadBytes hx (j := (p4 &&& (3 : Int32))) (v := (.int (0 : Int32))) Ar_t.1 (State.isArrayOf_alike hZ.alike Ar_t.2.1) Ar_t.2.2 hin206 hat206 (g := (mkF m 206 #[.val (.int p1), .val (.int p2), .val (.int p3), .val (.int p4), .val (.int (p4 &&& (3 : Int32))), .val (.int (1 : Int32)), .val (.ref b5), .val (.ref t), .val (.int (0 : Int32))] [(.int (p4 &&& (3 : Int32))), (.ref t)])) rfl rfl (hb hby at_206) _ ?_
    show Steps p.tables e below (T13.setTop (mkF m 207 #[.val (.int p1), .val (.int p2), .val (.int p3), .val (.int p4), .val (.int (p4 &&& (3 : Int32))), .val (.int (1 : Int32)), .val (.ref b5), .val (.ref t), .val (.int (0 : Int32))] [(.int (0 : Int32))])) _
    refine XS.sipush X13.here hx rfl (hb hby at_207) ?_
    show Steps p.tables e below (T13.setTop (mkF m 210 #[.val (.int p1), .val (.int p2), .val (.int p3), .val (.int p4), .val (.int (p4 &&& (3 : Int32))), .val (.int (1 : Int32)), .val (.ref b5), .val (.ref t), .val (.int (0 : Int32))] [(.int (255 : Int32)), (.int (0 : Int32))])) _
    refine XS.iand X13.here hx rfl (hb hby at_210) rfl ?_
    show Steps p.tables e below (T13.setTop (mkF m 211 #[.val (.int p1), .val (.int p2), .val (.int p3), .val (.int p4), .val (.int (p4 &&& (3 : Int32))), .val (.int (1 : Int32)), .val (.ref b5), .val (.ref t), .val (.int (0 : Int32))] [(.int ((0 : Int32) &&& (255 : Int32)))])) _
    refine XS.iload X13.here hx rfl (hb hby at_211) rfl ?_
    show Steps p.tables e below (T13.setTop (mkF m 213 #[.val (.int p1), .val (.int p2), .val (.int p3), .val (.int p4), .val (.int (p4 &&& (3 : Int32))), .val (.int (1 : Int32)), .val (.ref b5), .val (.ref t), .val (.int (0 : Int32))] [(.int (0 : Int32)), (.int ((0 : Int32) &&& (255 : Int32)))])) _
    refine XS.icmpNo X13.here hx rfl (hb hby at_213) rfl (teq hc213).2 ?_
    show Steps p.tables e below (T13.setTop (mkF m 216 #[.val (.int p1), .val (.int p2), .val (.int p3), .val (.int p4), .val (.int (p4 &&& (3 : Int32))), .val (.int (1 : Int32)), .val (.ref b5), .val (.ref t), .val (.int (0 : Int32))] [])) _
    refine XS.iconst X13.here hx rfl (hb hby at_216) ?_
    show Steps p.tables e below (T13.setTop (mkF m 217 #[.val (.int p1), .val (.int p2), .val (.int p3), .val (.int p4), .val (.int (p4 &&& (3 : Int32))), .val (.int (1 : Int32)), .val (.ref b5), .val (.ref t), .val (.int (0 : Int32))] [(.int (1 : Int32))])) _
    refine XS.goto X13.here hx rfl (pc0 := 217) (pc' := 221) rfl (hb hby at_217) (by decide) (by decide) ?_
    show Steps p.tables e below (T13.setTop (mkF m 221 #[.val (.int p1), .val (.int p2), .val (.int p3), .val (.int p4), .val (.int (p4 &&& (3 : Int32))), .val (.int (1 : Int32)), .val (.ref b5), .val (.ref t), .val (.int (0 : Int32))] [(.int (1 : Int32))])) _
    exact retN X13 hx (t := .boolean) Bd.returns (by simp) (hb hby at_221) hr
  · show Q0 Z p1 p2 p3 p4 h0 n0 _ T13.heap _
    exact ⟨rfl, N13⟩
set_option maxRecDepth 65536 in
set_option maxHeartbeats 40000000 in
theorem rm0_o0 (l : Launch) (Z : State) (a0 : Array Value) (hw : ∀ d ∈ tables_1, d.before a0 Z = true) (ws : List Jvm.Cond) (p1 : Int32) (p2 : Int32) (p3 : Int32) (p4 : Int32) (h0 : Heap) (n0 : Nat) (Z0 : n0 ≤ h0.size) (hn : (p4 &&& (3 : Int32)) = (0 : Int32)) (hc8 : (p4 &&& (4 : Int32)) = (0 : Int32)) (hc46 : (p4 &&& (3 : Int32)) < (1 : Int32)) (hc58 : (p4 &&& (3 : Int32)) < (2 : Int32)) (hc70 : (p4 &&& (3 : Int32)) < (3 : Int32)) (hc112 : (p4 &&& (3 : Int32)) < (1 : Int32)) (hc136 : (p4 &&& (3 : Int32)) < (2 : Int32)) (hc160 : (p4 &&& (3 : Int32)) < (3 : Int32)) (hc213 : ((0 : Int32) &&& (255 : Int32)) = (0 : Int32)) (hx86 : (0 : Int32) = (p4 &&& (3 : Int32))) (hx104 : (256 : Int32) = (256 : Int32)) :
    MetFree l x (head1 (Jvm.Cond.code x code maxLocals ret :: ws) room_1) (fun a U => a = #[(.int p1), (.int p2), (.int p3), (.int p4)] ∧ Z.Warmed39 U.vm ∧ U.heap = h0) (fun _ _ _ _ _ => True) (fun _ U o U' => ∃ v L, o = .returned v ∧ Q0 Z p1 p2 p3 p4 h0 n0 v U'.heap L ∧ FrameEnd U o U' L room_1.cells room_1.slots) := by
  refine MetFree.of_bodySF (plainFor_of_name pn_0) hisR ?_
  intro p e s m args below meth c s₁ Bd hml0 hP hK
  obtain ⟨rfl, hZ, hh⟩ := hP
  have hx := Bd.exec
  have hby := Bd.bytes
  have hml : c.maxLocals = 9 := hml0
  have hown : s.vm.findClass "com/example/verdant_canopy/verdantcanopy/core/CanonicalBufferPutPinLaw" = some m.cls := findClass_of_methodNamed Bd.named
  have hnm := (name_of_methodNamed Bd.named Bd.method).1
  have X0 : Stand p l e room_1 s m #[(.int p1), (.int p2), (.int p3), (.int p4)] below meth c s₁ [] 0 0 := Stand.of_body Bd
  have e0 : s₁.heap = h0 := by rw [← hh, Bd.state]; rfl
  have N0 := Fr.nil n0
  have pre0 : ∀ t, Steps p.tables e below (s₁.setTop (mkF m 0 #[.val (.int p1), .val (.int p2), .val (.int p3), .val (.int p4), .unset, .unset, .unset, .unset, .unset] [])) t → Steps p.tables e below (s₁.setTop (entryFrame m #[(.int p1), (.int p2), (.int p3), (.int p4)] maxLocals)) t := fun t k => castTop (ef_0 m p1 p2 p3 p4) k
  obtain ⟨T5, h5, X5, e5, E5, A5, D5, -, st5⟩ := newO X0 hx hZ hown (hw _ (List.mem_of_getElem? (i := 0) rfl)) (hw _ (List.mem_of_getElem? (i := 1) rfl)) (hw _ (List.mem_of_getElem? (i := 2) rfl)) e0 (g := (mkF m 18 #[.val (.int p1), .val (.int p2), .val (.int p3), .val (.int p4), .val (.int (p4 &&& (3 : Int32))), .val (.int (0 : Int32)), .unset, .unset, .unset] [])) rfl (hb hby at_18) (by decide) (by decide)
  obtain ⟨b5, g5⟩ : ∃ z, z = h0.size := ⟨_, rfl⟩
  rw [← g5] at A5 D5 st5
  have F_bytes_b5 : Fld Z h5 b5 "com/example/verdant_canopy/verdantcanopy/core/CanonicalBuffer" "bytes" "[B" .null := D5 (Or.inl (hw _ (List.mem_of_getElem? (i := 11) rfl))) (ty := (.array .byte)) (by decide)
  have F_length_b5 : Fld Z h5 b5 "com/example/verdant_canopy/verdantcanopy/core/CanonicalBuffer" "length" "I" (.int (0 : Int32)) := D5 (Or.inl (hw _ (List.mem_of_getElem? (i := 18) rfl))) (ty := .int) (by decide)
  have E_b5 := A5
  have g_b5 : n0 ≤ b5 := Nat.le_trans Z0 (Nat.le_of_eq g5.symm)
  have sz_b5 : h0.size ≤ b5 := (Nat.le_trans (Keep.refl h0 []).1 (Nat.le_of_eq g5.symm))
  have K5 : Keep h0 h5 [] := (Keep.refl h0 []).ext E5
  obtain ⟨_, _, ⟨T6, L6, k6, n6⟩, -, X6, ⟨Lc6, hQ6, l6, y6, z6⟩, st6⟩ := X5.specialBack hx (y := (⟨"com/example/verdant_canopy/verdantcanopy/core/CanonicalBuffer", "<init>", "()V"⟩ : MethodName)) rfl hown (mvT hZ (hw _ (List.mem_of_getElem? (i := 3) rfl))) (mvT hZ (hw _ (List.mem_of_getElem? (i := 4) rfl))) (mvT hZ (hw _ (List.mem_of_getElem? (i := 5) rfl))) (by decide) (backOf (W := 1) (rm1 l Z a0 hw [] b5 .null h5 n0 (Nat.le_trans Z0 E5.1) E_b5 F_bytes_b5 g_b5 F_length_b5) hZ (hw _ (List.mem_of_getElem? (i := 5) rfl)) (hw _ (List.mem_of_getElem? (i := 2) rfl)) (by decide) (by decide)) (g := (mkF m 22 #[.val (.int p1), .val (.int p2), .val (.int p3), .val (.int p4), .val (.int (p4 &&& (3 : Int32))), .val (.int (0 : Int32)), .unset, .unset, .unset] [(.ref b5), (.ref b5)])) rfl (by rw [hml]; rfl) (Steps.refl _) (a := b5) (argsL := []) (rest := [(.ref b5)]) (lenOf pd_0_0 rfl) rfl (by show 2 * 0 + _ ≤ _; exact Nat.le_of_eq rfl) (hb hby at_22) (fun _ _ => ⟨rfl, e5, (by decide : 1 + 1 ≤ _), (by decide : 2 + 256 ≤ _)⟩)
  dsimp only [Pt.U, Pt.locs, Pt.cells, Pt.slots] at X6 l6 y6 z6 st6 hQ6
  subst l6 y6 z6
  obtain ⟨rfl, N6q, K6q, t, kc, gt, B6⟩ := hQ6
  have Z6 : n0 ≤ T6.heap.size := Nat.le_trans (Nat.le_trans Z0 E5.1) K6q.1
  have N6 := Fr.app N0 N6q
  obtain ⟨cq7, kq7, q7a, q7b, q7c⟩ := isOf hZ rfl B6.1
  obtain ⟨_, _, ⟨T7, L7, k7, n7⟩, -, X7, ⟨Lc7, hQ7, l7, y7, z7⟩, st7⟩ := X6.virtualBack hx (y := (⟨"com/example/verdant_canopy/verdantcanopy/core/CanonicalBuffer", "length", "()I"⟩ : MethodName)) (z := (⟨"com/example/verdant_canopy/verdantcanopy/core/CanonicalBuffer", "length", "()I"⟩ : MethodName)) hown (mvT hZ (hw _ (List.mem_of_getElem? (i := 19) rfl))) (mvT hZ (hw _ (List.mem_of_getElem? (i := 20) rfl))) (notFace_of_selects (args := #[]) (mvT hZ (hw _ (List.mem_of_getElem? (i := 22) rfl)))) (mvT hZ (hw _ (List.mem_of_getElem? (i := 22) rfl))) (mvT hZ (hw _ (List.mem_of_getElem? (i := 21) rfl))) (by decide) (backOf (W := 0) (rm4 l Z a0 hw [] b5 (0 : Int32) T6.heap n0 Z6 B6.2.2.1) hZ (hw _ (List.mem_of_getElem? (i := 23) rfl)) (hw _ (List.mem_of_getElem? (i := 2) rfl)) (by decide) (by decide)) q7a q7c (g := (mkF m 81 #[.val (.int p1), .val (.int p2), .val (.int p3), .val (.int p4), .val (.int (p4 &&& (3 : Int32))), .val (.int (0 : Int32)), .val (.ref b5), .unset, .unset] [(.ref b5)])) rfl (by rw [hml]; rfl) (Steps.refl _) (argsL := []) (rest := []) (lenOf pd_0_2 rfl) rfl (by show 2 * 0 + _ ≤ _; exact Nat.le_of_eq rfl) (hb hby at_81) (fun _ _ => ⟨rfl, rfl, (by decide : 1 + (1 + 0) ≤ _), (by decide : 2 + (256 + 0) ≤ _)⟩)
  dsimp only [Pt.U, Pt.locs, Pt.cells, Pt.slots] at X7 l7 y7 z7 st7 hQ7
  subst l7 y7 z7
  obtain ⟨rfl, N7q, e7q⟩ := hQ7
  have Z7 : n0 ≤ T7.heap.size := by rw [e7q]; exact Z6
  have B7 : own_B Z T7.heap b5 t kc (0 : Int32) ([(.int (0 : Int32)), (.int (0 : Int32)), (.int (0 : Int32)), (.int (0 : Int32))] : List Value) := by rw [e7q]; exact B6
  have N7 := Fr.app N6 N7q
  obtain ⟨cq8, kq8, q8a, q8b, q8c⟩ := isOf hZ rfl B7.1
  obtain ⟨_, _, ⟨T8, L8, k8, n8⟩, -, X8, ⟨Lc8, hQ8, l8, y8, z8⟩, st8⟩ := X7.virtualBack hx (y := (⟨"com/example/verdant_canopy/verdantcanopy/core/CanonicalBuffer", "bytes", "()[B"⟩ : MethodName)) (z := (⟨"com/example/verdant_canopy/verdantcanopy/core/CanonicalBuffer", "bytes", "()[B"⟩ : MethodName)) hown (mvT hZ (hw _ (List.mem_of_getElem? (i := 24) rfl))) (mvT hZ (hw _ (List.mem_of_getElem? (i := 25) rfl))) (notFace_of_selects (args := #[]) (mvT hZ (hw _ (List.mem_of_getElem? (i := 27) rfl)))) (mvT hZ (hw _ (List.mem_of_getElem? (i := 27) rfl))) (mvT hZ (hw _ (List.mem_of_getElem? (i := 26) rfl))) (by decide) (backOf (W := 0) (rm5 l Z a0 hw [] b5 t T7.heap n0 Z7 B7.2.1) hZ (hw _ (List.mem_of_getElem? (i := 28) rfl)) (hw _ (List.mem_of_getElem? (i := 2) rfl)) (by decide) (by decide)) q8a q8c (g := (mkF m 93 #[.val (.int p1), .val (.int p2), .val (.int p3), .val (.int p4), .val (.int (p4 &&& (3 : Int32))), .val (.int (0 : Int32)), .val (.ref b5), .unset, .unset] [(.ref b5)])) rfl (by rw [hml]; rfl) (Steps.refl _) (argsL := []) (rest := []) (lenOf pd_0_3 rfl) rfl (by show 2 * 0 + _ ≤ _; exact Nat.le_of_eq rfl) (hb hby at_93) (fun _ _ => ⟨rfl, rfl, (by decide : 1 + (1 + 0) ≤ _), (by decide : 2 + (256 + 0) ≤ _)⟩)
  dsimp only [Pt.U, Pt.locs, Pt.cells, Pt.slots] at X8 l8 y8 z8 st8 hQ8
  subst l8 y8 z8
  obtain ⟨rfl, N8q, e8q⟩ := hQ8
  have Z8 : n0 ≤ T8.heap.size := by rw [e8q]; exact Z7
  have B8 : own_B Z T8.heap b5 t kc (0 : Int32) ([(.int (0 : Int32)), (.int (0 : Int32)), (.int (0 : Int32)), (.int (0 : Int32))] : List Value) := by rw [e8q]; exact B7
  obtain ⟨cl_t, Ar_t, q_t, S_t, N_t, H_t, G_t⟩ := B8.2.2.2.1
  have hin206 : ¬ ((p4 &&& (3 : Int32)) < 0 ∨ cl_t.slots.size ≤ ((p4 &&& (3 : Int32))).toNatClampNeg) := inb_of S_t ⟨by rw [hn]; decide, by rw [hn]; decide⟩
  have hat206 : cl_t.slots[((p4 &&& (3 : Int32))).toNatClampNeg]? = some (.int (0 : Int32)) := Has.at H_t hin206 (by rw [hn]; rfl)
  have N8 := Fr.app N7 N8q
  obtain ⟨fs, hr, hrun, hended, hW, hsame⟩ := X8.leave (v := some (.int (1 : Int32))) (fun h => by rw [Bd.returns] at h; cases h)
  refine ⟨_, _, pre0 _ ?_, hrun, hended, _, _, rfl, ?_, ⟨_, rfl⟩, hW, hsame.mono (by decide) (by decide)⟩
  · show Steps p.tables e below (s₁.setTop (mkF m 0 #[.val (.int p1), .val (.int p2), .val (.int p3), .val (.int p4), .unset, .unset, .unset, .unset, .unset] [])) _
    refine XS.iloadN X0.here hx rfl (hb hby at_0) rfl ?_
    show Steps p.tables e below (s₁.setTop (mkF m 1 #[.val (.int p1), .val (.int p2), .val (.int p3), .val (.int p4), .unset, .unset, .unset, .unset, .unset] [(.int p4)])) _
    refine XS.iconst X0.here hx rfl (hb hby at_1) ?_
    show Steps p.tables e below (s₁.setTop (mkF m 2 #[.val (.int p1), .val (.int p2), .val (.int p3), .val (.int p4), .unset, .unset, .unset, .unset, .unset] [(.int (3 : Int32)), (.int p4)])) _
    refine XS.iand X0.here hx rfl (hb hby at_2) rfl ?_
    show Steps p.tables e below (s₁.setTop (mkF m 3 #[.val (.int p1), .val (.int p2), .val (.int p3), .val (.int p4), .unset, .unset, .unset, .unset, .unset] [(.int (p4 &&& (3 : Int32)))])) _
    refine XS.istore X0.here hx rfl (hb hby at_3) rfl (l' := #[.val (.int p1), .val (.int p2), .val (.int p3), .val (.int p4), .val (.int (p4 &&& (3 : Int32))), .unset, .unset, .unset, .unset]) rfl ?_
    show Steps p.tables e below (s₁.setTop (mkF m 5 #[.val (.int p1), .val (.int p2), .val (.int p3), .val (.int p4), .val (.int (p4 &&& (3 : Int32))), .unset, .unset, .unset, .unset] [])) _
    refine XS.iloadN X0.here hx rfl (hb hby at_5) rfl ?_
    show Steps p.tables e below (s₁.setTop (mkF m 6 #[.val (.int p1), .val (.int p2), .val (.int p3), .val (.int p4), .val (.int (p4 &&& (3 : Int32))), .unset, .unset, .unset, .unset] [(.int p4)])) _
    refine XS.iconst X0.here hx rfl (hb hby at_6) ?_
    show Steps p.tables e below (s₁.setTop (mkF m 7 #[.val (.int p1), .val (.int p2), .val (.int p3), .val (.int p4), .val (.int (p4 &&& (3 : Int32))), .unset, .unset, .unset, .unset] [(.int (4 : Int32)), (.int p4)])) _
    refine XS.iand X0.here hx rfl (hb hby at_7) rfl ?_
    show Steps p.tables e below (s₁.setTop (mkF m 8 #[.val (.int p1), .val (.int p2), .val (.int p3), .val (.int p4), .val (.int (p4 &&& (3 : Int32))), .unset, .unset, .unset, .unset] [(.int (p4 &&& (4 : Int32)))])) _
    refine XS.ifYes X0.here hx rfl (pc0 := 8) (pc' := 15) rfl (hb hby at_8) rfl ((if0 _ _).trans (teq hc8).1) (by decide) (by decide) ?_
    show Steps p.tables e below (s₁.setTop (mkF m 15 #[.val (.int p1), .val (.int p2), .val (.int p3), .val (.int p4), .val (.int (p4 &&& (3 : Int32))), .unset, .unset, .unset, .unset] [])) _
    refine XS.iconst X0.here hx rfl (hb hby at_15) ?_
    show Steps p.tables e below (s₁.setTop (mkF m 16 #[.val (.int p1), .val (.int p2), .val (.int p3), .val (.int p4), .val (.int (p4 &&& (3 : Int32))), .unset, .unset, .unset, .unset] [(.int (0 : Int32))])) _
    refine XS.istore X0.here hx rfl (hb hby at_16) rfl (l' := #[.val (.int p1), .val (.int p2), .val (.int p3), .val (.int p4), .val (.int (p4 &&& (3 : Int32))), .val (.int (0 : Int32)), .unset, .unset, .unset]) rfl ?_
    show Steps p.tables e below (s₁.setTop (mkF m 18 #[.val (.int p1), .val (.int p2), .val (.int p3), .val (.int p4), .val (.int (p4 &&& (3 : Int32))), .val (.int (0 : Int32)), .unset, .unset, .unset] [])) _
    refine st5 _ ?_
    show Steps p.tables e below (T5.setTop (mkF m 21 #[.val (.int p1), .val (.int p2), .val (.int p3), .val (.int p4), .val (.int (p4 &&& (3 : Int32))), .val (.int (0 : Int32)), .unset, .unset, .unset] [(.ref b5)])) _
    refine XS.dup X5.here hx rfl (hb hby at_21) rfl rfl ?_
    show Steps p.tables e below (T5.setTop (mkF m 22 #[.val (.int p1), .val (.int p2), .val (.int p3), .val (.int p4), .val (.int (p4 &&& (3 : Int32))), .val (.int (0 : Int32)), .unset, .unset, .unset] [(.ref b5), (.ref b5)])) _
    refine st6.trans ?_
    show Steps p.tables e below (T6.setTop (mkF m 25 #[.val (.int p1), .val (.int p2), .val (.int p3), .val (.int p4), .val (.int (p4 &&& (3 : Int32))), .val (.int (0 : Int32)), .unset, .unset, .unset] [(.ref b5)])) _
    refine XS.astore X6.here hx rfl (hb hby at_25) rfl rfl (l' := #[.val (.int p1), .val (.int p2), .val (.int p3), .val (.int p4), .val (.int (p4 &&& (3 : Int32))), .val (.int (0 : Int32)), .val (.ref b5), .unset, .unset]) rfl ?_
    show Steps p.tables e below (T6.setTop (mkF m 27 #[.val (.int p1), .val (.int p2), .val (.int p3), .val (.int p4), .val (.int (p4 &&& (3 : Int32))), .val (.int (0 : Int32)), .val (.ref b5), .unset, .unset] [])) _
    refine XS.iload X6.here hx rfl (hb hby at_27) rfl ?_
    show Steps p.tables e below (T6.setTop (mkF m 29 #[.val (.int p1), .val (.int p2), .val (.int p3), .val (.int p4), .val (.int (p4 &&& (3 : Int32))), .val (.int (0 : Int32)), .val (.ref b5), .unset, .unset] [(.int (0 : Int32))])) _
    refine XS.ifYes X6.here hx rfl (pc0 := 29) (pc' := 43) rfl (hb hby at_29) rfl ((if0 _ _).trans (teq (rfl : (0 : Int32) = (0 : Int32))).1) (by decide) (by decide) ?_
    show Steps p.tables e below (T6.setTop (mkF m 43 #[.val (.int p1), .val (.int p2), .val (.int p3), .val (.int p4), .val (.int (p4 &&& (3 : Int32))), .val (.int (0 : Int32)), .val (.ref b5), .unset, .unset] [])) _
    refine XS.iload X6.here hx rfl (hb hby at_43) rfl ?_
    show Steps p.tables e below (T6.setTop (mkF m 45 #[.val (.int p1), .val (.int p2), .val (.int p3), .val (.int p4), .val (.int (p4 &&& (3 : Int32))), .val (.int (0 : Int32)), .val (.ref b5), .unset, .unset] [(.int (p4 &&& (3 : Int32)))])) _
    refine XS.iconst X6.here hx rfl (hb hby at_45) ?_
    show Steps p.tables e below (T6.setTop (mkF m 46 #[.val (.int p1), .val (.int p2), .val (.int p3), .val (.int p4), .val (.int (p4 &&& (3 : Int32))), .val (.int (0 : Int32)), .val (.ref b5), .unset, .unset] [(.int (1 : Int32)), (.int (p4 &&& (3 : Int32)))])) _
    refine XS.icmpYes X6.here hx rfl (pc0 := 46) (pc' := 55) rfl (hb hby at_46) rfl (tlt hc46).1 (by decide) (by decide) ?_
    show Steps p.tables e below (T6.setTop (mkF m 55 #[.val (.int p1), .val (.int p2), .val (.int p3), .val (.int p4), .val (.int (p4 &&& (3 : Int32))), .val (.int (0 : Int32)), .val (.ref b5), .unset, .unset] [])) _
    refine XS.iload X6.here hx rfl (hb hby at_55) rfl ?_
    show Steps p.tables e below (T6.setTop (mkF m 57 #[.val (.int p1), .val (.int p2), .val (.int p3), .val (.int p4), .val (.int (p4 &&& (3 : Int32))), .val (.int (0 : Int32)), .val (.ref b5), .unset, .unset] [(.int (p4 &&& (3 : Int32)))])) _
    refine XS.iconst X6.here hx rfl (hb hby at_57) ?_
    show Steps p.tables e below (T6.setTop (mkF m 58 #[.val (.int p1), .val (.int p2), .val (.int p3), .val (.int p4), .val (.int (p4 &&& (3 : Int32))), .val (.int (0 : Int32)), .val (.ref b5), .unset, .unset] [(.int (2 : Int32)), (.int (p4 &&& (3 : Int32)))])) _
    refine XS.icmpYes X6.here hx rfl (pc0 := 58) (pc' := 67) rfl (hb hby at_58) rfl (tlt hc58).1 (by decide) (by decide) ?_
    show Steps p.tables e below (T6.setTop (mkF m 67 #[.val (.int p1), .val (.int p2), .val (.int p3), .val (.int p4), .val (.int (p4 &&& (3 : Int32))), .val (.int (0 : Int32)), .val (.ref b5), .unset, .unset] [])) _
    refine XS.iload X6.here hx rfl (hb hby at_67) rfl ?_
    show Steps p.tables e below (T6.setTop (mkF m 69 #[.val (.int p1), .val (.int p2), .val (.int p3), .val (.int p4), .val (.int (p4 &&& (3 : Int32))), .val (.int (0 : Int32)), .val (.ref b5), .unset, .unset] [(.int (p4 &&& (3 : Int32)))])) _
    refine XS.iconst X6.here hx rfl (hb hby at_69) ?_
    show Steps p.tables e below (T6.setTop (mkF m 70 #[.val (.int p1), .val (.int p2), .val (.int p3), .val (.int p4), .val (.int (p4 &&& (3 : Int32))), .val (.int (0 : Int32)), .val (.ref b5), .unset, .unset] [(.int (3 : Int32)), (.int (p4 &&& (3 : Int32)))])) _
    refine XS.icmpYes X6.here hx rfl (pc0 := 70) (pc' := 79) rfl (hb hby at_70) rfl (tlt hc70).1 (by decide) (by decide) ?_
    show Steps p.tables e below (T6.setTop (mkF m 79 #[.val (.int p1), .val (.int p2), .val (.int p3), .val (.int p4), .val (.int (p4 &&& (3 : Int32))), .val (.int (0 : Int32)), .val (.ref b5), .unset, .unset] [])) _
    refine XS.aload X6.here hx rfl (hb hby at_79) rfl rfl ?_
    show Steps p.tables e below (T6.setTop (mkF m 81 #[.val (.int p1), .val (.int p2), .val (.int p3), .val (.int p4), .val (.int (p4 &&& (3 : Int32))), .val (.int (0 : Int32)), .val (.ref b5), .unset, .unset] [(.ref b5)])) _
    refine st7.trans ?_
    show Steps p.tables e below (T7.setTop (mkF m 84 #[.val (.int p1), .val (.int p2), .val (.int p3), .val (.int p4), .val (.int (p4 &&& (3 : Int32))), .val (.int (0 : Int32)), .val (.ref b5), .unset, .unset] [(.int (0 : Int32))])) _
    refine XS.iload X7.here hx rfl (hb hby at_84) rfl ?_
    show Steps p.tables e below (T7.setTop (mkF m 86 #[.val (.int p1), .val (.int p2), .val (.int p3), .val (.int p4), .val (.int (p4 &&& (3 : Int32))), .val (.int (0 : Int32)), .val (.ref b5), .unset, .unset] [(.int (p4 &&& (3 : Int32))), (.int (0 : Int32))])) _
    refine XS.icmpYes X7.here hx rfl (pc0 := 86) (pc' := 91) rfl (hb hby at_86) rfl (teq hx86).1 (by decide) (by decide) ?_
    show Steps p.tables e below (T7.setTop (mkF m 91 #[.val (.int p1), .val (.int p2), .val (.int p3), .val (.int p4), .val (.int (p4 &&& (3 : Int32))), .val (.int (0 : Int32)), .val (.ref b5), .unset, .unset] [])) _
    refine XS.aload X7.here hx rfl (hb hby at_91) rfl rfl ?_
    show Steps p.tables e below (T7.setTop (mkF m 93 #[.val (.int p1), .val (.int p2), .val (.int p3), .val (.int p4), .val (.int (p4 &&& (3 : Int32))), .val (.int (0 : Int32)), .val (.ref b5), .unset, .unset] [(.ref b5)])) _
    refine st8.trans ?_
    show Steps p.tables e below (T8.setTop (mkF m 96 #[.val (.int p1), .val (.int p2), .val (.int p3), .val (.int p4), .val (.int (p4 &&& (3 : Int32))), .val (.int (0 : Int32)), .val (.ref b5), .unset, .unset] [(.ref t)])) _
    refine XS.astore X8.here hx rfl (hb hby at_96) rfl rfl (l' := #[.val (.int p1), .val (.int p2), .val (.int p3), .val (.int p4), .val (.int (p4 &&& (3 : Int32))), .val (.int (0 : Int32)), .val (.ref b5), .val (.ref t), .unset]) rfl ?_
    show Steps p.tables e below (T8.setTop (mkF m 98 #[.val (.int p1), .val (.int p2), .val (.int p3), .val (.int p4), .val (.int (p4 &&& (3 : Int32))), .val (.int (0 : Int32)), .val (.ref b5), .val (.ref t), .unset] [])) _
    refine XS.aload X8.here hx rfl (hb hby at_98) rfl rfl ?_
    show Steps p.tables e below (T8.setTop (mkF m 100 #[.val (.int p1), .val (.int p2), .val (.int p3), .val (.int p4), .val (.int (p4 &&& (3 : Int32))), .val (.int (0 : Int32)), .val (.ref b5), .val (.ref t), .unset] [(.ref t)])) _
    refine X8.arraylength hx Ar_t.1 (State.isArrayOf_alike hZ.alike Ar_t.2.1) (g := (mkF m 100 #[.val (.int p1), .val (.int p2), .val (.int p3), .val (.int p4), .val (.int (p4 &&& (3 : Int32))), .val (.int (0 : Int32)), .val (.ref b5), .val (.ref t), .unset] [(.ref t)])) rfl rfl (hb hby at_100) _ ?_
    rw [len_of S_t N_t]
    show Steps p.tables e below (T8.setTop (mkF m 101 #[.val (.int p1), .val (.int p2), .val (.int p3), .val (.int p4), .val (.int (p4 &&& (3 : Int32))), .val (.int (0 : Int32)), .val (.ref b5), .val (.ref t), .unset] [(.int (256 : Int32))])) _
    refine XS.sipush X8.here hx rfl (hb hby at_101) ?_
    show Steps p.tables e below (T8.setTop (mkF m 104 #[.val (.int p1), .val (.int p2), .val (.int p3), .val (.int p4), .val (.int (p4 &&& (3 : Int32))), .val (.int (0 : Int32)), .val (.ref b5), .val (.ref t), .unset] [(.int (256 : Int32)), (.int (256 : Int32))])) _
    refine XS.icmpYes X8.here hx rfl (pc0 := 104) (pc' := 109) rfl (hb hby at_104) rfl (teq hx104).1 (by decide) (by decide) ?_
    show Steps p.tables e below (T8.setTop (mkF m 109 #[.val (.int p1), .val (.int p2), .val (.int p3), .val (.int p4), .val (.int (p4 &&& (3 : Int32))), .val (.int (0 : Int32)), .val (.ref b5), .val (.ref t), .unset] [])) _
    refine XS.iload X8.here hx rfl (hb hby at_109) rfl ?_
    show Steps p.tables e below (T8.setTop (mkF m 111 #[.val (.int p1), .val (.int p2), .val (.int p3), .val (.int p4), .val (.int (p4 &&& (3 : Int32))), .val (.int (0 : Int32)), .val (.ref b5), .val (.ref t), .unset] [(.int (p4 &&& (3 : Int32)))])) _
    refine XS.iconst X8.here hx rfl (hb hby at_111) ?_
    show Steps p.tables e below (T8.setTop (mkF m 112 #[.val (.int p1), .val (.int p2), .val (.int p3), .val (.int p4), .val (.int (p4 &&& (3 : Int32))), .val (.int (0 : Int32)), .val (.ref b5), .val (.ref t), .unset] [(.int (1 : Int32)), (.int (p4 &&& (3 : Int32)))])) _
    refine XS.icmpYes X8.here hx rfl (pc0 := 112) (pc' := 133) rfl (hb hby at_112) rfl (tlt hc112).1 (by decide) (by decide) ?_
    show Steps p.tables e below (T8.setTop (mkF m 133 #[.val (.int p1), .val (.int p2), .val (.int p3), .val (.int p4), .val (.int (p4 &&& (3 : Int32))), .val (.int (0 : Int32)), .val (.ref b5), .val (.ref t), .unset] [])) _
    refine XS.iload X8.here hx rfl (hb hby at_133) rfl ?_
    show Steps p.tables e below (T8.setTop (mkF m 135 #[.val (.int p1), .val (.int p2), .val (.int p3), .val (.int p4), .val (.int (p4 &&& (3 : Int32))), .val (.int (0 : Int32)), .val (.ref b5), .val (.ref t), .unset] [(.int (p4 &&& (3 : Int32)))])) _
    refine XS.iconst X8.here hx rfl (hb hby at_135) ?_
    show Steps p.tables e below (T8.setTop (mkF m 136 #[.val (.int p1), .val (.int p2), .val (.int p3), .val (.int p4), .val (.int (p4 &&& (3 : Int32))), .val (.int (0 : Int32)), .val (.ref b5), .val (.ref t), .unset] [(.int (2 : Int32)), (.int (p4 &&& (3 : Int32)))])) _
    refine XS.icmpYes X8.here hx rfl (pc0 := 136) (pc' := 157) rfl (hb hby at_136) rfl (tlt hc136).1 (by decide) (by decide) ?_
    show Steps p.tables e below (T8.setTop (mkF m 157 #[.val (.int p1), .val (.int p2), .val (.int p3), .val (.int p4), .val (.int (p4 &&& (3 : Int32))), .val (.int (0 : Int32)), .val (.ref b5), .val (.ref t), .unset] [])) _
    refine XS.iload X8.here hx rfl (hb hby at_157) rfl ?_
    show Steps p.tables e below (T8.setTop (mkF m 159 #[.val (.int p1), .val (.int p2), .val (.int p3), .val (.int p4), .val (.int (p4 &&& (3 : Int32))), .val (.int (0 : Int32)), .val (.ref b5), .val (.ref t), .unset] [(.int (p4 &&& (3 : Int32)))])) _
    refine XS.iconst X8.here hx rfl (hb hby at_159) ?_
    show Steps p.tables e below (T8.setTop (mkF m 160 #[.val (.int p1), .val (.int p2), .val (.int p3), .val (.int p4), .val (.int (p4 &&& (3 : Int32))), .val (.int (0 : Int32)), .val (.ref b5), .val (.ref t), .unset] [(.int (3 : Int32)), (.int (p4 &&& (3 : Int32)))])) _
    refine XS.icmpYes X8.here hx rfl (pc0 := 160) (pc' := 181) rfl (hb hby at_160) rfl (tlt hc160).1 (by decide) (by decide) ?_
    show Steps p.tables e below (T8.setTop (mkF m 181 #[.val (.int p1), .val (.int p2), .val (.int p3), .val (.int p4), .val (.int (p4 &&& (3 : Int32))), .val (.int (0 : Int32)), .val (.ref b5), .val (.ref t), .unset] [])) _
    refine XS.iload X8.here hx rfl (hb hby at_181) rfl ?_
    show Steps p.tables e below (T8.setTop (mkF m 183 #[.val (.int p1), .val (.int p2), .val (.int p3), .val (.int p4), .val (.int (p4 &&& (3 : Int32))), .val (.int (0 : Int32)), .val (.ref b5), .val (.ref t), .unset] [(.int (0 : Int32))])) _
    refine XS.ifYes X8.here hx rfl (pc0 := 183) (pc' := 199) rfl (hb hby at_183) rfl ((if0 _ _).trans (teq (rfl : (0 : Int32) = (0 : Int32))).1) (by decide) (by decide) ?_
    show Steps p.tables e below (T8.setTop (mkF m 199 #[.val (.int p1), .val (.int p2), .val (.int p3), .val (.int p4), .val (.int (p4 &&& (3 : Int32))), .val (.int (0 : Int32)), .val (.ref b5), .val (.ref t), .unset] [])) _
    refine XS.iconst X8.here hx rfl (hb hby at_199) ?_
    show Steps p.tables e below (T8.setTop (mkF m 200 #[.val (.int p1), .val (.int p2), .val (.int p3), .val (.int p4), .val (.int (p4 &&& (3 : Int32))), .val (.int (0 : Int32)), .val (.ref b5), .val (.ref t), .unset] [(.int (0 : Int32))])) _
    refine XS.istore X8.here hx rfl (hb hby at_200) rfl (l' := #[.val (.int p1), .val (.int p2), .val (.int p3), .val (.int p4), .val (.int (p4 &&& (3 : Int32))), .val (.int (0 : Int32)), .val (.ref b5), .val (.ref t), .val (.int (0 : Int32))]) rfl ?_
    show Steps p.tables e below (T8.setTop (mkF m 202 #[.val (.int p1), .val (.int p2), .val (.int p3), .val (.int p4), .val (.int (p4 &&& (3 : Int32))), .val (.int (0 : Int32)), .val (.ref b5), .val (.ref t), .val (.int (0 : Int32))] [])) _
    refine XS.aload X8.here hx rfl (hb hby at_202) rfl rfl ?_
    show Steps p.tables e below (T8.setTop (mkF m 204 #[.val (.int p1), .val (.int p2), .val (.int p3), .val (.int p4), .val (.int (p4 &&& (3 : Int32))), .val (.int (0 : Int32)), .val (.ref b5), .val (.ref t), .val (.int (0 : Int32))] [(.ref t)])) _
    refine XS.iload X8.here hx rfl (hb hby at_204) rfl ?_
    show Steps p.tables e below (T8.setTop (mkF m 206 #[.val (.int p1), .val (.int p2), .val (.int p3), .val (.int p4), .val (.int (p4 &&& (3 : Int32))), .val (.int (0 : Int32)), .val (.ref b5), .val (.ref t), .val (.int (0 : Int32))] [(.int (p4 &&& (3 : Int32))), (.ref t)])) _
    refine X8.baloadBytes hx (j := (p4 &&& (3 : Int32))) (v := (.int (0 : Int32))) Ar_t.1 (State.isArrayOf_alike hZ.alike Ar_t.2.1) Ar_t.2.2 hin206 hat206 (g := (mkF m 206 #[.val (.int p1), .val (.int p2), .val (.int p3), .val (.int p4), .val (.int (p4 &&& (3 : Int32))), .val (.int (0 : Int32)), .val (.ref b5), .val (.ref t), .val (.int (0 : Int32))] [(.int (p4 &&& (3 : Int32))), (.ref t)])) rfl rfl (hb hby at_206) _ ?_
    show Steps p.tables e below (T8.setTop (mkF m 207 #[.val (.int p1), .val (.int p2), .val (.int p3), .val (.int p4), .val (.int (p4 &&& (3 : Int32))), .val (.int (0 : Int32)), .val (.ref b5), .val (.ref t), .val (.int (0 : Int32))] [(.int (0 : Int32))])) _
    refine XS.sipush X8.here hx rfl (hb hby at_207) ?_
    show Steps p.tables e below (T8.setTop (mkF m 210 #[.val (.int p1), .val (.int p2), .val (.int p3), .val (.int p4), .val (.int (p4 &&& (3 : Int32))), .val (.int (0 : Int32)), .val (.ref b5), .val (.ref t), .val (.int (0 : Int32))] [(.int (255 : Int32)), (.int (0 : Int32))])) _
    refine XS.iand X8.here hx rfl (hb hby at_210) rfl ?_
    show Steps p.tables e below (T8.setTop (mkF m 211 #[.val (.int p1), .val (.int p2), .val (.int p3), .val (.int p4), .val (.int (p4 &&& (3 : Int32))), .val (.int (0 : Int32)), .val (.ref b5), .val (.ref t), .val (.int (0 : Int32))] [(.int ((0 : Int32) &&& (255 : Int32)))])) _
    refine XS.iload X8.here hx rfl (hb hby at_211) rfl ?_
    show Steps p.tables e below (T8.setTop (mkF m 213 #[.val (.int p1), .val (.int p2), .val (.int p3), .val (.int p4), .val (.int (p4 &&& (3 : Int32))), .val (.int (0 : Int32)), .val (.ref b5), .val (.ref t), .val (.int (0 : Int32))] [(.int (0 : Int32)), (.int ((0 : Int32) &&& (255 : Int32)))])) _
    refine XS.icmpNo X8.here hx rfl (hb hby at_213) rfl (teq hc213).2 ?_
    show Steps p.tables e below (T8.setTop (mkF m 216 #[.val (.int p1), .val (.int p2), .val (.int p3), .val (.int p4), .val (.int (p4 &&& (3 : Int32))), .val (.int (0 : Int32)), .val (.ref b5), .val (.ref t), .val (.int (0 : Int32))] [])) _
    refine XS.iconst X8.here hx rfl (hb hby at_216) ?_
    show Steps p.tables e below (T8.setTop (mkF m 217 #[.val (.int p1), .val (.int p2), .val (.int p3), .val (.int p4), .val (.int (p4 &&& (3 : Int32))), .val (.int (0 : Int32)), .val (.ref b5), .val (.ref t), .val (.int (0 : Int32))] [(.int (1 : Int32))])) _
    refine XS.goto X8.here hx rfl (pc0 := 217) (pc' := 221) rfl (hb hby at_217) (by decide) (by decide) ?_
    show Steps p.tables e below (T8.setTop (mkF m 221 #[.val (.int p1), .val (.int p2), .val (.int p3), .val (.int p4), .val (.int (p4 &&& (3 : Int32))), .val (.int (0 : Int32)), .val (.ref b5), .val (.ref t), .val (.int (0 : Int32))] [(.int (1 : Int32))])) _
    exact retN X8 hx (t := .boolean) Bd.returns (by simp) (hb hby at_221) hr
  · show Q0 Z p1 p2 p3 p4 h0 n0 _ T8.heap _
    exact ⟨rfl, N8⟩
set_option maxRecDepth 65536 in
set_option maxHeartbeats 40000000 in
theorem rm0_o1 (l : Launch) (Z : State) (a0 : Array Value) (hw : ∀ d ∈ tables_1, d.before a0 Z = true) (ws : List Jvm.Cond) (p1 : Int32) (p2 : Int32) (p3 : Int32) (p4 : Int32) (h0 : Heap) (n0 : Nat) (Z0 : n0 ≤ h0.size) (hn : (p4 &&& (3 : Int32)) = (1 : Int32)) (hc8 : (p4 &&& (4 : Int32)) = (0 : Int32)) (hc46 : ¬ ((p4 &&& (3 : Int32)) < (1 : Int32))) (hc58 : (p4 &&& (3 : Int32)) < (2 : Int32)) (hc70 : (p4 &&& (3 : Int32)) < (3 : Int32)) (hc112 : ¬ ((p4 &&& (3 : Int32)) < (1 : Int32))) (hc128 : ((own_b p1) &&& (255 : Int32)) = (p1 &&& (255 : Int32))) (hc136 : (p4 &&& (3 : Int32)) < (2 : Int32)) (hc160 : (p4 &&& (3 : Int32)) < (3 : Int32)) (hc213 : ((0 : Int32) &&& (255 : Int32)) = (0 : Int32)) (hx86 : ((0 : Int32) + (1 : Int32)) = (p4 &&& (3 : Int32))) (hx104 : (256 : Int32) = (256 : Int32)) :
    MetFree l x (head1 (Jvm.Cond.code x code maxLocals ret :: ws) room_1) (fun a U => a = #[(.int p1), (.int p2), (.int p3), (.int p4)] ∧ Z.Warmed39 U.vm ∧ U.heap = h0) (fun _ _ _ _ _ => True) (fun _ U o U' => ∃ v L, o = .returned v ∧ Q0 Z p1 p2 p3 p4 h0 n0 v U'.heap L ∧ FrameEnd U o U' L room_1.cells room_1.slots) := by
  refine MetFree.of_bodySF (plainFor_of_name pn_0) hisR ?_
  intro p e s m args below meth c s₁ Bd hml0 hP hK
  obtain ⟨rfl, hZ, hh⟩ := hP
  have hx := Bd.exec
  have hby := Bd.bytes
  have hml : c.maxLocals = 9 := hml0
  have hown : s.vm.findClass "com/example/verdant_canopy/verdantcanopy/core/CanonicalBufferPutPinLaw" = some m.cls := findClass_of_methodNamed Bd.named
  have hnm := (name_of_methodNamed Bd.named Bd.method).1
  have X0 : Stand p l e room_1 s m #[(.int p1), (.int p2), (.int p3), (.int p4)] below meth c s₁ [] 0 0 := Stand.of_body Bd
  have e0 : s₁.heap = h0 := by rw [← hh, Bd.state]; rfl
  have N0 := Fr.nil n0
  have pre0 : ∀ t, Steps p.tables e below (s₁.setTop (mkF m 0 #[.val (.int p1), .val (.int p2), .val (.int p3), .val (.int p4), .unset, .unset, .unset, .unset, .unset] [])) t → Steps p.tables e below (s₁.setTop (entryFrame m #[(.int p1), (.int p2), (.int p3), (.int p4)] maxLocals)) t := fun t k => castTop (ef_0 m p1 p2 p3 p4) k
  obtain ⟨T5, h5, X5, e5, E5, A5, D5, -, st5⟩ := newO X0 hx hZ hown (hw _ (List.mem_of_getElem? (i := 0) rfl)) (hw _ (List.mem_of_getElem? (i := 1) rfl)) (hw _ (List.mem_of_getElem? (i := 2) rfl)) e0 (g := (mkF m 18 #[.val (.int p1), .val (.int p2), .val (.int p3), .val (.int p4), .val (.int (p4 &&& (3 : Int32))), .val (.int (0 : Int32)), .unset, .unset, .unset] [])) rfl (hb hby at_18) (by decide) (by decide)
  obtain ⟨b5, g5⟩ : ∃ z, z = h0.size := ⟨_, rfl⟩
  rw [← g5] at A5 D5 st5
  have F_bytes_b5 : Fld Z h5 b5 "com/example/verdant_canopy/verdantcanopy/core/CanonicalBuffer" "bytes" "[B" .null := D5 (Or.inl (hw _ (List.mem_of_getElem? (i := 11) rfl))) (ty := (.array .byte)) (by decide)
  have F_length_b5 : Fld Z h5 b5 "com/example/verdant_canopy/verdantcanopy/core/CanonicalBuffer" "length" "I" (.int (0 : Int32)) := D5 (Or.inl (hw _ (List.mem_of_getElem? (i := 18) rfl))) (ty := .int) (by decide)
  have E_b5 := A5
  have g_b5 : n0 ≤ b5 := Nat.le_trans Z0 (Nat.le_of_eq g5.symm)
  have sz_b5 : h0.size ≤ b5 := (Nat.le_trans (Keep.refl h0 []).1 (Nat.le_of_eq g5.symm))
  have K5 : Keep h0 h5 [] := (Keep.refl h0 []).ext E5
  obtain ⟨_, _, ⟨T6, L6, k6, n6⟩, -, X6, ⟨Lc6, hQ6, l6, y6, z6⟩, st6⟩ := X5.specialBack hx (y := (⟨"com/example/verdant_canopy/verdantcanopy/core/CanonicalBuffer", "<init>", "()V"⟩ : MethodName)) rfl hown (mvT hZ (hw _ (List.mem_of_getElem? (i := 3) rfl))) (mvT hZ (hw _ (List.mem_of_getElem? (i := 4) rfl))) (mvT hZ (hw _ (List.mem_of_getElem? (i := 5) rfl))) (by decide) (backOf (W := 1) (rm1 l Z a0 hw [] b5 .null h5 n0 (Nat.le_trans Z0 E5.1) E_b5 F_bytes_b5 g_b5 F_length_b5) hZ (hw _ (List.mem_of_getElem? (i := 5) rfl)) (hw _ (List.mem_of_getElem? (i := 2) rfl)) (by decide) (by decide)) (g := (mkF m 22 #[.val (.int p1), .val (.int p2), .val (.int p3), .val (.int p4), .val (.int (p4 &&& (3 : Int32))), .val (.int (0 : Int32)), .unset, .unset, .unset] [(.ref b5), (.ref b5)])) rfl (by rw [hml]; rfl) (Steps.refl _) (a := b5) (argsL := []) (rest := [(.ref b5)]) (lenOf pd_0_0 rfl) rfl (by show 2 * 0 + _ ≤ _; exact Nat.le_of_eq rfl) (hb hby at_22) (fun _ _ => ⟨rfl, e5, (by decide : 1 + 1 ≤ _), (by decide : 2 + 256 ≤ _)⟩)
  dsimp only [Pt.U, Pt.locs, Pt.cells, Pt.slots] at X6 l6 y6 z6 st6 hQ6
  subst l6 y6 z6
  obtain ⟨rfl, N6q, K6q, t, kc, gt, B6⟩ := hQ6
  have Z6 : n0 ≤ T6.heap.size := Nat.le_trans (Nat.le_trans Z0 E5.1) K6q.1
  have N6 := Fr.app N0 N6q
  obtain ⟨cq7, kq7, q7a, q7b, q7c⟩ := isOf hZ rfl B6.1
  obtain ⟨_, _, ⟨T7, L7, k7, n7⟩, -, X7, ⟨Lc7, hQ7, l7, y7, z7⟩, st7⟩ := X6.virtualBack hx (y := (⟨"com/example/verdant_canopy/verdantcanopy/core/CanonicalBuffer", "put", "(I)V"⟩ : MethodName)) (z := (⟨"com/example/verdant_canopy/verdantcanopy/core/CanonicalBuffer", "put", "(I)V"⟩ : MethodName)) hown (mvT hZ (hw _ (List.mem_of_getElem? (i := 12) rfl))) (mvT hZ (hw _ (List.mem_of_getElem? (i := 13) rfl))) (notFace_of_selects (args := #[]) (mvT hZ (hw _ (List.mem_of_getElem? (i := 15) rfl)))) (mvT hZ (hw _ (List.mem_of_getElem? (i := 15) rfl))) (mvT hZ (hw _ (List.mem_of_getElem? (i := 14) rfl))) (by decide) (backOf (W := 0) (rm3 l Z a0 hw [] b5 p1 t kc (0 : Int32) ([(.int (0 : Int32)), (.int (0 : Int32)), (.int (0 : Int32)), (.int (0 : Int32))] : List Value) 0 T6.heap n0 Z6 B6 g_b5 gt (by decide) (Nat.le_of_ble_eq_true rfl) ⟨by decide, by decide⟩) hZ (hw _ (List.mem_of_getElem? (i := 16) rfl)) (hw _ (List.mem_of_getElem? (i := 2) rfl)) (by decide) (by decide)) q7a q7c (g := (mkF m 52 #[.val (.int p1), .val (.int p2), .val (.int p3), .val (.int p4), .val (.int (p4 &&& (3 : Int32))), .val (.int (0 : Int32)), .val (.ref b5), .unset, .unset] [(.int p1), (.ref b5)])) rfl (by rw [hml]; rfl) (Steps.refl _) (argsL := [(.int p1)]) (rest := []) (lenOf pd_0_1 rfl) rfl (by show 2 * 0 + _ ≤ _; exact Nat.le_of_eq rfl) (hb hby at_52) (fun _ _ => ⟨rfl, rfl, (by decide : 1 + (1 + 0) ≤ _), (by decide : 2 + (256 + 0) ≤ _)⟩)
  dsimp only [Pt.U, Pt.locs, Pt.cells, Pt.slots] at X7 l7 y7 z7 st7 hQ7
  subst l7 y7 z7
  obtain ⟨rfl, N7q, K7q, B7⟩ := hQ7
  have Z7 : n0 ≤ T7.heap.size := Nat.le_trans Z6 K7q.1
  have N7 := Fr.app N6 N7q
  obtain ⟨cq8, kq8, q8a, q8b, q8c⟩ := isOf hZ rfl B7.1
  obtain ⟨_, _, ⟨T8, L8, k8, n8⟩, -, X8, ⟨Lc8, hQ8, l8, y8, z8⟩, st8⟩ := X7.virtualBack hx (y := (⟨"com/example/verdant_canopy/verdantcanopy/core/CanonicalBuffer", "length", "()I"⟩ : MethodName)) (z := (⟨"com/example/verdant_canopy/verdantcanopy/core/CanonicalBuffer", "length", "()I"⟩ : MethodName)) hown (mvT hZ (hw _ (List.mem_of_getElem? (i := 19) rfl))) (mvT hZ (hw _ (List.mem_of_getElem? (i := 20) rfl))) (notFace_of_selects (args := #[]) (mvT hZ (hw _ (List.mem_of_getElem? (i := 22) rfl)))) (mvT hZ (hw _ (List.mem_of_getElem? (i := 22) rfl))) (mvT hZ (hw _ (List.mem_of_getElem? (i := 21) rfl))) (by decide) (backOf (W := 0) (rm4 l Z a0 hw [] b5 ((0 : Int32) + (1 : Int32)) T7.heap n0 Z7 B7.2.2.1) hZ (hw _ (List.mem_of_getElem? (i := 23) rfl)) (hw _ (List.mem_of_getElem? (i := 2) rfl)) (by decide) (by decide)) q8a q8c (g := (mkF m 81 #[.val (.int p1), .val (.int p2), .val (.int p3), .val (.int p4), .val (.int (p4 &&& (3 : Int32))), .val (.int (0 : Int32)), .val (.ref b5), .unset, .unset] [(.ref b5)])) rfl (by rw [hml]; rfl) (Steps.refl _) (argsL := []) (rest := []) (lenOf pd_0_2 rfl) rfl (by show 2 * 0 + _ ≤ _; exact Nat.le_of_eq rfl) (hb hby at_81) (fun _ _ => ⟨rfl, rfl, (by decide : 1 + (1 + 0) ≤ _), (by decide : 2 + (256 + 0) ≤ _)⟩)
  dsimp only [Pt.U, Pt.locs, Pt.cells, Pt.slots] at X8 l8 y8 z8 st8 hQ8
  subst l8 y8 z8
  obtain ⟨rfl, N8q, e8q⟩ := hQ8
  have Z8 : n0 ≤ T8.heap.size := by rw [e8q]; exact Z7
  have B8 : own_B Z T8.heap b5 t kc ((0 : Int32) + (1 : Int32)) (([(.int (0 : Int32)), (.int (0 : Int32)), (.int (0 : Int32)), (.int (0 : Int32))] : List Value).set 0 (.int (own_b p1))) := by rw [e8q]; exact B7
  have N8 := Fr.app N7 N8q
  obtain ⟨cq9, kq9, q9a, q9b, q9c⟩ := isOf hZ rfl B8.1
  obtain ⟨_, _, ⟨T9, L9, k9, n9⟩, -, X9, ⟨Lc9, hQ9, l9, y9, z9⟩, st9⟩ := X8.virtualBack hx (y := (⟨"com/example/verdant_canopy/verdantcanopy/core/CanonicalBuffer", "bytes", "()[B"⟩ : MethodName)) (z := (⟨"com/example/verdant_canopy/verdantcanopy/core/CanonicalBuffer", "bytes", "()[B"⟩ : MethodName)) hown (mvT hZ (hw _ (List.mem_of_getElem? (i := 24) rfl))) (mvT hZ (hw _ (List.mem_of_getElem? (i := 25) rfl))) (notFace_of_selects (args := #[]) (mvT hZ (hw _ (List.mem_of_getElem? (i := 27) rfl)))) (mvT hZ (hw _ (List.mem_of_getElem? (i := 27) rfl))) (mvT hZ (hw _ (List.mem_of_getElem? (i := 26) rfl))) (by decide) (backOf (W := 0) (rm5 l Z a0 hw [] b5 t T8.heap n0 Z8 B8.2.1) hZ (hw _ (List.mem_of_getElem? (i := 28) rfl)) (hw _ (List.mem_of_getElem? (i := 2) rfl)) (by decide) (by decide)) q9a q9c (g := (mkF m 93 #[.val (.int p1), .val (.int p2), .val (.int p3), .val (.int p4), .val (.int (p4 &&& (3 : Int32))), .val (.int (0 : Int32)), .val (.ref b5), .unset, .unset] [(.ref b5)])) rfl (by rw [hml]; rfl) (Steps.refl _) (argsL := []) (rest := []) (lenOf pd_0_3 rfl) rfl (by show 2 * 0 + _ ≤ _; exact Nat.le_of_eq rfl) (hb hby at_93) (fun _ _ => ⟨rfl, rfl, (by decide : 1 + (1 + 0) ≤ _), (by decide : 2 + (256 + 0) ≤ _)⟩)
  dsimp only [Pt.U, Pt.locs, Pt.cells, Pt.slots] at X9 l9 y9 z9 st9 hQ9
  subst l9 y9 z9
  obtain ⟨rfl, N9q, e9q⟩ := hQ9
  have Z9 : n0 ≤ T9.heap.size := by rw [e9q]; exact Z8
  have B9 : own_B Z T9.heap b5 t kc ((0 : Int32) + (1 : Int32)) (([(.int (0 : Int32)), (.int (0 : Int32)), (.int (0 : Int32)), (.int (0 : Int32))] : List Value).set 0 (.int (own_b p1))) := by rw [e9q]; exact B8
  obtain ⟨cl_t, Ar_t, q_t, S_t, N_t, H_t, G_t⟩ := B9.2.2.2.1
  have hin118 : ¬ ((0 : Int32) < 0 ∨ cl_t.slots.size ≤ ((0 : Int32)).toNatClampNeg) := inb_of S_t ⟨by decide, by decide⟩
  have hat118 : cl_t.slots[((0 : Int32)).toNatClampNeg]? = some (.int (own_b p1)) := Has.at H_t hin118 rfl
  have hin206 : ¬ ((p4 &&& (3 : Int32)) < 0 ∨ cl_t.slots.size ≤ ((p4 &&& (3 : Int32))).toNatClampNeg) := inb_of S_t ⟨by rw [hn]; decide, by rw [hn]; decide⟩
  have hat206 : cl_t.slots[((p4 &&& (3 : Int32))).toNatClampNeg]? = some (.int (0 : Int32)) := Has.at H_t hin206 (by rw [hn]; rfl)
  have N9 := Fr.app N8 N9q
  obtain ⟨fs, hr, hrun, hended, hW, hsame⟩ := X9.leave (v := some (.int (1 : Int32))) (fun h => by rw [Bd.returns] at h; cases h)
  refine ⟨_, _, pre0 _ ?_, hrun, hended, _, _, rfl, ?_, ⟨_, rfl⟩, hW, hsame.mono (by decide) (by decide)⟩
  · show Steps p.tables e below (s₁.setTop (mkF m 0 #[.val (.int p1), .val (.int p2), .val (.int p3), .val (.int p4), .unset, .unset, .unset, .unset, .unset] [])) _
    refine XS.iloadN X0.here hx rfl (hb hby at_0) rfl ?_
    show Steps p.tables e below (s₁.setTop (mkF m 1 #[.val (.int p1), .val (.int p2), .val (.int p3), .val (.int p4), .unset, .unset, .unset, .unset, .unset] [(.int p4)])) _
    refine XS.iconst X0.here hx rfl (hb hby at_1) ?_
    show Steps p.tables e below (s₁.setTop (mkF m 2 #[.val (.int p1), .val (.int p2), .val (.int p3), .val (.int p4), .unset, .unset, .unset, .unset, .unset] [(.int (3 : Int32)), (.int p4)])) _
    refine XS.iand X0.here hx rfl (hb hby at_2) rfl ?_
    show Steps p.tables e below (s₁.setTop (mkF m 3 #[.val (.int p1), .val (.int p2), .val (.int p3), .val (.int p4), .unset, .unset, .unset, .unset, .unset] [(.int (p4 &&& (3 : Int32)))])) _
    refine XS.istore X0.here hx rfl (hb hby at_3) rfl (l' := #[.val (.int p1), .val (.int p2), .val (.int p3), .val (.int p4), .val (.int (p4 &&& (3 : Int32))), .unset, .unset, .unset, .unset]) rfl ?_
    show Steps p.tables e below (s₁.setTop (mkF m 5 #[.val (.int p1), .val (.int p2), .val (.int p3), .val (.int p4), .val (.int (p4 &&& (3 : Int32))), .unset, .unset, .unset, .unset] [])) _
    refine XS.iloadN X0.here hx rfl (hb hby at_5) rfl ?_
    show Steps p.tables e below (s₁.setTop (mkF m 6 #[.val (.int p1), .val (.int p2), .val (.int p3), .val (.int p4), .val (.int (p4 &&& (3 : Int32))), .unset, .unset, .unset, .unset] [(.int p4)])) _
    refine XS.iconst X0.here hx rfl (hb hby at_6) ?_
    show Steps p.tables e below (s₁.setTop (mkF m 7 #[.val (.int p1), .val (.int p2), .val (.int p3), .val (.int p4), .val (.int (p4 &&& (3 : Int32))), .unset, .unset, .unset, .unset] [(.int (4 : Int32)), (.int p4)])) _
    refine XS.iand X0.here hx rfl (hb hby at_7) rfl ?_
    show Steps p.tables e below (s₁.setTop (mkF m 8 #[.val (.int p1), .val (.int p2), .val (.int p3), .val (.int p4), .val (.int (p4 &&& (3 : Int32))), .unset, .unset, .unset, .unset] [(.int (p4 &&& (4 : Int32)))])) _
    refine XS.ifYes X0.here hx rfl (pc0 := 8) (pc' := 15) rfl (hb hby at_8) rfl ((if0 _ _).trans (teq hc8).1) (by decide) (by decide) ?_
    show Steps p.tables e below (s₁.setTop (mkF m 15 #[.val (.int p1), .val (.int p2), .val (.int p3), .val (.int p4), .val (.int (p4 &&& (3 : Int32))), .unset, .unset, .unset, .unset] [])) _
    refine XS.iconst X0.here hx rfl (hb hby at_15) ?_
    show Steps p.tables e below (s₁.setTop (mkF m 16 #[.val (.int p1), .val (.int p2), .val (.int p3), .val (.int p4), .val (.int (p4 &&& (3 : Int32))), .unset, .unset, .unset, .unset] [(.int (0 : Int32))])) _
    refine XS.istore X0.here hx rfl (hb hby at_16) rfl (l' := #[.val (.int p1), .val (.int p2), .val (.int p3), .val (.int p4), .val (.int (p4 &&& (3 : Int32))), .val (.int (0 : Int32)), .unset, .unset, .unset]) rfl ?_
    show Steps p.tables e below (s₁.setTop (mkF m 18 #[.val (.int p1), .val (.int p2), .val (.int p3), .val (.int p4), .val (.int (p4 &&& (3 : Int32))), .val (.int (0 : Int32)), .unset, .unset, .unset] [])) _
    refine st5 _ ?_
    show Steps p.tables e below (T5.setTop (mkF m 21 #[.val (.int p1), .val (.int p2), .val (.int p3), .val (.int p4), .val (.int (p4 &&& (3 : Int32))), .val (.int (0 : Int32)), .unset, .unset, .unset] [(.ref b5)])) _
    refine XS.dup X5.here hx rfl (hb hby at_21) rfl rfl ?_
    show Steps p.tables e below (T5.setTop (mkF m 22 #[.val (.int p1), .val (.int p2), .val (.int p3), .val (.int p4), .val (.int (p4 &&& (3 : Int32))), .val (.int (0 : Int32)), .unset, .unset, .unset] [(.ref b5), (.ref b5)])) _
    refine st6.trans ?_
    show Steps p.tables e below (T6.setTop (mkF m 25 #[.val (.int p1), .val (.int p2), .val (.int p3), .val (.int p4), .val (.int (p4 &&& (3 : Int32))), .val (.int (0 : Int32)), .unset, .unset, .unset] [(.ref b5)])) _
    refine XS.astore X6.here hx rfl (hb hby at_25) rfl rfl (l' := #[.val (.int p1), .val (.int p2), .val (.int p3), .val (.int p4), .val (.int (p4 &&& (3 : Int32))), .val (.int (0 : Int32)), .val (.ref b5), .unset, .unset]) rfl ?_
    show Steps p.tables e below (T6.setTop (mkF m 27 #[.val (.int p1), .val (.int p2), .val (.int p3), .val (.int p4), .val (.int (p4 &&& (3 : Int32))), .val (.int (0 : Int32)), .val (.ref b5), .unset, .unset] [])) _
    refine XS.iload X6.here hx rfl (hb hby at_27) rfl ?_
    show Steps p.tables e below (T6.setTop (mkF m 29 #[.val (.int p1), .val (.int p2), .val (.int p3), .val (.int p4), .val (.int (p4 &&& (3 : Int32))), .val (.int (0 : Int32)), .val (.ref b5), .unset, .unset] [(.int (0 : Int32))])) _
    refine XS.ifYes X6.here hx rfl (pc0 := 29) (pc' := 43) rfl (hb hby at_29) rfl ((if0 _ _).trans (teq (rfl : (0 : Int32) = (0 : Int32))).1) (by decide) (by decide) ?_
    show Steps p.tables e below (T6.setTop (mkF m 43 #[.val (.int p1), .val (.int p2), .val (.int p3), .val (.int p4), .val (.int (p4 &&& (3 : Int32))), .val (.int (0 : Int32)), .val (.ref b5), .unset, .unset] [])) _
    refine XS.iload X6.here hx rfl (hb hby at_43) rfl ?_
    show Steps p.tables e below (T6.setTop (mkF m 45 #[.val (.int p1), .val (.int p2), .val (.int p3), .val (.int p4), .val (.int (p4 &&& (3 : Int32))), .val (.int (0 : Int32)), .val (.ref b5), .unset, .unset] [(.int (p4 &&& (3 : Int32)))])) _
    refine XS.iconst X6.here hx rfl (hb hby at_45) ?_
    show Steps p.tables e below (T6.setTop (mkF m 46 #[.val (.int p1), .val (.int p2), .val (.int p3), .val (.int p4), .val (.int (p4 &&& (3 : Int32))), .val (.int (0 : Int32)), .val (.ref b5), .unset, .unset] [(.int (1 : Int32)), (.int (p4 &&& (3 : Int32)))])) _
    refine XS.icmpNo X6.here hx rfl (hb hby at_46) rfl (flt hc46).1 ?_
    show Steps p.tables e below (T6.setTop (mkF m 49 #[.val (.int p1), .val (.int p2), .val (.int p3), .val (.int p4), .val (.int (p4 &&& (3 : Int32))), .val (.int (0 : Int32)), .val (.ref b5), .unset, .unset] [])) _
    refine XS.aload X6.here hx rfl (hb hby at_49) rfl rfl ?_
    show Steps p.tables e below (T6.setTop (mkF m 51 #[.val (.int p1), .val (.int p2), .val (.int p3), .val (.int p4), .val (.int (p4 &&& (3 : Int32))), .val (.int (0 : Int32)), .val (.ref b5), .unset, .unset] [(.ref b5)])) _
    refine XS.iloadN X6.here hx rfl (hb hby at_51) rfl ?_
    show Steps p.tables e below (T6.setTop (mkF m 52 #[.val (.int p1), .val (.int p2), .val (.int p3), .val (.int p4), .val (.int (p4 &&& (3 : Int32))), .val (.int (0 : Int32)), .val (.ref b5), .unset, .unset] [(.int p1), (.ref b5)])) _
    refine st7.trans ?_
    show Steps p.tables e below (T7.setTop (mkF m 55 #[.val (.int p1), .val (.int p2), .val (.int p3), .val (.int p4), .val (.int (p4 &&& (3 : Int32))), .val (.int (0 : Int32)), .val (.ref b5), .unset, .unset] [])) _
    refine XS.iload X7.here hx rfl (hb hby at_55) rfl ?_
    show Steps p.tables e below (T7.setTop (mkF m 57 #[.val (.int p1), .val (.int p2), .val (.int p3), .val (.int p4), .val (.int (p4 &&& (3 : Int32))), .val (.int (0 : Int32)), .val (.ref b5), .unset, .unset] [(.int (p4 &&& (3 : Int32)))])) _
    refine XS.iconst X7.here hx rfl (hb hby at_57) ?_
    show Steps p.tables e below (T7.setTop (mkF m 58 #[.val (.int p1), .val (.int p2), .val (.int p3), .val (.int p4), .val (.int (p4 &&& (3 : Int32))), .val (.int (0 : Int32)), .val (.ref b5), .unset, .unset] [(.int (2 : Int32)), (.int (p4 &&& (3 : Int32)))])) _
    refine XS.icmpYes X7.here hx rfl (pc0 := 58) (pc' := 67) rfl (hb hby at_58) rfl (tlt hc58).1 (by decide) (by decide) ?_
    show Steps p.tables e below (T7.setTop (mkF m 67 #[.val (.int p1), .val (.int p2), .val (.int p3), .val (.int p4), .val (.int (p4 &&& (3 : Int32))), .val (.int (0 : Int32)), .val (.ref b5), .unset, .unset] [])) _
    refine XS.iload X7.here hx rfl (hb hby at_67) rfl ?_
    show Steps p.tables e below (T7.setTop (mkF m 69 #[.val (.int p1), .val (.int p2), .val (.int p3), .val (.int p4), .val (.int (p4 &&& (3 : Int32))), .val (.int (0 : Int32)), .val (.ref b5), .unset, .unset] [(.int (p4 &&& (3 : Int32)))])) _
    refine XS.iconst X7.here hx rfl (hb hby at_69) ?_
    show Steps p.tables e below (T7.setTop (mkF m 70 #[.val (.int p1), .val (.int p2), .val (.int p3), .val (.int p4), .val (.int (p4 &&& (3 : Int32))), .val (.int (0 : Int32)), .val (.ref b5), .unset, .unset] [(.int (3 : Int32)), (.int (p4 &&& (3 : Int32)))])) _
    refine XS.icmpYes X7.here hx rfl (pc0 := 70) (pc' := 79) rfl (hb hby at_70) rfl (tlt hc70).1 (by decide) (by decide) ?_
    show Steps p.tables e below (T7.setTop (mkF m 79 #[.val (.int p1), .val (.int p2), .val (.int p3), .val (.int p4), .val (.int (p4 &&& (3 : Int32))), .val (.int (0 : Int32)), .val (.ref b5), .unset, .unset] [])) _
    refine XS.aload X7.here hx rfl (hb hby at_79) rfl rfl ?_
    show Steps p.tables e below (T7.setTop (mkF m 81 #[.val (.int p1), .val (.int p2), .val (.int p3), .val (.int p4), .val (.int (p4 &&& (3 : Int32))), .val (.int (0 : Int32)), .val (.ref b5), .unset, .unset] [(.ref b5)])) _
    refine st8.trans ?_
    show Steps p.tables e below (T8.setTop (mkF m 84 #[.val (.int p1), .val (.int p2), .val (.int p3), .val (.int p4), .val (.int (p4 &&& (3 : Int32))), .val (.int (0 : Int32)), .val (.ref b5), .unset, .unset] [(.int ((0 : Int32) + (1 : Int32)))])) _
    refine XS.iload X8.here hx rfl (hb hby at_84) rfl ?_
    show Steps p.tables e below (T8.setTop (mkF m 86 #[.val (.int p1), .val (.int p2), .val (.int p3), .val (.int p4), .val (.int (p4 &&& (3 : Int32))), .val (.int (0 : Int32)), .val (.ref b5), .unset, .unset] [(.int (p4 &&& (3 : Int32))), (.int ((0 : Int32) + (1 : Int32)))])) _
    refine XS.icmpYes X8.here hx rfl (pc0 := 86) (pc' := 91) rfl (hb hby at_86) rfl (teq hx86).1 (by decide) (by decide) ?_
    show Steps p.tables e below (T8.setTop (mkF m 91 #[.val (.int p1), .val (.int p2), .val (.int p3), .val (.int p4), .val (.int (p4 &&& (3 : Int32))), .val (.int (0 : Int32)), .val (.ref b5), .unset, .unset] [])) _
    refine XS.aload X8.here hx rfl (hb hby at_91) rfl rfl ?_
    show Steps p.tables e below (T8.setTop (mkF m 93 #[.val (.int p1), .val (.int p2), .val (.int p3), .val (.int p4), .val (.int (p4 &&& (3 : Int32))), .val (.int (0 : Int32)), .val (.ref b5), .unset, .unset] [(.ref b5)])) _
    refine st9.trans ?_
    show Steps p.tables e below (T9.setTop (mkF m 96 #[.val (.int p1), .val (.int p2), .val (.int p3), .val (.int p4), .val (.int (p4 &&& (3 : Int32))), .val (.int (0 : Int32)), .val (.ref b5), .unset, .unset] [(.ref t)])) _
    refine XS.astore X9.here hx rfl (hb hby at_96) rfl rfl (l' := #[.val (.int p1), .val (.int p2), .val (.int p3), .val (.int p4), .val (.int (p4 &&& (3 : Int32))), .val (.int (0 : Int32)), .val (.ref b5), .val (.ref t), .unset]) rfl ?_
    show Steps p.tables e below (T9.setTop (mkF m 98 #[.val (.int p1), .val (.int p2), .val (.int p3), .val (.int p4), .val (.int (p4 &&& (3 : Int32))), .val (.int (0 : Int32)), .val (.ref b5), .val (.ref t), .unset] [])) _
    refine XS.aload X9.here hx rfl (hb hby at_98) rfl rfl ?_
    show Steps p.tables e below (T9.setTop (mkF m 100 #[.val (.int p1), .val (.int p2), .val (.int p3), .val (.int p4), .val (.int (p4 &&& (3 : Int32))), .val (.int (0 : Int32)), .val (.ref b5), .val (.ref t), .unset] [(.ref t)])) _
    refine X9.arraylength hx Ar_t.1 (State.isArrayOf_alike hZ.alike Ar_t.2.1) (g := (mkF m 100 #[.val (.int p1), .val (.int p2), .val (.int p3), .val (.int p4), .val (.int (p4 &&& (3 : Int32))), .val (.int (0 : Int32)), .val (.ref b5), .val (.ref t), .unset] [(.ref t)])) rfl rfl (hb hby at_100) _ ?_
    rw [len_of S_t N_t]
    show Steps p.tables e below (T9.setTop (mkF m 101 #[.val (.int p1), .val (.int p2), .val (.int p3), .val (.int p4), .val (.int (p4 &&& (3 : Int32))), .val (.int (0 : Int32)), .val (.ref b5), .val (.ref t), .unset] [(.int (256 : Int32))])) _
    refine XS.sipush X9.here hx rfl (hb hby at_101) ?_
    show Steps p.tables e below (T9.setTop (mkF m 104 #[.val (.int p1), .val (.int p2), .val (.int p3), .val (.int p4), .val (.int (p4 &&& (3 : Int32))), .val (.int (0 : Int32)), .val (.ref b5), .val (.ref t), .unset] [(.int (256 : Int32)), (.int (256 : Int32))])) _
    refine XS.icmpYes X9.here hx rfl (pc0 := 104) (pc' := 109) rfl (hb hby at_104) rfl (teq hx104).1 (by decide) (by decide) ?_
    show Steps p.tables e below (T9.setTop (mkF m 109 #[.val (.int p1), .val (.int p2), .val (.int p3), .val (.int p4), .val (.int (p4 &&& (3 : Int32))), .val (.int (0 : Int32)), .val (.ref b5), .val (.ref t), .unset] [])) _
    refine XS.iload X9.here hx rfl (hb hby at_109) rfl ?_
    show Steps p.tables e below (T9.setTop (mkF m 111 #[.val (.int p1), .val (.int p2), .val (.int p3), .val (.int p4), .val (.int (p4 &&& (3 : Int32))), .val (.int (0 : Int32)), .val (.ref b5), .val (.ref t), .unset] [(.int (p4 &&& (3 : Int32)))])) _
    refine XS.iconst X9.here hx rfl (hb hby at_111) ?_
    show Steps p.tables e below (T9.setTop (mkF m 112 #[.val (.int p1), .val (.int p2), .val (.int p3), .val (.int p4), .val (.int (p4 &&& (3 : Int32))), .val (.int (0 : Int32)), .val (.ref b5), .val (.ref t), .unset] [(.int (1 : Int32)), (.int (p4 &&& (3 : Int32)))])) _
    refine XS.icmpNo X9.here hx rfl (hb hby at_112) rfl (flt hc112).1 ?_
    show Steps p.tables e below (T9.setTop (mkF m 115 #[.val (.int p1), .val (.int p2), .val (.int p3), .val (.int p4), .val (.int (p4 &&& (3 : Int32))), .val (.int (0 : Int32)), .val (.ref b5), .val (.ref t), .unset] [])) _
    refine XS.aload X9.here hx rfl (hb hby at_115) rfl rfl ?_
    show Steps p.tables e below (T9.setTop (mkF m 117 #[.val (.int p1), .val (.int p2), .val (.int p3), .val (.int p4), .val (.int (p4 &&& (3 : Int32))), .val (.int (0 : Int32)), .val (.ref b5), .val (.ref t), .unset] [(.ref t)])) _
    refine XS.iconst X9.here hx rfl (hb hby at_117) ?_
    show Steps p.tables e below (T9.setTop (mkF m 118 #[.val (.int p1), .val (.int p2), .val (.int p3), .val (.int p4), .val (.int (p4 &&& (3 : Int32))), .val (.int (0 : Int32)), .val (.ref b5), .val (.ref t), .unset] [(.int (0 : Int32)), (.ref t)])) _
    refine X9.baloadBytes hx (j := (0 : Int32)) (v := (.int (own_b p1))) Ar_t.1 (State.isArrayOf_alike hZ.alike Ar_t.2.1) Ar_t.2.2 hin118 hat118 (g := (mkF m 118 #[.val (.int p1), .val (.int p2), .val (.int p3), .val (.int p4), .val (.int (p4 &&& (3 : Int32))), .val (.int (0 : Int32)), .val (.ref b5), .val (.ref t), .unset] [(.int (0 : Int32)), (.ref t)])) rfl rfl (hb hby at_118) _ ?_
    show Steps p.tables e below (T9.setTop (mkF m 119 #[.val (.int p1), .val (.int p2), .val (.int p3), .val (.int p4), .val (.int (p4 &&& (3 : Int32))), .val (.int (0 : Int32)), .val (.ref b5), .val (.ref t), .unset] [(.int (own_b p1))])) _
    refine XS.sipush X9.here hx rfl (hb hby at_119) ?_
    show Steps p.tables e below (T9.setTop (mkF m 122 #[.val (.int p1), .val (.int p2), .val (.int p3), .val (.int p4), .val (.int (p4 &&& (3 : Int32))), .val (.int (0 : Int32)), .val (.ref b5), .val (.ref t), .unset] [(.int (255 : Int32)), (.int (own_b p1))])) _
    refine XS.iand X9.here hx rfl (hb hby at_122) rfl ?_
    show Steps p.tables e below (T9.setTop (mkF m 123 #[.val (.int p1), .val (.int p2), .val (.int p3), .val (.int p4), .val (.int (p4 &&& (3 : Int32))), .val (.int (0 : Int32)), .val (.ref b5), .val (.ref t), .unset] [(.int ((own_b p1) &&& (255 : Int32)))])) _
    refine XS.iloadN X9.here hx rfl (hb hby at_123) rfl ?_
    show Steps p.tables e below (T9.setTop (mkF m 124 #[.val (.int p1), .val (.int p2), .val (.int p3), .val (.int p4), .val (.int (p4 &&& (3 : Int32))), .val (.int (0 : Int32)), .val (.ref b5), .val (.ref t), .unset] [(.int p1), (.int ((own_b p1) &&& (255 : Int32)))])) _
    refine XS.sipush X9.here hx rfl (hb hby at_124) ?_
    show Steps p.tables e below (T9.setTop (mkF m 127 #[.val (.int p1), .val (.int p2), .val (.int p3), .val (.int p4), .val (.int (p4 &&& (3 : Int32))), .val (.int (0 : Int32)), .val (.ref b5), .val (.ref t), .unset] [(.int (255 : Int32)), (.int p1), (.int ((own_b p1) &&& (255 : Int32)))])) _
    refine XS.iand X9.here hx rfl (hb hby at_127) rfl ?_
    show Steps p.tables e below (T9.setTop (mkF m 128 #[.val (.int p1), .val (.int p2), .val (.int p3), .val (.int p4), .val (.int (p4 &&& (3 : Int32))), .val (.int (0 : Int32)), .val (.ref b5), .val (.ref t), .unset] [(.int (p1 &&& (255 : Int32))), (.int ((own_b p1) &&& (255 : Int32)))])) _
    refine XS.icmpYes X9.here hx rfl (pc0 := 128) (pc' := 133) rfl (hb hby at_128) rfl (teq hc128).1 (by decide) (by decide) ?_
    show Steps p.tables e below (T9.setTop (mkF m 133 #[.val (.int p1), .val (.int p2), .val (.int p3), .val (.int p4), .val (.int (p4 &&& (3 : Int32))), .val (.int (0 : Int32)), .val (.ref b5), .val (.ref t), .unset] [])) _
    refine XS.iload X9.here hx rfl (hb hby at_133) rfl ?_
    show Steps p.tables e below (T9.setTop (mkF m 135 #[.val (.int p1), .val (.int p2), .val (.int p3), .val (.int p4), .val (.int (p4 &&& (3 : Int32))), .val (.int (0 : Int32)), .val (.ref b5), .val (.ref t), .unset] [(.int (p4 &&& (3 : Int32)))])) _
    refine XS.iconst X9.here hx rfl (hb hby at_135) ?_
    show Steps p.tables e below (T9.setTop (mkF m 136 #[.val (.int p1), .val (.int p2), .val (.int p3), .val (.int p4), .val (.int (p4 &&& (3 : Int32))), .val (.int (0 : Int32)), .val (.ref b5), .val (.ref t), .unset] [(.int (2 : Int32)), (.int (p4 &&& (3 : Int32)))])) _
    refine XS.icmpYes X9.here hx rfl (pc0 := 136) (pc' := 157) rfl (hb hby at_136) rfl (tlt hc136).1 (by decide) (by decide) ?_
    show Steps p.tables e below (T9.setTop (mkF m 157 #[.val (.int p1), .val (.int p2), .val (.int p3), .val (.int p4), .val (.int (p4 &&& (3 : Int32))), .val (.int (0 : Int32)), .val (.ref b5), .val (.ref t), .unset] [])) _
    refine XS.iload X9.here hx rfl (hb hby at_157) rfl ?_
    show Steps p.tables e below (T9.setTop (mkF m 159 #[.val (.int p1), .val (.int p2), .val (.int p3), .val (.int p4), .val (.int (p4 &&& (3 : Int32))), .val (.int (0 : Int32)), .val (.ref b5), .val (.ref t), .unset] [(.int (p4 &&& (3 : Int32)))])) _
    refine XS.iconst X9.here hx rfl (hb hby at_159) ?_
    show Steps p.tables e below (T9.setTop (mkF m 160 #[.val (.int p1), .val (.int p2), .val (.int p3), .val (.int p4), .val (.int (p4 &&& (3 : Int32))), .val (.int (0 : Int32)), .val (.ref b5), .val (.ref t), .unset] [(.int (3 : Int32)), (.int (p4 &&& (3 : Int32)))])) _
    refine XS.icmpYes X9.here hx rfl (pc0 := 160) (pc' := 181) rfl (hb hby at_160) rfl (tlt hc160).1 (by decide) (by decide) ?_
    show Steps p.tables e below (T9.setTop (mkF m 181 #[.val (.int p1), .val (.int p2), .val (.int p3), .val (.int p4), .val (.int (p4 &&& (3 : Int32))), .val (.int (0 : Int32)), .val (.ref b5), .val (.ref t), .unset] [])) _
    refine XS.iload X9.here hx rfl (hb hby at_181) rfl ?_
    show Steps p.tables e below (T9.setTop (mkF m 183 #[.val (.int p1), .val (.int p2), .val (.int p3), .val (.int p4), .val (.int (p4 &&& (3 : Int32))), .val (.int (0 : Int32)), .val (.ref b5), .val (.ref t), .unset] [(.int (0 : Int32))])) _
    refine XS.ifYes X9.here hx rfl (pc0 := 183) (pc' := 199) rfl (hb hby at_183) rfl ((if0 _ _).trans (teq (rfl : (0 : Int32) = (0 : Int32))).1) (by decide) (by decide) ?_
    show Steps p.tables e below (T9.setTop (mkF m 199 #[.val (.int p1), .val (.int p2), .val (.int p3), .val (.int p4), .val (.int (p4 &&& (3 : Int32))), .val (.int (0 : Int32)), .val (.ref b5), .val (.ref t), .unset] [])) _
    refine XS.iconst X9.here hx rfl (hb hby at_199) ?_
    show Steps p.tables e below (T9.setTop (mkF m 200 #[.val (.int p1), .val (.int p2), .val (.int p3), .val (.int p4), .val (.int (p4 &&& (3 : Int32))), .val (.int (0 : Int32)), .val (.ref b5), .val (.ref t), .unset] [(.int (0 : Int32))])) _
    refine XS.istore X9.here hx rfl (hb hby at_200) rfl (l' := #[.val (.int p1), .val (.int p2), .val (.int p3), .val (.int p4), .val (.int (p4 &&& (3 : Int32))), .val (.int (0 : Int32)), .val (.ref b5), .val (.ref t), .val (.int (0 : Int32))]) rfl ?_
    show Steps p.tables e below (T9.setTop (mkF m 202 #[.val (.int p1), .val (.int p2), .val (.int p3), .val (.int p4), .val (.int (p4 &&& (3 : Int32))), .val (.int (0 : Int32)), .val (.ref b5), .val (.ref t), .val (.int (0 : Int32))] [])) _
    refine XS.aload X9.here hx rfl (hb hby at_202) rfl rfl ?_
    show Steps p.tables e below (T9.setTop (mkF m 204 #[.val (.int p1), .val (.int p2), .val (.int p3), .val (.int p4), .val (.int (p4 &&& (3 : Int32))), .val (.int (0 : Int32)), .val (.ref b5), .val (.ref t), .val (.int (0 : Int32))] [(.ref t)])) _
    refine XS.iload X9.here hx rfl (hb hby at_204) rfl ?_
    show Steps p.tables e below (T9.setTop (mkF m 206 #[.val (.int p1), .val (.int p2), .val (.int p3), .val (.int p4), .val (.int (p4 &&& (3 : Int32))), .val (.int (0 : Int32)), .val (.ref b5), .val (.ref t), .val (.int (0 : Int32))] [(.int (p4 &&& (3 : Int32))), (.ref t)])) _
    refine X9.baloadBytes hx (j := (p4 &&& (3 : Int32))) (v := (.int (0 : Int32))) Ar_t.1 (State.isArrayOf_alike hZ.alike Ar_t.2.1) Ar_t.2.2 hin206 hat206 (g := (mkF m 206 #[.val (.int p1), .val (.int p2), .val (.int p3), .val (.int p4), .val (.int (p4 &&& (3 : Int32))), .val (.int (0 : Int32)), .val (.ref b5), .val (.ref t), .val (.int (0 : Int32))] [(.int (p4 &&& (3 : Int32))), (.ref t)])) rfl rfl (hb hby at_206) _ ?_
    show Steps p.tables e below (T9.setTop (mkF m 207 #[.val (.int p1), .val (.int p2), .val (.int p3), .val (.int p4), .val (.int (p4 &&& (3 : Int32))), .val (.int (0 : Int32)), .val (.ref b5), .val (.ref t), .val (.int (0 : Int32))] [(.int (0 : Int32))])) _
    refine XS.sipush X9.here hx rfl (hb hby at_207) ?_
    show Steps p.tables e below (T9.setTop (mkF m 210 #[.val (.int p1), .val (.int p2), .val (.int p3), .val (.int p4), .val (.int (p4 &&& (3 : Int32))), .val (.int (0 : Int32)), .val (.ref b5), .val (.ref t), .val (.int (0 : Int32))] [(.int (255 : Int32)), (.int (0 : Int32))])) _
    refine XS.iand X9.here hx rfl (hb hby at_210) rfl ?_
    show Steps p.tables e below (T9.setTop (mkF m 211 #[.val (.int p1), .val (.int p2), .val (.int p3), .val (.int p4), .val (.int (p4 &&& (3 : Int32))), .val (.int (0 : Int32)), .val (.ref b5), .val (.ref t), .val (.int (0 : Int32))] [(.int ((0 : Int32) &&& (255 : Int32)))])) _
    refine XS.iload X9.here hx rfl (hb hby at_211) rfl ?_
    show Steps p.tables e below (T9.setTop (mkF m 213 #[.val (.int p1), .val (.int p2), .val (.int p3), .val (.int p4), .val (.int (p4 &&& (3 : Int32))), .val (.int (0 : Int32)), .val (.ref b5), .val (.ref t), .val (.int (0 : Int32))] [(.int (0 : Int32)), (.int ((0 : Int32) &&& (255 : Int32)))])) _
    refine XS.icmpNo X9.here hx rfl (hb hby at_213) rfl (teq hc213).2 ?_
    show Steps p.tables e below (T9.setTop (mkF m 216 #[.val (.int p1), .val (.int p2), .val (.int p3), .val (.int p4), .val (.int (p4 &&& (3 : Int32))), .val (.int (0 : Int32)), .val (.ref b5), .val (.ref t), .val (.int (0 : Int32))] [])) _
    refine XS.iconst X9.here hx rfl (hb hby at_216) ?_
    show Steps p.tables e below (T9.setTop (mkF m 217 #[.val (.int p1), .val (.int p2), .val (.int p3), .val (.int p4), .val (.int (p4 &&& (3 : Int32))), .val (.int (0 : Int32)), .val (.ref b5), .val (.ref t), .val (.int (0 : Int32))] [(.int (1 : Int32))])) _
    refine XS.goto X9.here hx rfl (pc0 := 217) (pc' := 221) rfl (hb hby at_217) (by decide) (by decide) ?_
    show Steps p.tables e below (T9.setTop (mkF m 221 #[.val (.int p1), .val (.int p2), .val (.int p3), .val (.int p4), .val (.int (p4 &&& (3 : Int32))), .val (.int (0 : Int32)), .val (.ref b5), .val (.ref t), .val (.int (0 : Int32))] [(.int (1 : Int32))])) _
    exact retN X9 hx (t := .boolean) Bd.returns (by simp) (hb hby at_221) hr
  · show Q0 Z p1 p2 p3 p4 h0 n0 _ T9.heap _
    exact ⟨rfl, N9⟩
set_option maxRecDepth 65536 in
set_option maxHeartbeats 40000000 in
theorem rm0_o2 (l : Launch) (Z : State) (a0 : Array Value) (hw : ∀ d ∈ tables_1, d.before a0 Z = true) (ws : List Jvm.Cond) (p1 : Int32) (p2 : Int32) (p3 : Int32) (p4 : Int32) (h0 : Heap) (n0 : Nat) (Z0 : n0 ≤ h0.size) (hn : (p4 &&& (3 : Int32)) = (2 : Int32)) (hc8 : (p4 &&& (4 : Int32)) = (0 : Int32)) (hc46 : ¬ ((p4 &&& (3 : Int32)) < (1 : Int32))) (hc58 : ¬ ((p4 &&& (3 : Int32)) < (2 : Int32))) (hc70 : (p4 &&& (3 : Int32)) < (3 : Int32)) (hc112 : ¬ ((p4 &&& (3 : Int32)) < (1 : Int32))) (hc128 : ((own_b p1) &&& (255 : Int32)) = (p1 &&& (255 : Int32))) (hc136 : ¬ ((p4 &&& (3 : Int32)) < (2 : Int32))) (hc152 : ((own_b p2) &&& (255 : Int32)) = (p2 &&& (255 : Int32))) (hc160 : (p4 &&& (3 : Int32)) < (3 : Int32)) (hc213 : ((0 : Int32) &&& (255 : Int32)) = (0 : Int32)) (hx86 : (((0 : Int32) + (1 : Int32)) + (1 : Int32)) = (p4 &&& (3 : Int32))) (hx104 : (256 : Int32) = (256 : Int32)) :
    MetFree l x (head1 (Jvm.Cond.code x code maxLocals ret :: ws) room_1) (fun a U => a = #[(.int p1), (.int p2), (.int p3), (.int p4)] ∧ Z.Warmed39 U.vm ∧ U.heap = h0) (fun _ _ _ _ _ => True) (fun _ U o U' => ∃ v L, o = .returned v ∧ Q0 Z p1 p2 p3 p4 h0 n0 v U'.heap L ∧ FrameEnd U o U' L room_1.cells room_1.slots) := by
  refine MetFree.of_bodySF (plainFor_of_name pn_0) hisR ?_
  intro p e s m args below meth c s₁ Bd hml0 hP hK
  obtain ⟨rfl, hZ, hh⟩ := hP
  have hx := Bd.exec
  have hby := Bd.bytes
  have hml : c.maxLocals = 9 := hml0
  have hown : s.vm.findClass "com/example/verdant_canopy/verdantcanopy/core/CanonicalBufferPutPinLaw" = some m.cls := findClass_of_methodNamed Bd.named
  have hnm := (name_of_methodNamed Bd.named Bd.method).1
  have X0 : Stand p l e room_1 s m #[(.int p1), (.int p2), (.int p3), (.int p4)] below meth c s₁ [] 0 0 := Stand.of_body Bd
  have e0 : s₁.heap = h0 := by rw [← hh, Bd.state]; rfl
  have N0 := Fr.nil n0
  have pre0 : ∀ t, Steps p.tables e below (s₁.setTop (mkF m 0 #[.val (.int p1), .val (.int p2), .val (.int p3), .val (.int p4), .unset, .unset, .unset, .unset, .unset] [])) t → Steps p.tables e below (s₁.setTop (entryFrame m #[(.int p1), (.int p2), (.int p3), (.int p4)] maxLocals)) t := fun t k => castTop (ef_0 m p1 p2 p3 p4) k
  obtain ⟨T5, h5, X5, e5, E5, A5, D5, -, st5⟩ := newO X0 hx hZ hown (hw _ (List.mem_of_getElem? (i := 0) rfl)) (hw _ (List.mem_of_getElem? (i := 1) rfl)) (hw _ (List.mem_of_getElem? (i := 2) rfl)) e0 (g := (mkF m 18 #[.val (.int p1), .val (.int p2), .val (.int p3), .val (.int p4), .val (.int (p4 &&& (3 : Int32))), .val (.int (0 : Int32)), .unset, .unset, .unset] [])) rfl (hb hby at_18) (by decide) (by decide)
  obtain ⟨b5, g5⟩ : ∃ z, z = h0.size := ⟨_, rfl⟩
  rw [← g5] at A5 D5 st5
  have F_bytes_b5 : Fld Z h5 b5 "com/example/verdant_canopy/verdantcanopy/core/CanonicalBuffer" "bytes" "[B" .null := D5 (Or.inl (hw _ (List.mem_of_getElem? (i := 11) rfl))) (ty := (.array .byte)) (by decide)
  have F_length_b5 : Fld Z h5 b5 "com/example/verdant_canopy/verdantcanopy/core/CanonicalBuffer" "length" "I" (.int (0 : Int32)) := D5 (Or.inl (hw _ (List.mem_of_getElem? (i := 18) rfl))) (ty := .int) (by decide)
  have E_b5 := A5
  have g_b5 : n0 ≤ b5 := Nat.le_trans Z0 (Nat.le_of_eq g5.symm)
  have sz_b5 : h0.size ≤ b5 := (Nat.le_trans (Keep.refl h0 []).1 (Nat.le_of_eq g5.symm))
  have K5 : Keep h0 h5 [] := (Keep.refl h0 []).ext E5
  obtain ⟨_, _, ⟨T6, L6, k6, n6⟩, -, X6, ⟨Lc6, hQ6, l6, y6, z6⟩, st6⟩ := X5.specialBack hx (y := (⟨"com/example/verdant_canopy/verdantcanopy/core/CanonicalBuffer", "<init>", "()V"⟩ : MethodName)) rfl hown (mvT hZ (hw _ (List.mem_of_getElem? (i := 3) rfl))) (mvT hZ (hw _ (List.mem_of_getElem? (i := 4) rfl))) (mvT hZ (hw _ (List.mem_of_getElem? (i := 5) rfl))) (by decide) (backOf (W := 1) (rm1 l Z a0 hw [] b5 .null h5 n0 (Nat.le_trans Z0 E5.1) E_b5 F_bytes_b5 g_b5 F_length_b5) hZ (hw _ (List.mem_of_getElem? (i := 5) rfl)) (hw _ (List.mem_of_getElem? (i := 2) rfl)) (by decide) (by decide)) (g := (mkF m 22 #[.val (.int p1), .val (.int p2), .val (.int p3), .val (.int p4), .val (.int (p4 &&& (3 : Int32))), .val (.int (0 : Int32)), .unset, .unset, .unset] [(.ref b5), (.ref b5)])) rfl (by rw [hml]; rfl) (Steps.refl _) (a := b5) (argsL := []) (rest := [(.ref b5)]) (lenOf pd_0_0 rfl) rfl (by show 2 * 0 + _ ≤ _; exact Nat.le_of_eq rfl) (hb hby at_22) (fun _ _ => ⟨rfl, e5, (by decide : 1 + 1 ≤ _), (by decide : 2 + 256 ≤ _)⟩)
  dsimp only [Pt.U, Pt.locs, Pt.cells, Pt.slots] at X6 l6 y6 z6 st6 hQ6
  subst l6 y6 z6
  obtain ⟨rfl, N6q, K6q, t, kc, gt, B6⟩ := hQ6
  have Z6 : n0 ≤ T6.heap.size := Nat.le_trans (Nat.le_trans Z0 E5.1) K6q.1
  have N6 := Fr.app N0 N6q
  obtain ⟨cq7, kq7, q7a, q7b, q7c⟩ := isOf hZ rfl B6.1
  obtain ⟨_, _, ⟨T7, L7, k7, n7⟩, -, X7, ⟨Lc7, hQ7, l7, y7, z7⟩, st7⟩ := X6.virtualBack hx (y := (⟨"com/example/verdant_canopy/verdantcanopy/core/CanonicalBuffer", "put", "(I)V"⟩ : MethodName)) (z := (⟨"com/example/verdant_canopy/verdantcanopy/core/CanonicalBuffer", "put", "(I)V"⟩ : MethodName)) hown (mvT hZ (hw _ (List.mem_of_getElem? (i := 12) rfl))) (mvT hZ (hw _ (List.mem_of_getElem? (i := 13) rfl))) (notFace_of_selects (args := #[]) (mvT hZ (hw _ (List.mem_of_getElem? (i := 15) rfl)))) (mvT hZ (hw _ (List.mem_of_getElem? (i := 15) rfl))) (mvT hZ (hw _ (List.mem_of_getElem? (i := 14) rfl))) (by decide) (backOf (W := 0) (rm3 l Z a0 hw [] b5 p1 t kc (0 : Int32) ([(.int (0 : Int32)), (.int (0 : Int32)), (.int (0 : Int32)), (.int (0 : Int32))] : List Value) 0 T6.heap n0 Z6 B6 g_b5 gt (by decide) (Nat.le_of_ble_eq_true rfl) ⟨by decide, by decide⟩) hZ (hw _ (List.mem_of_getElem? (i := 16) rfl)) (hw _ (List.mem_of_getElem? (i := 2) rfl)) (by decide) (by decide)) q7a q7c (g := (mkF m 52 #[.val (.int p1), .val (.int p2), .val (.int p3), .val (.int p4), .val (.int (p4 &&& (3 : Int32))), .val (.int (0 : Int32)), .val (.ref b5), .unset, .unset] [(.int p1), (.ref b5)])) rfl (by rw [hml]; rfl) (Steps.refl _) (argsL := [(.int p1)]) (rest := []) (lenOf pd_0_1 rfl) rfl (by show 2 * 0 + _ ≤ _; exact Nat.le_of_eq rfl) (hb hby at_52) (fun _ _ => ⟨rfl, rfl, (by decide : 1 + (1 + 0) ≤ _), (by decide : 2 + (256 + 0) ≤ _)⟩)
  dsimp only [Pt.U, Pt.locs, Pt.cells, Pt.slots] at X7 l7 y7 z7 st7 hQ7
  subst l7 y7 z7
  obtain ⟨rfl, N7q, K7q, B7⟩ := hQ7
  have Z7 : n0 ≤ T7.heap.size := Nat.le_trans Z6 K7q.1
  have N7 := Fr.app N6 N7q
  obtain ⟨cq8, kq8, q8a, q8b, q8c⟩ := isOf hZ rfl B7.1
  obtain ⟨_, _, ⟨T8, L8, k8, n8⟩, -, X8, ⟨Lc8, hQ8, l8, y8, z8⟩, st8⟩ := X7.virtualBack hx (y := (⟨"com/example/verdant_canopy/verdantcanopy/core/CanonicalBuffer", "put", "(I)V"⟩ : MethodName)) (z := (⟨"com/example/verdant_canopy/verdantcanopy/core/CanonicalBuffer", "put", "(I)V"⟩ : MethodName)) hown (mvT hZ (hw _ (List.mem_of_getElem? (i := 12) rfl))) (mvT hZ (hw _ (List.mem_of_getElem? (i := 13) rfl))) (notFace_of_selects (args := #[]) (mvT hZ (hw _ (List.mem_of_getElem? (i := 15) rfl)))) (mvT hZ (hw _ (List.mem_of_getElem? (i := 15) rfl))) (mvT hZ (hw _ (List.mem_of_getElem? (i := 14) rfl))) (by decide) (backOf (W := 0) (rm3 l Z a0 hw [] b5 p2 t kc ((0 : Int32) + (1 : Int32)) (([(.int (0 : Int32)), (.int (0 : Int32)), (.int (0 : Int32)), (.int (0 : Int32))] : List Value).set 0 (.int (own_b p1))) 1 T7.heap n0 Z7 B7 g_b5 gt (by decide) (Nat.le_of_ble_eq_true rfl) ⟨by decide, by decide⟩) hZ (hw _ (List.mem_of_getElem? (i := 16) rfl)) (hw _ (List.mem_of_getElem? (i := 2) rfl)) (by decide) (by decide)) q8a q8c (g := (mkF m 64 #[.val (.int p1), .val (.int p2), .val (.int p3), .val (.int p4), .val (.int (p4 &&& (3 : Int32))), .val (.int (0 : Int32)), .val (.ref b5), .unset, .unset] [(.int p2), (.ref b5)])) rfl (by rw [hml]; rfl) (Steps.refl _) (argsL := [(.int p2)]) (rest := []) (lenOf pd_0_1 rfl) rfl (by show 2 * 0 + _ ≤ _; exact Nat.le_of_eq rfl) (hb hby at_64) (fun _ _ => ⟨rfl, rfl, (by decide : 1 + (1 + 0) ≤ _), (by decide : 2 + (256 + 0) ≤ _)⟩)
  dsimp only [Pt.U, Pt.locs, Pt.cells, Pt.slots] at X8 l8 y8 z8 st8 hQ8
  subst l8 y8 z8
  obtain ⟨rfl, N8q, K8q, B8⟩ := hQ8
  have Z8 : n0 ≤ T8.heap.size := Nat.le_trans Z7 K8q.1
  have N8 := Fr.app N7 N8q
  obtain ⟨cq9, kq9, q9a, q9b, q9c⟩ := isOf hZ rfl B8.1
  obtain ⟨_, _, ⟨T9, L9, k9, n9⟩, -, X9, ⟨Lc9, hQ9, l9, y9, z9⟩, st9⟩ := X8.virtualBack hx (y := (⟨"com/example/verdant_canopy/verdantcanopy/core/CanonicalBuffer", "length", "()I"⟩ : MethodName)) (z := (⟨"com/example/verdant_canopy/verdantcanopy/core/CanonicalBuffer", "length", "()I"⟩ : MethodName)) hown (mvT hZ (hw _ (List.mem_of_getElem? (i := 19) rfl))) (mvT hZ (hw _ (List.mem_of_getElem? (i := 20) rfl))) (notFace_of_selects (args := #[]) (mvT hZ (hw _ (List.mem_of_getElem? (i := 22) rfl)))) (mvT hZ (hw _ (List.mem_of_getElem? (i := 22) rfl))) (mvT hZ (hw _ (List.mem_of_getElem? (i := 21) rfl))) (by decide) (backOf (W := 0) (rm4 l Z a0 hw [] b5 (((0 : Int32) + (1 : Int32)) + (1 : Int32)) T8.heap n0 Z8 B8.2.2.1) hZ (hw _ (List.mem_of_getElem? (i := 23) rfl)) (hw _ (List.mem_of_getElem? (i := 2) rfl)) (by decide) (by decide)) q9a q9c (g := (mkF m 81 #[.val (.int p1), .val (.int p2), .val (.int p3), .val (.int p4), .val (.int (p4 &&& (3 : Int32))), .val (.int (0 : Int32)), .val (.ref b5), .unset, .unset] [(.ref b5)])) rfl (by rw [hml]; rfl) (Steps.refl _) (argsL := []) (rest := []) (lenOf pd_0_2 rfl) rfl (by show 2 * 0 + _ ≤ _; exact Nat.le_of_eq rfl) (hb hby at_81) (fun _ _ => ⟨rfl, rfl, (by decide : 1 + (1 + 0) ≤ _), (by decide : 2 + (256 + 0) ≤ _)⟩)
  dsimp only [Pt.U, Pt.locs, Pt.cells, Pt.slots] at X9 l9 y9 z9 st9 hQ9
  subst l9 y9 z9
  obtain ⟨rfl, N9q, e9q⟩ := hQ9
  have Z9 : n0 ≤ T9.heap.size := by rw [e9q]; exact Z8
  have B9 : own_B Z T9.heap b5 t kc (((0 : Int32) + (1 : Int32)) + (1 : Int32)) ((([(.int (0 : Int32)), (.int (0 : Int32)), (.int (0 : Int32)), (.int (0 : Int32))] : List Value).set 0 (.int (own_b p1))).set 1 (.int (own_b p2))) := by rw [e9q]; exact B8
  have N9 := Fr.app N8 N9q
  obtain ⟨cq10, kq10, q10a, q10b, q10c⟩ := isOf hZ rfl B9.1
  obtain ⟨_, _, ⟨T10, L10, k10, n10⟩, -, X10, ⟨Lc10, hQ10, l10, y10, z10⟩, st10⟩ := X9.virtualBack hx (y := (⟨"com/example/verdant_canopy/verdantcanopy/core/CanonicalBuffer", "bytes", "()[B"⟩ : MethodName)) (z := (⟨"com/example/verdant_canopy/verdantcanopy/core/CanonicalBuffer", "bytes", "()[B"⟩ : MethodName)) hown (mvT hZ (hw _ (List.mem_of_getElem? (i := 24) rfl))) (mvT hZ (hw _ (List.mem_of_getElem? (i := 25) rfl))) (notFace_of_selects (args := #[]) (mvT hZ (hw _ (List.mem_of_getElem? (i := 27) rfl)))) (mvT hZ (hw _ (List.mem_of_getElem? (i := 27) rfl))) (mvT hZ (hw _ (List.mem_of_getElem? (i := 26) rfl))) (by decide) (backOf (W := 0) (rm5 l Z a0 hw [] b5 t T9.heap n0 Z9 B9.2.1) hZ (hw _ (List.mem_of_getElem? (i := 28) rfl)) (hw _ (List.mem_of_getElem? (i := 2) rfl)) (by decide) (by decide)) q10a q10c (g := (mkF m 93 #[.val (.int p1), .val (.int p2), .val (.int p3), .val (.int p4), .val (.int (p4 &&& (3 : Int32))), .val (.int (0 : Int32)), .val (.ref b5), .unset, .unset] [(.ref b5)])) rfl (by rw [hml]; rfl) (Steps.refl _) (argsL := []) (rest := []) (lenOf pd_0_3 rfl) rfl (by show 2 * 0 + _ ≤ _; exact Nat.le_of_eq rfl) (hb hby at_93) (fun _ _ => ⟨rfl, rfl, (by decide : 1 + (1 + 0) ≤ _), (by decide : 2 + (256 + 0) ≤ _)⟩)
  dsimp only [Pt.U, Pt.locs, Pt.cells, Pt.slots] at X10 l10 y10 z10 st10 hQ10
  subst l10 y10 z10
  obtain ⟨rfl, N10q, e10q⟩ := hQ10
  have Z10 : n0 ≤ T10.heap.size := by rw [e10q]; exact Z9
  have B10 : own_B Z T10.heap b5 t kc (((0 : Int32) + (1 : Int32)) + (1 : Int32)) ((([(.int (0 : Int32)), (.int (0 : Int32)), (.int (0 : Int32)), (.int (0 : Int32))] : List Value).set 0 (.int (own_b p1))).set 1 (.int (own_b p2))) := by rw [e10q]; exact B9
  obtain ⟨cl_t, Ar_t, q_t, S_t, N_t, H_t, G_t⟩ := B10.2.2.2.1
  have hin118 : ¬ ((0 : Int32) < 0 ∨ cl_t.slots.size ≤ ((0 : Int32)).toNatClampNeg) := inb_of S_t ⟨by decide, by decide⟩
  have hat118 : cl_t.slots[((0 : Int32)).toNatClampNeg]? = some (.int (own_b p1)) := Has.at H_t hin118 rfl
  have hin142 : ¬ ((1 : Int32) < 0 ∨ cl_t.slots.size ≤ ((1 : Int32)).toNatClampNeg) := inb_of S_t ⟨by decide, by decide⟩
  have hat142 : cl_t.slots[((1 : Int32)).toNatClampNeg]? = some (.int (own_b p2)) := Has.at H_t hin142 rfl
  have hin206 : ¬ ((p4 &&& (3 : Int32)) < 0 ∨ cl_t.slots.size ≤ ((p4 &&& (3 : Int32))).toNatClampNeg) := inb_of S_t ⟨by rw [hn]; decide, by rw [hn]; decide⟩
  have hat206 : cl_t.slots[((p4 &&& (3 : Int32))).toNatClampNeg]? = some (.int (0 : Int32)) := Has.at H_t hin206 (by rw [hn]; rfl)
  have N10 := Fr.app N9 N10q
  obtain ⟨fs, hr, hrun, hended, hW, hsame⟩ := X10.leave (v := some (.int (1 : Int32))) (fun h => by rw [Bd.returns] at h; cases h)
  refine ⟨_, _, pre0 _ ?_, hrun, hended, _, _, rfl, ?_, ⟨_, rfl⟩, hW, hsame.mono (by decide) (by decide)⟩
  · show Steps p.tables e below (s₁.setTop (mkF m 0 #[.val (.int p1), .val (.int p2), .val (.int p3), .val (.int p4), .unset, .unset, .unset, .unset, .unset] [])) _
    refine XS.iloadN X0.here hx rfl (hb hby at_0) rfl ?_
    show Steps p.tables e below (s₁.setTop (mkF m 1 #[.val (.int p1), .val (.int p2), .val (.int p3), .val (.int p4), .unset, .unset, .unset, .unset, .unset] [(.int p4)])) _
    refine XS.iconst X0.here hx rfl (hb hby at_1) ?_
    show Steps p.tables e below (s₁.setTop (mkF m 2 #[.val (.int p1), .val (.int p2), .val (.int p3), .val (.int p4), .unset, .unset, .unset, .unset, .unset] [(.int (3 : Int32)), (.int p4)])) _
    refine XS.iand X0.here hx rfl (hb hby at_2) rfl ?_
    show Steps p.tables e below (s₁.setTop (mkF m 3 #[.val (.int p1), .val (.int p2), .val (.int p3), .val (.int p4), .unset, .unset, .unset, .unset, .unset] [(.int (p4 &&& (3 : Int32)))])) _
    refine XS.istore X0.here hx rfl (hb hby at_3) rfl (l' := #[.val (.int p1), .val (.int p2), .val (.int p3), .val (.int p4), .val (.int (p4 &&& (3 : Int32))), .unset, .unset, .unset, .unset]) rfl ?_
    show Steps p.tables e below (s₁.setTop (mkF m 5 #[.val (.int p1), .val (.int p2), .val (.int p3), .val (.int p4), .val (.int (p4 &&& (3 : Int32))), .unset, .unset, .unset, .unset] [])) _
    refine XS.iloadN X0.here hx rfl (hb hby at_5) rfl ?_
    show Steps p.tables e below (s₁.setTop (mkF m 6 #[.val (.int p1), .val (.int p2), .val (.int p3), .val (.int p4), .val (.int (p4 &&& (3 : Int32))), .unset, .unset, .unset, .unset] [(.int p4)])) _
    refine XS.iconst X0.here hx rfl (hb hby at_6) ?_
    show Steps p.tables e below (s₁.setTop (mkF m 7 #[.val (.int p1), .val (.int p2), .val (.int p3), .val (.int p4), .val (.int (p4 &&& (3 : Int32))), .unset, .unset, .unset, .unset] [(.int (4 : Int32)), (.int p4)])) _
    refine XS.iand X0.here hx rfl (hb hby at_7) rfl ?_
    show Steps p.tables e below (s₁.setTop (mkF m 8 #[.val (.int p1), .val (.int p2), .val (.int p3), .val (.int p4), .val (.int (p4 &&& (3 : Int32))), .unset, .unset, .unset, .unset] [(.int (p4 &&& (4 : Int32)))])) _
    refine XS.ifYes X0.here hx rfl (pc0 := 8) (pc' := 15) rfl (hb hby at_8) rfl ((if0 _ _).trans (teq hc8).1) (by decide) (by decide) ?_
    show Steps p.tables e below (s₁.setTop (mkF m 15 #[.val (.int p1), .val (.int p2), .val (.int p3), .val (.int p4), .val (.int (p4 &&& (3 : Int32))), .unset, .unset, .unset, .unset] [])) _
    refine XS.iconst X0.here hx rfl (hb hby at_15) ?_
    show Steps p.tables e below (s₁.setTop (mkF m 16 #[.val (.int p1), .val (.int p2), .val (.int p3), .val (.int p4), .val (.int (p4 &&& (3 : Int32))), .unset, .unset, .unset, .unset] [(.int (0 : Int32))])) _
    refine XS.istore X0.here hx rfl (hb hby at_16) rfl (l' := #[.val (.int p1), .val (.int p2), .val (.int p3), .val (.int p4), .val (.int (p4 &&& (3 : Int32))), .val (.int (0 : Int32)), .unset, .unset, .unset]) rfl ?_
    show Steps p.tables e below (s₁.setTop (mkF m 18 #[.val (.int p1), .val (.int p2), .val (.int p3), .val (.int p4), .val (.int (p4 &&& (3 : Int32))), .val (.int (0 : Int32)), .unset, .unset, .unset] [])) _
    refine st5 _ ?_
    show Steps p.tables e below (T5.setTop (mkF m 21 #[.val (.int p1), .val (.int p2), .val (.int p3), .val (.int p4), .val (.int (p4 &&& (3 : Int32))), .val (.int (0 : Int32)), .unset, .unset, .unset] [(.ref b5)])) _
    refine XS.dup X5.here hx rfl (hb hby at_21) rfl rfl ?_
    show Steps p.tables e below (T5.setTop (mkF m 22 #[.val (.int p1), .val (.int p2), .val (.int p3), .val (.int p4), .val (.int (p4 &&& (3 : Int32))), .val (.int (0 : Int32)), .unset, .unset, .unset] [(.ref b5), (.ref b5)])) _
    refine st6.trans ?_
    show Steps p.tables e below (T6.setTop (mkF m 25 #[.val (.int p1), .val (.int p2), .val (.int p3), .val (.int p4), .val (.int (p4 &&& (3 : Int32))), .val (.int (0 : Int32)), .unset, .unset, .unset] [(.ref b5)])) _
    refine XS.astore X6.here hx rfl (hb hby at_25) rfl rfl (l' := #[.val (.int p1), .val (.int p2), .val (.int p3), .val (.int p4), .val (.int (p4 &&& (3 : Int32))), .val (.int (0 : Int32)), .val (.ref b5), .unset, .unset]) rfl ?_
    show Steps p.tables e below (T6.setTop (mkF m 27 #[.val (.int p1), .val (.int p2), .val (.int p3), .val (.int p4), .val (.int (p4 &&& (3 : Int32))), .val (.int (0 : Int32)), .val (.ref b5), .unset, .unset] [])) _
    refine XS.iload X6.here hx rfl (hb hby at_27) rfl ?_
    show Steps p.tables e below (T6.setTop (mkF m 29 #[.val (.int p1), .val (.int p2), .val (.int p3), .val (.int p4), .val (.int (p4 &&& (3 : Int32))), .val (.int (0 : Int32)), .val (.ref b5), .unset, .unset] [(.int (0 : Int32))])) _
    refine XS.ifYes X6.here hx rfl (pc0 := 29) (pc' := 43) rfl (hb hby at_29) rfl ((if0 _ _).trans (teq (rfl : (0 : Int32) = (0 : Int32))).1) (by decide) (by decide) ?_
    show Steps p.tables e below (T6.setTop (mkF m 43 #[.val (.int p1), .val (.int p2), .val (.int p3), .val (.int p4), .val (.int (p4 &&& (3 : Int32))), .val (.int (0 : Int32)), .val (.ref b5), .unset, .unset] [])) _
    refine XS.iload X6.here hx rfl (hb hby at_43) rfl ?_
    show Steps p.tables e below (T6.setTop (mkF m 45 #[.val (.int p1), .val (.int p2), .val (.int p3), .val (.int p4), .val (.int (p4 &&& (3 : Int32))), .val (.int (0 : Int32)), .val (.ref b5), .unset, .unset] [(.int (p4 &&& (3 : Int32)))])) _
    refine XS.iconst X6.here hx rfl (hb hby at_45) ?_
    show Steps p.tables e below (T6.setTop (mkF m 46 #[.val (.int p1), .val (.int p2), .val (.int p3), .val (.int p4), .val (.int (p4 &&& (3 : Int32))), .val (.int (0 : Int32)), .val (.ref b5), .unset, .unset] [(.int (1 : Int32)), (.int (p4 &&& (3 : Int32)))])) _
    refine XS.icmpNo X6.here hx rfl (hb hby at_46) rfl (flt hc46).1 ?_
    show Steps p.tables e below (T6.setTop (mkF m 49 #[.val (.int p1), .val (.int p2), .val (.int p3), .val (.int p4), .val (.int (p4 &&& (3 : Int32))), .val (.int (0 : Int32)), .val (.ref b5), .unset, .unset] [])) _
    refine XS.aload X6.here hx rfl (hb hby at_49) rfl rfl ?_
    show Steps p.tables e below (T6.setTop (mkF m 51 #[.val (.int p1), .val (.int p2), .val (.int p3), .val (.int p4), .val (.int (p4 &&& (3 : Int32))), .val (.int (0 : Int32)), .val (.ref b5), .unset, .unset] [(.ref b5)])) _
    refine XS.iloadN X6.here hx rfl (hb hby at_51) rfl ?_
    show Steps p.tables e below (T6.setTop (mkF m 52 #[.val (.int p1), .val (.int p2), .val (.int p3), .val (.int p4), .val (.int (p4 &&& (3 : Int32))), .val (.int (0 : Int32)), .val (.ref b5), .unset, .unset] [(.int p1), (.ref b5)])) _
    refine st7.trans ?_
    show Steps p.tables e below (T7.setTop (mkF m 55 #[.val (.int p1), .val (.int p2), .val (.int p3), .val (.int p4), .val (.int (p4 &&& (3 : Int32))), .val (.int (0 : Int32)), .val (.ref b5), .unset, .unset] [])) _
    refine XS.iload X7.here hx rfl (hb hby at_55) rfl ?_
    show Steps p.tables e below (T7.setTop (mkF m 57 #[.val (.int p1), .val (.int p2), .val (.int p3), .val (.int p4), .val (.int (p4 &&& (3 : Int32))), .val (.int (0 : Int32)), .val (.ref b5), .unset, .unset] [(.int (p4 &&& (3 : Int32)))])) _
    refine XS.iconst X7.here hx rfl (hb hby at_57) ?_
    show Steps p.tables e below (T7.setTop (mkF m 58 #[.val (.int p1), .val (.int p2), .val (.int p3), .val (.int p4), .val (.int (p4 &&& (3 : Int32))), .val (.int (0 : Int32)), .val (.ref b5), .unset, .unset] [(.int (2 : Int32)), (.int (p4 &&& (3 : Int32)))])) _
    refine XS.icmpNo X7.here hx rfl (hb hby at_58) rfl (flt hc58).1 ?_
    show Steps p.tables e below (T7.setTop (mkF m 61 #[.val (.int p1), .val (.int p2), .val (.int p3), .val (.int p4), .val (.int (p4 &&& (3 : Int32))), .val (.int (0 : Int32)), .val (.ref b5), .unset, .unset] [])) _
    refine XS.aload X7.here hx rfl (hb hby at_61) rfl rfl ?_
    show Steps p.tables e below (T7.setTop (mkF m 63 #[.val (.int p1), .val (.int p2), .val (.int p3), .val (.int p4), .val (.int (p4 &&& (3 : Int32))), .val (.int (0 : Int32)), .val (.ref b5), .unset, .unset] [(.ref b5)])) _
    refine XS.iloadN X7.here hx rfl (hb hby at_63) rfl ?_
    show Steps p.tables e below (T7.setTop (mkF m 64 #[.val (.int p1), .val (.int p2), .val (.int p3), .val (.int p4), .val (.int (p4 &&& (3 : Int32))), .val (.int (0 : Int32)), .val (.ref b5), .unset, .unset] [(.int p2), (.ref b5)])) _
    refine st8.trans ?_
    show Steps p.tables e below (T8.setTop (mkF m 67 #[.val (.int p1), .val (.int p2), .val (.int p3), .val (.int p4), .val (.int (p4 &&& (3 : Int32))), .val (.int (0 : Int32)), .val (.ref b5), .unset, .unset] [])) _
    refine XS.iload X8.here hx rfl (hb hby at_67) rfl ?_
    show Steps p.tables e below (T8.setTop (mkF m 69 #[.val (.int p1), .val (.int p2), .val (.int p3), .val (.int p4), .val (.int (p4 &&& (3 : Int32))), .val (.int (0 : Int32)), .val (.ref b5), .unset, .unset] [(.int (p4 &&& (3 : Int32)))])) _
    refine XS.iconst X8.here hx rfl (hb hby at_69) ?_
    show Steps p.tables e below (T8.setTop (mkF m 70 #[.val (.int p1), .val (.int p2), .val (.int p3), .val (.int p4), .val (.int (p4 &&& (3 : Int32))), .val (.int (0 : Int32)), .val (.ref b5), .unset, .unset] [(.int (3 : Int32)), (.int (p4 &&& (3 : Int32)))])) _
    refine XS.icmpYes X8.here hx rfl (pc0 := 70) (pc' := 79) rfl (hb hby at_70) rfl (tlt hc70).1 (by decide) (by decide) ?_
    show Steps p.tables e below (T8.setTop (mkF m 79 #[.val (.int p1), .val (.int p2), .val (.int p3), .val (.int p4), .val (.int (p4 &&& (3 : Int32))), .val (.int (0 : Int32)), .val (.ref b5), .unset, .unset] [])) _
    refine XS.aload X8.here hx rfl (hb hby at_79) rfl rfl ?_
    show Steps p.tables e below (T8.setTop (mkF m 81 #[.val (.int p1), .val (.int p2), .val (.int p3), .val (.int p4), .val (.int (p4 &&& (3 : Int32))), .val (.int (0 : Int32)), .val (.ref b5), .unset, .unset] [(.ref b5)])) _
    refine st9.trans ?_
    show Steps p.tables e below (T9.setTop (mkF m 84 #[.val (.int p1), .val (.int p2), .val (.int p3), .val (.int p4), .val (.int (p4 &&& (3 : Int32))), .val (.int (0 : Int32)), .val (.ref b5), .unset, .unset] [(.int (((0 : Int32) + (1 : Int32)) + (1 : Int32)))])) _
    refine XS.iload X9.here hx rfl (hb hby at_84) rfl ?_
    show Steps p.tables e below (T9.setTop (mkF m 86 #[.val (.int p1), .val (.int p2), .val (.int p3), .val (.int p4), .val (.int (p4 &&& (3 : Int32))), .val (.int (0 : Int32)), .val (.ref b5), .unset, .unset] [(.int (p4 &&& (3 : Int32))), (.int (((0 : Int32) + (1 : Int32)) + (1 : Int32)))])) _
    refine XS.icmpYes X9.here hx rfl (pc0 := 86) (pc' := 91) rfl (hb hby at_86) rfl (teq hx86).1 (by decide) (by decide) ?_
    show Steps p.tables e below (T9.setTop (mkF m 91 #[.val (.int p1), .val (.int p2), .val (.int p3), .val (.int p4), .val (.int (p4 &&& (3 : Int32))), .val (.int (0 : Int32)), .val (.ref b5), .unset, .unset] [])) _
    refine XS.aload X9.here hx rfl (hb hby at_91) rfl rfl ?_
    show Steps p.tables e below (T9.setTop (mkF m 93 #[.val (.int p1), .val (.int p2), .val (.int p3), .val (.int p4), .val (.int (p4 &&& (3 : Int32))), .val (.int (0 : Int32)), .val (.ref b5), .unset, .unset] [(.ref b5)])) _
    refine st10.trans ?_
    show Steps p.tables e below (T10.setTop (mkF m 96 #[.val (.int p1), .val (.int p2), .val (.int p3), .val (.int p4), .val (.int (p4 &&& (3 : Int32))), .val (.int (0 : Int32)), .val (.ref b5), .unset, .unset] [(.ref t)])) _
    refine XS.astore X10.here hx rfl (hb hby at_96) rfl rfl (l' := #[.val (.int p1), .val (.int p2), .val (.int p3), .val (.int p4), .val (.int (p4 &&& (3 : Int32))), .val (.int (0 : Int32)), .val (.ref b5), .val (.ref t), .unset]) rfl ?_
    show Steps p.tables e below (T10.setTop (mkF m 98 #[.val (.int p1), .val (.int p2), .val (.int p3), .val (.int p4), .val (.int (p4 &&& (3 : Int32))), .val (.int (0 : Int32)), .val (.ref b5), .val (.ref t), .unset] [])) _
    refine XS.aload X10.here hx rfl (hb hby at_98) rfl rfl ?_
    show Steps p.tables e below (T10.setTop (mkF m 100 #[.val (.int p1), .val (.int p2), .val (.int p3), .val (.int p4), .val (.int (p4 &&& (3 : Int32))), .val (.int (0 : Int32)), .val (.ref b5), .val (.ref t), .unset] [(.ref t)])) _
    refine X10.arraylength hx Ar_t.1 (State.isArrayOf_alike hZ.alike Ar_t.2.1) (g := (mkF m 100 #[.val (.int p1), .val (.int p2), .val (.int p3), .val (.int p4), .val (.int (p4 &&& (3 : Int32))), .val (.int (0 : Int32)), .val (.ref b5), .val (.ref t), .unset] [(.ref t)])) rfl rfl (hb hby at_100) _ ?_
    rw [len_of S_t N_t]
    show Steps p.tables e below (T10.setTop (mkF m 101 #[.val (.int p1), .val (.int p2), .val (.int p3), .val (.int p4), .val (.int (p4 &&& (3 : Int32))), .val (.int (0 : Int32)), .val (.ref b5), .val (.ref t), .unset] [(.int (256 : Int32))])) _
    refine XS.sipush X10.here hx rfl (hb hby at_101) ?_
    show Steps p.tables e below (T10.setTop (mkF m 104 #[.val (.int p1), .val (.int p2), .val (.int p3), .val (.int p4), .val (.int (p4 &&& (3 : Int32))), .val (.int (0 : Int32)), .val (.ref b5), .val (.ref t), .unset] [(.int (256 : Int32)), (.int (256 : Int32))])) _
    refine XS.icmpYes X10.here hx rfl (pc0 := 104) (pc' := 109) rfl (hb hby at_104) rfl (teq hx104).1 (by decide) (by decide) ?_
    show Steps p.tables e below (T10.setTop (mkF m 109 #[.val (.int p1), .val (.int p2), .val (.int p3), .val (.int p4), .val (.int (p4 &&& (3 : Int32))), .val (.int (0 : Int32)), .val (.ref b5), .val (.ref t), .unset] [])) _
    refine XS.iload X10.here hx rfl (hb hby at_109) rfl ?_
    show Steps p.tables e below (T10.setTop (mkF m 111 #[.val (.int p1), .val (.int p2), .val (.int p3), .val (.int p4), .val (.int (p4 &&& (3 : Int32))), .val (.int (0 : Int32)), .val (.ref b5), .val (.ref t), .unset] [(.int (p4 &&& (3 : Int32)))])) _
    refine XS.iconst X10.here hx rfl (hb hby at_111) ?_
    show Steps p.tables e below (T10.setTop (mkF m 112 #[.val (.int p1), .val (.int p2), .val (.int p3), .val (.int p4), .val (.int (p4 &&& (3 : Int32))), .val (.int (0 : Int32)), .val (.ref b5), .val (.ref t), .unset] [(.int (1 : Int32)), (.int (p4 &&& (3 : Int32)))])) _
    refine XS.icmpNo X10.here hx rfl (hb hby at_112) rfl (flt hc112).1 ?_
    show Steps p.tables e below (T10.setTop (mkF m 115 #[.val (.int p1), .val (.int p2), .val (.int p3), .val (.int p4), .val (.int (p4 &&& (3 : Int32))), .val (.int (0 : Int32)), .val (.ref b5), .val (.ref t), .unset] [])) _
    refine XS.aload X10.here hx rfl (hb hby at_115) rfl rfl ?_
    show Steps p.tables e below (T10.setTop (mkF m 117 #[.val (.int p1), .val (.int p2), .val (.int p3), .val (.int p4), .val (.int (p4 &&& (3 : Int32))), .val (.int (0 : Int32)), .val (.ref b5), .val (.ref t), .unset] [(.ref t)])) _
    refine XS.iconst X10.here hx rfl (hb hby at_117) ?_
    show Steps p.tables e below (T10.setTop (mkF m 118 #[.val (.int p1), .val (.int p2), .val (.int p3), .val (.int p4), .val (.int (p4 &&& (3 : Int32))), .val (.int (0 : Int32)), .val (.ref b5), .val (.ref t), .unset] [(.int (0 : Int32)), (.ref t)])) _
    refine X10.baloadBytes hx (j := (0 : Int32)) (v := (.int (own_b p1))) Ar_t.1 (State.isArrayOf_alike hZ.alike Ar_t.2.1) Ar_t.2.2 hin118 hat118 (g := (mkF m 118 #[.val (.int p1), .val (.int p2), .val (.int p3), .val (.int p4), .val (.int (p4 &&& (3 : Int32))), .val (.int (0 : Int32)), .val (.ref b5), .val (.ref t), .unset] [(.int (0 : Int32)), (.ref t)])) rfl rfl (hb hby at_118) _ ?_
    show Steps p.tables e below (T10.setTop (mkF m 119 #[.val (.int p1), .val (.int p2), .val (.int p3), .val (.int p4), .val (.int (p4 &&& (3 : Int32))), .val (.int (0 : Int32)), .val (.ref b5), .val (.ref t), .unset] [(.int (own_b p1))])) _
    refine XS.sipush X10.here hx rfl (hb hby at_119) ?_
    show Steps p.tables e below (T10.setTop (mkF m 122 #[.val (.int p1), .val (.int p2), .val (.int p3), .val (.int p4), .val (.int (p4 &&& (3 : Int32))), .val (.int (0 : Int32)), .val (.ref b5), .val (.ref t), .unset] [(.int (255 : Int32)), (.int (own_b p1))])) _
    refine XS.iand X10.here hx rfl (hb hby at_122) rfl ?_
    show Steps p.tables e below (T10.setTop (mkF m 123 #[.val (.int p1), .val (.int p2), .val (.int p3), .val (.int p4), .val (.int (p4 &&& (3 : Int32))), .val (.int (0 : Int32)), .val (.ref b5), .val (.ref t), .unset] [(.int ((own_b p1) &&& (255 : Int32)))])) _
    refine XS.iloadN X10.here hx rfl (hb hby at_123) rfl ?_
    show Steps p.tables e below (T10.setTop (mkF m 124 #[.val (.int p1), .val (.int p2), .val (.int p3), .val (.int p4), .val (.int (p4 &&& (3 : Int32))), .val (.int (0 : Int32)), .val (.ref b5), .val (.ref t), .unset] [(.int p1), (.int ((own_b p1) &&& (255 : Int32)))])) _
    refine XS.sipush X10.here hx rfl (hb hby at_124) ?_
    show Steps p.tables e below (T10.setTop (mkF m 127 #[.val (.int p1), .val (.int p2), .val (.int p3), .val (.int p4), .val (.int (p4 &&& (3 : Int32))), .val (.int (0 : Int32)), .val (.ref b5), .val (.ref t), .unset] [(.int (255 : Int32)), (.int p1), (.int ((own_b p1) &&& (255 : Int32)))])) _
    refine XS.iand X10.here hx rfl (hb hby at_127) rfl ?_
    show Steps p.tables e below (T10.setTop (mkF m 128 #[.val (.int p1), .val (.int p2), .val (.int p3), .val (.int p4), .val (.int (p4 &&& (3 : Int32))), .val (.int (0 : Int32)), .val (.ref b5), .val (.ref t), .unset] [(.int (p1 &&& (255 : Int32))), (.int ((own_b p1) &&& (255 : Int32)))])) _
    refine XS.icmpYes X10.here hx rfl (pc0 := 128) (pc' := 133) rfl (hb hby at_128) rfl (teq hc128).1 (by decide) (by decide) ?_
    show Steps p.tables e below (T10.setTop (mkF m 133 #[.val (.int p1), .val (.int p2), .val (.int p3), .val (.int p4), .val (.int (p4 &&& (3 : Int32))), .val (.int (0 : Int32)), .val (.ref b5), .val (.ref t), .unset] [])) _
    refine XS.iload X10.here hx rfl (hb hby at_133) rfl ?_
    show Steps p.tables e below (T10.setTop (mkF m 135 #[.val (.int p1), .val (.int p2), .val (.int p3), .val (.int p4), .val (.int (p4 &&& (3 : Int32))), .val (.int (0 : Int32)), .val (.ref b5), .val (.ref t), .unset] [(.int (p4 &&& (3 : Int32)))])) _
    refine XS.iconst X10.here hx rfl (hb hby at_135) ?_
    show Steps p.tables e below (T10.setTop (mkF m 136 #[.val (.int p1), .val (.int p2), .val (.int p3), .val (.int p4), .val (.int (p4 &&& (3 : Int32))), .val (.int (0 : Int32)), .val (.ref b5), .val (.ref t), .unset] [(.int (2 : Int32)), (.int (p4 &&& (3 : Int32)))])) _
    refine XS.icmpNo X10.here hx rfl (hb hby at_136) rfl (flt hc136).1 ?_
    show Steps p.tables e below (T10.setTop (mkF m 139 #[.val (.int p1), .val (.int p2), .val (.int p3), .val (.int p4), .val (.int (p4 &&& (3 : Int32))), .val (.int (0 : Int32)), .val (.ref b5), .val (.ref t), .unset] [])) _
    refine XS.aload X10.here hx rfl (hb hby at_139) rfl rfl ?_
    show Steps p.tables e below (T10.setTop (mkF m 141 #[.val (.int p1), .val (.int p2), .val (.int p3), .val (.int p4), .val (.int (p4 &&& (3 : Int32))), .val (.int (0 : Int32)), .val (.ref b5), .val (.ref t), .unset] [(.ref t)])) _
    refine XS.iconst X10.here hx rfl (hb hby at_141) ?_
    show Steps p.tables e below (T10.setTop (mkF m 142 #[.val (.int p1), .val (.int p2), .val (.int p3), .val (.int p4), .val (.int (p4 &&& (3 : Int32))), .val (.int (0 : Int32)), .val (.ref b5), .val (.ref t), .unset] [(.int (1 : Int32)), (.ref t)])) _
    refine X10.baloadBytes hx (j := (1 : Int32)) (v := (.int (own_b p2))) Ar_t.1 (State.isArrayOf_alike hZ.alike Ar_t.2.1) Ar_t.2.2 hin142 hat142 (g := (mkF m 142 #[.val (.int p1), .val (.int p2), .val (.int p3), .val (.int p4), .val (.int (p4 &&& (3 : Int32))), .val (.int (0 : Int32)), .val (.ref b5), .val (.ref t), .unset] [(.int (1 : Int32)), (.ref t)])) rfl rfl (hb hby at_142) _ ?_
    show Steps p.tables e below (T10.setTop (mkF m 143 #[.val (.int p1), .val (.int p2), .val (.int p3), .val (.int p4), .val (.int (p4 &&& (3 : Int32))), .val (.int (0 : Int32)), .val (.ref b5), .val (.ref t), .unset] [(.int (own_b p2))])) _
    refine XS.sipush X10.here hx rfl (hb hby at_143) ?_
    show Steps p.tables e below (T10.setTop (mkF m 146 #[.val (.int p1), .val (.int p2), .val (.int p3), .val (.int p4), .val (.int (p4 &&& (3 : Int32))), .val (.int (0 : Int32)), .val (.ref b5), .val (.ref t), .unset] [(.int (255 : Int32)), (.int (own_b p2))])) _
    refine XS.iand X10.here hx rfl (hb hby at_146) rfl ?_
    show Steps p.tables e below (T10.setTop (mkF m 147 #[.val (.int p1), .val (.int p2), .val (.int p3), .val (.int p4), .val (.int (p4 &&& (3 : Int32))), .val (.int (0 : Int32)), .val (.ref b5), .val (.ref t), .unset] [(.int ((own_b p2) &&& (255 : Int32)))])) _
    refine XS.iloadN X10.here hx rfl (hb hby at_147) rfl ?_
    show Steps p.tables e below (T10.setTop (mkF m 148 #[.val (.int p1), .val (.int p2), .val (.int p3), .val (.int p4), .val (.int (p4 &&& (3 : Int32))), .val (.int (0 : Int32)), .val (.ref b5), .val (.ref t), .unset] [(.int p2), (.int ((own_b p2) &&& (255 : Int32)))])) _
    refine XS.sipush X10.here hx rfl (hb hby at_148) ?_
    show Steps p.tables e below (T10.setTop (mkF m 151 #[.val (.int p1), .val (.int p2), .val (.int p3), .val (.int p4), .val (.int (p4 &&& (3 : Int32))), .val (.int (0 : Int32)), .val (.ref b5), .val (.ref t), .unset] [(.int (255 : Int32)), (.int p2), (.int ((own_b p2) &&& (255 : Int32)))])) _
    refine XS.iand X10.here hx rfl (hb hby at_151) rfl ?_
    show Steps p.tables e below (T10.setTop (mkF m 152 #[.val (.int p1), .val (.int p2), .val (.int p3), .val (.int p4), .val (.int (p4 &&& (3 : Int32))), .val (.int (0 : Int32)), .val (.ref b5), .val (.ref t), .unset] [(.int (p2 &&& (255 : Int32))), (.int ((own_b p2) &&& (255 : Int32)))])) _
    refine XS.icmpYes X10.here hx rfl (pc0 := 152) (pc' := 157) rfl (hb hby at_152) rfl (teq hc152).1 (by decide) (by decide) ?_
    show Steps p.tables e below (T10.setTop (mkF m 157 #[.val (.int p1), .val (.int p2), .val (.int p3), .val (.int p4), .val (.int (p4 &&& (3 : Int32))), .val (.int (0 : Int32)), .val (.ref b5), .val (.ref t), .unset] [])) _
    refine XS.iload X10.here hx rfl (hb hby at_157) rfl ?_
    show Steps p.tables e below (T10.setTop (mkF m 159 #[.val (.int p1), .val (.int p2), .val (.int p3), .val (.int p4), .val (.int (p4 &&& (3 : Int32))), .val (.int (0 : Int32)), .val (.ref b5), .val (.ref t), .unset] [(.int (p4 &&& (3 : Int32)))])) _
    refine XS.iconst X10.here hx rfl (hb hby at_159) ?_
    show Steps p.tables e below (T10.setTop (mkF m 160 #[.val (.int p1), .val (.int p2), .val (.int p3), .val (.int p4), .val (.int (p4 &&& (3 : Int32))), .val (.int (0 : Int32)), .val (.ref b5), .val (.ref t), .unset] [(.int (3 : Int32)), (.int (p4 &&& (3 : Int32)))])) _
    refine XS.icmpYes X10.here hx rfl (pc0 := 160) (pc' := 181) rfl (hb hby at_160) rfl (tlt hc160).1 (by decide) (by decide) ?_
    show Steps p.tables e below (T10.setTop (mkF m 181 #[.val (.int p1), .val (.int p2), .val (.int p3), .val (.int p4), .val (.int (p4 &&& (3 : Int32))), .val (.int (0 : Int32)), .val (.ref b5), .val (.ref t), .unset] [])) _
    refine XS.iload X10.here hx rfl (hb hby at_181) rfl ?_
    show Steps p.tables e below (T10.setTop (mkF m 183 #[.val (.int p1), .val (.int p2), .val (.int p3), .val (.int p4), .val (.int (p4 &&& (3 : Int32))), .val (.int (0 : Int32)), .val (.ref b5), .val (.ref t), .unset] [(.int (0 : Int32))])) _
    refine XS.ifYes X10.here hx rfl (pc0 := 183) (pc' := 199) rfl (hb hby at_183) rfl ((if0 _ _).trans (teq (rfl : (0 : Int32) = (0 : Int32))).1) (by decide) (by decide) ?_
    show Steps p.tables e below (T10.setTop (mkF m 199 #[.val (.int p1), .val (.int p2), .val (.int p3), .val (.int p4), .val (.int (p4 &&& (3 : Int32))), .val (.int (0 : Int32)), .val (.ref b5), .val (.ref t), .unset] [])) _
    refine XS.iconst X10.here hx rfl (hb hby at_199) ?_
    show Steps p.tables e below (T10.setTop (mkF m 200 #[.val (.int p1), .val (.int p2), .val (.int p3), .val (.int p4), .val (.int (p4 &&& (3 : Int32))), .val (.int (0 : Int32)), .val (.ref b5), .val (.ref t), .unset] [(.int (0 : Int32))])) _
    refine XS.istore X10.here hx rfl (hb hby at_200) rfl (l' := #[.val (.int p1), .val (.int p2), .val (.int p3), .val (.int p4), .val (.int (p4 &&& (3 : Int32))), .val (.int (0 : Int32)), .val (.ref b5), .val (.ref t), .val (.int (0 : Int32))]) rfl ?_
    show Steps p.tables e below (T10.setTop (mkF m 202 #[.val (.int p1), .val (.int p2), .val (.int p3), .val (.int p4), .val (.int (p4 &&& (3 : Int32))), .val (.int (0 : Int32)), .val (.ref b5), .val (.ref t), .val (.int (0 : Int32))] [])) _
    refine XS.aload X10.here hx rfl (hb hby at_202) rfl rfl ?_
    show Steps p.tables e below (T10.setTop (mkF m 204 #[.val (.int p1), .val (.int p2), .val (.int p3), .val (.int p4), .val (.int (p4 &&& (3 : Int32))), .val (.int (0 : Int32)), .val (.ref b5), .val (.ref t), .val (.int (0 : Int32))] [(.ref t)])) _
    refine XS.iload X10.here hx rfl (hb hby at_204) rfl ?_
    show Steps p.tables e below (T10.setTop (mkF m 206 #[.val (.int p1), .val (.int p2), .val (.int p3), .val (.int p4), .val (.int (p4 &&& (3 : Int32))), .val (.int (0 : Int32)), .val (.ref b5), .val (.ref t), .val (.int (0 : Int32))] [(.int (p4 &&& (3 : Int32))), (.ref t)])) _
    refine X10.baloadBytes hx (j := (p4 &&& (3 : Int32))) (v := (.int (0 : Int32))) Ar_t.1 (State.isArrayOf_alike hZ.alike Ar_t.2.1) Ar_t.2.2 hin206 hat206 (g := (mkF m 206 #[.val (.int p1), .val (.int p2), .val (.int p3), .val (.int p4), .val (.int (p4 &&& (3 : Int32))), .val (.int (0 : Int32)), .val (.ref b5), .val (.ref t), .val (.int (0 : Int32))] [(.int (p4 &&& (3 : Int32))), (.ref t)])) rfl rfl (hb hby at_206) _ ?_
    show Steps p.tables e below (T10.setTop (mkF m 207 #[.val (.int p1), .val (.int p2), .val (.int p3), .val (.int p4), .val (.int (p4 &&& (3 : Int32))), .val (.int (0 : Int32)), .val (.ref b5), .val (.ref t), .val (.int (0 : Int32))] [(.int (0 : Int32))])) _
    refine XS.sipush X10.here hx rfl (hb hby at_207) ?_
    show Steps p.tables e below (T10.setTop (mkF m 210 #[.val (.int p1), .val (.int p2), .val (.int p3), .val (.int p4), .val (.int (p4 &&& (3 : Int32))), .val (.int (0 : Int32)), .val (.ref b5), .val (.ref t), .val (.int (0 : Int32))] [(.int (255 : Int32)), (.int (0 : Int32))])) _
    refine XS.iand X10.here hx rfl (hb hby at_210) rfl ?_
    show Steps p.tables e below (T10.setTop (mkF m 211 #[.val (.int p1), .val (.int p2), .val (.int p3), .val (.int p4), .val (.int (p4 &&& (3 : Int32))), .val (.int (0 : Int32)), .val (.ref b5), .val (.ref t), .val (.int (0 : Int32))] [(.int ((0 : Int32) &&& (255 : Int32)))])) _
    refine XS.iload X10.here hx rfl (hb hby at_211) rfl ?_
    show Steps p.tables e below (T10.setTop (mkF m 213 #[.val (.int p1), .val (.int p2), .val (.int p3), .val (.int p4), .val (.int (p4 &&& (3 : Int32))), .val (.int (0 : Int32)), .val (.ref b5), .val (.ref t), .val (.int (0 : Int32))] [(.int (0 : Int32)), (.int ((0 : Int32) &&& (255 : Int32)))])) _
    refine XS.icmpNo X10.here hx rfl (hb hby at_213) rfl (teq hc213).2 ?_
    show Steps p.tables e below (T10.setTop (mkF m 216 #[.val (.int p1), .val (.int p2), .val (.int p3), .val (.int p4), .val (.int (p4 &&& (3 : Int32))), .val (.int (0 : Int32)), .val (.ref b5), .val (.ref t), .val (.int (0 : Int32))] [])) _
    refine XS.iconst X10.here hx rfl (hb hby at_216) ?_
    show Steps p.tables e below (T10.setTop (mkF m 217 #[.val (.int p1), .val (.int p2), .val (.int p3), .val (.int p4), .val (.int (p4 &&& (3 : Int32))), .val (.int (0 : Int32)), .val (.ref b5), .val (.ref t), .val (.int (0 : Int32))] [(.int (1 : Int32))])) _
    refine XS.goto X10.here hx rfl (pc0 := 217) (pc' := 221) rfl (hb hby at_217) (by decide) (by decide) ?_
    show Steps p.tables e below (T10.setTop (mkF m 221 #[.val (.int p1), .val (.int p2), .val (.int p3), .val (.int p4), .val (.int (p4 &&& (3 : Int32))), .val (.int (0 : Int32)), .val (.ref b5), .val (.ref t), .val (.int (0 : Int32))] [(.int (1 : Int32))])) _
    exact retN X10 hx (t := .boolean) Bd.returns (by simp) (hb hby at_221) hr
  · show Q0 Z p1 p2 p3 p4 h0 n0 _ T10.heap _
    exact ⟨rfl, N10⟩
set_option maxRecDepth 65536 in
set_option maxHeartbeats 40000000 in
theorem rm0_o3 (l : Launch) (Z : State) (a0 : Array Value) (hw : ∀ d ∈ tables_1, d.before a0 Z = true) (ws : List Jvm.Cond) (p1 : Int32) (p2 : Int32) (p3 : Int32) (p4 : Int32) (h0 : Heap) (n0 : Nat) (Z0 : n0 ≤ h0.size) (hn : (p4 &&& (3 : Int32)) = (3 : Int32)) (hc8 : (p4 &&& (4 : Int32)) = (0 : Int32)) (hc46 : ¬ ((p4 &&& (3 : Int32)) < (1 : Int32))) (hc58 : ¬ ((p4 &&& (3 : Int32)) < (2 : Int32))) (hc70 : ¬ ((p4 &&& (3 : Int32)) < (3 : Int32))) (hc112 : ¬ ((p4 &&& (3 : Int32)) < (1 : Int32))) (hc128 : ((own_b p1) &&& (255 : Int32)) = (p1 &&& (255 : Int32))) (hc136 : ¬ ((p4 &&& (3 : Int32)) < (2 : Int32))) (hc152 : ((own_b p2) &&& (255 : Int32)) = (p2 &&& (255 : Int32))) (hc160 : ¬ ((p4 &&& (3 : Int32)) < (3 : Int32))) (hc176 : ((own_b p3) &&& (255 : Int32)) = (p3 &&& (255 : Int32))) (hc213 : ((0 : Int32) &&& (255 : Int32)) = (0 : Int32)) (hx86 : ((((0 : Int32) + (1 : Int32)) + (1 : Int32)) + (1 : Int32)) = (p4 &&& (3 : Int32))) (hx104 : (256 : Int32) = (256 : Int32)) :
    MetFree l x (head1 (Jvm.Cond.code x code maxLocals ret :: ws) room_1) (fun a U => a = #[(.int p1), (.int p2), (.int p3), (.int p4)] ∧ Z.Warmed39 U.vm ∧ U.heap = h0) (fun _ _ _ _ _ => True) (fun _ U o U' => ∃ v L, o = .returned v ∧ Q0 Z p1 p2 p3 p4 h0 n0 v U'.heap L ∧ FrameEnd U o U' L room_1.cells room_1.slots) := by
  refine MetFree.of_bodySF (plainFor_of_name pn_0) hisR ?_
  intro p e s m args below meth c s₁ Bd hml0 hP hK
  obtain ⟨rfl, hZ, hh⟩ := hP
  have hx := Bd.exec
  have hby := Bd.bytes
  have hml : c.maxLocals = 9 := hml0
  have hown : s.vm.findClass "com/example/verdant_canopy/verdantcanopy/core/CanonicalBufferPutPinLaw" = some m.cls := findClass_of_methodNamed Bd.named
  have hnm := (name_of_methodNamed Bd.named Bd.method).1
  have X0 : Stand p l e room_1 s m #[(.int p1), (.int p2), (.int p3), (.int p4)] below meth c s₁ [] 0 0 := Stand.of_body Bd
  have e0 : s₁.heap = h0 := by rw [← hh, Bd.state]; rfl
  have N0 := Fr.nil n0
  have pre0 : ∀ t, Steps p.tables e below (s₁.setTop (mkF m 0 #[.val (.int p1), .val (.int p2), .val (.int p3), .val (.int p4), .unset, .unset, .unset, .unset, .unset] [])) t → Steps p.tables e below (s₁.setTop (entryFrame m #[(.int p1), (.int p2), (.int p3), (.int p4)] maxLocals)) t := fun t k => castTop (ef_0 m p1 p2 p3 p4) k
  obtain ⟨T5, h5, X5, e5, E5, A5, D5, -, st5⟩ := newO X0 hx hZ hown (hw _ (List.mem_of_getElem? (i := 0) rfl)) (hw _ (List.mem_of_getElem? (i := 1) rfl)) (hw _ (List.mem_of_getElem? (i := 2) rfl)) e0 (g := (mkF m 18 #[.val (.int p1), .val (.int p2), .val (.int p3), .val (.int p4), .val (.int (p4 &&& (3 : Int32))), .val (.int (0 : Int32)), .unset, .unset, .unset] [])) rfl (hb hby at_18) (by decide) (by decide)
  obtain ⟨b5, g5⟩ : ∃ z, z = h0.size := ⟨_, rfl⟩
  rw [← g5] at A5 D5 st5
  have F_bytes_b5 : Fld Z h5 b5 "com/example/verdant_canopy/verdantcanopy/core/CanonicalBuffer" "bytes" "[B" .null := D5 (Or.inl (hw _ (List.mem_of_getElem? (i := 11) rfl))) (ty := (.array .byte)) (by decide)
  have F_length_b5 : Fld Z h5 b5 "com/example/verdant_canopy/verdantcanopy/core/CanonicalBuffer" "length" "I" (.int (0 : Int32)) := D5 (Or.inl (hw _ (List.mem_of_getElem? (i := 18) rfl))) (ty := .int) (by decide)
  have E_b5 := A5
  have g_b5 : n0 ≤ b5 := Nat.le_trans Z0 (Nat.le_of_eq g5.symm)
  have sz_b5 : h0.size ≤ b5 := (Nat.le_trans (Keep.refl h0 []).1 (Nat.le_of_eq g5.symm))
  have K5 : Keep h0 h5 [] := (Keep.refl h0 []).ext E5
  obtain ⟨_, _, ⟨T6, L6, k6, n6⟩, -, X6, ⟨Lc6, hQ6, l6, y6, z6⟩, st6⟩ := X5.specialBack hx (y := (⟨"com/example/verdant_canopy/verdantcanopy/core/CanonicalBuffer", "<init>", "()V"⟩ : MethodName)) rfl hown (mvT hZ (hw _ (List.mem_of_getElem? (i := 3) rfl))) (mvT hZ (hw _ (List.mem_of_getElem? (i := 4) rfl))) (mvT hZ (hw _ (List.mem_of_getElem? (i := 5) rfl))) (by decide) (backOf (W := 1) (rm1 l Z a0 hw [] b5 .null h5 n0 (Nat.le_trans Z0 E5.1) E_b5 F_bytes_b5 g_b5 F_length_b5) hZ (hw _ (List.mem_of_getElem? (i := 5) rfl)) (hw _ (List.mem_of_getElem? (i := 2) rfl)) (by decide) (by decide)) (g := (mkF m 22 #[.val (.int p1), .val (.int p2), .val (.int p3), .val (.int p4), .val (.int (p4 &&& (3 : Int32))), .val (.int (0 : Int32)), .unset, .unset, .unset] [(.ref b5), (.ref b5)])) rfl (by rw [hml]; rfl) (Steps.refl _) (a := b5) (argsL := []) (rest := [(.ref b5)]) (lenOf pd_0_0 rfl) rfl (by show 2 * 0 + _ ≤ _; exact Nat.le_of_eq rfl) (hb hby at_22) (fun _ _ => ⟨rfl, e5, (by decide : 1 + 1 ≤ _), (by decide : 2 + 256 ≤ _)⟩)
  dsimp only [Pt.U, Pt.locs, Pt.cells, Pt.slots] at X6 l6 y6 z6 st6 hQ6
  subst l6 y6 z6
  obtain ⟨rfl, N6q, K6q, t, kc, gt, B6⟩ := hQ6
  have Z6 : n0 ≤ T6.heap.size := Nat.le_trans (Nat.le_trans Z0 E5.1) K6q.1
  have N6 := Fr.app N0 N6q
  obtain ⟨cq7, kq7, q7a, q7b, q7c⟩ := isOf hZ rfl B6.1
  obtain ⟨_, _, ⟨T7, L7, k7, n7⟩, -, X7, ⟨Lc7, hQ7, l7, y7, z7⟩, st7⟩ := X6.virtualBack hx (y := (⟨"com/example/verdant_canopy/verdantcanopy/core/CanonicalBuffer", "put", "(I)V"⟩ : MethodName)) (z := (⟨"com/example/verdant_canopy/verdantcanopy/core/CanonicalBuffer", "put", "(I)V"⟩ : MethodName)) hown (mvT hZ (hw _ (List.mem_of_getElem? (i := 12) rfl))) (mvT hZ (hw _ (List.mem_of_getElem? (i := 13) rfl))) (notFace_of_selects (args := #[]) (mvT hZ (hw _ (List.mem_of_getElem? (i := 15) rfl)))) (mvT hZ (hw _ (List.mem_of_getElem? (i := 15) rfl))) (mvT hZ (hw _ (List.mem_of_getElem? (i := 14) rfl))) (by decide) (backOf (W := 0) (rm3 l Z a0 hw [] b5 p1 t kc (0 : Int32) ([(.int (0 : Int32)), (.int (0 : Int32)), (.int (0 : Int32)), (.int (0 : Int32))] : List Value) 0 T6.heap n0 Z6 B6 g_b5 gt (by decide) (Nat.le_of_ble_eq_true rfl) ⟨by decide, by decide⟩) hZ (hw _ (List.mem_of_getElem? (i := 16) rfl)) (hw _ (List.mem_of_getElem? (i := 2) rfl)) (by decide) (by decide)) q7a q7c (g := (mkF m 52 #[.val (.int p1), .val (.int p2), .val (.int p3), .val (.int p4), .val (.int (p4 &&& (3 : Int32))), .val (.int (0 : Int32)), .val (.ref b5), .unset, .unset] [(.int p1), (.ref b5)])) rfl (by rw [hml]; rfl) (Steps.refl _) (argsL := [(.int p1)]) (rest := []) (lenOf pd_0_1 rfl) rfl (by show 2 * 0 + _ ≤ _; exact Nat.le_of_eq rfl) (hb hby at_52) (fun _ _ => ⟨rfl, rfl, (by decide : 1 + (1 + 0) ≤ _), (by decide : 2 + (256 + 0) ≤ _)⟩)
  dsimp only [Pt.U, Pt.locs, Pt.cells, Pt.slots] at X7 l7 y7 z7 st7 hQ7
  subst l7 y7 z7
  obtain ⟨rfl, N7q, K7q, B7⟩ := hQ7
  have Z7 : n0 ≤ T7.heap.size := Nat.le_trans Z6 K7q.1
  have N7 := Fr.app N6 N7q
  obtain ⟨cq8, kq8, q8a, q8b, q8c⟩ := isOf hZ rfl B7.1
  obtain ⟨_, _, ⟨T8, L8, k8, n8⟩, -, X8, ⟨Lc8, hQ8, l8, y8, z8⟩, st8⟩ := X7.virtualBack hx (y := (⟨"com/example/verdant_canopy/verdantcanopy/core/CanonicalBuffer", "put", "(I)V"⟩ : MethodName)) (z := (⟨"com/example/verdant_canopy/verdantcanopy/core/CanonicalBuffer", "put", "(I)V"⟩ : MethodName)) hown (mvT hZ (hw _ (List.mem_of_getElem? (i := 12) rfl))) (mvT hZ (hw _ (List.mem_of_getElem? (i := 13) rfl))) (notFace_of_selects (args := #[]) (mvT hZ (hw _ (List.mem_of_getElem? (i := 15) rfl)))) (mvT hZ (hw _ (List.mem_of_getElem? (i := 15) rfl))) (mvT hZ (hw _ (List.mem_of_getElem? (i := 14) rfl))) (by decide) (backOf (W := 0) (rm3 l Z a0 hw [] b5 p2 t kc ((0 : Int32) + (1 : Int32)) (([(.int (0 : Int32)), (.int (0 : Int32)), (.int (0 : Int32)), (.int (0 : Int32))] : List Value).set 0 (.int (own_b p1))) 1 T7.heap n0 Z7 B7 g_b5 gt (by decide) (Nat.le_of_ble_eq_true rfl) ⟨by decide, by decide⟩) hZ (hw _ (List.mem_of_getElem? (i := 16) rfl)) (hw _ (List.mem_of_getElem? (i := 2) rfl)) (by decide) (by decide)) q8a q8c (g := (mkF m 64 #[.val (.int p1), .val (.int p2), .val (.int p3), .val (.int p4), .val (.int (p4 &&& (3 : Int32))), .val (.int (0 : Int32)), .val (.ref b5), .unset, .unset] [(.int p2), (.ref b5)])) rfl (by rw [hml]; rfl) (Steps.refl _) (argsL := [(.int p2)]) (rest := []) (lenOf pd_0_1 rfl) rfl (by show 2 * 0 + _ ≤ _; exact Nat.le_of_eq rfl) (hb hby at_64) (fun _ _ => ⟨rfl, rfl, (by decide : 1 + (1 + 0) ≤ _), (by decide : 2 + (256 + 0) ≤ _)⟩)
  dsimp only [Pt.U, Pt.locs, Pt.cells, Pt.slots] at X8 l8 y8 z8 st8 hQ8
  subst l8 y8 z8
  obtain ⟨rfl, N8q, K8q, B8⟩ := hQ8
  have Z8 : n0 ≤ T8.heap.size := Nat.le_trans Z7 K8q.1
  have N8 := Fr.app N7 N8q
  obtain ⟨cq9, kq9, q9a, q9b, q9c⟩ := isOf hZ rfl B8.1
  obtain ⟨_, _, ⟨T9, L9, k9, n9⟩, -, X9, ⟨Lc9, hQ9, l9, y9, z9⟩, st9⟩ := X8.virtualBack hx (y := (⟨"com/example/verdant_canopy/verdantcanopy/core/CanonicalBuffer", "put", "(I)V"⟩ : MethodName)) (z := (⟨"com/example/verdant_canopy/verdantcanopy/core/CanonicalBuffer", "put", "(I)V"⟩ : MethodName)) hown (mvT hZ (hw _ (List.mem_of_getElem? (i := 12) rfl))) (mvT hZ (hw _ (List.mem_of_getElem? (i := 13) rfl))) (notFace_of_selects (args := #[]) (mvT hZ (hw _ (List.mem_of_getElem? (i := 15) rfl)))) (mvT hZ (hw _ (List.mem_of_getElem? (i := 15) rfl))) (mvT hZ (hw _ (List.mem_of_getElem? (i := 14) rfl))) (by decide) (backOf (W := 0) (rm3 l Z a0 hw [] b5 p3 t kc (((0 : Int32) + (1 : Int32)) + (1 : Int32)) ((([(.int (0 : Int32)), (.int (0 : Int32)), (.int (0 : Int32)), (.int (0 : Int32))] : List Value).set 0 (.int (own_b p1))).set 1 (.int (own_b p2))) 2 T8.heap n0 Z8 B8 g_b5 gt (by decide) (Nat.le_of_ble_eq_true rfl) ⟨by decide, by decide⟩) hZ (hw _ (List.mem_of_getElem? (i := 16) rfl)) (hw _ (List.mem_of_getElem? (i := 2) rfl)) (by decide) (by decide)) q9a q9c (g := (mkF m 76 #[.val (.int p1), .val (.int p2), .val (.int p3), .val (.int p4), .val (.int (p4 &&& (3 : Int32))), .val (.int (0 : Int32)), .val (.ref b5), .unset, .unset] [(.int p3), (.ref b5)])) rfl (by rw [hml]; rfl) (Steps.refl _) (argsL := [(.int p3)]) (rest := []) (lenOf pd_0_1 rfl) rfl (by show 2 * 0 + _ ≤ _; exact Nat.le_of_eq rfl) (hb hby at_76) (fun _ _ => ⟨rfl, rfl, (by decide : 1 + (1 + 0) ≤ _), (by decide : 2 + (256 + 0) ≤ _)⟩)
  dsimp only [Pt.U, Pt.locs, Pt.cells, Pt.slots] at X9 l9 y9 z9 st9 hQ9
  subst l9 y9 z9
  obtain ⟨rfl, N9q, K9q, B9⟩ := hQ9
  have Z9 : n0 ≤ T9.heap.size := Nat.le_trans Z8 K9q.1
  have N9 := Fr.app N8 N9q
  obtain ⟨cq10, kq10, q10a, q10b, q10c⟩ := isOf hZ rfl B9.1
  obtain ⟨_, _, ⟨T10, L10, k10, n10⟩, -, X10, ⟨Lc10, hQ10, l10, y10, z10⟩, st10⟩ := X9.virtualBack hx (y := (⟨"com/example/verdant_canopy/verdantcanopy/core/CanonicalBuffer", "length", "()I"⟩ : MethodName)) (z := (⟨"com/example/verdant_canopy/verdantcanopy/core/CanonicalBuffer", "length", "()I"⟩ : MethodName)) hown (mvT hZ (hw _ (List.mem_of_getElem? (i := 19) rfl))) (mvT hZ (hw _ (List.mem_of_getElem? (i := 20) rfl))) (notFace_of_selects (args := #[]) (mvT hZ (hw _ (List.mem_of_getElem? (i := 22) rfl)))) (mvT hZ (hw _ (List.mem_of_getElem? (i := 22) rfl))) (mvT hZ (hw _ (List.mem_of_getElem? (i := 21) rfl))) (by decide) (backOf (W := 0) (rm4 l Z a0 hw [] b5 ((((0 : Int32) + (1 : Int32)) + (1 : Int32)) + (1 : Int32)) T9.heap n0 Z9 B9.2.2.1) hZ (hw _ (List.mem_of_getElem? (i := 23) rfl)) (hw _ (List.mem_of_getElem? (i := 2) rfl)) (by decide) (by decide)) q10a q10c (g := (mkF m 81 #[.val (.int p1), .val (.int p2), .val (.int p3), .val (.int p4), .val (.int (p4 &&& (3 : Int32))), .val (.int (0 : Int32)), .val (.ref b5), .unset, .unset] [(.ref b5)])) rfl (by rw [hml]; rfl) (Steps.refl _) (argsL := []) (rest := []) (lenOf pd_0_2 rfl) rfl (by show 2 * 0 + _ ≤ _; exact Nat.le_of_eq rfl) (hb hby at_81) (fun _ _ => ⟨rfl, rfl, (by decide : 1 + (1 + 0) ≤ _), (by decide : 2 + (256 + 0) ≤ _)⟩)
  dsimp only [Pt.U, Pt.locs, Pt.cells, Pt.slots] at X10 l10 y10 z10 st10 hQ10
  subst l10 y10 z10
  obtain ⟨rfl, N10q, e10q⟩ := hQ10
  have Z10 : n0 ≤ T10.heap.size := by rw [e10q]; exact Z9
  have B10 : own_B Z T10.heap b5 t kc ((((0 : Int32) + (1 : Int32)) + (1 : Int32)) + (1 : Int32)) (((([(.int (0 : Int32)), (.int (0 : Int32)), (.int (0 : Int32)), (.int (0 : Int32))] : List Value).set 0 (.int (own_b p1))).set 1 (.int (own_b p2))).set 2 (.int (own_b p3))) := by rw [e10q]; exact B9
  have N10 := Fr.app N9 N10q
  obtain ⟨cq11, kq11, q11a, q11b, q11c⟩ := isOf hZ rfl B10.1
  obtain ⟨_, _, ⟨T11, L11, k11, n11⟩, -, X11, ⟨Lc11, hQ11, l11, y11, z11⟩, st11⟩ := X10.virtualBack hx (y := (⟨"com/example/verdant_canopy/verdantcanopy/core/CanonicalBuffer", "bytes", "()[B"⟩ : MethodName)) (z := (⟨"com/example/verdant_canopy/verdantcanopy/core/CanonicalBuffer", "bytes", "()[B"⟩ : MethodName)) hown (mvT hZ (hw _ (List.mem_of_getElem? (i := 24) rfl))) (mvT hZ (hw _ (List.mem_of_getElem? (i := 25) rfl))) (notFace_of_selects (args := #[]) (mvT hZ (hw _ (List.mem_of_getElem? (i := 27) rfl)))) (mvT hZ (hw _ (List.mem_of_getElem? (i := 27) rfl))) (mvT hZ (hw _ (List.mem_of_getElem? (i := 26) rfl))) (by decide) (backOf (W := 0) (rm5 l Z a0 hw [] b5 t T10.heap n0 Z10 B10.2.1) hZ (hw _ (List.mem_of_getElem? (i := 28) rfl)) (hw _ (List.mem_of_getElem? (i := 2) rfl)) (by decide) (by decide)) q11a q11c (g := (mkF m 93 #[.val (.int p1), .val (.int p2), .val (.int p3), .val (.int p4), .val (.int (p4 &&& (3 : Int32))), .val (.int (0 : Int32)), .val (.ref b5), .unset, .unset] [(.ref b5)])) rfl (by rw [hml]; rfl) (Steps.refl _) (argsL := []) (rest := []) (lenOf pd_0_3 rfl) rfl (by show 2 * 0 + _ ≤ _; exact Nat.le_of_eq rfl) (hb hby at_93) (fun _ _ => ⟨rfl, rfl, (by decide : 1 + (1 + 0) ≤ _), (by decide : 2 + (256 + 0) ≤ _)⟩)
  dsimp only [Pt.U, Pt.locs, Pt.cells, Pt.slots] at X11 l11 y11 z11 st11 hQ11
  subst l11 y11 z11
  obtain ⟨rfl, N11q, e11q⟩ := hQ11
  have Z11 : n0 ≤ T11.heap.size := by rw [e11q]; exact Z10
  have B11 : own_B Z T11.heap b5 t kc ((((0 : Int32) + (1 : Int32)) + (1 : Int32)) + (1 : Int32)) (((([(.int (0 : Int32)), (.int (0 : Int32)), (.int (0 : Int32)), (.int (0 : Int32))] : List Value).set 0 (.int (own_b p1))).set 1 (.int (own_b p2))).set 2 (.int (own_b p3))) := by rw [e11q]; exact B10
  obtain ⟨cl_t, Ar_t, q_t, S_t, N_t, H_t, G_t⟩ := B11.2.2.2.1
  have hin118 : ¬ ((0 : Int32) < 0 ∨ cl_t.slots.size ≤ ((0 : Int32)).toNatClampNeg) := inb_of S_t ⟨by decide, by decide⟩
  have hat118 : cl_t.slots[((0 : Int32)).toNatClampNeg]? = some (.int (own_b p1)) := Has.at H_t hin118 rfl
  have hin142 : ¬ ((1 : Int32) < 0 ∨ cl_t.slots.size ≤ ((1 : Int32)).toNatClampNeg) := inb_of S_t ⟨by decide, by decide⟩
  have hat142 : cl_t.slots[((1 : Int32)).toNatClampNeg]? = some (.int (own_b p2)) := Has.at H_t hin142 rfl
  have hin166 : ¬ ((2 : Int32) < 0 ∨ cl_t.slots.size ≤ ((2 : Int32)).toNatClampNeg) := inb_of S_t ⟨by decide, by decide⟩
  have hat166 : cl_t.slots[((2 : Int32)).toNatClampNeg]? = some (.int (own_b p3)) := Has.at H_t hin166 rfl
  have hin206 : ¬ ((p4 &&& (3 : Int32)) < 0 ∨ cl_t.slots.size ≤ ((p4 &&& (3 : Int32))).toNatClampNeg) := inb_of S_t ⟨by rw [hn]; decide, by rw [hn]; decide⟩
  have hat206 : cl_t.slots[((p4 &&& (3 : Int32))).toNatClampNeg]? = some (.int (0 : Int32)) := Has.at H_t hin206 (by rw [hn]; rfl)
  have N11 := Fr.app N10 N11q
  obtain ⟨fs, hr, hrun, hended, hW, hsame⟩ := X11.leave (v := some (.int (1 : Int32))) (fun h => by rw [Bd.returns] at h; cases h)
  refine ⟨_, _, pre0 _ ?_, hrun, hended, _, _, rfl, ?_, ⟨_, rfl⟩, hW, hsame.mono (by decide) (by decide)⟩
  · show Steps p.tables e below (s₁.setTop (mkF m 0 #[.val (.int p1), .val (.int p2), .val (.int p3), .val (.int p4), .unset, .unset, .unset, .unset, .unset] [])) _
    refine XS.iloadN X0.here hx rfl (hb hby at_0) rfl ?_
    show Steps p.tables e below (s₁.setTop (mkF m 1 #[.val (.int p1), .val (.int p2), .val (.int p3), .val (.int p4), .unset, .unset, .unset, .unset, .unset] [(.int p4)])) _
    refine XS.iconst X0.here hx rfl (hb hby at_1) ?_
    show Steps p.tables e below (s₁.setTop (mkF m 2 #[.val (.int p1), .val (.int p2), .val (.int p3), .val (.int p4), .unset, .unset, .unset, .unset, .unset] [(.int (3 : Int32)), (.int p4)])) _
    refine XS.iand X0.here hx rfl (hb hby at_2) rfl ?_
    show Steps p.tables e below (s₁.setTop (mkF m 3 #[.val (.int p1), .val (.int p2), .val (.int p3), .val (.int p4), .unset, .unset, .unset, .unset, .unset] [(.int (p4 &&& (3 : Int32)))])) _
    refine XS.istore X0.here hx rfl (hb hby at_3) rfl (l' := #[.val (.int p1), .val (.int p2), .val (.int p3), .val (.int p4), .val (.int (p4 &&& (3 : Int32))), .unset, .unset, .unset, .unset]) rfl ?_
    show Steps p.tables e below (s₁.setTop (mkF m 5 #[.val (.int p1), .val (.int p2), .val (.int p3), .val (.int p4), .val (.int (p4 &&& (3 : Int32))), .unset, .unset, .unset, .unset] [])) _
    refine XS.iloadN X0.here hx rfl (hb hby at_5) rfl ?_
    show Steps p.tables e below (s₁.setTop (mkF m 6 #[.val (.int p1), .val (.int p2), .val (.int p3), .val (.int p4), .val (.int (p4 &&& (3 : Int32))), .unset, .unset, .unset, .unset] [(.int p4)])) _
    refine XS.iconst X0.here hx rfl (hb hby at_6) ?_
    show Steps p.tables e below (s₁.setTop (mkF m 7 #[.val (.int p1), .val (.int p2), .val (.int p3), .val (.int p4), .val (.int (p4 &&& (3 : Int32))), .unset, .unset, .unset, .unset] [(.int (4 : Int32)), (.int p4)])) _
    refine XS.iand X0.here hx rfl (hb hby at_7) rfl ?_
    show Steps p.tables e below (s₁.setTop (mkF m 8 #[.val (.int p1), .val (.int p2), .val (.int p3), .val (.int p4), .val (.int (p4 &&& (3 : Int32))), .unset, .unset, .unset, .unset] [(.int (p4 &&& (4 : Int32)))])) _
    refine XS.ifYes X0.here hx rfl (pc0 := 8) (pc' := 15) rfl (hb hby at_8) rfl ((if0 _ _).trans (teq hc8).1) (by decide) (by decide) ?_
    show Steps p.tables e below (s₁.setTop (mkF m 15 #[.val (.int p1), .val (.int p2), .val (.int p3), .val (.int p4), .val (.int (p4 &&& (3 : Int32))), .unset, .unset, .unset, .unset] [])) _
    refine XS.iconst X0.here hx rfl (hb hby at_15) ?_
    show Steps p.tables e below (s₁.setTop (mkF m 16 #[.val (.int p1), .val (.int p2), .val (.int p3), .val (.int p4), .val (.int (p4 &&& (3 : Int32))), .unset, .unset, .unset, .unset] [(.int (0 : Int32))])) _
    refine XS.istore X0.here hx rfl (hb hby at_16) rfl (l' := #[.val (.int p1), .val (.int p2), .val (.int p3), .val (.int p4), .val (.int (p4 &&& (3 : Int32))), .val (.int (0 : Int32)), .unset, .unset, .unset]) rfl ?_
    show Steps p.tables e below (s₁.setTop (mkF m 18 #[.val (.int p1), .val (.int p2), .val (.int p3), .val (.int p4), .val (.int (p4 &&& (3 : Int32))), .val (.int (0 : Int32)), .unset, .unset, .unset] [])) _
    refine st5 _ ?_
    show Steps p.tables e below (T5.setTop (mkF m 21 #[.val (.int p1), .val (.int p2), .val (.int p3), .val (.int p4), .val (.int (p4 &&& (3 : Int32))), .val (.int (0 : Int32)), .unset, .unset, .unset] [(.ref b5)])) _
    refine XS.dup X5.here hx rfl (hb hby at_21) rfl rfl ?_
    show Steps p.tables e below (T5.setTop (mkF m 22 #[.val (.int p1), .val (.int p2), .val (.int p3), .val (.int p4), .val (.int (p4 &&& (3 : Int32))), .val (.int (0 : Int32)), .unset, .unset, .unset] [(.ref b5), (.ref b5)])) _
    refine st6.trans ?_
    show Steps p.tables e below (T6.setTop (mkF m 25 #[.val (.int p1), .val (.int p2), .val (.int p3), .val (.int p4), .val (.int (p4 &&& (3 : Int32))), .val (.int (0 : Int32)), .unset, .unset, .unset] [(.ref b5)])) _
    refine XS.astore X6.here hx rfl (hb hby at_25) rfl rfl (l' := #[.val (.int p1), .val (.int p2), .val (.int p3), .val (.int p4), .val (.int (p4 &&& (3 : Int32))), .val (.int (0 : Int32)), .val (.ref b5), .unset, .unset]) rfl ?_
    show Steps p.tables e below (T6.setTop (mkF m 27 #[.val (.int p1), .val (.int p2), .val (.int p3), .val (.int p4), .val (.int (p4 &&& (3 : Int32))), .val (.int (0 : Int32)), .val (.ref b5), .unset, .unset] [])) _
    refine XS.iload X6.here hx rfl (hb hby at_27) rfl ?_
    show Steps p.tables e below (T6.setTop (mkF m 29 #[.val (.int p1), .val (.int p2), .val (.int p3), .val (.int p4), .val (.int (p4 &&& (3 : Int32))), .val (.int (0 : Int32)), .val (.ref b5), .unset, .unset] [(.int (0 : Int32))])) _
    refine XS.ifYes X6.here hx rfl (pc0 := 29) (pc' := 43) rfl (hb hby at_29) rfl ((if0 _ _).trans (teq (rfl : (0 : Int32) = (0 : Int32))).1) (by decide) (by decide) ?_
    show Steps p.tables e below (T6.setTop (mkF m 43 #[.val (.int p1), .val (.int p2), .val (.int p3), .val (.int p4), .val (.int (p4 &&& (3 : Int32))), .val (.int (0 : Int32)), .val (.ref b5), .unset, .unset] [])) _
    refine XS.iload X6.here hx rfl (hb hby at_43) rfl ?_
    show Steps p.tables e below (T6.setTop (mkF m 45 #[.val (.int p1), .val (.int p2), .val (.int p3), .val (.int p4), .val (.int (p4 &&& (3 : Int32))), .val (.int (0 : Int32)), .val (.ref b5), .unset, .unset] [(.int (p4 &&& (3 : Int32)))])) _
    refine XS.iconst X6.here hx rfl (hb hby at_45) ?_
    show Steps p.tables e below (T6.setTop (mkF m 46 #[.val (.int p1), .val (.int p2), .val (.int p3), .val (.int p4), .val (.int (p4 &&& (3 : Int32))), .val (.int (0 : Int32)), .val (.ref b5), .unset, .unset] [(.int (1 : Int32)), (.int (p4 &&& (3 : Int32)))])) _
    refine XS.icmpNo X6.here hx rfl (hb hby at_46) rfl (flt hc46).1 ?_
    show Steps p.tables e below (T6.setTop (mkF m 49 #[.val (.int p1), .val (.int p2), .val (.int p3), .val (.int p4), .val (.int (p4 &&& (3 : Int32))), .val (.int (0 : Int32)), .val (.ref b5), .unset, .unset] [])) _
    refine XS.aload X6.here hx rfl (hb hby at_49) rfl rfl ?_
    show Steps p.tables e below (T6.setTop (mkF m 51 #[.val (.int p1), .val (.int p2), .val (.int p3), .val (.int p4), .val (.int (p4 &&& (3 : Int32))), .val (.int (0 : Int32)), .val (.ref b5), .unset, .unset] [(.ref b5)])) _
    refine XS.iloadN X6.here hx rfl (hb hby at_51) rfl ?_
    show Steps p.tables e below (T6.setTop (mkF m 52 #[.val (.int p1), .val (.int p2), .val (.int p3), .val (.int p4), .val (.int (p4 &&& (3 : Int32))), .val (.int (0 : Int32)), .val (.ref b5), .unset, .unset] [(.int p1), (.ref b5)])) _
    refine st7.trans ?_
    show Steps p.tables e below (T7.setTop (mkF m 55 #[.val (.int p1), .val (.int p2), .val (.int p3), .val (.int p4), .val (.int (p4 &&& (3 : Int32))), .val (.int (0 : Int32)), .val (.ref b5), .unset, .unset] [])) _
    refine XS.iload X7.here hx rfl (hb hby at_55) rfl ?_
    show Steps p.tables e below (T7.setTop (mkF m 57 #[.val (.int p1), .val (.int p2), .val (.int p3), .val (.int p4), .val (.int (p4 &&& (3 : Int32))), .val (.int (0 : Int32)), .val (.ref b5), .unset, .unset] [(.int (p4 &&& (3 : Int32)))])) _
    refine XS.iconst X7.here hx rfl (hb hby at_57) ?_
    show Steps p.tables e below (T7.setTop (mkF m 58 #[.val (.int p1), .val (.int p2), .val (.int p3), .val (.int p4), .val (.int (p4 &&& (3 : Int32))), .val (.int (0 : Int32)), .val (.ref b5), .unset, .unset] [(.int (2 : Int32)), (.int (p4 &&& (3 : Int32)))])) _
    refine XS.icmpNo X7.here hx rfl (hb hby at_58) rfl (flt hc58).1 ?_
    show Steps p.tables e below (T7.setTop (mkF m 61 #[.val (.int p1), .val (.int p2), .val (.int p3), .val (.int p4), .val (.int (p4 &&& (3 : Int32))), .val (.int (0 : Int32)), .val (.ref b5), .unset, .unset] [])) _
    refine XS.aload X7.here hx rfl (hb hby at_61) rfl rfl ?_
    show Steps p.tables e below (T7.setTop (mkF m 63 #[.val (.int p1), .val (.int p2), .val (.int p3), .val (.int p4), .val (.int (p4 &&& (3 : Int32))), .val (.int (0 : Int32)), .val (.ref b5), .unset, .unset] [(.ref b5)])) _
    refine XS.iloadN X7.here hx rfl (hb hby at_63) rfl ?_
    show Steps p.tables e below (T7.setTop (mkF m 64 #[.val (.int p1), .val (.int p2), .val (.int p3), .val (.int p4), .val (.int (p4 &&& (3 : Int32))), .val (.int (0 : Int32)), .val (.ref b5), .unset, .unset] [(.int p2), (.ref b5)])) _
    refine st8.trans ?_
    show Steps p.tables e below (T8.setTop (mkF m 67 #[.val (.int p1), .val (.int p2), .val (.int p3), .val (.int p4), .val (.int (p4 &&& (3 : Int32))), .val (.int (0 : Int32)), .val (.ref b5), .unset, .unset] [])) _
    refine XS.iload X8.here hx rfl (hb hby at_67) rfl ?_
    show Steps p.tables e below (T8.setTop (mkF m 69 #[.val (.int p1), .val (.int p2), .val (.int p3), .val (.int p4), .val (.int (p4 &&& (3 : Int32))), .val (.int (0 : Int32)), .val (.ref b5), .unset, .unset] [(.int (p4 &&& (3 : Int32)))])) _
    refine XS.iconst X8.here hx rfl (hb hby at_69) ?_
    show Steps p.tables e below (T8.setTop (mkF m 70 #[.val (.int p1), .val (.int p2), .val (.int p3), .val (.int p4), .val (.int (p4 &&& (3 : Int32))), .val (.int (0 : Int32)), .val (.ref b5), .unset, .unset] [(.int (3 : Int32)), (.int (p4 &&& (3 : Int32)))])) _
    refine XS.icmpNo X8.here hx rfl (hb hby at_70) rfl (flt hc70).1 ?_
    show Steps p.tables e below (T8.setTop (mkF m 73 #[.val (.int p1), .val (.int p2), .val (.int p3), .val (.int p4), .val (.int (p4 &&& (3 : Int32))), .val (.int (0 : Int32)), .val (.ref b5), .unset, .unset] [])) _
    refine XS.aload X8.here hx rfl (hb hby at_73) rfl rfl ?_
    show Steps p.tables e below (T8.setTop (mkF m 75 #[.val (.int p1), .val (.int p2), .val (.int p3), .val (.int p4), .val (.int (p4 &&& (3 : Int32))), .val (.int (0 : Int32)), .val (.ref b5), .unset, .unset] [(.ref b5)])) _
    refine XS.iloadN X8.here hx rfl (hb hby at_75) rfl ?_
    show Steps p.tables e below (T8.setTop (mkF m 76 #[.val (.int p1), .val (.int p2), .val (.int p3), .val (.int p4), .val (.int (p4 &&& (3 : Int32))), .val (.int (0 : Int32)), .val (.ref b5), .unset, .unset] [(.int p3), (.ref b5)])) _
    refine st9.trans ?_
    show Steps p.tables e below (T9.setTop (mkF m 79 #[.val (.int p1), .val (.int p2), .val (.int p3), .val (.int p4), .val (.int (p4 &&& (3 : Int32))), .val (.int (0 : Int32)), .val (.ref b5), .unset, .unset] [])) _
    refine XS.aload X9.here hx rfl (hb hby at_79) rfl rfl ?_
    show Steps p.tables e below (T9.setTop (mkF m 81 #[.val (.int p1), .val (.int p2), .val (.int p3), .val (.int p4), .val (.int (p4 &&& (3 : Int32))), .val (.int (0 : Int32)), .val (.ref b5), .unset, .unset] [(.ref b5)])) _
    refine st10.trans ?_
    show Steps p.tables e below (T10.setTop (mkF m 84 #[.val (.int p1), .val (.int p2), .val (.int p3), .val (.int p4), .val (.int (p4 &&& (3 : Int32))), .val (.int (0 : Int32)), .val (.ref b5), .unset, .unset] [(.int ((((0 : Int32) + (1 : Int32)) + (1 : Int32)) + (1 : Int32)))])) _
    refine XS.iload X10.here hx rfl (hb hby at_84) rfl ?_
    show Steps p.tables e below (T10.setTop (mkF m 86 #[.val (.int p1), .val (.int p2), .val (.int p3), .val (.int p4), .val (.int (p4 &&& (3 : Int32))), .val (.int (0 : Int32)), .val (.ref b5), .unset, .unset] [(.int (p4 &&& (3 : Int32))), (.int ((((0 : Int32) + (1 : Int32)) + (1 : Int32)) + (1 : Int32)))])) _
    refine XS.icmpYes X10.here hx rfl (pc0 := 86) (pc' := 91) rfl (hb hby at_86) rfl (teq hx86).1 (by decide) (by decide) ?_
    show Steps p.tables e below (T10.setTop (mkF m 91 #[.val (.int p1), .val (.int p2), .val (.int p3), .val (.int p4), .val (.int (p4 &&& (3 : Int32))), .val (.int (0 : Int32)), .val (.ref b5), .unset, .unset] [])) _
    refine XS.aload X10.here hx rfl (hb hby at_91) rfl rfl ?_
    show Steps p.tables e below (T10.setTop (mkF m 93 #[.val (.int p1), .val (.int p2), .val (.int p3), .val (.int p4), .val (.int (p4 &&& (3 : Int32))), .val (.int (0 : Int32)), .val (.ref b5), .unset, .unset] [(.ref b5)])) _
    refine st11.trans ?_
    show Steps p.tables e below (T11.setTop (mkF m 96 #[.val (.int p1), .val (.int p2), .val (.int p3), .val (.int p4), .val (.int (p4 &&& (3 : Int32))), .val (.int (0 : Int32)), .val (.ref b5), .unset, .unset] [(.ref t)])) _
    refine XS.astore X11.here hx rfl (hb hby at_96) rfl rfl (l' := #[.val (.int p1), .val (.int p2), .val (.int p3), .val (.int p4), .val (.int (p4 &&& (3 : Int32))), .val (.int (0 : Int32)), .val (.ref b5), .val (.ref t), .unset]) rfl ?_
    show Steps p.tables e below (T11.setTop (mkF m 98 #[.val (.int p1), .val (.int p2), .val (.int p3), .val (.int p4), .val (.int (p4 &&& (3 : Int32))), .val (.int (0 : Int32)), .val (.ref b5), .val (.ref t), .unset] [])) _
    refine XS.aload X11.here hx rfl (hb hby at_98) rfl rfl ?_
    show Steps p.tables e below (T11.setTop (mkF m 100 #[.val (.int p1), .val (.int p2), .val (.int p3), .val (.int p4), .val (.int (p4 &&& (3 : Int32))), .val (.int (0 : Int32)), .val (.ref b5), .val (.ref t), .unset] [(.ref t)])) _
    refine X11.arraylength hx Ar_t.1 (State.isArrayOf_alike hZ.alike Ar_t.2.1) (g := (mkF m 100 #[.val (.int p1), .val (.int p2), .val (.int p3), .val (.int p4), .val (.int (p4 &&& (3 : Int32))), .val (.int (0 : Int32)), .val (.ref b5), .val (.ref t), .unset] [(.ref t)])) rfl rfl (hb hby at_100) _ ?_
    rw [len_of S_t N_t]
    show Steps p.tables e below (T11.setTop (mkF m 101 #[.val (.int p1), .val (.int p2), .val (.int p3), .val (.int p4), .val (.int (p4 &&& (3 : Int32))), .val (.int (0 : Int32)), .val (.ref b5), .val (.ref t), .unset] [(.int (256 : Int32))])) _
    refine XS.sipush X11.here hx rfl (hb hby at_101) ?_
    show Steps p.tables e below (T11.setTop (mkF m 104 #[.val (.int p1), .val (.int p2), .val (.int p3), .val (.int p4), .val (.int (p4 &&& (3 : Int32))), .val (.int (0 : Int32)), .val (.ref b5), .val (.ref t), .unset] [(.int (256 : Int32)), (.int (256 : Int32))])) _
    refine XS.icmpYes X11.here hx rfl (pc0 := 104) (pc' := 109) rfl (hb hby at_104) rfl (teq hx104).1 (by decide) (by decide) ?_
    show Steps p.tables e below (T11.setTop (mkF m 109 #[.val (.int p1), .val (.int p2), .val (.int p3), .val (.int p4), .val (.int (p4 &&& (3 : Int32))), .val (.int (0 : Int32)), .val (.ref b5), .val (.ref t), .unset] [])) _
    refine XS.iload X11.here hx rfl (hb hby at_109) rfl ?_
    show Steps p.tables e below (T11.setTop (mkF m 111 #[.val (.int p1), .val (.int p2), .val (.int p3), .val (.int p4), .val (.int (p4 &&& (3 : Int32))), .val (.int (0 : Int32)), .val (.ref b5), .val (.ref t), .unset] [(.int (p4 &&& (3 : Int32)))])) _
    refine XS.iconst X11.here hx rfl (hb hby at_111) ?_
    show Steps p.tables e below (T11.setTop (mkF m 112 #[.val (.int p1), .val (.int p2), .val (.int p3), .val (.int p4), .val (.int (p4 &&& (3 : Int32))), .val (.int (0 : Int32)), .val (.ref b5), .val (.ref t), .unset] [(.int (1 : Int32)), (.int (p4 &&& (3 : Int32)))])) _
    refine XS.icmpNo X11.here hx rfl (hb hby at_112) rfl (flt hc112).1 ?_
    show Steps p.tables e below (T11.setTop (mkF m 115 #[.val (.int p1), .val (.int p2), .val (.int p3), .val (.int p4), .val (.int (p4 &&& (3 : Int32))), .val (.int (0 : Int32)), .val (.ref b5), .val (.ref t), .unset] [])) _
    refine XS.aload X11.here hx rfl (hb hby at_115) rfl rfl ?_
    show Steps p.tables e below (T11.setTop (mkF m 117 #[.val (.int p1), .val (.int p2), .val (.int p3), .val (.int p4), .val (.int (p4 &&& (3 : Int32))), .val (.int (0 : Int32)), .val (.ref b5), .val (.ref t), .unset] [(.ref t)])) _
    refine XS.iconst X11.here hx rfl (hb hby at_117) ?_
    show Steps p.tables e below (T11.setTop (mkF m 118 #[.val (.int p1), .val (.int p2), .val (.int p3), .val (.int p4), .val (.int (p4 &&& (3 : Int32))), .val (.int (0 : Int32)), .val (.ref b5), .val (.ref t), .unset] [(.int (0 : Int32)), (.ref t)])) _
    refine X11.baloadBytes hx (j := (0 : Int32)) (v := (.int (own_b p1))) Ar_t.1 (State.isArrayOf_alike hZ.alike Ar_t.2.1) Ar_t.2.2 hin118 hat118 (g := (mkF m 118 #[.val (.int p1), .val (.int p2), .val (.int p3), .val (.int p4), .val (.int (p4 &&& (3 : Int32))), .val (.int (0 : Int32)), .val (.ref b5), .val (.ref t), .unset] [(.int (0 : Int32)), (.ref t)])) rfl rfl (hb hby at_118) _ ?_
    show Steps p.tables e below (T11.setTop (mkF m 119 #[.val (.int p1), .val (.int p2), .val (.int p3), .val (.int p4), .val (.int (p4 &&& (3 : Int32))), .val (.int (0 : Int32)), .val (.ref b5), .val (.ref t), .unset] [(.int (own_b p1))])) _
    refine XS.sipush X11.here hx rfl (hb hby at_119) ?_
    show Steps p.tables e below (T11.setTop (mkF m 122 #[.val (.int p1), .val (.int p2), .val (.int p3), .val (.int p4), .val (.int (p4 &&& (3 : Int32))), .val (.int (0 : Int32)), .val (.ref b5), .val (.ref t), .unset] [(.int (255 : Int32)), (.int (own_b p1))])) _
    refine XS.iand X11.here hx rfl (hb hby at_122) rfl ?_
    show Steps p.tables e below (T11.setTop (mkF m 123 #[.val (.int p1), .val (.int p2), .val (.int p3), .val (.int p4), .val (.int (p4 &&& (3 : Int32))), .val (.int (0 : Int32)), .val (.ref b5), .val (.ref t), .unset] [(.int ((own_b p1) &&& (255 : Int32)))])) _
    refine XS.iloadN X11.here hx rfl (hb hby at_123) rfl ?_
    show Steps p.tables e below (T11.setTop (mkF m 124 #[.val (.int p1), .val (.int p2), .val (.int p3), .val (.int p4), .val (.int (p4 &&& (3 : Int32))), .val (.int (0 : Int32)), .val (.ref b5), .val (.ref t), .unset] [(.int p1), (.int ((own_b p1) &&& (255 : Int32)))])) _
    refine XS.sipush X11.here hx rfl (hb hby at_124) ?_
    show Steps p.tables e below (T11.setTop (mkF m 127 #[.val (.int p1), .val (.int p2), .val (.int p3), .val (.int p4), .val (.int (p4 &&& (3 : Int32))), .val (.int (0 : Int32)), .val (.ref b5), .val (.ref t), .unset] [(.int (255 : Int32)), (.int p1), (.int ((own_b p1) &&& (255 : Int32)))])) _
    refine XS.iand X11.here hx rfl (hb hby at_127) rfl ?_
    show Steps p.tables e below (T11.setTop (mkF m 128 #[.val (.int p1), .val (.int p2), .val (.int p3), .val (.int p4), .val (.int (p4 &&& (3 : Int32))), .val (.int (0 : Int32)), .val (.ref b5), .val (.ref t), .unset] [(.int (p1 &&& (255 : Int32))), (.int ((own_b p1) &&& (255 : Int32)))])) _
    refine XS.icmpYes X11.here hx rfl (pc0 := 128) (pc' := 133) rfl (hb hby at_128) rfl (teq hc128).1 (by decide) (by decide) ?_
    show Steps p.tables e below (T11.setTop (mkF m 133 #[.val (.int p1), .val (.int p2), .val (.int p3), .val (.int p4), .val (.int (p4 &&& (3 : Int32))), .val (.int (0 : Int32)), .val (.ref b5), .val (.ref t), .unset] [])) _
    refine XS.iload X11.here hx rfl (hb hby at_133) rfl ?_
    show Steps p.tables e below (T11.setTop (mkF m 135 #[.val (.int p1), .val (.int p2), .val (.int p3), .val (.int p4), .val (.int (p4 &&& (3 : Int32))), .val (.int (0 : Int32)), .val (.ref b5), .val (.ref t), .unset] [(.int (p4 &&& (3 : Int32)))])) _
    refine XS.iconst X11.here hx rfl (hb hby at_135) ?_
    show Steps p.tables e below (T11.setTop (mkF m 136 #[.val (.int p1), .val (.int p2), .val (.int p3), .val (.int p4), .val (.int (p4 &&& (3 : Int32))), .val (.int (0 : Int32)), .val (.ref b5), .val (.ref t), .unset] [(.int (2 : Int32)), (.int (p4 &&& (3 : Int32)))])) _
    refine XS.icmpNo X11.here hx rfl (hb hby at_136) rfl (flt hc136).1 ?_
    show Steps p.tables e below (T11.setTop (mkF m 139 #[.val (.int p1), .val (.int p2), .val (.int p3), .val (.int p4), .val (.int (p4 &&& (3 : Int32))), .val (.int (0 : Int32)), .val (.ref b5), .val (.ref t), .unset] [])) _
    refine XS.aload X11.here hx rfl (hb hby at_139) rfl rfl ?_
    show Steps p.tables e below (T11.setTop (mkF m 141 #[.val (.int p1), .val (.int p2), .val (.int p3), .val (.int p4), .val (.int (p4 &&& (3 : Int32))), .val (.int (0 : Int32)), .val (.ref b5), .val (.ref t), .unset] [(.ref t)])) _
    refine XS.iconst X11.here hx rfl (hb hby at_141) ?_
    show Steps p.tables e below (T11.setTop (mkF m 142 #[.val (.int p1), .val (.int p2), .val (.int p3), .val (.int p4), .val (.int (p4 &&& (3 : Int32))), .val (.int (0 : Int32)), .val (.ref b5), .val (.ref t), .unset] [(.int (1 : Int32)), (.ref t)])) _
    refine X11.baloadBytes hx (j := (1 : Int32)) (v := (.int (own_b p2))) Ar_t.1 (State.isArrayOf_alike hZ.alike Ar_t.2.1) Ar_t.2.2 hin142 hat142 (g := (mkF m 142 #[.val (.int p1), .val (.int p2), .val (.int p3), .val (.int p4), .val (.int (p4 &&& (3 : Int32))), .val (.int (0 : Int32)), .val (.ref b5), .val (.ref t), .unset] [(.int (1 : Int32)), (.ref t)])) rfl rfl (hb hby at_142) _ ?_
    show Steps p.tables e below (T11.setTop (mkF m 143 #[.val (.int p1), .val (.int p2), .val (.int p3), .val (.int p4), .val (.int (p4 &&& (3 : Int32))), .val (.int (0 : Int32)), .val (.ref b5), .val (.ref t), .unset] [(.int (own_b p2))])) _
    refine XS.sipush X11.here hx rfl (hb hby at_143) ?_
    show Steps p.tables e below (T11.setTop (mkF m 146 #[.val (.int p1), .val (.int p2), .val (.int p3), .val (.int p4), .val (.int (p4 &&& (3 : Int32))), .val (.int (0 : Int32)), .val (.ref b5), .val (.ref t), .unset] [(.int (255 : Int32)), (.int (own_b p2))])) _
    refine XS.iand X11.here hx rfl (hb hby at_146) rfl ?_
    show Steps p.tables e below (T11.setTop (mkF m 147 #[.val (.int p1), .val (.int p2), .val (.int p3), .val (.int p4), .val (.int (p4 &&& (3 : Int32))), .val (.int (0 : Int32)), .val (.ref b5), .val (.ref t), .unset] [(.int ((own_b p2) &&& (255 : Int32)))])) _
    refine XS.iloadN X11.here hx rfl (hb hby at_147) rfl ?_
    show Steps p.tables e below (T11.setTop (mkF m 148 #[.val (.int p1), .val (.int p2), .val (.int p3), .val (.int p4), .val (.int (p4 &&& (3 : Int32))), .val (.int (0 : Int32)), .val (.ref b5), .val (.ref t), .unset] [(.int p2), (.int ((own_b p2) &&& (255 : Int32)))])) _
    refine XS.sipush X11.here hx rfl (hb hby at_148) ?_
    show Steps p.tables e below (T11.setTop (mkF m 151 #[.val (.int p1), .val (.int p2), .val (.int p3), .val (.int p4), .val (.int (p4 &&& (3 : Int32))), .val (.int (0 : Int32)), .val (.ref b5), .val (.ref t), .unset] [(.int (255 : Int32)), (.int p2), (.int ((own_b p2) &&& (255 : Int32)))])) _
    refine XS.iand X11.here hx rfl (hb hby at_151) rfl ?_
    show Steps p.tables e below (T11.setTop (mkF m 152 #[.val (.int p1), .val (.int p2), .val (.int p3), .val (.int p4), .val (.int (p4 &&& (3 : Int32))), .val (.int (0 : Int32)), .val (.ref b5), .val (.ref t), .unset] [(.int (p2 &&& (255 : Int32))), (.int ((own_b p2) &&& (255 : Int32)))])) _
    refine XS.icmpYes X11.here hx rfl (pc0 := 152) (pc' := 157) rfl (hb hby at_152) rfl (teq hc152).1 (by decide) (by decide) ?_
    show Steps p.tables e below (T11.setTop (mkF m 157 #[.val (.int p1), .val (.int p2), .val (.int p3), .val (.int p4), .val (.int (p4 &&& (3 : Int32))), .val (.int (0 : Int32)), .val (.ref b5), .val (.ref t), .unset] [])) _
    refine XS.iload X11.here hx rfl (hb hby at_157) rfl ?_
    show Steps p.tables e below (T11.setTop (mkF m 159 #[.val (.int p1), .val (.int p2), .val (.int p3), .val (.int p4), .val (.int (p4 &&& (3 : Int32))), .val (.int (0 : Int32)), .val (.ref b5), .val (.ref t), .unset] [(.int (p4 &&& (3 : Int32)))])) _
    refine XS.iconst X11.here hx rfl (hb hby at_159) ?_
    show Steps p.tables e below (T11.setTop (mkF m 160 #[.val (.int p1), .val (.int p2), .val (.int p3), .val (.int p4), .val (.int (p4 &&& (3 : Int32))), .val (.int (0 : Int32)), .val (.ref b5), .val (.ref t), .unset] [(.int (3 : Int32)), (.int (p4 &&& (3 : Int32)))])) _
    refine XS.icmpNo X11.here hx rfl (hb hby at_160) rfl (flt hc160).1 ?_
    show Steps p.tables e below (T11.setTop (mkF m 163 #[.val (.int p1), .val (.int p2), .val (.int p3), .val (.int p4), .val (.int (p4 &&& (3 : Int32))), .val (.int (0 : Int32)), .val (.ref b5), .val (.ref t), .unset] [])) _
    refine XS.aload X11.here hx rfl (hb hby at_163) rfl rfl ?_
    show Steps p.tables e below (T11.setTop (mkF m 165 #[.val (.int p1), .val (.int p2), .val (.int p3), .val (.int p4), .val (.int (p4 &&& (3 : Int32))), .val (.int (0 : Int32)), .val (.ref b5), .val (.ref t), .unset] [(.ref t)])) _
    refine XS.iconst X11.here hx rfl (hb hby at_165) ?_
    show Steps p.tables e below (T11.setTop (mkF m 166 #[.val (.int p1), .val (.int p2), .val (.int p3), .val (.int p4), .val (.int (p4 &&& (3 : Int32))), .val (.int (0 : Int32)), .val (.ref b5), .val (.ref t), .unset] [(.int (2 : Int32)), (.ref t)])) _
    refine X11.baloadBytes hx (j := (2 : Int32)) (v := (.int (own_b p3))) Ar_t.1 (State.isArrayOf_alike hZ.alike Ar_t.2.1) Ar_t.2.2 hin166 hat166 (g := (mkF m 166 #[.val (.int p1), .val (.int p2), .val (.int p3), .val (.int p4), .val (.int (p4 &&& (3 : Int32))), .val (.int (0 : Int32)), .val (.ref b5), .val (.ref t), .unset] [(.int (2 : Int32)), (.ref t)])) rfl rfl (hb hby at_166) _ ?_
    show Steps p.tables e below (T11.setTop (mkF m 167 #[.val (.int p1), .val (.int p2), .val (.int p3), .val (.int p4), .val (.int (p4 &&& (3 : Int32))), .val (.int (0 : Int32)), .val (.ref b5), .val (.ref t), .unset] [(.int (own_b p3))])) _
    refine XS.sipush X11.here hx rfl (hb hby at_167) ?_
    show Steps p.tables e below (T11.setTop (mkF m 170 #[.val (.int p1), .val (.int p2), .val (.int p3), .val (.int p4), .val (.int (p4 &&& (3 : Int32))), .val (.int (0 : Int32)), .val (.ref b5), .val (.ref t), .unset] [(.int (255 : Int32)), (.int (own_b p3))])) _
    refine XS.iand X11.here hx rfl (hb hby at_170) rfl ?_
    show Steps p.tables e below (T11.setTop (mkF m 171 #[.val (.int p1), .val (.int p2), .val (.int p3), .val (.int p4), .val (.int (p4 &&& (3 : Int32))), .val (.int (0 : Int32)), .val (.ref b5), .val (.ref t), .unset] [(.int ((own_b p3) &&& (255 : Int32)))])) _
    refine XS.iloadN X11.here hx rfl (hb hby at_171) rfl ?_
    show Steps p.tables e below (T11.setTop (mkF m 172 #[.val (.int p1), .val (.int p2), .val (.int p3), .val (.int p4), .val (.int (p4 &&& (3 : Int32))), .val (.int (0 : Int32)), .val (.ref b5), .val (.ref t), .unset] [(.int p3), (.int ((own_b p3) &&& (255 : Int32)))])) _
    refine XS.sipush X11.here hx rfl (hb hby at_172) ?_
    show Steps p.tables e below (T11.setTop (mkF m 175 #[.val (.int p1), .val (.int p2), .val (.int p3), .val (.int p4), .val (.int (p4 &&& (3 : Int32))), .val (.int (0 : Int32)), .val (.ref b5), .val (.ref t), .unset] [(.int (255 : Int32)), (.int p3), (.int ((own_b p3) &&& (255 : Int32)))])) _
    refine XS.iand X11.here hx rfl (hb hby at_175) rfl ?_
    show Steps p.tables e below (T11.setTop (mkF m 176 #[.val (.int p1), .val (.int p2), .val (.int p3), .val (.int p4), .val (.int (p4 &&& (3 : Int32))), .val (.int (0 : Int32)), .val (.ref b5), .val (.ref t), .unset] [(.int (p3 &&& (255 : Int32))), (.int ((own_b p3) &&& (255 : Int32)))])) _
    refine XS.icmpYes X11.here hx rfl (pc0 := 176) (pc' := 181) rfl (hb hby at_176) rfl (teq hc176).1 (by decide) (by decide) ?_
    show Steps p.tables e below (T11.setTop (mkF m 181 #[.val (.int p1), .val (.int p2), .val (.int p3), .val (.int p4), .val (.int (p4 &&& (3 : Int32))), .val (.int (0 : Int32)), .val (.ref b5), .val (.ref t), .unset] [])) _
    refine XS.iload X11.here hx rfl (hb hby at_181) rfl ?_
    show Steps p.tables e below (T11.setTop (mkF m 183 #[.val (.int p1), .val (.int p2), .val (.int p3), .val (.int p4), .val (.int (p4 &&& (3 : Int32))), .val (.int (0 : Int32)), .val (.ref b5), .val (.ref t), .unset] [(.int (0 : Int32))])) _
    refine XS.ifYes X11.here hx rfl (pc0 := 183) (pc' := 199) rfl (hb hby at_183) rfl ((if0 _ _).trans (teq (rfl : (0 : Int32) = (0 : Int32))).1) (by decide) (by decide) ?_
    show Steps p.tables e below (T11.setTop (mkF m 199 #[.val (.int p1), .val (.int p2), .val (.int p3), .val (.int p4), .val (.int (p4 &&& (3 : Int32))), .val (.int (0 : Int32)), .val (.ref b5), .val (.ref t), .unset] [])) _
    refine XS.iconst X11.here hx rfl (hb hby at_199) ?_
    show Steps p.tables e below (T11.setTop (mkF m 200 #[.val (.int p1), .val (.int p2), .val (.int p3), .val (.int p4), .val (.int (p4 &&& (3 : Int32))), .val (.int (0 : Int32)), .val (.ref b5), .val (.ref t), .unset] [(.int (0 : Int32))])) _
    refine XS.istore X11.here hx rfl (hb hby at_200) rfl (l' := #[.val (.int p1), .val (.int p2), .val (.int p3), .val (.int p4), .val (.int (p4 &&& (3 : Int32))), .val (.int (0 : Int32)), .val (.ref b5), .val (.ref t), .val (.int (0 : Int32))]) rfl ?_
    show Steps p.tables e below (T11.setTop (mkF m 202 #[.val (.int p1), .val (.int p2), .val (.int p3), .val (.int p4), .val (.int (p4 &&& (3 : Int32))), .val (.int (0 : Int32)), .val (.ref b5), .val (.ref t), .val (.int (0 : Int32))] [])) _
    refine XS.aload X11.here hx rfl (hb hby at_202) rfl rfl ?_
    show Steps p.tables e below (T11.setTop (mkF m 204 #[.val (.int p1), .val (.int p2), .val (.int p3), .val (.int p4), .val (.int (p4 &&& (3 : Int32))), .val (.int (0 : Int32)), .val (.ref b5), .val (.ref t), .val (.int (0 : Int32))] [(.ref t)])) _
    refine XS.iload X11.here hx rfl (hb hby at_204) rfl ?_
    show Steps p.tables e below (T11.setTop (mkF m 206 #[.val (.int p1), .val (.int p2), .val (.int p3), .val (.int p4), .val (.int (p4 &&& (3 : Int32))), .val (.int (0 : Int32)), .val (.ref b5), .val (.ref t), .val (.int (0 : Int32))] [(.int (p4 &&& (3 : Int32))), (.ref t)])) _
    refine X11.baloadBytes hx (j := (p4 &&& (3 : Int32))) (v := (.int (0 : Int32))) Ar_t.1 (State.isArrayOf_alike hZ.alike Ar_t.2.1) Ar_t.2.2 hin206 hat206 (g := (mkF m 206 #[.val (.int p1), .val (.int p2), .val (.int p3), .val (.int p4), .val (.int (p4 &&& (3 : Int32))), .val (.int (0 : Int32)), .val (.ref b5), .val (.ref t), .val (.int (0 : Int32))] [(.int (p4 &&& (3 : Int32))), (.ref t)])) rfl rfl (hb hby at_206) _ ?_
    show Steps p.tables e below (T11.setTop (mkF m 207 #[.val (.int p1), .val (.int p2), .val (.int p3), .val (.int p4), .val (.int (p4 &&& (3 : Int32))), .val (.int (0 : Int32)), .val (.ref b5), .val (.ref t), .val (.int (0 : Int32))] [(.int (0 : Int32))])) _
    refine XS.sipush X11.here hx rfl (hb hby at_207) ?_
    show Steps p.tables e below (T11.setTop (mkF m 210 #[.val (.int p1), .val (.int p2), .val (.int p3), .val (.int p4), .val (.int (p4 &&& (3 : Int32))), .val (.int (0 : Int32)), .val (.ref b5), .val (.ref t), .val (.int (0 : Int32))] [(.int (255 : Int32)), (.int (0 : Int32))])) _
    refine XS.iand X11.here hx rfl (hb hby at_210) rfl ?_
    show Steps p.tables e below (T11.setTop (mkF m 211 #[.val (.int p1), .val (.int p2), .val (.int p3), .val (.int p4), .val (.int (p4 &&& (3 : Int32))), .val (.int (0 : Int32)), .val (.ref b5), .val (.ref t), .val (.int (0 : Int32))] [(.int ((0 : Int32) &&& (255 : Int32)))])) _
    refine XS.iload X11.here hx rfl (hb hby at_211) rfl ?_
    show Steps p.tables e below (T11.setTop (mkF m 213 #[.val (.int p1), .val (.int p2), .val (.int p3), .val (.int p4), .val (.int (p4 &&& (3 : Int32))), .val (.int (0 : Int32)), .val (.ref b5), .val (.ref t), .val (.int (0 : Int32))] [(.int (0 : Int32)), (.int ((0 : Int32) &&& (255 : Int32)))])) _
    refine XS.icmpNo X11.here hx rfl (hb hby at_213) rfl (teq hc213).2 ?_
    show Steps p.tables e below (T11.setTop (mkF m 216 #[.val (.int p1), .val (.int p2), .val (.int p3), .val (.int p4), .val (.int (p4 &&& (3 : Int32))), .val (.int (0 : Int32)), .val (.ref b5), .val (.ref t), .val (.int (0 : Int32))] [])) _
    refine XS.iconst X11.here hx rfl (hb hby at_216) ?_
    show Steps p.tables e below (T11.setTop (mkF m 217 #[.val (.int p1), .val (.int p2), .val (.int p3), .val (.int p4), .val (.int (p4 &&& (3 : Int32))), .val (.int (0 : Int32)), .val (.ref b5), .val (.ref t), .val (.int (0 : Int32))] [(.int (1 : Int32))])) _
    refine XS.goto X11.here hx rfl (pc0 := 217) (pc' := 221) rfl (hb hby at_217) (by decide) (by decide) ?_
    show Steps p.tables e below (T11.setTop (mkF m 221 #[.val (.int p1), .val (.int p2), .val (.int p3), .val (.int p4), .val (.int (p4 &&& (3 : Int32))), .val (.int (0 : Int32)), .val (.ref b5), .val (.ref t), .val (.int (0 : Int32))] [(.int (1 : Int32))])) _
    exact retN X11 hx (t := .boolean) Bd.returns (by simp) (hb hby at_221) hr
  · show Q0 Z p1 p2 p3 p4 h0 n0 _ T11.heap _
    exact ⟨rfl, N11⟩
theorem rm0 (l : Launch) (Z : State) (a0 : Array Value) (hw : ∀ d ∈ tables_1, d.before a0 Z = true) (ws : List Jvm.Cond) (p1 : Int32) (p2 : Int32) (p3 : Int32) (p4 : Int32) (h0 : Heap) (n0 : Nat) (Z0 : n0 ≤ h0.size) :
    MetFree l x (head1 (Jvm.Cond.code x code maxLocals ret :: ws) room_1) (fun a U => a = #[(.int p1), (.int p2), (.int p3), (.int p4)] ∧ Z.Warmed39 U.vm ∧ U.heap = h0) (fun _ _ _ _ _ => True) (fun _ U o U' => ∃ v L, o = .returned v ∧ Q0 Z p1 p2 p3 p4 h0 n0 v U'.heap L ∧ FrameEnd U o U' L room_1.cells room_1.slots) := by
  by_cases h4 : (p4 &&& (4 : Int32)) = (0 : Int32)
  · rcases own_four p4 with hn | hn | hn | hn
    · exact rm0_o0 l Z a0 hw ws p1 p2 p3 p4 h0 n0 Z0 hn h4 (by rw [hn]; first | done | decide) (by rw [hn]; first | done | decide) (by rw [hn]; first | done | decide) (by rw [hn]; first | done | decide) (by rw [hn]; first | done | decide) (by rw [hn]; first | done | decide) (by decide) (by rw [hn]; first | done | decide) rfl
    · exact rm0_o1 l Z a0 hw ws p1 p2 p3 p4 h0 n0 Z0 hn h4 (by rw [hn]; first | done | decide) (by rw [hn]; first | done | decide) (by rw [hn]; first | done | decide) (by rw [hn]; first | done | decide) (own_mask p1) (by rw [hn]; first | done | decide) (by rw [hn]; first | done | decide) (by decide) (by rw [hn]; first | done | decide) rfl
    · exact rm0_o2 l Z a0 hw ws p1 p2 p3 p4 h0 n0 Z0 hn h4 (by rw [hn]; first | done | decide) (by rw [hn]; first | done | decide) (by rw [hn]; first | done | decide) (by rw [hn]; first | done | decide) (own_mask p1) (by rw [hn]; first | done | decide) (own_mask p2) (by rw [hn]; first | done | decide) (by decide) (by rw [hn]; first | done | decide) rfl
    · exact rm0_o3 l Z a0 hw ws p1 p2 p3 p4 h0 n0 Z0 hn h4 (by rw [hn]; first | done | decide) (by rw [hn]; first | done | decide) (by rw [hn]; first | done | decide) (by rw [hn]; first | done | decide) (own_mask p1) (by rw [hn]; first | done | decide) (own_mask p2) (by rw [hn]; first | done | decide) (own_mask p3) (by decide) (by rw [hn]; first | done | decide) rfl
  · rcases own_four p4 with hn | hn | hn | hn
    · exact rm0_p0 l Z a0 hw ws p1 p2 p3 p4 h0 n0 Z0 hn h4 (by decide) (by rw [hn]; first | done | decide) (by rw [hn]; first | done | decide) (by rw [hn]; first | done | decide) (by rw [hn]; first | done | decide) (by rw [hn]; first | done | decide) (by rw [hn]; first | done | decide) (by decide) (by rw [hn]; first | done | decide) (own_mask p3) (by rw [hn]; first | done | decide) rfl
    · exact rm0_p1 l Z a0 hw ws p1 p2 p3 p4 h0 n0 Z0 hn h4 (by decide) (by rw [hn]; first | done | decide) (by rw [hn]; first | done | decide) (by rw [hn]; first | done | decide) (by rw [hn]; first | done | decide) (own_mask p1) (by rw [hn]; first | done | decide) (by rw [hn]; first | done | decide) (by decide) (by rw [hn]; first | done | decide) (by decide) (by rw [hn]; first | done | decide) rfl
    · exact rm0_p2 l Z a0 hw ws p1 p2 p3 p4 h0 n0 Z0 hn h4 (by decide) (by rw [hn]; first | done | decide) (by rw [hn]; first | done | decide) (by rw [hn]; first | done | decide) (by rw [hn]; first | done | decide) (own_mask p1) (by rw [hn]; first | done | decide) (own_mask p2) (by rw [hn]; first | done | decide) (by decide) (by rw [hn]; first | done | decide) (by decide) (by rw [hn]; first | done | decide) rfl
    · exact rm0_p3 l Z a0 hw ws p1 p2 p3 p4 h0 n0 Z0 hn h4 (by decide) (by rw [hn]; first | done | decide) (by rw [hn]; first | done | decide) (by rw [hn]; first | done | decide) (by rw [hn]; first | done | decide) (own_mask p1) (by rw [hn]; first | done | decide) (own_mask p2) (by rw [hn]; first | done | decide) (own_mask p3) (by decide) (by rw [hn]; first | done | decide) (by decide) (by rw [hn]; first | done | decide) rfl
set_option maxRecDepth 65536 in
set_option maxHeartbeats 40000000 in
theorem comes_1 {Post : Tables → Env → Array Value → State → Outcome → State → Prop} (hpost : ∀ tb e args s v u, (limb_1_1.after args s (.returned v) u = true ∧ limb_1_2.after args s (.returned v) u = true ∧ True) → FrameEnd s (.returned v) u (Jvm.fieldLocs frame_1_writes args s ++ Jvm.arrayLocs frame_1_arrays args s ++ Jvm.staticLocs frame_1_statics s) 16 640 → Post tb e args s (.returned v) u) :
    ArmFor flags0 classFile x code maxLocals ret World_1 tables_1 room_1 Calls_1 rest_1 Pre_1 Post := by
  intro l hfl _ _ p e ha hc hk s m args below hf hA hF happ hP
  obtain ⟨hcalls, hrest, hpre⟩ := hP
  obtain ⟨-, -, -, hnamed, -, -, -, hat⟩ := (Spec.applies_iff hf).mp happ
  obtain ⟨hg, hn⟩ := and_e (Cond.before_iff.mp (show (Jvm.Cond.and given_1 narrow_1).before args s = true from hpre))
  obtain ⟨g16, g17⟩ := and_e hg
  obtain ⟨g18, g19⟩ := and_e g17
  obtain ⟨g20, g21⟩ := and_e g19
  obtain ⟨g22, g23⟩ := and_e g21
  obtain ⟨w0, w1, w2, w3, rfl⟩ : ∃ w0 w1 w2 w3 : Value, args = #[w0, w1, w2, w3] := by
    have hs : args.size = 4 := by simpa [Cond.value, given_1] using g16
    obtain ⟨L⟩ := args
    match L, hs with
    | [w0, w1, w2, w3], _ => exact ⟨w0, w1, w2, w3, rfl⟩
  have hw := fun d (hd : d ∈ tables_1) => atoms_spec (ws := Jvm.Cond.code x code maxLocals ret :: tables_1) hat d (List.mem_cons_of_mem _ hd)
  have hfit : Fit s := fun {y c} hc i hi => by
    obtain ⟨ha, rfl⟩ := Array.getElem?_eq_some_iff.mp hc
    have q := List.all_eq_true.mp ((Array.all_eq_true_iff_forall_mem.mp hF) _ (Array.getElem_mem ha)) i (List.mem_range.mpr hi)
    simpa [Array.getElem?_eq_getElem hi] using q
  obtain ⟨i0, ei0⟩ := is_v g18
  obtain rfl : w0 = (.int i0) := Option.some.inj ei0
  obtain ⟨i1, ei1⟩ := is_v g20
  obtain rfl : w1 = (.int i1) := Option.some.inj ei1
  obtain ⟨i2, ei2⟩ := is_v g22
  obtain rfl : w2 = (.int i2) := Option.some.inj ei2
  obtain ⟨i3, ei3⟩ := is_v g23
  obtain rfl : w3 = (.int i3) := Option.some.inj ei3
  obtain ⟨n, o, h1, h2, h3, _, L, rfl, ⟨rfl, N⟩, hq⟩ := rm0 l s _ hw tables_1 i0 i1 i2 i3 s.heap s.heap.size (Nat.le_refl _) p e ha hc hk s m _ below hf ((Spec.applies_iff_loose hf).mp happ).1 ⟨rfl, State.Warmed39.refl s, rfl⟩ trivial
  refine ⟨n, _, h1, h2, h3, hpost _ _ _ _ _ _ ⟨Cond.after_iff.mpr rfl, Cond.after_iff.mpr (eq_i res_at (Term.int_eval (1)) rfl), trivial⟩ ⟨hq.1, hq.2.1, (hq.2.2.sift fun y hy => Or.inr (N y hy)).mono (by decide) (by decide)⟩⟩
theorem main_1_1 : Claimed_1_1 := comes_1 fun _ _ _ _ _ _ h hF => ⟨h.1, hF⟩
theorem main_1_2 : Claimed_1_2 := comes_1 fun _ _ _ _ _ _ h hF => ⟨h.2.1, hF⟩
end Jvm.Pilot.@@N@@
namespace Jvm.Pilot.@@N@@
open Jvm Jvm.ClassFile Sem Op Lib Jvm.Free Jvm.Stand Jvm.Pilot.@@N@@.Jvm.D
/-! MADE BY PROGRAM (witnessworld.py) out of the Statement's table words and the real class files: 9 classes; the members and pool entries that the words name. The judged class is class 1, her method 1. -/
namespace start1
open Jvm.ClassFile
def u (s : String) : CpInfo := .utf8 (stringToUtf16 s)
/-- a pool by its gaps: so many unusable entries, then the entry; so many at the end -/
def gap : Nat → List CpInfo → List CpInfo
  | 0, r => r
  | n + 1, r => .unusable :: gap n r
def poolList (es : List (Nat × CpInfo)) (last : Nat) : List CpInfo := es.foldr (fun e r => gap e.1 (e.2 :: r)) (gap last [])
def pool (es : List (Nat × CpInfo)) (last : Nat) : Array CpInfo := ⟨poolList es last⟩
def fileOf (pool : Array CpInfo) (this : Nat) (attrs : Array Attribute := #[]) (ms : Array MethodInfo := #[]) (fl : Nat := 33) (sup : Nat := 0) (ifs : Array Nat := #[]) (fds : Array FieldInfo := #[]) : ClassFile where
  minorVersion := 0
  majorVersion := 65
  constantPool := pool
  accessFlags := fl
  thisClass := this
  superClass := sup
  interfaces := ifs
  fields := fds
  methods := ms
  attributes := attrs
def plain (name : String) (sup : Option ClassId) : Class where
  name := name
  kind := .ordinary
  loader := none
  accessFlags := 33
  super := sup
  interfaces := #[]
  cf := none
  fields := #[]
  methods := #[]
  instanceTypes := #[]
  staticTypes := #[]
  resolved := #[]
  callSites := []
  init := .initialized
  statics := none
  mirror := none

def pool0 : Array CpInfo := pool [(5, u "<init>"), (0, u "()V"), (1, .class_ 10), (1, u "java/lang/Object")] 113

def k0c0 : Code := { maxStack := 0, maxLocals := 1, code := object_method_1_code, exceptionTable := #[], attributes := #[] }
def k0m0 : Method := { name := "<init>", desc := "()V", sig := { parameters := [], returnType := none }, accessFlags := 1, code := some k0c0 }
/-- java/lang/Object -/
def k0 : Class := { plain "java/lang/Object" none with
  accessFlags := 33
  interfaces := #[]
  cf := some (fileOf pool0 8 #[] #[{ accessFlags := 1, nameIndex := 5, descriptorIndex := 6, attributes := #[] }] 33 0 #[] #[])
  fields := #[]
  methods := #[k0m0]
  instanceTypes := #[]
  staticTypes := #[]
  resolved := Array.replicate 124 none
  statics := none }

def pool1 : Array CpInfo := pool [(2, .class_ 4), (0, .nameAndType 5 6), (0, u "java/lang/Object"), (0, u "<init>"), (0, u "()V"), (0, .class_ 8), (0, u "com/example/verdant_canopy/verdantcanopy/core/CanonicalBuffer"), (0, .methodref 7 3), (0, .methodref 7 11), (0, .nameAndType 12 13), (0, u "put"), (0, u "(I)V"), (0, .methodref 7 15), (0, .nameAndType 16 6), (0, u "clear"), (0, .methodref 7 18), (0, .nameAndType 19 20), (0, u "length"), (0, u "()I"), (0, .methodref 7 22), (0, .nameAndType 23 24), (0, u "bytes"), (0, u "()[B"), (0, .class_ 26), (0, u "com/example/verdant_canopy/verdantcanopy/core/CanonicalBufferPutPinLaw"), (2, u "law"), (0, u "(IIII)Z")] 5

def k1m0 : Method := { name := "<init>", desc := "()V", sig := { parameters := [], returnType := none }, accessFlags := 2, code := none }
def k1c1 : Code := { maxStack := 3, maxLocals := 9, code := code, exceptionTable := #[], attributes := #[] }
def k1m1 : Method := { name := "law", desc := "(IIII)Z", sig := { parameters := [.int, .int, .int, .int], returnType := some .boolean }, accessFlags := 9, code := some k1c1 }
/-- com/example/verdant_canopy/verdantcanopy/core/CanonicalBufferPutPinLaw -/
def k1 : Class := { plain "com/example/verdant_canopy/verdantcanopy/core/CanonicalBufferPutPinLaw" (some 0) with
  accessFlags := 49
  interfaces := #[]
  cf := some (fileOf pool1 25 #[] #[{ accessFlags := 2, nameIndex := 5, descriptorIndex := 6, attributes := #[] }, { accessFlags := 9, nameIndex := 29, descriptorIndex := 30, attributes := #[] }] 49 2 #[] #[])
  fields := #[]
  methods := #[k1m0, k1m1]
  instanceTypes := #[]
  staticTypes := #[]
  resolved := Array.replicate 36 none
  statics := none }

def pool2 : Array CpInfo := pool [(3, .methodref 4 5), (0, .class_ 6), (0, .nameAndType 7 8), (0, u "java/lang/Object"), (0, u "<init>"), (0, u "()V"), (0, .class_ 10), (0, u "com/example/verdant_canopy/verdantcanopy/core/CanonicalBuffer"), (0, .fieldref 9 12), (0, .nameAndType 13 14), (0, u "bytes"), (0, u "[B"), (0, .fieldref 9 16), (0, .nameAndType 17 18), (0, u "length"), (0, u "I"), (46, u "()I"), (3, u "(I)V"), (6, u "put"), (4, u "MAX_LENGTH"), (2, u "INITIAL_LENGTH"), (1, u "WRITE_CHUNK"), (9, u "()[B"), (0, u "clear")] 6

def k2c0 : Code := { maxStack := 2, maxLocals := 1, code := prog_48_method_1_code, exceptionTable := #[], attributes := #[] }
def k2m0 : Method := { name := "<init>", desc := "()V", sig := { parameters := [], returnType := none }, accessFlags := 1, code := some k2c0 }
def k2c1 : Code := { maxStack := 1, maxLocals := 1, code := prog_48_method_2_code, exceptionTable := #[], attributes := #[] }
def k2m1 : Method := { name := "length", desc := "()I", sig := { parameters := [], returnType := some .int }, accessFlags := 1, code := some k2c1 }
def k2c2 : Code := { maxStack := 1, maxLocals := 1, code := prog_48_method_5_code, exceptionTable := #[], attributes := #[] }
def k2m2 : Method := { name := "bytes", desc := "()[B", sig := { parameters := [], returnType := some (.array .byte) }, accessFlags := 0, code := some k2c2 }
def k2c3 : Code := { maxStack := 2, maxLocals := 1, code := prog_48_method_6_code, exceptionTable := #[], attributes := #[] }
def k2m3 : Method := { name := "clear", desc := "()V", sig := { parameters := [], returnType := none }, accessFlags := 0, code := some k2c3 }
def k2c4 : Code := { maxStack := 5, maxLocals := 2, code := prog_48_method_8_code, exceptionTable := #[], attributes := #[] }
def k2m4 : Method := { name := "put", desc := "(I)V", sig := { parameters := [.int], returnType := none }, accessFlags := 0, code := some k2c4 }
/-- com/example/verdant_canopy/verdantcanopy/core/CanonicalBuffer -/
def k2 : Class := { plain "com/example/verdant_canopy/verdantcanopy/core/CanonicalBuffer" (some 0) with
  accessFlags := 33
  interfaces := #[]
  cf := some (fileOf pool2 9 #[] #[{ accessFlags := 1, nameIndex := 7, descriptorIndex := 8, attributes := #[] }, { accessFlags := 1, nameIndex := 17, descriptorIndex := 65, attributes := #[] }, { accessFlags := 0, nameIndex := 13, descriptorIndex := 96, attributes := #[] }, { accessFlags := 0, nameIndex := 97, descriptorIndex := 8, attributes := #[] }, { accessFlags := 0, nameIndex := 76, descriptorIndex := 69, attributes := #[] }] 33 4 #[] #[{ accessFlags := 26, nameIndex := 81, descriptorIndex := 18, attributes := #[] }, { accessFlags := 26, nameIndex := 84, descriptorIndex := 18, attributes := #[] }, { accessFlags := 26, nameIndex := 86, descriptorIndex := 18, attributes := #[] }, { accessFlags := 2, nameIndex := 13, descriptorIndex := 14, attributes := #[] }, { accessFlags := 2, nameIndex := 17, descriptorIndex := 18, attributes := #[] }])
  fields := #[{ name := "MAX_LENGTH", type := .int, accessFlags := 26, slot := 0, constantValue := 0 }, { name := "INITIAL_LENGTH", type := .int, accessFlags := 26, slot := 1, constantValue := 0 }, { name := "WRITE_CHUNK", type := .int, accessFlags := 26, slot := 2, constantValue := 0 }, { name := "bytes", type := (.array .byte), accessFlags := 2, slot := 0, constantValue := 0 }, { name := "length", type := .int, accessFlags := 2, slot := 1, constantValue := 0 }]
  methods := #[k2m0, k2m1, k2m2, k2m3, k2m4]
  instanceTypes := #[(.array .byte), .int]
  staticTypes := #[.int, .int, .int]
  resolved := Array.replicate 104 none
  statics := none }

def pool3 : Array CpInfo := pool [(1, u "java/lang/Cloneable"), (0, .class_ 1), (0, u "java/lang/Object"), (0, .class_ 3)] 3

/-- java/lang/Cloneable -/
def k3 : Class := { plain "java/lang/Cloneable" (some 0) with
  accessFlags := 1537
  interfaces := #[]
  cf := some (fileOf pool3 2 #[] #[] 1537 4 #[] #[])
  fields := #[]
  methods := #[]
  instanceTypes := #[]
  staticTypes := #[]
  resolved := Array.replicate 8 none
  statics := none }

def pool4 : Array CpInfo := pool [(1, u "java/io/Serializable"), (0, .class_ 1), (0, u "java/lang/Object"), (0, .class_ 3)] 3

/-- java/io/Serializable -/
def k4 : Class := { plain "java/io/Serializable" (some 0) with
  accessFlags := 1537
  interfaces := #[]
  cf := some (fileOf pool4 2 #[] #[] 1537 4 #[] #[])
  fields := #[]
  methods := #[]
  instanceTypes := #[]
  staticTypes := #[]
  resolved := Array.replicate 8 none
  statics := none }

/-- the primitive byte -/
def k5 : Class := { plain "byte" none with kind := .primitive 'B', accessFlags := 0x411 }
/-- [B -/
def k6 : Class := { plain "[B" (some 0) with kind := .array 5 .byte, interfaces := #[3, 4], accessFlags := 1041 }

/-- the primitive int -/
def k7 : Class := { plain "int" none with kind := .primitive 'I', accessFlags := 0x411 }
/-- [I -/
def k8 : Class := { plain "[I" (some 0) with kind := .array 7 .int, interfaces := #[3, 4], accessFlags := 1041 }

def heap : Heap := #[]
def classes : Array Class := #[k0, k1, k2, k3, k4, k5, k6, k7, k8]
def interned : List (Array UInt16 × Addr) := []
def slotsUsed : Nat := 0
def theMethod : MethodId := ⟨1, 1⟩
def args0 : Array Value := #[.int 5, .int 300, .int 7, .int 6]
def aboutOver (below : List Frame) : State where
  vm := { classes := classes, interned := interned.toArray }
  heap := heap
  slotsUsed := slotsUsed
  threads := #[{ frames := .invoking theMethod args0 :: below }]
def below0 : List Frame := [.native { method := ⟨0, 0⟩, args := #[] }]
def about1 : State := aboutOver below0
def p0 : Program := .bare "" "" ""
def e0 : Env := launch0.env 0 0 0
theorem w_frames : about1.frames = Frame.invoking theMethod args0 :: below0 := rfl
set_option maxRecDepth 65536 in
theorem w_args : argsFit about1.vm theMethod args0 = true := by decide +kernel
set_option maxRecDepth 65536 in
theorem w_heap : heapFits about1 = true := by decide +kernel
set_option maxRecDepth 65536 in
theorem w_runnable : about1.curStatus? = some .runnable := by decide +kernel
set_option maxRecDepth 65536 in
theorem w_alone : about1.alone = true := by decide +kernel
set_option maxRecDepth 65536 in
theorem w_named : about1.methodNamed? x = some theMethod := by decide +kernel
set_option maxRecDepth 65536 in
theorem w_hears : about1.hears theMethod below0 = true := by decide +kernel
set_option maxRecDepth 65536 in
theorem w_ripe : about1.ripe theMethod args0 below0 = true := by decide +kernel
theorem w_running : about1.status = .running := rfl
set_option maxRecDepth 65536 in
theorem w_room : about1.hasRoom e0.platform room_1 = true :=
  launch0.hasRoom_least _ room_1 (by decide +kernel) (by decide +kernel) (by decide +kernel) (by decide +kernel) (by decide +kernel) (by decide +kernel)
theorem allAtoms_all (ts : List Jvm.Cond) (a : Array Jvm.Value) (st : Jvm.State) : (allAtoms ts).before a st = ts.all (fun c => c.before a st) := by
  induction ts with
  | nil => rfl
  | cons c t ih =>
    show (Jvm.Cond.and c (allAtoms t)).before a st = _
    rw [Jvm.Cond.before_and, ih, List.all_cons]
def words1 : List Jvm.Cond := Jvm.Cond.code x code maxLocals ret :: tables_1
/-- a 'code' word, met by the world's own term for the bytes: nothing is compared byte by byte -/
theorem code_word {y : MethodName} {bytes : ByteArray} {mx : Nat} {rt : Option FieldType} {a : Array Value} {s : State} {m : MethodId} {meth : Method} {c : Code} (h1 : s.methodNamed? y = some m) (h2 : s.vm.method? m = some meth) (h3 : meth.code = some c) (h4 : c.code = bytes)
    (h5 : (c.maxLocals == mx && c.exceptionTable.isEmpty && decide (c.maxStack ≤ mostOperands) && decide (meth.sig.returnType = rt) && !meth.locks && decide (parseMethodDescriptor y.desc = some meth.sig)) = true) : (Jvm.Cond.code y bytes mx rt).before a s = true := by
  simp only [Bool.and_eq_true, beq_iff_eq, Bool.not_eq_true', decide_eq_true_eq] at h5
  obtain ⟨⟨⟨⟨⟨g1, g2⟩, g3⟩, g4⟩, g5⟩, g6⟩ := h5
  simp [Cond.before, Cond.holds, Cond.value, h1, h2, h3, h4, g1, g2, g3, g4, g5, g6]
def isCode : Jvm.Cond → Bool
  | .code _ _ _ _ => true
  | _ => false
theorem all_split {L : List Jvm.Cond} {P : Jvm.Cond → Bool} (h1 : L.all (fun c => isCode c || P c) = true) (h2 : ∀ c ∈ L.filter isCode, P c = true) : L.all P = true := by
  refine List.all_eq_true.mpr fun c hc => ?_
  have h := List.all_eq_true.mp h1 c hc
  rcases Bool.eq_false_or_eq_true (isCode c) with hi | hi
  · exact h2 c (List.mem_filter.mpr ⟨hc, hi⟩)
  · simpa [hi] using h
set_option maxRecDepth 65536 in
theorem w_c0 : (Jvm.Cond.code x code maxLocals ret).before args0 about1 = true := code_word (m := ⟨1, 1⟩) (meth := k1m1) (c := k1c1) (by decide +kernel) rfl rfl rfl (by decide +kernel)
set_option maxRecDepth 65536 in
theorem w_c1 : (Jvm.Cond.code ({ cls := "com/example/verdant_canopy/verdantcanopy/core/CanonicalBuffer", name := "<init>", desc := "()V" } : Jvm.MethodName) prog_48_method_1_code (1 : Nat) (Option.none : Option Jvm.ClassFile.FieldType)).before args0 about1 = true := code_word (m := ⟨2, 0⟩) (meth := k2m0) (c := k2c0) (by decide +kernel) rfl rfl rfl (by decide +kernel)
set_option maxRecDepth 65536 in
theorem w_c2 : (Jvm.Cond.code ({ cls := "java/lang/Object", name := "<init>", desc := "()V" } : Jvm.MethodName) object_method_1_code (1 : Nat) (Option.none : Option Jvm.ClassFile.FieldType)).before args0 about1 = true := code_word (m := ⟨0, 0⟩) (meth := k0m0) (c := k0c0) (by decide +kernel) rfl rfl rfl (by decide +kernel)
set_option maxRecDepth 65536 in
theorem w_c3 : (Jvm.Cond.code ({ cls := "com/example/verdant_canopy/verdantcanopy/core/CanonicalBuffer", name := "put", desc := "(I)V" } : Jvm.MethodName) prog_48_method_8_code (2 : Nat) (Option.none : Option Jvm.ClassFile.FieldType)).before args0 about1 = true := code_word (m := ⟨2, 4⟩) (meth := k2m4) (c := k2c4) (by decide +kernel) rfl rfl rfl (by decide +kernel)
set_option maxRecDepth 65536 in
theorem w_c4 : (Jvm.Cond.code ({ cls := "com/example/verdant_canopy/verdantcanopy/core/CanonicalBuffer", name := "length", desc := "()I" } : Jvm.MethodName) prog_48_method_2_code (1 : Nat) (Option.some Jvm.ClassFile.FieldType.int)).before args0 about1 = true := code_word (m := ⟨2, 1⟩) (meth := k2m1) (c := k2c1) (by decide +kernel) rfl rfl rfl (by decide +kernel)
set_option maxRecDepth 65536 in
theorem w_c5 : (Jvm.Cond.code ({ cls := "com/example/verdant_canopy/verdantcanopy/core/CanonicalBuffer", name := "bytes", desc := "()[B" } : Jvm.MethodName) prog_48_method_5_code (1 : Nat) (Option.some (Jvm.ClassFile.FieldType.array Jvm.ClassFile.FieldType.byte))).before args0 about1 = true := code_word (m := ⟨2, 2⟩) (meth := k2m2) (c := k2c2) (by decide +kernel) rfl rfl rfl (by decide +kernel)
set_option maxRecDepth 65536 in
theorem w_c6 : (Jvm.Cond.code ({ cls := "com/example/verdant_canopy/verdantcanopy/core/CanonicalBuffer", name := "clear", desc := "()V" } : Jvm.MethodName) prog_48_method_6_code (1 : Nat) (Option.none : Option Jvm.ClassFile.FieldType)).before args0 about1 = true := code_word (m := ⟨2, 3⟩) (meth := k2m3) (c := k2c3) (by decide +kernel) rfl rfl rfl (by decide +kernel)
def codes1 : List Jvm.Cond := [Jvm.Cond.code x code maxLocals ret, Jvm.Cond.code ({ cls := "com/example/verdant_canopy/verdantcanopy/core/CanonicalBuffer", name := "<init>", desc := "()V" } : Jvm.MethodName) prog_48_method_1_code (1 : Nat) (Option.none : Option Jvm.ClassFile.FieldType), Jvm.Cond.code ({ cls := "java/lang/Object", name := "<init>", desc := "()V" } : Jvm.MethodName) object_method_1_code (1 : Nat) (Option.none : Option Jvm.ClassFile.FieldType), Jvm.Cond.code ({ cls := "com/example/verdant_canopy/verdantcanopy/core/CanonicalBuffer", name := "put", desc := "(I)V" } : Jvm.MethodName) prog_48_method_8_code (2 : Nat) (Option.none : Option Jvm.ClassFile.FieldType), Jvm.Cond.code ({ cls := "com/example/verdant_canopy/verdantcanopy/core/CanonicalBuffer", name := "length", desc := "()I" } : Jvm.MethodName) prog_48_method_2_code (1 : Nat) (Option.some Jvm.ClassFile.FieldType.int), Jvm.Cond.code ({ cls := "com/example/verdant_canopy/verdantcanopy/core/CanonicalBuffer", name := "bytes", desc := "()[B" } : Jvm.MethodName) prog_48_method_5_code (1 : Nat) (Option.some (Jvm.ClassFile.FieldType.array Jvm.ClassFile.FieldType.byte)), Jvm.Cond.code ({ cls := "com/example/verdant_canopy/verdantcanopy/core/CanonicalBuffer", name := "clear", desc := "()V" } : Jvm.MethodName) prog_48_method_6_code (1 : Nat) (Option.none : Option Jvm.ClassFile.FieldType)]
set_option maxRecDepth 65536 in
theorem codes_eq : words1.filter isCode = codes1 := rfl
theorem w_codes : ∀ c ∈ words1.filter isCode, c.before args0 about1 = true := by
  rw [codes_eq]
  intro c hc
  simp only [codes1, List.mem_cons, List.not_mem_nil, or_false] at hc
  rcases hc with rfl | rfl | rfl | rfl | rfl | rfl | rfl
  · exact w_c0
  · exact w_c1
  · exact w_c2
  · exact w_c3
  · exact w_c4
  · exact w_c5
  · exact w_c6
set_option maxRecDepth 65536 in
theorem w_t1 : (words1.take 24).all (fun c => isCode c || c.before args0 about1) = true := by decide +kernel
set_option maxRecDepth 65536 in
theorem w_t2 : (words1.drop 24).all (fun c => isCode c || c.before args0 about1) = true := by decide +kernel
theorem w_tables : (allAtoms (Jvm.Cond.code x code maxLocals ret :: tables_1)).before args0 about1 = true := by
  rw [allAtoms_all]
  show words1.all (fun c => c.before args0 about1) = true
  refine all_split ?_ w_codes
  rw [← List.take_append_drop 24 words1, List.all_append, w_t1, w_t2]
  rfl
set_option maxRecDepth 65536 in
theorem w_case : (Jvm.Cond.and given_1 narrow_1).before args0 about1 = true := by decide +kernel
theorem w_applies : (headSpec (Jvm.Cond.code x code maxLocals ret :: tables_1) room_1).applies x e0.platform about1 = true :=
  (Spec.applies_iff w_frames).mpr ⟨w_running, w_runnable, w_alone, w_named, w_hears, w_ripe, w_room, w_tables⟩
theorem atStart : AtStart classFile x code maxLocals ret World_1 tables_1 room_1 Calls_1 rest_1 Pre_1 launch0 p0 e0 about1 theMethod args0 below0 :=
  ⟨lists_1, trivial, launch0.admits_env _ _ _, launch0.least_env, fairChoices_fair.cas, fairChoices_fair.clock, w_frames, w_args, w_heap, w_applies, trivial, trivial, w_case⟩
end start1
theorem witness_1 : WitnessClaimed_1 := ⟨start1.p0, start1.e0, start1.about1, start1.theMethod, start1.args0, start1.below0, start1.atStart⟩
end Jvm.Pilot.@@N@@
