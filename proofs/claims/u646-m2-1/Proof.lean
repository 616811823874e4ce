import JvmDerived
import JvmDerived.Pilot.@@N@@Statement
import JvmDerived.Pilot.@@N@@Code
set_option linter.unusedVariables false
set_option linter.unusedSimpArgs false
namespace Jvm.RoadKit
open Sem ClassFile Op Lib Jvm.Stand Jvm.Free Jvm.LawKit
section New
variable {p : Program} {l : Launch} {e : Env} {R : Room} {s : State} {m : MethodId} {args : Array Value} {below : List Frame} {meth : Method} {c : Code} {T : State} {locs : List Loc} {cells slots : Nat}
theorem retI (X : Stand p l e R s m args below meth c T locs cells slots) (hx : p.tables.exec = Jvm.exec) {pc : Nat} {Ls : Array Slot} {z : Int32} {rest : List Value} (hret : meth.sig.returnType = some .int) (hd : decode c.code pc = .ok (.ireturn, 1)) {fs : List Frame}
    (hl : ∀ (f : JFrame) (acts : List Action), f.method = m → f.locked = none → f.entered = [] → (doReturn e (T.setTop f) acts (some (.int z))).1 = T.setFrames fs) : Steps p.tables e below (T.setTop (mkF m pc Ls (.int z :: rest))) (T.setFrames fs) := by
  have hm' : T.vm.method? m = some meth := X.method'
  have hn : narrow .int (.int z) = .int z := rfl
  show Steps p.tables e below (T.setTop { method := m, pc := pc, locals := Ls, stack := _ :: rest, locked := none }) _
  jvm_step X.here [X.here.top, hx, hd, hm', hret, hn]
  first | (intro acts; rw [hl _ acts rfl rfl rfl]) | rw [hl _ _ rfl rfl rfl]
  exact Steps.refl _
end New
end Jvm.RoadKit
namespace Jvm.Pilot.@@N@@
open Jvm Jvm.ClassFile Sem Op Lib Jvm.Free Jvm.Stand Jvm.LawKit Jvm.RoadKit Bundle Jvm.Pilot.@@N@@.Jvm.D
def own_max (a b : Int64) : Int64 := if a < b then b else a
def own_div (v d : Int64) : Int64 := if v - (v / d) * d < d - (v - (v / d) * d) then v / d + ((0 : Int32).toInt64) else v / d + ((1 : Int32).toInt64)
theorem own_nn (q : Int64) : 0 ≤ (q &&& (9223372036854775807 : Int64)).toInt := by
  rw [c_maskL q 9223372036854775807 63 (by decide) (by decide)]
  exact Int.emod_nonneg _ (by decide)
theorem own_pos (b : Int64) : 0 < (own_max (1 : Int64) b).toInt := by
  have k1 : (1 : Int64).toInt = 1 := by decide
  by_cases h : (1 : Int64) < b
  · rw [show own_max (1 : Int64) b = b from if_pos h]
    rw [Int64.lt_iff_toInt_lt, k1] at h
    omega
  · rw [show own_max (1 : Int64) b = 1 from if_neg h, k1]
    decide
theorem own_nz (d : Int64) (hd : 0 < d.toInt) : ¬ d = 0 := fun k => by
  have k0 : (0 : Int64).toInt = 0 := by decide
  rw [k, k0] at hd
  omega
theorem own_half (v d : Int64) (hv : 0 ≤ v.toInt) (hd : 0 < d.toInt) : (v - (v / d) * d < d / (2 : Int64) + (d &&& (1 : Int64))) ↔ (v - (v / d) * d < d - (v - (v / d) * d)) := by
  have k2 : (2 : Int64).toInt = 2 := by decide
  have m := (c_lrem v d d.toInt rfl).1 hv
  have m1 : 0 ≤ (v - (v / d) * d).toInt := by rw [m]; exact Int.emod_nonneg _ (by omega)
  have m2 : (v - (v / d) * d).toInt < d.toInt := by rw [m]; exact Int.emod_lt_of_pos _ hd
  have s1 := c_lsub d (v - (v / d) * d)
  have h1 := (c_ldiv d 2 2 k2 (by decide)).1 (by omega)
  have h2 : (d &&& (1 : Int64)).toInt = d.toInt % 2 := c_maskL d 1 1 (by decide) (by decide)
  have s2 := c_ladd (d / (2 : Int64)) (d &&& (1 : Int64))
  have r0 := rng64 d
  have r1 := rng64 (d - (v - (v / d) * d))
  have r2 := rng64 (d / (2 : Int64) + (d &&& (1 : Int64)))
  rw [Int64.lt_iff_toInt_lt, Int64.lt_iff_toInt_lt]
  omega
theorem own_law (v d : Int64) (hv : 0 ≤ v.toInt) (hd : 0 < d.toInt) : (v - (v / d) * d < d / (2 : Int64) + (d &&& (1 : Int64)) → own_div v d = v / d) ∧ (¬ v - (v / d) * d < d / (2 : Int64) + (d &&& (1 : Int64)) → own_div v d = v / d + 1) := by
  have H := own_half v d hv hd
  have z0 : (0 : Int32).toInt64 = 0 := by decide
  have z1 : (1 : Int32).toInt64 = 1 := by decide
  constructor
  · intro h
    rw [show own_div v d = v / d + ((0 : Int32).toInt64) from if_pos (H.mp h), z0, Int64.add_zero]
  · intro h
    rw [show own_div v d = v / d + ((1 : Int32).toInt64) from if_neg (fun k => h (H.mpr k)), z1]
theorem d1_0 : decode jdk_29_method_66_code 0 = .ok (.lload_n 0, 1) := by decide +kernel
theorem d1_1 : decode jdk_29_method_66_code 1 = .ok (.lload_n 2, 1) := by decide +kernel
theorem d1_2 : decode jdk_29_method_66_code 2 = .ok (.lcmp, 1) := by decide +kernel
theorem d1_3 : decode jdk_29_method_66_code 3 = .ok (.ifCond .lt 7, 3) := by decide +kernel
theorem d1_10 : decode jdk_29_method_66_code 10 = .ok (.lload_n 2, 1) := by decide +kernel
theorem d1_11 : decode jdk_29_method_66_code 11 = .ok (.lreturn, 1) := by decide +kernel
theorem ef_1 (m : MethodId) (x0 : Int64) (x1 : Int64) : entryFrame m #[(.long x0), (.long x1)] 4 = mkF m 0 #[.val (.long x0), .second, .val (.long x1), .second] [] := by first | (simp [entryFrame, mkF, argsToLocals, Value.category]; done) | rfl
def Q1 (Z : State) (q1 : Int64) (q2 : Int64) (r : Int64) (h0 : Heap) (n0 : Nat) (v : Option Value) (h : Heap) (L : List Loc) : Prop := v = some (.long r) ∧ Fr n0 L ∧ h = h0
set_option maxRecDepth 65536 in
set_option maxHeartbeats 40000000 in
theorem rm1_t (l : Launch) (Z : State) (a0 : Array Value) (hw : ∀ d ∈ tables_1, d.before a0 Z = true) (ws : List Jvm.Cond) (q1 : Int64) (q2 : Int64) (h0 : Heap) (n0 : Nat) (Z0 : n0 ≤ h0.size) (hc3 : (lcmpW q1 q2) < (0 : Int32)) :
    MetFree l (⟨"java/lang/Math", "max", "(JJ)J"⟩ : MethodName) (head1 (Jvm.Cond.code (⟨"java/lang/Math", "max", "(JJ)J"⟩ : MethodName) jdk_29_method_66_code 4 (some .long) :: ws) ({ frames := 0, cells := 0, slots := 0, locals := 0 } : Room)) (fun a U => a = #[(.long q1), (.long q2)] ∧ Z.Warmed39 U.vm ∧ U.heap = h0) (fun _ _ _ _ _ => True) (fun _ U o U' => ∃ v L, o = .returned v ∧ Q1 Z q1 q2 q2 h0 n0 v U'.heap L ∧ FrameEnd U o U' L ({ frames := 0, cells := 0, slots := 0, locals := 0 } : Room).cells ({ frames := 0, cells := 0, slots := 0, locals := 0 } : Room).slots) := by
  refine MetFree.of_bodySF (Jvm.Free.JP.mathPlain rfl (by decide +kernel)) hisR ?_
  intro p e s m args below meth c s₁ Bd hml0 hP hK
  obtain ⟨rfl, hZ, hh⟩ := hP
  have hx := Bd.exec
  have hby := Bd.bytes
  have hml : c.maxLocals = 4 := hml0
  have hown : s.vm.findClass "java/lang/Math" = some m.cls := findClass_of_methodNamed Bd.named
  have hnm := (name_of_methodNamed Bd.named Bd.method).1
  have X0 : Stand p l e ({ frames := 0, cells := 0, slots := 0, locals := 0 } : Room) s m #[(.long q1), (.long q2)] below meth c s₁ [] 0 0 := Stand.of_body Bd
  have e0 : s₁.heap = h0 := by rw [← hh, Bd.state]; rfl
  have N0 := Fr.nil n0
  have pre0 : ∀ t, Steps p.tables e below (s₁.setTop (mkF m 0 #[.val (.long q1), .second, .val (.long q2), .second] [])) t → Steps p.tables e below (s₁.setTop (entryFrame m #[(.long q1), (.long q2)] 4)) t := fun t k => castTop (ef_1 m q1 q2) k
  obtain ⟨fs, hr, hrun, hended, hW, hsame⟩ := X0.leave (v := some (.long q2)) (fun h => by rw [Bd.returns] at h; cases h)
  refine ⟨_, _, pre0 _ ?_, hrun, hended, _, _, rfl, ?_, ⟨_, rfl⟩, hW, hsame.mono (by decide) (by decide)⟩
  · show Steps p.tables e below (s₁.setTop (mkF m 0 #[.val (.long q1), .second, .val (.long q2), .second] [])) _
    refine XS.lloadN X0.here hx rfl (hb hby d1_0) rfl ?_
    show Steps p.tables e below (s₁.setTop (mkF m 1 #[.val (.long q1), .second, .val (.long q2), .second] [(.long q1)])) _
    refine XS.lloadN X0.here hx rfl (hb hby d1_1) rfl ?_
    show Steps p.tables e below (s₁.setTop (mkF m 2 #[.val (.long q1), .second, .val (.long q2), .second] [(.long q2), (.long q1)])) _
    refine XS.lcmp X0.here hx rfl (hb hby d1_2) rfl ?_
    show Steps p.tables e below (s₁.setTop (mkF m 3 #[.val (.long q1), .second, .val (.long q2), .second] [(.int (lcmpW q1 q2))])) _
    refine XS.ifYes X0.here hx rfl (pc0 := 3) (pc' := 10) rfl (hb hby d1_3) rfl ((if0 _ _).trans (tlt hc3).1) (by decide) (by decide) ?_
    show Steps p.tables e below (s₁.setTop (mkF m 10 #[.val (.long q1), .second, .val (.long q2), .second] [])) _
    refine XS.lloadN X0.here hx rfl (hb hby d1_10) rfl ?_
    show Steps p.tables e below (s₁.setTop (mkF m 11 #[.val (.long q1), .second, .val (.long q2), .second] [(.long q2)])) _
    jvm_step X0.here [X0.here.top, hx, (hb hby d1_11), X0.method', Bd.returns, narrow]
    first | (intro acts; rw [hr _ acts rfl rfl rfl]) | rw [hr _ _ rfl rfl rfl]
    exact Steps.refl _
  · show Q1 Z q1 q2 q2 h0 n0 _ s₁.heap _
    rw [e0]
    exact ⟨rfl, N0, rfl⟩
theorem d1_6 : decode jdk_29_method_66_code 6 = .ok (.lload_n 0, 1) := by decide +kernel
theorem d1_7 : decode jdk_29_method_66_code 7 = .ok (.goto 4, 3) := by decide +kernel
set_option maxRecDepth 65536 in
set_option maxHeartbeats 40000000 in
theorem rm1_f (l : Launch) (Z : State) (a0 : Array Value) (hw : ∀ d ∈ tables_1, d.before a0 Z = true) (ws : List Jvm.Cond) (q1 : Int64) (q2 : Int64) (h0 : Heap) (n0 : Nat) (Z0 : n0 ≤ h0.size) (hc3 : ¬ ((lcmpW q1 q2) < (0 : Int32))) :
    MetFree l (⟨"java/lang/Math", "max", "(JJ)J"⟩ : MethodName) (head1 (Jvm.Cond.code (⟨"java/lang/Math", "max", "(JJ)J"⟩ : MethodName) jdk_29_method_66_code 4 (some .long) :: ws) ({ frames := 0, cells := 0, slots := 0, locals := 0 } : Room)) (fun a U => a = #[(.long q1), (.long q2)] ∧ Z.Warmed39 U.vm ∧ U.heap = h0) (fun _ _ _ _ _ => True) (fun _ U o U' => ∃ v L, o = .returned v ∧ Q1 Z q1 q2 q1 h0 n0 v U'.heap L ∧ FrameEnd U o U' L ({ frames := 0, cells := 0, slots := 0, locals := 0 } : Room).cells ({ frames := 0, cells := 0, slots := 0, locals := 0 } : Room).slots) := by
  refine MetFree.of_bodySF (Jvm.Free.JP.mathPlain rfl (by decide +kernel)) hisR ?_
  intro p e s m args below meth c s₁ Bd hml0 hP hK
  obtain ⟨rfl, hZ, hh⟩ := hP
  have hx := Bd.exec
  have hby := Bd.bytes
  have hml : c.maxLocals = 4 := hml0
  have hown : s.vm.findClass "java/lang/Math" = some m.cls := findClass_of_methodNamed Bd.named
  have hnm := (name_of_methodNamed Bd.named Bd.method).1
  have X0 : Stand p l e ({ frames := 0, cells := 0, slots := 0, locals := 0 } : Room) s m #[(.long q1), (.long q2)] below meth c s₁ [] 0 0 := Stand.of_body Bd
  have e0 : s₁.heap = h0 := by rw [← hh, Bd.state]; rfl
  have N0 := Fr.nil n0
  have pre0 : ∀ t, Steps p.tables e below (s₁.setTop (mkF m 0 #[.val (.long q1), .second, .val (.long q2), .second] [])) t → Steps p.tables e below (s₁.setTop (entryFrame m #[(.long q1), (.long q2)] 4)) t := fun t k => castTop (ef_1 m q1 q2) k
  obtain ⟨fs, hr, hrun, hended, hW, hsame⟩ := X0.leave (v := some (.long q1)) (fun h => by rw [Bd.returns] at h; cases h)
  refine ⟨_, _, pre0 _ ?_, hrun, hended, _, _, rfl, ?_, ⟨_, rfl⟩, hW, hsame.mono (by decide) (by decide)⟩
  · show Steps p.tables e below (s₁.setTop (mkF m 0 #[.val (.long q1), .second, .val (.long q2), .second] [])) _
    refine XS.lloadN X0.here hx rfl (hb hby d1_0) rfl ?_
    show Steps p.tables e below (s₁.setTop (mkF m 1 #[.val (.long q1), .second, .val (.long q2), .second] [(.long q1)])) _
    refine XS.lloadN X0.here hx rfl (hb hby d1_1) rfl ?_
    show Steps p.tables e below (s₁.setTop (mkF m 2 #[.val (.long q1), .second, .val (.long q2), .second] [(.long q2), (.long q1)])) _
    refine XS.lcmp X0.here hx rfl (hb hby d1_2) rfl ?_
    show Steps p.tables e below (s₁.setTop (mkF m 3 #[.val (.long q1), .second, .val (.long q2), .second] [(.int (lcmpW q1 q2))])) _
    refine XS.ifNo X0.here hx rfl (hb hby d1_3) rfl ((if0 _ _).trans (flt hc3).1) ?_
    show Steps p.tables e below (s₁.setTop (mkF m 6 #[.val (.long q1), .second, .val (.long q2), .second] [])) _
    refine XS.lloadN X0.here hx rfl (hb hby d1_6) rfl ?_
    show Steps p.tables e below (s₁.setTop (mkF m 7 #[.val (.long q1), .second, .val (.long q2), .second] [(.long q1)])) _
    refine XS.goto X0.here hx rfl (pc0 := 7) (pc' := 11) rfl (hb hby d1_7) (by decide) (by decide) ?_
    show Steps p.tables e below (s₁.setTop (mkF m 11 #[.val (.long q1), .second, .val (.long q2), .second] [(.long q1)])) _
    jvm_step X0.here [X0.here.top, hx, (hb hby d1_11), X0.method', Bd.returns, narrow]
    first | (intro acts; rw [hr _ acts rfl rfl rfl]) | rw [hr _ _ rfl rfl rfl]
    exact Steps.refl _
  · show Q1 Z q1 q2 q1 h0 n0 _ s₁.heap _
    rw [e0]
    exact ⟨rfl, N0, rfl⟩
theorem rm1 (l : Launch) (Z : State) (a0 : Array Value) (hw : ∀ d ∈ tables_1, d.before a0 Z = true) (ws : List Jvm.Cond) (q1 : Int64) (q2 : Int64) (h0 : Heap) (n0 : Nat) (Z0 : n0 ≤ h0.size) :
    MetFree l (⟨"java/lang/Math", "max", "(JJ)J"⟩ : MethodName) (head1 (Jvm.Cond.code (⟨"java/lang/Math", "max", "(JJ)J"⟩ : MethodName) jdk_29_method_66_code 4 (some .long) :: ws) ({ frames := 0, cells := 0, slots := 0, locals := 0 } : Room)) (fun a U => a = #[(.long q1), (.long q2)] ∧ Z.Warmed39 U.vm ∧ U.heap = h0) (fun _ _ _ _ _ => True) (fun _ U o U' => ∃ v L, o = .returned v ∧ Q1 Z q1 q2 (own_max q1 q2) h0 n0 v U'.heap L ∧ FrameEnd U o U' L ({ frames := 0, cells := 0, slots := 0, locals := 0 } : Room).cells ({ frames := 0, cells := 0, slots := 0, locals := 0 } : Room).slots) := by
  by_cases h1 : q1 < q2
  · rw [show own_max q1 q2 = q2 from if_pos h1]
    exact rm1_t l Z a0 hw ws q1 q2 h0 n0 Z0 ((lw_lt _ _).mpr h1)
  · rw [show own_max q1 q2 = q1 from if_neg h1]
    exact rm1_f l Z a0 hw ws q1 q2 h0 n0 Z0 (fun k => h1 ((lw_lt _ _).mp k))
theorem d2_0 : decode prog_21_method_6_code 0 = .ok (.lload_n 0, 1) := by decide +kernel
theorem d2_1 : decode prog_21_method_6_code 1 = .ok (.lload_n 2, 1) := by decide +kernel
theorem d2_2 : decode prog_21_method_6_code 2 = .ok (.lrem, 1) := by decide +kernel
theorem d2_3 : decode prog_21_method_6_code 3 = .ok (.lstore 4, 2) := by decide +kernel
theorem d2_5 : decode prog_21_method_6_code 5 = .ok (.lload_n 0, 1) := by decide +kernel
theorem d2_6 : decode prog_21_method_6_code 6 = .ok (.lload_n 2, 1) := by decide +kernel
theorem d2_7 : decode prog_21_method_6_code 7 = .ok (.ldiv, 1) := by decide +kernel
theorem d2_8 : decode prog_21_method_6_code 8 = .ok (.lload 4, 2) := by decide +kernel
theorem d2_10 : decode prog_21_method_6_code 10 = .ok (.lload_n 2, 1) := by decide +kernel
theorem d2_11 : decode prog_21_method_6_code 11 = .ok (.lload 4, 2) := by decide +kernel
theorem d2_13 : decode prog_21_method_6_code 13 = .ok (.lsub, 1) := by decide +kernel
theorem d2_14 : decode prog_21_method_6_code 14 = .ok (.lcmp, 1) := by decide +kernel
theorem d2_15 : decode prog_21_method_6_code 15 = .ok (.ifCond .lt 7, 3) := by decide +kernel
theorem d2_22 : decode prog_21_method_6_code 22 = .ok (.iconst 0, 1) := by decide +kernel
theorem d2_23 : decode prog_21_method_6_code 23 = .ok (.i2l, 1) := by decide +kernel
theorem d2_24 : decode prog_21_method_6_code 24 = .ok (.ladd, 1) := by decide +kernel
theorem d2_25 : decode prog_21_method_6_code 25 = .ok (.lreturn, 1) := by decide +kernel
theorem pn_2 : plainName "com/example/slackwater/slackwater/Decimals" = true := by first | (simp [plainName, overriddenIn]; done) | decide +kernel
theorem ef_2 (m : MethodId) (x0 : Int64) (x1 : Int64) : entryFrame m #[(.long x0), (.long x1)] 6 = mkF m 0 #[.val (.long x0), .second, .val (.long x1), .second, .unset, .unset] [] := by first | (simp [entryFrame, mkF, argsToLocals, Value.category]; done) | rfl
def Q2 (Z : State) (q1 : Int64) (q2 : Int64) (r : Int64) (h0 : Heap) (n0 : Nat) (v : Option Value) (h : Heap) (L : List Loc) : Prop := v = some (.long r) ∧ Fr n0 L ∧ h = h0
set_option maxRecDepth 65536 in
set_option maxHeartbeats 40000000 in
theorem rm2_t (l : Launch) (Z : State) (a0 : Array Value) (hw : ∀ d ∈ tables_1, d.before a0 Z = true) (ws : List Jvm.Cond) (q1 : Int64) (q2 : Int64) (h0 : Heap) (n0 : Nat) (Z0 : n0 ≤ h0.size) (hnz2 : ¬ (q2 = (0 : Int64))) (hnz7 : ¬ (q2 = (0 : Int64))) (hc15 : (lcmpW (q1 - (q1 / q2) * q2) (q2 - (q1 - (q1 / q2) * q2))) < (0 : Int32)) :
    MetFree l (⟨"com/example/slackwater/slackwater/Decimals", "divideRounded", "(JJ)J"⟩ : MethodName) (head1 (Jvm.Cond.code (⟨"com/example/slackwater/slackwater/Decimals", "divideRounded", "(JJ)J"⟩ : MethodName) prog_21_method_6_code 6 (some .long) :: ws) ({ frames := 0, cells := 0, slots := 0, locals := 0 } : Room)) (fun a U => a = #[(.long q1), (.long q2)] ∧ Z.Warmed39 U.vm ∧ U.heap = h0) (fun _ _ _ _ _ => True) (fun _ U o U' => ∃ v L, o = .returned v ∧ Q2 Z q1 q2 ((q1 / q2) + ((0 : Int32).toInt64)) h0 n0 v U'.heap L ∧ FrameEnd U o U' L ({ frames := 0, cells := 0, slots := 0, locals := 0 } : Room).cells ({ frames := 0, cells := 0, slots := 0, locals := 0 } : Room).slots) := by
  refine MetFree.of_bodySF (plainFor_of_name pn_2) hisR ?_
  intro p e s m args below meth c s₁ Bd hml0 hP hK
  obtain ⟨rfl, hZ, hh⟩ := hP
  have hx := Bd.exec
  have hby := Bd.bytes
  have hml : c.maxLocals = 6 := hml0
  have hown : s.vm.findClass "com/example/slackwater/slackwater/Decimals" = some m.cls := findClass_of_methodNamed Bd.named
  have hnm := (name_of_methodNamed Bd.named Bd.method).1
  have X0 : Stand p l e ({ frames := 0, cells := 0, slots := 0, locals := 0 } : Room) s m #[(.long q1), (.long q2)] below meth c s₁ [] 0 0 := Stand.of_body Bd
  have e0 : s₁.heap = h0 := by rw [← hh, Bd.state]; rfl
  have N0 := Fr.nil n0
  have pre0 : ∀ t, Steps p.tables e below (s₁.setTop (mkF m 0 #[.val (.long q1), .second, .val (.long q2), .second, .unset, .unset] [])) t → Steps p.tables e below (s₁.setTop (entryFrame m #[(.long q1), (.long q2)] 6)) t := fun t k => castTop (ef_2 m q1 q2) k
  obtain ⟨fs, hr, hrun, hended, hW, hsame⟩ := X0.leave (v := some (.long ((q1 / q2) + ((0 : Int32).toInt64)))) (fun h => by rw [Bd.returns] at h; cases h)
  refine ⟨_, _, pre0 _ ?_, hrun, hended, _, _, rfl, ?_, ⟨_, rfl⟩, hW, hsame.mono (by decide) (by decide)⟩
  · show Steps p.tables e below (s₁.setTop (mkF m 0 #[.val (.long q1), .second, .val (.long q2), .second, .unset, .unset] [])) _
    refine XS.lloadN X0.here hx rfl (hb hby d2_0) rfl ?_
    show Steps p.tables e below (s₁.setTop (mkF m 1 #[.val (.long q1), .second, .val (.long q2), .second, .unset, .unset] [(.long q1)])) _
    refine XS.lloadN X0.here hx rfl (hb hby d2_1) rfl ?_
    show Steps p.tables e below (s₁.setTop (mkF m 2 #[.val (.long q1), .second, .val (.long q2), .second, .unset, .unset] [(.long q2), (.long q1)])) _
    refine XS.lrem X0.here hx rfl (hb hby d2_2) rfl hnz2 ?_
    show Steps p.tables e below (s₁.setTop (mkF m 3 #[.val (.long q1), .second, .val (.long q2), .second, .unset, .unset] [(.long (q1 - (q1 / q2) * q2))])) _
    refine XS.lstore X0.here hx rfl (hb hby d2_3) rfl (l' := #[.val (.long q1), .second, .val (.long q2), .second, .val (.long (q1 - (q1 / q2) * q2)), .second]) rfl ?_
    show Steps p.tables e below (s₁.setTop (mkF m 5 #[.val (.long q1), .second, .val (.long q2), .second, .val (.long (q1 - (q1 / q2) * q2)), .second] [])) _
    refine XS.lloadN X0.here hx rfl (hb hby d2_5) rfl ?_
    show Steps p.tables e below (s₁.setTop (mkF m 6 #[.val (.long q1), .second, .val (.long q2), .second, .val (.long (q1 - (q1 / q2) * q2)), .second] [(.long q1)])) _
    refine XS.lloadN X0.here hx rfl (hb hby d2_6) rfl ?_
    show Steps p.tables e below (s₁.setTop (mkF m 7 #[.val (.long q1), .second, .val (.long q2), .second, .val (.long (q1 - (q1 / q2) * q2)), .second] [(.long q2), (.long q1)])) _
    refine XS.ldiv X0.here hx rfl (hb hby d2_7) rfl hnz7 ?_
    show Steps p.tables e below (s₁.setTop (mkF m 8 #[.val (.long q1), .second, .val (.long q2), .second, .val (.long (q1 - (q1 / q2) * q2)), .second] [(.long (q1 / q2))])) _
    refine XS.lload X0.here hx rfl (hb hby d2_8) rfl ?_
    show Steps p.tables e below (s₁.setTop (mkF m 10 #[.val (.long q1), .second, .val (.long q2), .second, .val (.long (q1 - (q1 / q2) * q2)), .second] [(.long (q1 - (q1 / q2) * q2)), (.long (q1 / q2))])) _
    refine XS.lloadN X0.here hx rfl (hb hby d2_10) rfl ?_
    show Steps p.tables e below (s₁.setTop (mkF m 11 #[.val (.long q1), .second, .val (.long q2), .second, .val (.long (q1 - (q1 / q2) * q2)), .second] [(.long q2), (.long (q1 - (q1 / q2) * q2)), (.long (q1 / q2))])) _
    refine XS.lload X0.here hx rfl (hb hby d2_11) rfl ?_
    show Steps p.tables e below (s₁.setTop (mkF m 13 #[.val (.long q1), .second, .val (.long q2), .second, .val (.long (q1 - (q1 / q2) * q2)), .second] [(.long (q1 - (q1 / q2) * q2)), (.long q2), (.long (q1 - (q1 / q2) * q2)), (.long (q1 / q2))])) _
    refine XS.lsub X0.here hx rfl (hb hby d2_13) rfl ?_
    show Steps p.tables e below (s₁.setTop (mkF m 14 #[.val (.long q1), .second, .val (.long q2), .second, .val (.long (q1 - (q1 / q2) * q2)), .second] [(.long (q2 - (q1 - (q1 / q2) * q2))), (.long (q1 - (q1 / q2) * q2)), (.long (q1 / q2))])) _
    refine XS.lcmp X0.here hx rfl (hb hby d2_14) rfl ?_
    show Steps p.tables e below (s₁.setTop (mkF m 15 #[.val (.long q1), .second, .val (.long q2), .second, .val (.long (q1 - (q1 / q2) * q2)), .second] [(.int (lcmpW (q1 - (q1 / q2) * q2) (q2 - (q1 - (q1 / q2) * q2)))), (.long (q1 / q2))])) _
    refine XS.ifYes X0.here hx rfl (pc0 := 15) (pc' := 22) rfl (hb hby d2_15) rfl ((if0 _ _).trans (tlt hc15).1) (by decide) (by decide) ?_
    show Steps p.tables e below (s₁.setTop (mkF m 22 #[.val (.long q1), .second, .val (.long q2), .second, .val (.long (q1 - (q1 / q2) * q2)), .second] [(.long (q1 / q2))])) _
    refine XS.iconst X0.here hx rfl (hb hby d2_22) ?_
    show Steps p.tables e below (s₁.setTop (mkF m 23 #[.val (.long q1), .second, .val (.long q2), .second, .val (.long (q1 - (q1 / q2) * q2)), .second] [(.int (0 : Int32)), (.long (q1 / q2))])) _
    refine XS.i2l X0.here hx rfl (hb hby d2_23) rfl ?_
    show Steps p.tables e below (s₁.setTop (mkF m 24 #[.val (.long q1), .second, .val (.long q2), .second, .val (.long (q1 - (q1 / q2) * q2)), .second] [(.long ((0 : Int32).toInt64)), (.long (q1 / q2))])) _
    refine XS.ladd X0.here hx rfl (hb hby d2_24) rfl ?_
    show Steps p.tables e below (s₁.setTop (mkF m 25 #[.val (.long q1), .second, .val (.long q2), .second, .val (.long (q1 - (q1 / q2) * q2)), .second] [(.long ((q1 / q2) + ((0 : Int32).toInt64)))])) _
    exact X0.lreturnOut hx Bd.returns (hb hby d2_25) hr
  · show Q2 Z q1 q2 ((q1 / q2) + ((0 : Int32).toInt64)) h0 n0 _ s₁.heap _
    rw [e0]
    exact ⟨rfl, N0, rfl⟩
theorem d2_18 : decode prog_21_method_6_code 18 = .ok (.iconst 1, 1) := by decide +kernel
theorem d2_19 : decode prog_21_method_6_code 19 = .ok (.goto 4, 3) := by decide +kernel
set_option maxRecDepth 65536 in
set_option maxHeartbeats 40000000 in
theorem rm2_f (l : Launch) (Z : State) (a0 : Array Value) (hw : ∀ d ∈ tables_1, d.before a0 Z = true) (ws : List Jvm.Cond) (q1 : Int64) (q2 : Int64) (h0 : Heap) (n0 : Nat) (Z0 : n0 ≤ h0.size) (hnz2 : ¬ (q2 = (0 : Int64))) (hnz7 : ¬ (q2 = (0 : Int64))) (hc15 : ¬ ((lcmpW (q1 - (q1 / q2) * q2) (q2 - (q1 - (q1 / q2) * q2))) < (0 : Int32))) :
    MetFree l (⟨"com/example/slackwater/slackwater/Decimals", "divideRounded", "(JJ)J"⟩ : MethodName) (head1 (Jvm.Cond.code (⟨"com/example/slackwater/slackwater/Decimals", "divideRounded", "(JJ)J"⟩ : MethodName) prog_21_method_6_code 6 (some .long) :: ws) ({ frames := 0, cells := 0, slots := 0, locals := 0 } : Room)) (fun a U => a = #[(.long q1), (.long q2)] ∧ Z.Warmed39 U.vm ∧ U.heap = h0) (fun _ _ _ _ _ => True) (fun _ U o U' => ∃ v L, o = .returned v ∧ Q2 Z q1 q2 ((q1 / q2) + ((1 : Int32).toInt64)) h0 n0 v U'.heap L ∧ FrameEnd U o U' L ({ frames := 0, cells := 0, slots := 0, locals := 0 } : Room).cells ({ frames := 0, cells := 0, slots := 0, locals := 0 } : Room).slots) := by
  refine MetFree.of_bodySF (plainFor_of_name pn_2) hisR ?_
  intro p e s m args below meth c s₁ Bd hml0 hP hK
  obtain ⟨rfl, hZ, hh⟩ := hP
  have hx := Bd.exec
  have hby := Bd.bytes
  have hml : c.maxLocals = 6 := hml0
  have hown : s.vm.findClass "com/example/slackwater/slackwater/Decimals" = some m.cls := findClass_of_methodNamed Bd.named
  have hnm := (name_of_methodNamed Bd.named Bd.method).1
  have X0 : Stand p l e ({ frames := 0, cells := 0, slots := 0, locals := 0 } : Room) s m #[(.long q1), (.long q2)] below meth c s₁ [] 0 0 := Stand.of_body Bd
  have e0 : s₁.heap = h0 := by rw [← hh, Bd.state]; rfl
  have N0 := Fr.nil n0
  have pre0 : ∀ t, Steps p.tables e below (s₁.setTop (mkF m 0 #[.val (.long q1), .second, .val (.long q2), .second, .unset, .unset] [])) t → Steps p.tables e below (s₁.setTop (entryFrame m #[(.long q1), (.long q2)] 6)) t := fun t k => castTop (ef_2 m q1 q2) k
  obtain ⟨fs, hr, hrun, hended, hW, hsame⟩ := X0.leave (v := some (.long ((q1 / q2) + ((1 : Int32).toInt64)))) (fun h => by rw [Bd.returns] at h; cases h)
  refine ⟨_, _, pre0 _ ?_, hrun, hended, _, _, rfl, ?_, ⟨_, rfl⟩, hW, hsame.mono (by decide) (by decide)⟩
  · show Steps p.tables e below (s₁.setTop (mkF m 0 #[.val (.long q1), .second, .val (.long q2), .second, .unset, .unset] [])) _
    refine XS.lloadN X0.here hx rfl (hb hby d2_0) rfl ?_
    show Steps p.tables e below (s₁.setTop (mkF m 1 #[.val (.long q1), .second, .val (.long q2), .second, .unset, .unset] [(.long q1)])) _
    refine XS.lloadN X0.here hx rfl (hb hby d2_1) rfl ?_
    show Steps p.tables e below (s₁.setTop (mkF m 2 #[.val (.long q1), .second, .val (.long q2), .second, .unset, .unset] [(.long q2), (.long q1)])) _
    refine XS.lrem X0.here hx rfl (hb hby d2_2) rfl hnz2 ?_
    show Steps p.tables e below (s₁.setTop (mkF m 3 #[.val (.long q1), .second, .val (.long q2), .second, .unset, .unset] [(.long (q1 - (q1 / q2) * q2))])) _
    refine XS.lstore X0.here hx rfl (hb hby d2_3) rfl (l' := #[.val (.long q1), .second, .val (.long q2), .second, .val (.long (q1 - (q1 / q2) * q2)), .second]) rfl ?_
    show Steps p.tables e below (s₁.setTop (mkF m 5 #[.val (.long q1), .second, .val (.long q2), .second, .val (.long (q1 - (q1 / q2) * q2)), .second] [])) _
    refine XS.lloadN X0.here hx rfl (hb hby d2_5) rfl ?_
    show Steps p.tables e below (s₁.setTop (mkF m 6 #[.val (.long q1), .second, .val (.long q2), .second, .val (.long (q1 - (q1 / q2) * q2)), .second] [(.long q1)])) _
    refine XS.lloadN X0.here hx rfl (hb hby d2_6) rfl ?_
    show Steps p.tables e below (s₁.setTop (mkF m 7 #[.val (.long q1), .second, .val (.long q2), .second, .val (.long (q1 - (q1 / q2) * q2)), .second] [(.long q2), (.long q1)])) _
    refine XS.ldiv X0.here hx rfl (hb hby d2_7) rfl hnz7 ?_
    show Steps p.tables e below (s₁.setTop (mkF m 8 #[.val (.long q1), .second, .val (.long q2), .second, .val (.long (q1 - (q1 / q2) * q2)), .second] [(.long (q1 / q2))])) _
    refine XS.lload X0.here hx rfl (hb hby d2_8) rfl ?_
    show Steps p.tables e below (s₁.setTop (mkF m 10 #[.val (.long q1), .second, .val (.long q2), .second, .val (.long (q1 - (q1 / q2) * q2)), .second] [(.long (q1 - (q1 / q2) * q2)), (.long (q1 / q2))])) _
    refine XS.lloadN X0.here hx rfl (hb hby d2_10) rfl ?_
    show Steps p.tables e below (s₁.setTop (mkF m 11 #[.val (.long q1), .second, .val (.long q2), .second, .val (.long (q1 - (q1 / q2) * q2)), .second] [(.long q2), (.long (q1 - (q1 / q2) * q2)), (.long (q1 / q2))])) _
    refine XS.lload X0.here hx rfl (hb hby d2_11) rfl ?_
    show Steps p.tables e below (s₁.setTop (mkF m 13 #[.val (.long q1), .second, .val (.long q2), .second, .val (.long (q1 - (q1 / q2) * q2)), .second] [(.long (q1 - (q1 / q2) * q2)), (.long q2), (.long (q1 - (q1 / q2) * q2)), (.long (q1 / q2))])) _
    refine XS.lsub X0.here hx rfl (hb hby d2_13) rfl ?_
    show Steps p.tables e below (s₁.setTop (mkF m 14 #[.val (.long q1), .second, .val (.long q2), .second, .val (.long (q1 - (q1 / q2) * q2)), .second] [(.long (q2 - (q1 - (q1 / q2) * q2))), (.long (q1 - (q1 / q2) * q2)), (.long (q1 / q2))])) _
    refine XS.lcmp X0.here hx rfl (hb hby d2_14) rfl ?_
    show Steps p.tables e below (s₁.setTop (mkF m 15 #[.val (.long q1), .second, .val (.long q2), .second, .val (.long (q1 - (q1 / q2) * q2)), .second] [(.int (lcmpW (q1 - (q1 / q2) * q2) (q2 - (q1 - (q1 / q2) * q2)))), (.long (q1 / q2))])) _
    refine XS.ifNo X0.here hx rfl (hb hby d2_15) rfl ((if0 _ _).trans (flt hc15).1) ?_
    show Steps p.tables e below (s₁.setTop (mkF m 18 #[.val (.long q1), .second, .val (.long q2), .second, .val (.long (q1 - (q1 / q2) * q2)), .second] [(.long (q1 / q2))])) _
    refine XS.iconst X0.here hx rfl (hb hby d2_18) ?_
    show Steps p.tables e below (s₁.setTop (mkF m 19 #[.val (.long q1), .second, .val (.long q2), .second, .val (.long (q1 - (q1 / q2) * q2)), .second] [(.int (1 : Int32)), (.long (q1 / q2))])) _
    refine XS.goto X0.here hx rfl (pc0 := 19) (pc' := 23) rfl (hb hby d2_19) (by decide) (by decide) ?_
    show Steps p.tables e below (s₁.setTop (mkF m 23 #[.val (.long q1), .second, .val (.long q2), .second, .val (.long (q1 - (q1 / q2) * q2)), .second] [(.int (1 : Int32)), (.long (q1 / q2))])) _
    refine XS.i2l X0.here hx rfl (hb hby d2_23) rfl ?_
    show Steps p.tables e below (s₁.setTop (mkF m 24 #[.val (.long q1), .second, .val (.long q2), .second, .val (.long (q1 - (q1 / q2) * q2)), .second] [(.long ((1 : Int32).toInt64)), (.long (q1 / q2))])) _
    refine XS.ladd X0.here hx rfl (hb hby d2_24) rfl ?_
    show Steps p.tables e below (s₁.setTop (mkF m 25 #[.val (.long q1), .second, .val (.long q2), .second, .val (.long (q1 - (q1 / q2) * q2)), .second] [(.long ((q1 / q2) + ((1 : Int32).toInt64)))])) _
    exact X0.lreturnOut hx Bd.returns (hb hby d2_25) hr
  · show Q2 Z q1 q2 ((q1 / q2) + ((1 : Int32).toInt64)) h0 n0 _ s₁.heap _
    rw [e0]
    exact ⟨rfl, N0, rfl⟩
theorem rm2 (l : Launch) (Z : State) (a0 : Array Value) (hw : ∀ d ∈ tables_1, d.before a0 Z = true) (ws : List Jvm.Cond) (q1 : Int64) (q2 : Int64) (h0 : Heap) (n0 : Nat) (Z0 : n0 ≤ h0.size) (hz : ¬ (q2 = (0 : Int64))) :
    MetFree l (⟨"com/example/slackwater/slackwater/Decimals", "divideRounded", "(JJ)J"⟩ : MethodName) (head1 (Jvm.Cond.code (⟨"com/example/slackwater/slackwater/Decimals", "divideRounded", "(JJ)J"⟩ : MethodName) prog_21_method_6_code 6 (some .long) :: ws) ({ frames := 0, cells := 0, slots := 0, locals := 0 } : Room)) (fun a U => a = #[(.long q1), (.long q2)] ∧ Z.Warmed39 U.vm ∧ U.heap = h0) (fun _ _ _ _ _ => True) (fun _ U o U' => ∃ v L, o = .returned v ∧ Q2 Z q1 q2 (own_div q1 q2) h0 n0 v U'.heap L ∧ FrameEnd U o U' L ({ frames := 0, cells := 0, slots := 0, locals := 0 } : Room).cells ({ frames := 0, cells := 0, slots := 0, locals := 0 } : Room).slots) := by
  by_cases h1 : q1 - (q1 / q2) * q2 < q2 - (q1 - (q1 / q2) * q2)
  · rw [show own_div q1 q2 = q1 / q2 + ((0 : Int32).toInt64) from if_pos h1]
    exact rm2_t l Z a0 hw ws q1 q2 h0 n0 Z0 hz hz ((lw_lt _ _).mpr h1)
  · rw [show own_div q1 q2 = q1 / q2 + ((1 : Int32).toInt64) from if_neg h1]
    exact rm2_f l Z a0 hw ws q1 q2 h0 n0 Z0 hz hz (fun k => h1 ((lw_lt _ _).mp k))
theorem pn_0 : plainName "com/example/slackwater/slackwater/DecimalsDivideRoundedPinLaw" = true := by first | (simp [plainName, overriddenIn]; done) | decide +kernel
theorem pd_0_0 : parseMethodDescriptor "(JJ)J" = some ⟨[.long, .long], some .long⟩ := by decide +kernel
theorem ef_0 (m : MethodId) (x0 : Int64) (x1 : Int64) : entryFrame m #[(.long x0), (.long x1)] maxLocals = mkF m 0 #[.val (.long x0), .second, .val (.long x1), .second, .unset, .unset, .unset, .unset, .unset, .unset, .unset, .unset, .unset, .unset, .unset, .unset, .unset, .unset] [] := by first | (simp [entryFrame, mkF, argsToLocals, Value.category, maxLocals]; done) | rfl
def Q0 (Z : State) (q1 : Int64) (q2 : Int64) (h0 : Heap) (n0 : Nat) (v : Option Value) (h : Heap) (L : List Loc) : Prop := v = some (.int (1 : Int32)) ∧ Fr n0 L
set_option maxRecDepth 65536 in
set_option maxHeartbeats 40000000 in
theorem rm0_tf (l : Launch) (Z : State) (a0 : Array Value) (hw : ∀ d ∈ tables_1, d.before a0 Z = true) (ws : List Jvm.Cond) (q1 : Int64) (q2 : Int64) (h0 : Heap) (n0 : Nat) (Z0 : n0 ≤ h0.size) (hnz31 : ¬ ((own_max (1 : Int64) (q2 &&& (9223372036854775807 : Int64))) = (0 : Int64))) (hnz49 : ¬ ((2 : Int64) = (0 : Int64))) (hx62 : (lcmpW ((q1 &&& (9223372036854775807 : Int64)) - (((q1 &&& (9223372036854775807 : Int64)) / (own_max (1 : Int64) (q2 &&& (9223372036854775807 : Int64)))) * (own_max (1 : Int64) (q2 &&& (9223372036854775807 : Int64))))) (((own_max (1 : Int64) (q2 &&& (9223372036854775807 : Int64))) / (2 : Int64)) + ((own_max (1 : Int64) (q2 &&& (9223372036854775807 : Int64))) &&& (1 : Int64)))) < (0 : Int32)) (hx81 : (lcmpW (own_div (q1 &&& (9223372036854775807 : Int64)) (own_max (1 : Int64) (q2 &&& (9223372036854775807 : Int64)))) ((q1 &&& (9223372036854775807 : Int64)) / (own_max (1 : Int64) (q2 &&& (9223372036854775807 : Int64))))) = (0 : Int32)) :
    MetFree l x (head1 (Jvm.Cond.code x code maxLocals ret :: ws) room_1) (fun a U => a = #[(.long q1), (.long q2)] ∧ Z.Warmed39 U.vm ∧ U.heap = h0) (fun _ _ _ _ _ => True) (fun _ U o U' => ∃ v L, o = .returned v ∧ Q0 Z q1 q2 h0 n0 v U'.heap L ∧ FrameEnd U o U' L room_1.cells room_1.slots) := by
  refine MetFree.of_bodySF (plainFor_of_name pn_0) hisR ?_
  intro p e s m args below meth c s₁ Bd hml0 hP hK
  obtain ⟨rfl, hZ, hh⟩ := hP
  have hx := Bd.exec
  have hby := Bd.bytes
  have hml : c.maxLocals = 18 := hml0
  have hown : s.vm.findClass "com/example/slackwater/slackwater/DecimalsDivideRoundedPinLaw" = some m.cls := findClass_of_methodNamed Bd.named
  have hnm := (name_of_methodNamed Bd.named Bd.method).1
  have X0 : Stand p l e room_1 s m #[(.long q1), (.long q2)] below meth c s₁ [] 0 0 := Stand.of_body Bd
  have e0 : s₁.heap = h0 := by rw [← hh, Bd.state]; rfl
  have N0 := Fr.nil n0
  have pre0 : ∀ t, Steps p.tables e below (s₁.setTop (mkF m 0 #[.val (.long q1), .second, .val (.long q2), .second, .unset, .unset, .unset, .unset, .unset, .unset, .unset, .unset, .unset, .unset, .unset, .unset, .unset, .unset] [])) t → Steps p.tables e below (s₁.setTop (entryFrame m #[(.long q1), (.long q2)] maxLocals)) t := fun t k => castTop (ef_0 m q1 q2) k
  obtain ⟨_, _, ⟨T3, L3, k3, n3⟩, -, X3, ⟨Lc3, hQ3, l3, y3, z3⟩, st3⟩ := Jvm.LawKit.callS X0 hx (y := (⟨"java/lang/Math", "max", "(JJ)J"⟩ : MethodName)) hown (mvT hZ (hw _ (List.mem_of_getElem? (i := 1) rfl))) (mvT hZ (hw _ (List.mem_of_getElem? (i := 2) rfl))) (mvT hZ (hw _ (List.mem_of_getElem? (i := 3) rfl))) (mvT hZ (hw _ (List.mem_of_getElem? (i := 4) rfl))) (by decide) (backOf (W := 0) (rm1 l Z a0 hw [] (1 : Int64) (q2 &&& (9223372036854775807 : Int64)) h0 n0 Z0) hZ (hw _ (List.mem_of_getElem? (i := 4) rfl)) (hw _ (List.mem_of_getElem? (i := 3) rfl)) (by decide) (by decide)) (g := (mkF m 13 #[.val (.long q1), .second, .val (.long q2), .second, .val (.long (q1 &&& (9223372036854775807 : Int64))), .second, .unset, .unset, .unset, .unset, .unset, .unset, .unset, .unset, .unset, .unset, .unset, .unset] [(.long (q2 &&& (9223372036854775807 : Int64))), (.long (1 : Int64))])) rfl (by rw [hml]; rfl) (argsL := [(.long (1 : Int64)), (.long (q2 &&& (9223372036854775807 : Int64)))]) (rest := []) (lenOf pd_0_0 rfl) rfl (by show 2 * 0 + _ ≤ _; exact Nat.le_of_eq rfl) (hb hby at_13) (fun _ _ => ⟨rfl, e0, (by decide : 0 + 0 ≤ _), (by decide : 0 + 0 ≤ _)⟩)
  dsimp only [Pt.U, Pt.locs, Pt.cells, Pt.slots] at X3 l3 y3 z3 st3 hQ3
  subst l3 y3 z3
  obtain ⟨rfl, N3q, e3q⟩ := hQ3
  have Z3 : n0 ≤ T3.heap.size := by rw [e3q]; exact Z0
  have N3 := Fr.app N0 N3q
  obtain ⟨_, _, ⟨T4, L4, k4, n4⟩, -, X4, ⟨Lc4, hQ4, l4, y4, z4⟩, st4⟩ := Jvm.LawKit.callS X3 hx (y := (⟨"com/example/slackwater/slackwater/Decimals", "divideRounded", "(JJ)J"⟩ : MethodName)) hown (mvT hZ (hw _ (List.mem_of_getElem? (i := 5) rfl))) (mvT hZ (hw _ (List.mem_of_getElem? (i := 6) rfl))) (mvT hZ (hw _ (List.mem_of_getElem? (i := 7) rfl))) (mvT hZ (hw _ (List.mem_of_getElem? (i := 8) rfl))) (by decide) (backOf (W := 0) (rm2 l Z a0 hw [] (q1 &&& (9223372036854775807 : Int64)) (own_max (1 : Int64) (q2 &&& (9223372036854775807 : Int64))) T3.heap n0 Z3 hnz31) hZ (hw _ (List.mem_of_getElem? (i := 8) rfl)) (hw _ (List.mem_of_getElem? (i := 7) rfl)) (by decide) (by decide)) (g := (mkF m 22 #[.val (.long q1), .second, .val (.long q2), .second, .val (.long (q1 &&& (9223372036854775807 : Int64))), .second, .val (.long (own_max (1 : Int64) (q2 &&& (9223372036854775807 : Int64)))), .second, .unset, .unset, .unset, .unset, .unset, .unset, .unset, .unset, .unset, .unset] [(.long (own_max (1 : Int64) (q2 &&& (9223372036854775807 : Int64)))), (.long (q1 &&& (9223372036854775807 : Int64)))])) rfl (by rw [hml]; rfl) (argsL := [(.long (q1 &&& (9223372036854775807 : Int64))), (.long (own_max (1 : Int64) (q2 &&& (9223372036854775807 : Int64))))]) (rest := []) (lenOf pd_0_0 rfl) rfl (by show 2 * 0 + _ ≤ _; exact Nat.le_of_eq rfl) (hb hby at_22) (fun _ _ => ⟨rfl, rfl, (by decide : 0 + 0 ≤ _), (by decide : 0 + 0 ≤ _)⟩)
  dsimp only [Pt.U, Pt.locs, Pt.cells, Pt.slots] at X4 l4 y4 z4 st4 hQ4
  subst l4 y4 z4
  obtain ⟨rfl, N4q, e4q⟩ := hQ4
  have N4 := Fr.app N3 N4q
  obtain ⟨fs, hr, hrun, hended, hW, hsame⟩ := X4.leave (v := some (.int (1 : Int32))) (fun h => by rw [Bd.returns] at h; cases h)
  refine ⟨_, _, pre0 _ ?_, hrun, hended, _, _, rfl, ?_, ⟨_, rfl⟩, hW, hsame.mono (by decide) (by decide)⟩
  · show Steps p.tables e below (s₁.setTop (mkF m 0 #[.val (.long q1), .second, .val (.long q2), .second, .unset, .unset, .unset, .unset, .unset, .unset, .unset, .unset, .unset, .unset, .unset, .unset, .unset, .unset] [])) _
    refine XS.lloadN X0.here hx rfl (hb hby at_0) rfl ?_
    show Steps p.tables e below (s₁.setTop (mkF m 1 #[.val (.long q1), .second, .val (.long q2), .second, .unset, .unset, .unset, .unset, .unset, .unset, .unset, .unset, .unset, .unset, .unset, .unset, .unset, .unset] [(.long q1)])) _
    refine X0.ldc2Long hx hown (mvT hZ (hw _ (List.mem_of_getElem? (i := 0) rfl))) (g := (mkF m 1 #[.val (.long q1), .second, .val (.long q2), .second, .unset, .unset, .unset, .unset, .unset, .unset, .unset, .unset, .unset, .unset, .unset, .unset, .unset, .unset] [(.long q1)])) rfl (hb hby at_1) _ ?_
    show Steps p.tables e below (s₁.setTop (mkF m 4 #[.val (.long q1), .second, .val (.long q2), .second, .unset, .unset, .unset, .unset, .unset, .unset, .unset, .unset, .unset, .unset, .unset, .unset, .unset, .unset] [(.long (9223372036854775807 : Int64)), (.long q1)])) _
    refine XS.land X0.here hx rfl (hb hby at_4) rfl ?_
    show Steps p.tables e below (s₁.setTop (mkF m 5 #[.val (.long q1), .second, .val (.long q2), .second, .unset, .unset, .unset, .unset, .unset, .unset, .unset, .unset, .unset, .unset, .unset, .unset, .unset, .unset] [(.long (q1 &&& (9223372036854775807 : Int64)))])) _
    refine XS.lstore X0.here hx rfl (hb hby at_5) rfl (l' := #[.val (.long q1), .second, .val (.long q2), .second, .val (.long (q1 &&& (9223372036854775807 : Int64))), .second, .unset, .unset, .unset, .unset, .unset, .unset, .unset, .unset, .unset, .unset, .unset, .unset]) rfl ?_
    show Steps p.tables e below (s₁.setTop (mkF m 7 #[.val (.long q1), .second, .val (.long q2), .second, .val (.long (q1 &&& (9223372036854775807 : Int64))), .second, .unset, .unset, .unset, .unset, .unset, .unset, .unset, .unset, .unset, .unset, .unset, .unset] [])) _
    refine XS.lconst X0.here hx rfl (hb hby at_7) ?_
    show Steps p.tables e below (s₁.setTop (mkF m 8 #[.val (.long q1), .second, .val (.long q2), .second, .val (.long (q1 &&& (9223372036854775807 : Int64))), .second, .unset, .unset, .unset, .unset, .unset, .unset, .unset, .unset, .unset, .unset, .unset, .unset] [(.long (1 : Int64))])) _
    refine XS.lloadN X0.here hx rfl (hb hby at_8) rfl ?_
    show Steps p.tables e below (s₁.setTop (mkF m 9 #[.val (.long q1), .second, .val (.long q2), .second, .val (.long (q1 &&& (9223372036854775807 : Int64))), .second, .unset, .unset, .unset, .unset, .unset, .unset, .unset, .unset, .unset, .unset, .unset, .unset] [(.long q2), (.long (1 : Int64))])) _
    refine X0.ldc2Long hx hown (mvT hZ (hw _ (List.mem_of_getElem? (i := 0) rfl))) (g := (mkF m 9 #[.val (.long q1), .second, .val (.long q2), .second, .val (.long (q1 &&& (9223372036854775807 : Int64))), .second, .unset, .unset, .unset, .unset, .unset, .unset, .unset, .unset, .unset, .unset, .unset, .unset] [(.long q2), (.long (1 : Int64))])) rfl (hb hby at_9) _ ?_
    show Steps p.tables e below (s₁.setTop (mkF m 12 #[.val (.long q1), .second, .val (.long q2), .second, .val (.long (q1 &&& (9223372036854775807 : Int64))), .second, .unset, .unset, .unset, .unset, .unset, .unset, .unset, .unset, .unset, .unset, .unset, .unset] [(.long (9223372036854775807 : Int64)), (.long q2), (.long (1 : Int64))])) _
    refine XS.land X0.here hx rfl (hb hby at_12) rfl ?_
    show Steps p.tables e below (s₁.setTop (mkF m 13 #[.val (.long q1), .second, .val (.long q2), .second, .val (.long (q1 &&& (9223372036854775807 : Int64))), .second, .unset, .unset, .unset, .unset, .unset, .unset, .unset, .unset, .unset, .unset, .unset, .unset] [(.long (q2 &&& (9223372036854775807 : Int64))), (.long (1 : Int64))])) _
    refine st3 _ ?_
    show Steps p.tables e below (T3.setTop (mkF m 16 #[.val (.long q1), .second, .val (.long q2), .second, .val (.long (q1 &&& (9223372036854775807 : Int64))), .second, .unset, .unset, .unset, .unset, .unset, .unset, .unset, .unset, .unset, .unset, .unset, .unset] [(.long (own_max (1 : Int64) (q2 &&& (9223372036854775807 : Int64))))])) _
    refine XS.lstore X3.here hx rfl (hb hby at_16) rfl (l' := #[.val (.long q1), .second, .val (.long q2), .second, .val (.long (q1 &&& (9223372036854775807 : Int64))), .second, .val (.long (own_max (1 : Int64) (q2 &&& (9223372036854775807 : Int64)))), .second, .unset, .unset, .unset, .unset, .unset, .unset, .unset, .unset, .unset, .unset]) rfl ?_
    show Steps p.tables e below (T3.setTop (mkF m 18 #[.val (.long q1), .second, .val (.long q2), .second, .val (.long (q1 &&& (9223372036854775807 : Int64))), .second, .val (.long (own_max (1 : Int64) (q2 &&& (9223372036854775807 : Int64)))), .second, .unset, .unset, .unset, .unset, .unset, .unset, .unset, .unset, .unset, .unset] [])) _
    refine XS.lload X3.here hx rfl (hb hby at_18) rfl ?_
    show Steps p.tables e below (T3.setTop (mkF m 20 #[.val (.long q1), .second, .val (.long q2), .second, .val (.long (q1 &&& (9223372036854775807 : Int64))), .second, .val (.long (own_max (1 : Int64) (q2 &&& (9223372036854775807 : Int64)))), .second, .unset, .unset, .unset, .unset, .unset, .unset, .unset, .unset, .unset, .unset] [(.long (q1 &&& (9223372036854775807 : Int64)))])) _
    refine XS.lload X3.here hx rfl (hb hby at_20) rfl ?_
    show Steps p.tables e below (T3.setTop (mkF m 22 #[.val (.long q1), .second, .val (.long q2), .second, .val (.long (q1 &&& (9223372036854775807 : Int64))), .second, .val (.long (own_max (1 : Int64) (q2 &&& (9223372036854775807 : Int64)))), .second, .unset, .unset, .unset, .unset, .unset, .unset, .unset, .unset, .unset, .unset] [(.long (own_max (1 : Int64) (q2 &&& (9223372036854775807 : Int64)))), (.long (q1 &&& (9223372036854775807 : Int64)))])) _
    refine st4 _ ?_
    show Steps p.tables e below (T4.setTop (mkF m 25 #[.val (.long q1), .second, .val (.long q2), .second, .val (.long (q1 &&& (9223372036854775807 : Int64))), .second, .val (.long (own_max (1 : Int64) (q2 &&& (9223372036854775807 : Int64)))), .second, .unset, .unset, .unset, .unset, .unset, .unset, .unset, .unset, .unset, .unset] [(.long (own_div (q1 &&& (9223372036854775807 : Int64)) (own_max (1 : Int64) (q2 &&& (9223372036854775807 : Int64)))))])) _
    refine XS.lstore X4.here hx rfl (hb hby at_25) rfl (l' := #[.val (.long q1), .second, .val (.long q2), .second, .val (.long (q1 &&& (9223372036854775807 : Int64))), .second, .val (.long (own_max (1 : Int64) (q2 &&& (9223372036854775807 : Int64)))), .second, .val (.long (own_div (q1 &&& (9223372036854775807 : Int64)) (own_max (1 : Int64) (q2 &&& (9223372036854775807 : Int64))))), .second, .unset, .unset, .unset, .unset, .unset, .unset, .unset, .unset]) rfl ?_
    show Steps p.tables e below (T4.setTop (mkF m 27 #[.val (.long q1), .second, .val (.long q2), .second, .val (.long (q1 &&& (9223372036854775807 : Int64))), .second, .val (.long (own_max (1 : Int64) (q2 &&& (9223372036854775807 : Int64)))), .second, .val (.long (own_div (q1 &&& (9223372036854775807 : Int64)) (own_max (1 : Int64) (q2 &&& (9223372036854775807 : Int64))))), .second, .unset, .unset, .unset, .unset, .unset, .unset, .unset, .unset] [])) _
    refine XS.lload X4.here hx rfl (hb hby at_27) rfl ?_
    show Steps p.tables e below (T4.setTop (mkF m 29 #[.val (.long q1), .second, .val (.long q2), .second, .val (.long (q1 &&& (9223372036854775807 : Int64))), .second, .val (.long (own_max (1 : Int64) (q2 &&& (9223372036854775807 : Int64)))), .second, .val (.long (own_div (q1 &&& (9223372036854775807 : Int64)) (own_max (1 : Int64) (q2 &&& (9223372036854775807 : Int64))))), .second, .unset, .unset, .unset, .unset, .unset, .unset, .unset, .unset] [(.long (q1 &&& (9223372036854775807 : Int64)))])) _
    refine XS.lload X4.here hx rfl (hb hby at_29) rfl ?_
    show Steps p.tables e below (T4.setTop (mkF m 31 #[.val (.long q1), .second, .val (.long q2), .second, .val (.long (q1 &&& (9223372036854775807 : Int64))), .second, .val (.long (own_max (1 : Int64) (q2 &&& (9223372036854775807 : Int64)))), .second, .val (.long (own_div (q1 &&& (9223372036854775807 : Int64)) (own_max (1 : Int64) (q2 &&& (9223372036854775807 : Int64))))), .second, .unset, .unset, .unset, .unset, .unset, .unset, .unset, .unset] [(.long (own_max (1 : Int64) (q2 &&& (9223372036854775807 : Int64)))), (.long (q1 &&& (9223372036854775807 : Int64)))])) _
    refine XS.ldiv X4.here hx rfl (hb hby at_31) rfl hnz31 ?_
    show Steps p.tables e below (T4.setTop (mkF m 32 #[.val (.long q1), .second, .val (.long q2), .second, .val (.long (q1 &&& (9223372036854775807 : Int64))), .second, .val (.long (own_max (1 : Int64) (q2 &&& (9223372036854775807 : Int64)))), .second, .val (.long (own_div (q1 &&& (9223372036854775807 : Int64)) (own_max (1 : Int64) (q2 &&& (9223372036854775807 : Int64))))), .second, .unset, .unset, .unset, .unset, .unset, .unset, .unset, .unset] [(.long ((q1 &&& (9223372036854775807 : Int64)) / (own_max (1 : Int64) (q2 &&& (9223372036854775807 : Int64)))))])) _
    refine XS.lstore X4.here hx rfl (hb hby at_32) rfl (l' := #[.val (.long q1), .second, .val (.long q2), .second, .val (.long (q1 &&& (9223372036854775807 : Int64))), .second, .val (.long (own_max (1 : Int64) (q2 &&& (9223372036854775807 : Int64)))), .second, .val (.long (own_div (q1 &&& (9223372036854775807 : Int64)) (own_max (1 : Int64) (q2 &&& (9223372036854775807 : Int64))))), .second, .val (.long ((q1 &&& (9223372036854775807 : Int64)) / (own_max (1 : Int64) (q2 &&& (9223372036854775807 : Int64))))), .second, .unset, .unset, .unset, .unset, .unset, .unset]) rfl ?_
    show Steps p.tables e below (T4.setTop (mkF m 34 #[.val (.long q1), .second, .val (.long q2), .second, .val (.long (q1 &&& (9223372036854775807 : Int64))), .second, .val (.long (own_max (1 : Int64) (q2 &&& (9223372036854775807 : Int64)))), .second, .val (.long (own_div (q1 &&& (9223372036854775807 : Int64)) (own_max (1 : Int64) (q2 &&& (9223372036854775807 : Int64))))), .second, .val (.long ((q1 &&& (9223372036854775807 : Int64)) / (own_max (1 : Int64) (q2 &&& (9223372036854775807 : Int64))))), .second, .unset, .unset, .unset, .unset, .unset, .unset] [])) _
    refine XS.lload X4.here hx rfl (hb hby at_34) rfl ?_
    show Steps p.tables e below (T4.setTop (mkF m 36 #[.val (.long q1), .second, .val (.long q2), .second, .val (.long (q1 &&& (9223372036854775807 : Int64))), .second, .val (.long (own_max (1 : Int64) (q2 &&& (9223372036854775807 : Int64)))), .second, .val (.long (own_div (q1 &&& (9223372036854775807 : Int64)) (own_max (1 : Int64) (q2 &&& (9223372036854775807 : Int64))))), .second, .val (.long ((q1 &&& (9223372036854775807 : Int64)) / (own_max (1 : Int64) (q2 &&& (9223372036854775807 : Int64))))), .second, .unset, .unset, .unset, .unset, .unset, .unset] [(.long (q1 &&& (9223372036854775807 : Int64)))])) _
    refine XS.lload X4.here hx rfl (hb hby at_36) rfl ?_
    show Steps p.tables e below (T4.setTop (mkF m 38 #[.val (.long q1), .second, .val (.long q2), .second, .val (.long (q1 &&& (9223372036854775807 : Int64))), .second, .val (.long (own_max (1 : Int64) (q2 &&& (9223372036854775807 : Int64)))), .second, .val (.long (own_div (q1 &&& (9223372036854775807 : Int64)) (own_max (1 : Int64) (q2 &&& (9223372036854775807 : Int64))))), .second, .val (.long ((q1 &&& (9223372036854775807 : Int64)) / (own_max (1 : Int64) (q2 &&& (9223372036854775807 : Int64))))), .second, .unset, .unset, .unset, .unset, .unset, .unset] [(.long ((q1 &&& (9223372036854775807 : Int64)) / (own_max (1 : Int64) (q2 &&& (9223372036854775807 : Int64))))), (.long (q1 &&& (9223372036854775807 : Int64)))])) _
    refine XS.lload X4.here hx rfl (hb hby at_38) rfl ?_
    show Steps p.tables e below (T4.setTop (mkF m 40 #[.val (.long q1), .second, .val (.long q2), .second, .val (.long (q1 &&& (9223372036854775807 : Int64))), .second, .val (.long (own_max (1 : Int64) (q2 &&& (9223372036854775807 : Int64)))), .second, .val (.long (own_div (q1 &&& (9223372036854775807 : Int64)) (own_max (1 : Int64) (q2 &&& (9223372036854775807 : Int64))))), .second, .val (.long ((q1 &&& (9223372036854775807 : Int64)) / (own_max (1 : Int64) (q2 &&& (9223372036854775807 : Int64))))), .second, .unset, .unset, .unset, .unset, .unset, .unset] [(.long (own_max (1 : Int64) (q2 &&& (9223372036854775807 : Int64)))), (.long ((q1 &&& (9223372036854775807 : Int64)) / (own_max (1 : Int64) (q2 &&& (9223372036854775807 : Int64))))), (.long (q1 &&& (9223372036854775807 : Int64)))])) _
    refine XS.lmul X4.here hx rfl (hb hby at_40) rfl ?_
    show Steps p.tables e below (T4.setTop (mkF m 41 #[.val (.long q1), .second, .val (.long q2), .second, .val (.long (q1 &&& (9223372036854775807 : Int64))), .second, .val (.long (own_max (1 : Int64) (q2 &&& (9223372036854775807 : Int64)))), .second, .val (.long (own_div (q1 &&& (9223372036854775807 : Int64)) (own_max (1 : Int64) (q2 &&& (9223372036854775807 : Int64))))), .second, .val (.long ((q1 &&& (9223372036854775807 : Int64)) / (own_max (1 : Int64) (q2 &&& (9223372036854775807 : Int64))))), .second, .unset, .unset, .unset, .unset, .unset, .unset] [(.long (((q1 &&& (9223372036854775807 : Int64)) / (own_max (1 : Int64) (q2 &&& (9223372036854775807 : Int64)))) * (own_max (1 : Int64) (q2 &&& (9223372036854775807 : Int64))))), (.long (q1 &&& (9223372036854775807 : Int64)))])) _
    refine XS.lsub X4.here hx rfl (hb hby at_41) rfl ?_
    show Steps p.tables e below (T4.setTop (mkF m 42 #[.val (.long q1), .second, .val (.long q2), .second, .val (.long (q1 &&& (9223372036854775807 : Int64))), .second, .val (.long (own_max (1 : Int64) (q2 &&& (9223372036854775807 : Int64)))), .second, .val (.long (own_div (q1 &&& (9223372036854775807 : Int64)) (own_max (1 : Int64) (q2 &&& (9223372036854775807 : Int64))))), .second, .val (.long ((q1 &&& (9223372036854775807 : Int64)) / (own_max (1 : Int64) (q2 &&& (9223372036854775807 : Int64))))), .second, .unset, .unset, .unset, .unset, .unset, .unset] [(.long ((q1 &&& (9223372036854775807 : Int64)) - (((q1 &&& (9223372036854775807 : Int64)) / (own_max (1 : Int64) (q2 &&& (9223372036854775807 : Int64)))) * (own_max (1 : Int64) (q2 &&& (9223372036854775807 : Int64))))))])) _
    refine XS.lstore X4.here hx rfl (hb hby at_42) rfl (l' := #[.val (.long q1), .second, .val (.long q2), .second, .val (.long (q1 &&& (9223372036854775807 : Int64))), .second, .val (.long (own_max (1 : Int64) (q2 &&& (9223372036854775807 : Int64)))), .second, .val (.long (own_div (q1 &&& (9223372036854775807 : Int64)) (own_max (1 : Int64) (q2 &&& (9223372036854775807 : Int64))))), .second, .val (.long ((q1 &&& (9223372036854775807 : Int64)) / (own_max (1 : Int64) (q2 &&& (9223372036854775807 : Int64))))), .second, .val (.long ((q1 &&& (9223372036854775807 : Int64)) - (((q1 &&& (9223372036854775807 : Int64)) / (own_max (1 : Int64) (q2 &&& (9223372036854775807 : Int64)))) * (own_max (1 : Int64) (q2 &&& (9223372036854775807 : Int64)))))), .second, .unset, .unset, .unset, .unset]) rfl ?_
    show Steps p.tables e below (T4.setTop (mkF m 44 #[.val (.long q1), .second, .val (.long q2), .second, .val (.long (q1 &&& (9223372036854775807 : Int64))), .second, .val (.long (own_max (1 : Int64) (q2 &&& (9223372036854775807 : Int64)))), .second, .val (.long (own_div (q1 &&& (9223372036854775807 : Int64)) (own_max (1 : Int64) (q2 &&& (9223372036854775807 : Int64))))), .second, .val (.long ((q1 &&& (9223372036854775807 : Int64)) / (own_max (1 : Int64) (q2 &&& (9223372036854775807 : Int64))))), .second, .val (.long ((q1 &&& (9223372036854775807 : Int64)) - (((q1 &&& (9223372036854775807 : Int64)) / (own_max (1 : Int64) (q2 &&& (9223372036854775807 : Int64)))) * (own_max (1 : Int64) (q2 &&& (9223372036854775807 : Int64)))))), .second, .unset, .unset, .unset, .unset] [])) _
    refine XS.lload X4.here hx rfl (hb hby at_44) rfl ?_
    show Steps p.tables e below (T4.setTop (mkF m 46 #[.val (.long q1), .second, .val (.long q2), .second, .val (.long (q1 &&& (9223372036854775807 : Int64))), .second, .val (.long (own_max (1 : Int64) (q2 &&& (9223372036854775807 : Int64)))), .second, .val (.long (own_div (q1 &&& (9223372036854775807 : Int64)) (own_max (1 : Int64) (q2 &&& (9223372036854775807 : Int64))))), .second, .val (.long ((q1 &&& (9223372036854775807 : Int64)) / (own_max (1 : Int64) (q2 &&& (9223372036854775807 : Int64))))), .second, .val (.long ((q1 &&& (9223372036854775807 : Int64)) - (((q1 &&& (9223372036854775807 : Int64)) / (own_max (1 : Int64) (q2 &&& (9223372036854775807 : Int64)))) * (own_max (1 : Int64) (q2 &&& (9223372036854775807 : Int64)))))), .second, .unset, .unset, .unset, .unset] [(.long (own_max (1 : Int64) (q2 &&& (9223372036854775807 : Int64))))])) _
    refine X4.ldc2Long hx hown (mvT hZ (hw _ (List.mem_of_getElem? (i := 9) rfl))) (g := (mkF m 46 #[.val (.long q1), .second, .val (.long q2), .second, .val (.long (q1 &&& (9223372036854775807 : Int64))), .second, .val (.long (own_max (1 : Int64) (q2 &&& (9223372036854775807 : Int64)))), .second, .val (.long (own_div (q1 &&& (9223372036854775807 : Int64)) (own_max (1 : Int64) (q2 &&& (9223372036854775807 : Int64))))), .second, .val (.long ((q1 &&& (9223372036854775807 : Int64)) / (own_max (1 : Int64) (q2 &&& (9223372036854775807 : Int64))))), .second, .val (.long ((q1 &&& (9223372036854775807 : Int64)) - (((q1 &&& (9223372036854775807 : Int64)) / (own_max (1 : Int64) (q2 &&& (9223372036854775807 : Int64)))) * (own_max (1 : Int64) (q2 &&& (9223372036854775807 : Int64)))))), .second, .unset, .unset, .unset, .unset] [(.long (own_max (1 : Int64) (q2 &&& (9223372036854775807 : Int64))))])) rfl (hb hby at_46) _ ?_
    show Steps p.tables e below (T4.setTop (mkF m 49 #[.val (.long q1), .second, .val (.long q2), .second, .val (.long (q1 &&& (9223372036854775807 : Int64))), .second, .val (.long (own_max (1 : Int64) (q2 &&& (9223372036854775807 : Int64)))), .second, .val (.long (own_div (q1 &&& (9223372036854775807 : Int64)) (own_max (1 : Int64) (q2 &&& (9223372036854775807 : Int64))))), .second, .val (.long ((q1 &&& (9223372036854775807 : Int64)) / (own_max (1 : Int64) (q2 &&& (9223372036854775807 : Int64))))), .second, .val (.long ((q1 &&& (9223372036854775807 : Int64)) - (((q1 &&& (9223372036854775807 : Int64)) / (own_max (1 : Int64) (q2 &&& (9223372036854775807 : Int64)))) * (own_max (1 : Int64) (q2 &&& (9223372036854775807 : Int64)))))), .second, .unset, .unset, .unset, .unset] [(.long (2 : Int64)), (.long (own_max (1 : Int64) (q2 &&& (9223372036854775807 : Int64))))])) _
    refine XS.ldiv X4.here hx rfl (hb hby at_49) rfl hnz49 ?_
    show Steps p.tables e below (T4.setTop (mkF m 50 #[.val (.long q1), .second, .val (.long q2), .second, .val (.long (q1 &&& (9223372036854775807 : Int64))), .second, .val (.long (own_max (1 : Int64) (q2 &&& (9223372036854775807 : Int64)))), .second, .val (.long (own_div (q1 &&& (9223372036854775807 : Int64)) (own_max (1 : Int64) (q2 &&& (9223372036854775807 : Int64))))), .second, .val (.long ((q1 &&& (9223372036854775807 : Int64)) / (own_max (1 : Int64) (q2 &&& (9223372036854775807 : Int64))))), .second, .val (.long ((q1 &&& (9223372036854775807 : Int64)) - (((q1 &&& (9223372036854775807 : Int64)) / (own_max (1 : Int64) (q2 &&& (9223372036854775807 : Int64)))) * (own_max (1 : Int64) (q2 &&& (9223372036854775807 : Int64)))))), .second, .unset, .unset, .unset, .unset] [(.long ((own_max (1 : Int64) (q2 &&& (9223372036854775807 : Int64))) / (2 : Int64)))])) _
    refine XS.lload X4.here hx rfl (hb hby at_50) rfl ?_
    show Steps p.tables e below (T4.setTop (mkF m 52 #[.val (.long q1), .second, .val (.long q2), .second, .val (.long (q1 &&& (9223372036854775807 : Int64))), .second, .val (.long (own_max (1 : Int64) (q2 &&& (9223372036854775807 : Int64)))), .second, .val (.long (own_div (q1 &&& (9223372036854775807 : Int64)) (own_max (1 : Int64) (q2 &&& (9223372036854775807 : Int64))))), .second, .val (.long ((q1 &&& (9223372036854775807 : Int64)) / (own_max (1 : Int64) (q2 &&& (9223372036854775807 : Int64))))), .second, .val (.long ((q1 &&& (9223372036854775807 : Int64)) - (((q1 &&& (9223372036854775807 : Int64)) / (own_max (1 : Int64) (q2 &&& (9223372036854775807 : Int64)))) * (own_max (1 : Int64) (q2 &&& (9223372036854775807 : Int64)))))), .second, .unset, .unset, .unset, .unset] [(.long (own_max (1 : Int64) (q2 &&& (9223372036854775807 : Int64)))), (.long ((own_max (1 : Int64) (q2 &&& (9223372036854775807 : Int64))) / (2 : Int64)))])) _
    refine XS.lconst X4.here hx rfl (hb hby at_52) ?_
    show Steps p.tables e below (T4.setTop (mkF m 53 #[.val (.long q1), .second, .val (.long q2), .second, .val (.long (q1 &&& (9223372036854775807 : Int64))), .second, .val (.long (own_max (1 : Int64) (q2 &&& (9223372036854775807 : Int64)))), .second, .val (.long (own_div (q1 &&& (9223372036854775807 : Int64)) (own_max (1 : Int64) (q2 &&& (9223372036854775807 : Int64))))), .second, .val (.long ((q1 &&& (9223372036854775807 : Int64)) / (own_max (1 : Int64) (q2 &&& (9223372036854775807 : Int64))))), .second, .val (.long ((q1 &&& (9223372036854775807 : Int64)) - (((q1 &&& (9223372036854775807 : Int64)) / (own_max (1 : Int64) (q2 &&& (9223372036854775807 : Int64)))) * (own_max (1 : Int64) (q2 &&& (9223372036854775807 : Int64)))))), .second, .unset, .unset, .unset, .unset] [(.long (1 : Int64)), (.long (own_max (1 : Int64) (q2 &&& (9223372036854775807 : Int64)))), (.long ((own_max (1 : Int64) (q2 &&& (9223372036854775807 : Int64))) / (2 : Int64)))])) _
    refine XS.land X4.here hx rfl (hb hby at_53) rfl ?_
    show Steps p.tables e below (T4.setTop (mkF m 54 #[.val (.long q1), .second, .val (.long q2), .second, .val (.long (q1 &&& (9223372036854775807 : Int64))), .second, .val (.long (own_max (1 : Int64) (q2 &&& (9223372036854775807 : Int64)))), .second, .val (.long (own_div (q1 &&& (9223372036854775807 : Int64)) (own_max (1 : Int64) (q2 &&& (9223372036854775807 : Int64))))), .second, .val (.long ((q1 &&& (9223372036854775807 : Int64)) / (own_max (1 : Int64) (q2 &&& (9223372036854775807 : Int64))))), .second, .val (.long ((q1 &&& (9223372036854775807 : Int64)) - (((q1 &&& (9223372036854775807 : Int64)) / (own_max (1 : Int64) (q2 &&& (9223372036854775807 : Int64)))) * (own_max (1 : Int64) (q2 &&& (9223372036854775807 : Int64)))))), .second, .unset, .unset, .unset, .unset] [(.long ((own_max (1 : Int64) (q2 &&& (9223372036854775807 : Int64))) &&& (1 : Int64))), (.long ((own_max (1 : Int64) (q2 &&& (9223372036854775807 : Int64))) / (2 : Int64)))])) _
    refine XS.ladd X4.here hx rfl (hb hby at_54) rfl ?_
    show Steps p.tables e below (T4.setTop (mkF m 55 #[.val (.long q1), .second, .val (.long q2), .second, .val (.long (q1 &&& (9223372036854775807 : Int64))), .second, .val (.long (own_max (1 : Int64) (q2 &&& (9223372036854775807 : Int64)))), .second, .val (.long (own_div (q1 &&& (9223372036854775807 : Int64)) (own_max (1 : Int64) (q2 &&& (9223372036854775807 : Int64))))), .second, .val (.long ((q1 &&& (9223372036854775807 : Int64)) / (own_max (1 : Int64) (q2 &&& (9223372036854775807 : Int64))))), .second, .val (.long ((q1 &&& (9223372036854775807 : Int64)) - (((q1 &&& (9223372036854775807 : Int64)) / (own_max (1 : Int64) (q2 &&& (9223372036854775807 : Int64)))) * (own_max (1 : Int64) (q2 &&& (9223372036854775807 : Int64)))))), .second, .unset, .unset, .unset, .unset] [(.long (((own_max (1 : Int64) (q2 &&& (9223372036854775807 : Int64))) / (2 : Int64)) + ((own_max (1 : Int64) (q2 &&& (9223372036854775807 : Int64))) &&& (1 : Int64))))])) _
    refine XS.lstore X4.here hx rfl (hb hby at_55) rfl (l' := #[.val (.long q1), .second, .val (.long q2), .second, .val (.long (q1 &&& (9223372036854775807 : Int64))), .second, .val (.long (own_max (1 : Int64) (q2 &&& (9223372036854775807 : Int64)))), .second, .val (.long (own_div (q1 &&& (9223372036854775807 : Int64)) (own_max (1 : Int64) (q2 &&& (9223372036854775807 : Int64))))), .second, .val (.long ((q1 &&& (9223372036854775807 : Int64)) / (own_max (1 : Int64) (q2 &&& (9223372036854775807 : Int64))))), .second, .val (.long ((q1 &&& (9223372036854775807 : Int64)) - (((q1 &&& (9223372036854775807 : Int64)) / (own_max (1 : Int64) (q2 &&& (9223372036854775807 : Int64)))) * (own_max (1 : Int64) (q2 &&& (9223372036854775807 : Int64)))))), .second, .val (.long (((own_max (1 : Int64) (q2 &&& (9223372036854775807 : Int64))) / (2 : Int64)) + ((own_max (1 : Int64) (q2 &&& (9223372036854775807 : Int64))) &&& (1 : Int64)))), .second, .unset, .unset]) rfl ?_
    show Steps p.tables e below (T4.setTop (mkF m 57 #[.val (.long q1), .second, .val (.long q2), .second, .val (.long (q1 &&& (9223372036854775807 : Int64))), .second, .val (.long (own_max (1 : Int64) (q2 &&& (9223372036854775807 : Int64)))), .second, .val (.long (own_div (q1 &&& (9223372036854775807 : Int64)) (own_max (1 : Int64) (q2 &&& (9223372036854775807 : Int64))))), .second, .val (.long ((q1 &&& (9223372036854775807 : Int64)) / (own_max (1 : Int64) (q2 &&& (9223372036854775807 : Int64))))), .second, .val (.long ((q1 &&& (9223372036854775807 : Int64)) - (((q1 &&& (9223372036854775807 : Int64)) / (own_max (1 : Int64) (q2 &&& (9223372036854775807 : Int64)))) * (own_max (1 : Int64) (q2 &&& (9223372036854775807 : Int64)))))), .second, .val (.long (((own_max (1 : Int64) (q2 &&& (9223372036854775807 : Int64))) / (2 : Int64)) + ((own_max (1 : Int64) (q2 &&& (9223372036854775807 : Int64))) &&& (1 : Int64)))), .second, .unset, .unset] [])) _
    refine XS.lload X4.here hx rfl (hb hby at_57) rfl ?_
    show Steps p.tables e below (T4.setTop (mkF m 59 #[.val (.long q1), .second, .val (.long q2), .second, .val (.long (q1 &&& (9223372036854775807 : Int64))), .second, .val (.long (own_max (1 : Int64) (q2 &&& (9223372036854775807 : Int64)))), .second, .val (.long (own_div (q1 &&& (9223372036854775807 : Int64)) (own_max (1 : Int64) (q2 &&& (9223372036854775807 : Int64))))), .second, .val (.long ((q1 &&& (9223372036854775807 : Int64)) / (own_max (1 : Int64) (q2 &&& (9223372036854775807 : Int64))))), .second, .val (.long ((q1 &&& (9223372036854775807 : Int64)) - (((q1 &&& (9223372036854775807 : Int64)) / (own_max (1 : Int64) (q2 &&& (9223372036854775807 : Int64)))) * (own_max (1 : Int64) (q2 &&& (9223372036854775807 : Int64)))))), .second, .val (.long (((own_max (1 : Int64) (q2 &&& (9223372036854775807 : Int64))) / (2 : Int64)) + ((own_max (1 : Int64) (q2 &&& (9223372036854775807 : Int64))) &&& (1 : Int64)))), .second, .unset, .unset] [(.long ((q1 &&& (9223372036854775807 : Int64)) - (((q1 &&& (9223372036854775807 : Int64)) / (own_max (1 : Int64) (q2 &&& (9223372036854775807 : Int64)))) * (own_max (1 : Int64) (q2 &&& (9223372036854775807 : Int64))))))])) _
    refine XS.lload X4.here hx rfl (hb hby at_59) rfl ?_
    show Steps p.tables e below (T4.setTop (mkF m 61 #[.val (.long q1), .second, .val (.long q2), .second, .val (.long (q1 &&& (9223372036854775807 : Int64))), .second, .val (.long (own_max (1 : Int64) (q2 &&& (9223372036854775807 : Int64)))), .second, .val (.long (own_div (q1 &&& (9223372036854775807 : Int64)) (own_max (1 : Int64) (q2 &&& (9223372036854775807 : Int64))))), .second, .val (.long ((q1 &&& (9223372036854775807 : Int64)) / (own_max (1 : Int64) (q2 &&& (9223372036854775807 : Int64))))), .second, .val (.long ((q1 &&& (9223372036854775807 : Int64)) - (((q1 &&& (9223372036854775807 : Int64)) / (own_max (1 : Int64) (q2 &&& (9223372036854775807 : Int64)))) * (own_max (1 : Int64) (q2 &&& (9223372036854775807 : Int64)))))), .second, .val (.long (((own_max (1 : Int64) (q2 &&& (9223372036854775807 : Int64))) / (2 : Int64)) + ((own_max (1 : Int64) (q2 &&& (9223372036854775807 : Int64))) &&& (1 : Int64)))), .second, .unset, .unset] [(.long (((own_max (1 : Int64) (q2 &&& (9223372036854775807 : Int64))) / (2 : Int64)) + ((own_max (1 : Int64) (q2 &&& (9223372036854775807 : Int64))) &&& (1 : Int64)))), (.long ((q1 &&& (9223372036854775807 : Int64)) - (((q1 &&& (9223372036854775807 : Int64)) / (own_max (1 : Int64) (q2 &&& (9223372036854775807 : Int64)))) * (own_max (1 : Int64) (q2 &&& (9223372036854775807 : Int64))))))])) _
    refine XS.lcmp X4.here hx rfl (hb hby at_61) rfl ?_
    show Steps p.tables e below (T4.setTop (mkF m 62 #[.val (.long q1), .second, .val (.long q2), .second, .val (.long (q1 &&& (9223372036854775807 : Int64))), .second, .val (.long (own_max (1 : Int64) (q2 &&& (9223372036854775807 : Int64)))), .second, .val (.long (own_div (q1 &&& (9223372036854775807 : Int64)) (own_max (1 : Int64) (q2 &&& (9223372036854775807 : Int64))))), .second, .val (.long ((q1 &&& (9223372036854775807 : Int64)) / (own_max (1 : Int64) (q2 &&& (9223372036854775807 : Int64))))), .second, .val (.long ((q1 &&& (9223372036854775807 : Int64)) - (((q1 &&& (9223372036854775807 : Int64)) / (own_max (1 : Int64) (q2 &&& (9223372036854775807 : Int64)))) * (own_max (1 : Int64) (q2 &&& (9223372036854775807 : Int64)))))), .second, .val (.long (((own_max (1 : Int64) (q2 &&& (9223372036854775807 : Int64))) / (2 : Int64)) + ((own_max (1 : Int64) (q2 &&& (9223372036854775807 : Int64))) &&& (1 : Int64)))), .second, .unset, .unset] [(.int (lcmpW ((q1 &&& (9223372036854775807 : Int64)) - (((q1 &&& (9223372036854775807 : Int64)) / (own_max (1 : Int64) (q2 &&& (9223372036854775807 : Int64)))) * (own_max (1 : Int64) (q2 &&& (9223372036854775807 : Int64))))) (((own_max (1 : Int64) (q2 &&& (9223372036854775807 : Int64))) / (2 : Int64)) + ((own_max (1 : Int64) (q2 &&& (9223372036854775807 : Int64))) &&& (1 : Int64)))))])) _
    refine XS.ifYes X4.here hx rfl (pc0 := 62) (pc' := 72) rfl (hb hby at_62) rfl ((if0 _ _).trans (tlt hx62).1) (by decide) (by decide) ?_
    show Steps p.tables e below (T4.setTop (mkF m 72 #[.val (.long q1), .second, .val (.long q2), .second, .val (.long (q1 &&& (9223372036854775807 : Int64))), .second, .val (.long (own_max (1 : Int64) (q2 &&& (9223372036854775807 : Int64)))), .second, .val (.long (own_div (q1 &&& (9223372036854775807 : Int64)) (own_max (1 : Int64) (q2 &&& (9223372036854775807 : Int64))))), .second, .val (.long ((q1 &&& (9223372036854775807 : Int64)) / (own_max (1 : Int64) (q2 &&& (9223372036854775807 : Int64))))), .second, .val (.long ((q1 &&& (9223372036854775807 : Int64)) - (((q1 &&& (9223372036854775807 : Int64)) / (own_max (1 : Int64) (q2 &&& (9223372036854775807 : Int64)))) * (own_max (1 : Int64) (q2 &&& (9223372036854775807 : Int64)))))), .second, .val (.long (((own_max (1 : Int64) (q2 &&& (9223372036854775807 : Int64))) / (2 : Int64)) + ((own_max (1 : Int64) (q2 &&& (9223372036854775807 : Int64))) &&& (1 : Int64)))), .second, .unset, .unset] [])) _
    refine XS.lload X4.here hx rfl (hb hby at_72) rfl ?_
    show Steps p.tables e below (T4.setTop (mkF m 74 #[.val (.long q1), .second, .val (.long q2), .second, .val (.long (q1 &&& (9223372036854775807 : Int64))), .second, .val (.long (own_max (1 : Int64) (q2 &&& (9223372036854775807 : Int64)))), .second, .val (.long (own_div (q1 &&& (9223372036854775807 : Int64)) (own_max (1 : Int64) (q2 &&& (9223372036854775807 : Int64))))), .second, .val (.long ((q1 &&& (9223372036854775807 : Int64)) / (own_max (1 : Int64) (q2 &&& (9223372036854775807 : Int64))))), .second, .val (.long ((q1 &&& (9223372036854775807 : Int64)) - (((q1 &&& (9223372036854775807 : Int64)) / (own_max (1 : Int64) (q2 &&& (9223372036854775807 : Int64)))) * (own_max (1 : Int64) (q2 &&& (9223372036854775807 : Int64)))))), .second, .val (.long (((own_max (1 : Int64) (q2 &&& (9223372036854775807 : Int64))) / (2 : Int64)) + ((own_max (1 : Int64) (q2 &&& (9223372036854775807 : Int64))) &&& (1 : Int64)))), .second, .unset, .unset] [(.long ((q1 &&& (9223372036854775807 : Int64)) / (own_max (1 : Int64) (q2 &&& (9223372036854775807 : Int64)))))])) _
    refine XS.lstore X4.here hx rfl (hb hby at_74) rfl (l' := #[.val (.long q1), .second, .val (.long q2), .second, .val (.long (q1 &&& (9223372036854775807 : Int64))), .second, .val (.long (own_max (1 : Int64) (q2 &&& (9223372036854775807 : Int64)))), .second, .val (.long (own_div (q1 &&& (9223372036854775807 : Int64)) (own_max (1 : Int64) (q2 &&& (9223372036854775807 : Int64))))), .second, .val (.long ((q1 &&& (9223372036854775807 : Int64)) / (own_max (1 : Int64) (q2 &&& (9223372036854775807 : Int64))))), .second, .val (.long ((q1 &&& (9223372036854775807 : Int64)) - (((q1 &&& (9223372036854775807 : Int64)) / (own_max (1 : Int64) (q2 &&& (9223372036854775807 : Int64)))) * (own_max (1 : Int64) (q2 &&& (9223372036854775807 : Int64)))))), .second, .val (.long (((own_max (1 : Int64) (q2 &&& (9223372036854775807 : Int64))) / (2 : Int64)) + ((own_max (1 : Int64) (q2 &&& (9223372036854775807 : Int64))) &&& (1 : Int64)))), .second, .val (.long ((q1 &&& (9223372036854775807 : Int64)) / (own_max (1 : Int64) (q2 &&& (9223372036854775807 : Int64))))), .second]) rfl ?_
    show Steps p.tables e below (T4.setTop (mkF m 76 #[.val (.long q1), .second, .val (.long q2), .second, .val (.long (q1 &&& (9223372036854775807 : Int64))), .second, .val (.long (own_max (1 : Int64) (q2 &&& (9223372036854775807 : Int64)))), .second, .val (.long (own_div (q1 &&& (9223372036854775807 : Int64)) (own_max (1 : Int64) (q2 &&& (9223372036854775807 : Int64))))), .second, .val (.long ((q1 &&& (9223372036854775807 : Int64)) / (own_max (1 : Int64) (q2 &&& (9223372036854775807 : Int64))))), .second, .val (.long ((q1 &&& (9223372036854775807 : Int64)) - (((q1 &&& (9223372036854775807 : Int64)) / (own_max (1 : Int64) (q2 &&& (9223372036854775807 : Int64)))) * (own_max (1 : Int64) (q2 &&& (9223372036854775807 : Int64)))))), .second, .val (.long (((own_max (1 : Int64) (q2 &&& (9223372036854775807 : Int64))) / (2 : Int64)) + ((own_max (1 : Int64) (q2 &&& (9223372036854775807 : Int64))) &&& (1 : Int64)))), .second, .val (.long ((q1 &&& (9223372036854775807 : Int64)) / (own_max (1 : Int64) (q2 &&& (9223372036854775807 : Int64))))), .second] [])) _
    refine XS.lload X4.here hx rfl (hb hby at_76) rfl ?_
    show Steps p.tables e below (T4.setTop (mkF m 78 #[.val (.long q1), .second, .val (.long q2), .second, .val (.long (q1 &&& (9223372036854775807 : Int64))), .second, .val (.long (own_max (1 : Int64) (q2 &&& (9223372036854775807 : Int64)))), .second, .val (.long (own_div (q1 &&& (9223372036854775807 : Int64)) (own_max (1 : Int64) (q2 &&& (9223372036854775807 : Int64))))), .second, .val (.long ((q1 &&& (9223372036854775807 : Int64)) / (own_max (1 : Int64) (q2 &&& (9223372036854775807 : Int64))))), .second, .val (.long ((q1 &&& (9223372036854775807 : Int64)) - (((q1 &&& (9223372036854775807 : Int64)) / (own_max (1 : Int64) (q2 &&& (9223372036854775807 : Int64)))) * (own_max (1 : Int64) (q2 &&& (9223372036854775807 : Int64)))))), .second, .val (.long (((own_max (1 : Int64) (q2 &&& (9223372036854775807 : Int64))) / (2 : Int64)) + ((own_max (1 : Int64) (q2 &&& (9223372036854775807 : Int64))) &&& (1 : Int64)))), .second, .val (.long ((q1 &&& (9223372036854775807 : Int64)) / (own_max (1 : Int64) (q2 &&& (9223372036854775807 : Int64))))), .second] [(.long (own_div (q1 &&& (9223372036854775807 : Int64)) (own_max (1 : Int64) (q2 &&& (9223372036854775807 : Int64)))))])) _
    refine XS.lload X4.here hx rfl (hb hby at_78) rfl ?_
    show Steps p.tables e below (T4.setTop (mkF m 80 #[.val (.long q1), .second, .val (.long q2), .second, .val (.long (q1 &&& (9223372036854775807 : Int64))), .second, .val (.long (own_max (1 : Int64) (q2 &&& (9223372036854775807 : Int64)))), .second, .val (.long (own_div (q1 &&& (9223372036854775807 : Int64)) (own_max (1 : Int64) (q2 &&& (9223372036854775807 : Int64))))), .second, .val (.long ((q1 &&& (9223372036854775807 : Int64)) / (own_max (1 : Int64) (q2 &&& (9223372036854775807 : Int64))))), .second, .val (.long ((q1 &&& (9223372036854775807 : Int64)) - (((q1 &&& (9223372036854775807 : Int64)) / (own_max (1 : Int64) (q2 &&& (9223372036854775807 : Int64)))) * (own_max (1 : Int64) (q2 &&& (9223372036854775807 : Int64)))))), .second, .val (.long (((own_max (1 : Int64) (q2 &&& (9223372036854775807 : Int64))) / (2 : Int64)) + ((own_max (1 : Int64) (q2 &&& (9223372036854775807 : Int64))) &&& (1 : Int64)))), .second, .val (.long ((q1 &&& (9223372036854775807 : Int64)) / (own_max (1 : Int64) (q2 &&& (9223372036854775807 : Int64))))), .second] [(.long ((q1 &&& (9223372036854775807 : Int64)) / (own_max (1 : Int64) (q2 &&& (9223372036854775807 : Int64))))), (.long (own_div (q1 &&& (9223372036854775807 : Int64)) (own_max (1 : Int64) (q2 &&& (9223372036854775807 : Int64)))))])) _
    refine XS.lcmp X4.here hx rfl (hb hby at_80) rfl ?_
    show Steps p.tables e below (T4.setTop (mkF m 81 #[.val (.long q1), .second, .val (.long q2), .second, .val (.long (q1 &&& (9223372036854775807 : Int64))), .second, .val (.long (own_max (1 : Int64) (q2 &&& (9223372036854775807 : Int64)))), .second, .val (.long (own_div (q1 &&& (9223372036854775807 : Int64)) (own_max (1 : Int64) (q2 &&& (9223372036854775807 : Int64))))), .second, .val (.long ((q1 &&& (9223372036854775807 : Int64)) / (own_max (1 : Int64) (q2 &&& (9223372036854775807 : Int64))))), .second, .val (.long ((q1 &&& (9223372036854775807 : Int64)) - (((q1 &&& (9223372036854775807 : Int64)) / (own_max (1 : Int64) (q2 &&& (9223372036854775807 : Int64)))) * (own_max (1 : Int64) (q2 &&& (9223372036854775807 : Int64)))))), .second, .val (.long (((own_max (1 : Int64) (q2 &&& (9223372036854775807 : Int64))) / (2 : Int64)) + ((own_max (1 : Int64) (q2 &&& (9223372036854775807 : Int64))) &&& (1 : Int64)))), .second, .val (.long ((q1 &&& (9223372036854775807 : Int64)) / (own_max (1 : Int64) (q2 &&& (9223372036854775807 : Int64))))), .second] [(.int (lcmpW (own_div (q1 &&& (9223372036854775807 : Int64)) (own_max (1 : Int64) (q2 &&& (9223372036854775807 : Int64)))) ((q1 &&& (9223372036854775807 : Int64)) / (own_max (1 : Int64) (q2 &&& (9223372036854775807 : Int64))))))])) _
    refine XS.ifNo X4.here hx rfl (hb hby at_81) rfl ((if0 _ _).trans (teq hx81).2) ?_
    show Steps p.tables e below (T4.setTop (mkF m 84 #[.val (.long q1), .second, .val (.long q2), .second, .val (.long (q1 &&& (9223372036854775807 : Int64))), .second, .val (.long (own_max (1 : Int64) (q2 &&& (9223372036854775807 : Int64)))), .second, .val (.long (own_div (q1 &&& (9223372036854775807 : Int64)) (own_max (1 : Int64) (q2 &&& (9223372036854775807 : Int64))))), .second, .val (.long ((q1 &&& (9223372036854775807 : Int64)) / (own_max (1 : Int64) (q2 &&& (9223372036854775807 : Int64))))), .second, .val (.long ((q1 &&& (9223372036854775807 : Int64)) - (((q1 &&& (9223372036854775807 : Int64)) / (own_max (1 : Int64) (q2 &&& (9223372036854775807 : Int64)))) * (own_max (1 : Int64) (q2 &&& (9223372036854775807 : Int64)))))), .second, .val (.long (((own_max (1 : Int64) (q2 &&& (9223372036854775807 : Int64))) / (2 : Int64)) + ((own_max (1 : Int64) (q2 &&& (9223372036854775807 : Int64))) &&& (1 : Int64)))), .second, .val (.long ((q1 &&& (9223372036854775807 : Int64)) / (own_max (1 : Int64) (q2 &&& (9223372036854775807 : Int64))))), .second] [])) _
    refine XS.iconst X4.here hx rfl (hb hby at_84) ?_
    show Steps p.tables e below (T4.setTop (mkF m 85 #[.val (.long q1), .second, .val (.long q2), .second, .val (.long (q1 &&& (9223372036854775807 : Int64))), .second, .val (.long (own_max (1 : Int64) (q2 &&& (9223372036854775807 : Int64)))), .second, .val (.long (own_div (q1 &&& (9223372036854775807 : Int64)) (own_max (1 : Int64) (q2 &&& (9223372036854775807 : Int64))))), .second, .val (.long ((q1 &&& (9223372036854775807 : Int64)) / (own_max (1 : Int64) (q2 &&& (9223372036854775807 : Int64))))), .second, .val (.long ((q1 &&& (9223372036854775807 : Int64)) - (((q1 &&& (9223372036854775807 : Int64)) / (own_max (1 : Int64) (q2 &&& (9223372036854775807 : Int64)))) * (own_max (1 : Int64) (q2 &&& (9223372036854775807 : Int64)))))), .second, .val (.long (((own_max (1 : Int64) (q2 &&& (9223372036854775807 : Int64))) / (2 : Int64)) + ((own_max (1 : Int64) (q2 &&& (9223372036854775807 : Int64))) &&& (1 : Int64)))), .second, .val (.long ((q1 &&& (9223372036854775807 : Int64)) / (own_max (1 : Int64) (q2 &&& (9223372036854775807 : Int64))))), .second] [(.int (1 : Int32))])) _
    refine XS.goto X4.here hx rfl (pc0 := 85) (pc' := 89) rfl (hb hby at_85) (by decide) (by decide) ?_
    show Steps p.tables e below (T4.setTop (mkF m 89 #[.val (.long q1), .second, .val (.long q2), .second, .val (.long (q1 &&& (9223372036854775807 : Int64))), .second, .val (.long (own_max (1 : Int64) (q2 &&& (9223372036854775807 : Int64)))), .second, .val (.long (own_div (q1 &&& (9223372036854775807 : Int64)) (own_max (1 : Int64) (q2 &&& (9223372036854775807 : Int64))))), .second, .val (.long ((q1 &&& (9223372036854775807 : Int64)) / (own_max (1 : Int64) (q2 &&& (9223372036854775807 : Int64))))), .second, .val (.long ((q1 &&& (9223372036854775807 : Int64)) - (((q1 &&& (9223372036854775807 : Int64)) / (own_max (1 : Int64) (q2 &&& (9223372036854775807 : Int64)))) * (own_max (1 : Int64) (q2 &&& (9223372036854775807 : Int64)))))), .second, .val (.long (((own_max (1 : Int64) (q2 &&& (9223372036854775807 : Int64))) / (2 : Int64)) + ((own_max (1 : Int64) (q2 &&& (9223372036854775807 : Int64))) &&& (1 : Int64)))), .second, .val (.long ((q1 &&& (9223372036854775807 : Int64)) / (own_max (1 : Int64) (q2 &&& (9223372036854775807 : Int64))))), .second] [(.int (1 : Int32))])) _
    exact retN X4 hx (t := .boolean) Bd.returns (by simp) (hb hby at_89) hr
  · show Q0 Z q1 q2 h0 n0 _ T4.heap _
    exact ⟨rfl, N4⟩
set_option maxRecDepth 65536 in
set_option maxHeartbeats 40000000 in
theorem rm0_ff (l : Launch) (Z : State) (a0 : Array Value) (hw : ∀ d ∈ tables_1, d.before a0 Z = true) (ws : List Jvm.Cond) (q1 : Int64) (q2 : Int64) (h0 : Heap) (n0 : Nat) (Z0 : n0 ≤ h0.size) (hnz31 : ¬ ((own_max (1 : Int64) (q2 &&& (9223372036854775807 : Int64))) = (0 : Int64))) (hnz49 : ¬ ((2 : Int64) = (0 : Int64))) (hx62 : ¬ ((lcmpW ((q1 &&& (9223372036854775807 : Int64)) - (((q1 &&& (9223372036854775807 : Int64)) / (own_max (1 : Int64) (q2 &&& (9223372036854775807 : Int64)))) * (own_max (1 : Int64) (q2 &&& (9223372036854775807 : Int64))))) (((own_max (1 : Int64) (q2 &&& (9223372036854775807 : Int64))) / (2 : Int64)) + ((own_max (1 : Int64) (q2 &&& (9223372036854775807 : Int64))) &&& (1 : Int64)))) < (0 : Int32))) (hx81 : (lcmpW (own_div (q1 &&& (9223372036854775807 : Int64)) (own_max (1 : Int64) (q2 &&& (9223372036854775807 : Int64)))) (((q1 &&& (9223372036854775807 : Int64)) / (own_max (1 : Int64) (q2 &&& (9223372036854775807 : Int64)))) + (1 : Int64))) = (0 : Int32)) :
    MetFree l x (head1 (Jvm.Cond.code x code maxLocals ret :: ws) room_1) (fun a U => a = #[(.long q1), (.long q2)] ∧ Z.Warmed39 U.vm ∧ U.heap = h0) (fun _ _ _ _ _ => True) (fun _ U o U' => ∃ v L, o = .returned v ∧ Q0 Z q1 q2 h0 n0 v U'.heap L ∧ FrameEnd U o U' L room_1.cells room_1.slots) := by
  refine MetFree.of_bodySF (plainFor_of_name pn_0) hisR ?_
  intro p e s m args below meth c s₁ Bd hml0 hP hK
  obtain ⟨rfl, hZ, hh⟩ := hP
  have hx := Bd.exec
  have hby := Bd.bytes
  have hml : c.maxLocals = 18 := hml0
  have hown : s.vm.findClass "com/example/slackwater/slackwater/DecimalsDivideRoundedPinLaw" = some m.cls := findClass_of_methodNamed Bd.named
  have hnm := (name_of_methodNamed Bd.named Bd.method).1
  have X0 : Stand p l e room_1 s m #[(.long q1), (.long q2)] below meth c s₁ [] 0 0 := Stand.of_body Bd
  have e0 : s₁.heap = h0 := by rw [← hh, Bd.state]; rfl
  have N0 := Fr.nil n0
  have pre0 : ∀ t, Steps p.tables e below (s₁.setTop (mkF m 0 #[.val (.long q1), .second, .val (.long q2), .second, .unset, .unset, .unset, .unset, .unset, .unset, .unset, .unset, .unset, .unset, .unset, .unset, .unset, .unset] [])) t → Steps p.tables e below (s₁.setTop (entryFrame m #[(.long q1), (.long q2)] maxLocals)) t := fun t k => castTop (ef_0 m q1 q2) k
  obtain ⟨_, _, ⟨T3, L3, k3, n3⟩, -, X3, ⟨Lc3, hQ3, l3, y3, z3⟩, st3⟩ := Jvm.LawKit.callS X0 hx (y := (⟨"java/lang/Math", "max", "(JJ)J"⟩ : MethodName)) hown (mvT hZ (hw _ (List.mem_of_getElem? (i := 1) rfl))) (mvT hZ (hw _ (List.mem_of_getElem? (i := 2) rfl))) (mvT hZ (hw _ (List.mem_of_getElem? (i := 3) rfl))) (mvT hZ (hw _ (List.mem_of_getElem? (i := 4) rfl))) (by decide) (backOf (W := 0) (rm1 l Z a0 hw [] (1 : Int64) (q2 &&& (9223372036854775807 : Int64)) h0 n0 Z0) hZ (hw _ (List.mem_of_getElem? (i := 4) rfl)) (hw _ (List.mem_of_getElem? (i := 3) rfl)) (by decide) (by decide)) (g := (mkF m 13 #[.val (.long q1), .second, .val (.long q2), .second, .val (.long (q1 &&& (9223372036854775807 : Int64))), .second, .unset, .unset, .unset, .unset, .unset, .unset, .unset, .unset, .unset, .unset, .unset, .unset] [(.long (q2 &&& (9223372036854775807 : Int64))), (.long (1 : Int64))])) rfl (by rw [hml]; rfl) (argsL := [(.long (1 : Int64)), (.long (q2 &&& (9223372036854775807 : Int64)))]) (rest := []) (lenOf pd_0_0 rfl) rfl (by show 2 * 0 + _ ≤ _; exact Nat.le_of_eq rfl) (hb hby at_13) (fun _ _ => ⟨rfl, e0, (by decide : 0 + 0 ≤ _), (by decide : 0 + 0 ≤ _)⟩)
  dsimp only [Pt.U, Pt.locs, Pt.cells, Pt.slots] at X3 l3 y3 z3 st3 hQ3
  subst l3 y3 z3
  obtain ⟨rfl, N3q, e3q⟩ := hQ3
  have Z3 : n0 ≤ T3.heap.size := by rw [e3q]; exact Z0
  have N3 := Fr.app N0 N3q
  obtain ⟨_, _, ⟨T4, L4, k4, n4⟩, -, X4, ⟨Lc4, hQ4, l4, y4, z4⟩, st4⟩ := Jvm.LawKit.callS X3 hx (y := (⟨"com/example/slackwater/slackwater/Decimals", "divideRounded", "(JJ)J"⟩ : MethodName)) hown (mvT hZ (hw _ (List.mem_of_getElem? (i := 5) rfl))) (mvT hZ (hw _ (List.mem_of_getElem? (i := 6) rfl))) (mvT hZ (hw _ (List.mem_of_getElem? (i := 7) rfl))) (mvT hZ (hw _ (List.mem_of_getElem? (i := 8) rfl))) (by decide) (backOf (W := 0) (rm2 l Z a0 hw [] (q1 &&& (9223372036854775807 : Int64)) (own_max (1 : Int64) (q2 &&& (9223372036854775807 : Int64))) T3.heap n0 Z3 hnz31) hZ (hw _ (List.mem_of_getElem? (i := 8) rfl)) (hw _ (List.mem_of_getElem? (i := 7) rfl)) (by decide) (by decide)) (g := (mkF m 22 #[.val (.long q1), .second, .val (.long q2), .second, .val (.long (q1 &&& (9223372036854775807 : Int64))), .second, .val (.long (own_max (1 : Int64) (q2 &&& (9223372036854775807 : Int64)))), .second, .unset, .unset, .unset, .unset, .unset, .unset, .unset, .unset, .unset, .unset] [(.long (own_max (1 : Int64) (q2 &&& (9223372036854775807 : Int64)))), (.long (q1 &&& (9223372036854775807 : Int64)))])) rfl (by rw [hml]; rfl) (argsL := [(.long (q1 &&& (9223372036854775807 : Int64))), (.long (own_max (1 : Int64) (q2 &&& (9223372036854775807 : Int64))))]) (rest := []) (lenOf pd_0_0 rfl) rfl (by show 2 * 0 + _ ≤ _; exact Nat.le_of_eq rfl) (hb hby at_22) (fun _ _ => ⟨rfl, rfl, (by decide : 0 + 0 ≤ _), (by decide : 0 + 0 ≤ _)⟩)
  dsimp only [Pt.U, Pt.locs, Pt.cells, Pt.slots] at X4 l4 y4 z4 st4 hQ4
  subst l4 y4 z4
  obtain ⟨rfl, N4q, e4q⟩ := hQ4
  have N4 := Fr.app N3 N4q
  obtain ⟨fs, hr, hrun, hended, hW, hsame⟩ := X4.leave (v := some (.int (1 : Int32))) (fun h => by rw [Bd.returns] at h; cases h)
  refine ⟨_, _, pre0 _ ?_, hrun, hended, _, _, rfl, ?_, ⟨_, rfl⟩, hW, hsame.mono (by decide) (by decide)⟩
  · show Steps p.tables e below (s₁.setTop (mkF m 0 #[.val (.long q1), .second, .val (.long q2), .second, .unset, .unset, .unset, .unset, .unset, .unset, .unset, .unset, .unset, .unset, .unset, .unset, .unset, .unset] [])) _
    refine XS.lloadN X0.here hx rfl (hb hby at_0) rfl ?_
    show Steps p.tables e below (s₁.setTop (mkF m 1 #[.val (.long q1), .second, .val (.long q2), .second, .unset, .unset, .unset, .unset, .unset, .unset, .unset, .unset, .unset, .unset, .unset, .unset, .unset, .unset] [(.long q1)])) _
    refine X0.ldc2Long hx hown (mvT hZ (hw _ (List.mem_of_getElem? (i := 0) rfl))) (g := (mkF m 1 #[.val (.long q1), .second, .val (.long q2), .second, .unset, .unset, .unset, .unset, .unset, .unset, .unset, .unset, .unset, .unset, .unset, .unset, .unset, .unset] [(.long q1)])) rfl (hb hby at_1) _ ?_
    show Steps p.tables e below (s₁.setTop (mkF m 4 #[.val (.long q1), .second, .val (.long q2), .second, .unset, .unset, .unset, .unset, .unset, .unset, .unset, .unset, .unset, .unset, .unset, .unset, .unset, .unset] [(.long (9223372036854775807 : Int64)), (.long q1)])) _
    refine XS.land X0.here hx rfl (hb hby at_4) rfl ?_
    show Steps p.tables e below (s₁.setTop (mkF m 5 #[.val (.long q1), .second, .val (.long q2), .second, .unset, .unset, .unset, .unset, .unset, .unset, .unset, .unset, .unset, .unset, .unset, .unset, .unset, .unset] [(.long (q1 &&& (9223372036854775807 : Int64)))])) _
    refine XS.lstore X0.here hx rfl (hb hby at_5) rfl (l' := #[.val (.long q1), .second, .val (.long q2), .second, .val (.long (q1 &&& (9223372036854775807 : Int64))), .second, .unset, .unset, .unset, .unset, .unset, .unset, .unset, .unset, .unset, .unset, .unset, .unset]) rfl ?_
    show Steps p.tables e below (s₁.setTop (mkF m 7 #[.val (.long q1), .second, .val (.long q2), .second, .val (.long (q1 &&& (9223372036854775807 : Int64))), .second, .unset, .unset, .unset, .unset, .unset, .unset, .unset, .unset, .unset, .unset, .unset, .unset] [])) _
    refine XS.lconst X0.here hx rfl (hb hby at_7) ?_
    show Steps p.tables e below (s₁.setTop (mkF m 8 #[.val (.long q1), .second, .val (.long q2), .second, .val (.long (q1 &&& (9223372036854775807 : Int64))), .second, .unset, .unset, .unset, .unset, .unset, .unset, .unset, .unset, .unset, .unset, .unset, .unset] [(.long (1 : Int64))])) _
    refine XS.lloadN X0.here hx rfl (hb hby at_8) rfl ?_
    show Steps p.tables e below (s₁.setTop (mkF m 9 #[.val (.long q1), .second, .val (.long q2), .second, .val (.long (q1 &&& (9223372036854775807 : Int64))), .second, .unset, .unset, .unset, .unset, .unset, .unset, .unset, .unset, .unset, .unset, .unset, .unset] [(.long q2), (.long (1 : Int64))])) _
    refine X0.ldc2Long hx hown (mvT hZ (hw _ (List.mem_of_getElem? (i := 0) rfl))) (g := (mkF m 9 #[.val (.long q1), .second, .val (.long q2), .second, .val (.long (q1 &&& (9223372036854775807 : Int64))), .second, .unset, .unset, .unset, .unset, .unset, .unset, .unset, .unset, .unset, .unset, .unset, .unset] [(.long q2), (.long (1 : Int64))])) rfl (hb hby at_9) _ ?_
    show Steps p.tables e below (s₁.setTop (mkF m 12 #[.val (.long q1), .second, .val (.long q2), .second, .val (.long (q1 &&& (9223372036854775807 : Int64))), .second, .unset, .unset, .unset, .unset, .unset, .unset, .unset, .unset, .unset, .unset, .unset, .unset] [(.long (9223372036854775807 : Int64)), (.long q2), (.long (1 : Int64))])) _
    refine XS.land X0.here hx rfl (hb hby at_12) rfl ?_
    show Steps p.tables e below (s₁.setTop (mkF m 13 #[.val (.long q1), .second, .val (.long q2), .second, .val (.long (q1 &&& (9223372036854775807 : Int64))), .second, .unset, .unset, .unset, .unset, .unset, .unset, .unset, .unset, .unset, .unset, .unset, .unset] [(.long (q2 &&& (9223372036854775807 : Int64))), (.long (1 : Int64))])) _
    refine st3 _ ?_
    show Steps p.tables e below (T3.setTop (mkF m 16 #[.val (.long q1), .second, .val (.long q2), .second, .val (.long (q1 &&& (9223372036854775807 : Int64))), .second, .unset, .unset, .unset, .unset, .unset, .unset, .unset, .unset, .unset, .unset, .unset, .unset] [(.long (own_max (1 : Int64) (q2 &&& (9223372036854775807 : Int64))))])) _
    refine XS.lstore X3.here hx rfl (hb hby at_16) rfl (l' := #[.val (.long q1), .second, .val (.long q2), .second, .val (.long (q1 &&& (9223372036854775807 : Int64))), .second, .val (.long (own_max (1 : Int64) (q2 &&& (9223372036854775807 : Int64)))), .second, .unset, .unset, .unset, .unset, .unset, .unset, .unset, .unset, .unset, .unset]) rfl ?_
    show Steps p.tables e below (T3.setTop (mkF m 18 #[.val (.long q1), .second, .val (.long q2), .second, .val (.long (q1 &&& (9223372036854775807 : Int64))), .second, .val (.long (own_max (1 : Int64) (q2 &&& (9223372036854775807 : Int64)))), .second, .unset, .unset, .unset, .unset, .unset, .unset, .unset, .unset, .unset, .unset] [])) _
    refine XS.lload X3.here hx rfl (hb hby at_18) rfl ?_
    show Steps p.tables e below (T3.setTop (mkF m 20 #[.val (.long q1), .second, .val (.long q2), .second, .val (.long (q1 &&& (9223372036854775807 : Int64))), .second, .val (.long (own_max (1 : Int64) (q2 &&& (9223372036854775807 : Int64)))), .second, .unset, .unset, .unset, .unset, .unset, .unset, .unset, .unset, .unset, .unset] [(.long (q1 &&& (9223372036854775807 : Int64)))])) _
    refine XS.lload X3.here hx rfl (hb hby at_20) rfl ?_
    show Steps p.tables e below (T3.setTop (mkF m 22 #[.val (.long q1), .second, .val (.long q2), .second, .val (.long (q1 &&& (9223372036854775807 : Int64))), .second, .val (.long (own_max (1 : Int64) (q2 &&& (9223372036854775807 : Int64)))), .second, .unset, .unset, .unset, .unset, .unset, .unset, .unset, .unset, .unset, .unset] [(.long (own_max (1 : Int64) (q2 &&& (9223372036854775807 : Int64)))), (.long (q1 &&& (9223372036854775807 : Int64)))])) _
    refine st4 _ ?_
    show Steps p.tables e below (T4.setTop (mkF m 25 #[.val (.long q1), .second, .val (.long q2), .second, .val (.long (q1 &&& (9223372036854775807 : Int64))), .second, .val (.long (own_max (1 : Int64) (q2 &&& (9223372036854775807 : Int64)))), .second, .unset, .unset, .unset, .unset, .unset, .unset, .unset, .unset, .unset, .unset] [(.long (own_div (q1 &&& (9223372036854775807 : Int64)) (own_max (1 : Int64) (q2 &&& (9223372036854775807 : Int64)))))])) _
    refine XS.lstore X4.here hx rfl (hb hby at_25) rfl (l' := #[.val (.long q1), .second, .val (.long q2), .second, .val (.long (q1 &&& (9223372036854775807 : Int64))), .second, .val (.long (own_max (1 : Int64) (q2 &&& (9223372036854775807 : Int64)))), .second, .val (.long (own_div (q1 &&& (9223372036854775807 : Int64)) (own_max (1 : Int64) (q2 &&& (9223372036854775807 : Int64))))), .second, .unset, .unset, .unset, .unset, .unset, .unset, .unset, .unset]) rfl ?_
    show Steps p.tables e below (T4.setTop (mkF m 27 #[.val (.long q1), .second, .val (.long q2), .second, .val (.long (q1 &&& (9223372036854775807 : Int64))), .second, .val (.long (own_max (1 : Int64) (q2 &&& (9223372036854775807 : Int64)))), .second, .val (.long (own_div (q1 &&& (9223372036854775807 : Int64)) (own_max (1 : Int64) (q2 &&& (9223372036854775807 : Int64))))), .second, .unset, .unset, .unset, .unset, .unset, .unset, .unset, .unset] [])) _
    refine XS.lload X4.here hx rfl (hb hby at_27) rfl ?_
    show Steps p.tables e below (T4.setTop (mkF m 29 #[.val (.long q1), .second, .val (.long q2), .second, .val (.long (q1 &&& (9223372036854775807 : Int64))), .second, .val (.long (own_max (1 : Int64) (q2 &&& (9223372036854775807 : Int64)))), .second, .val (.long (own_div (q1 &&& (9223372036854775807 : Int64)) (own_max (1 : Int64) (q2 &&& (9223372036854775807 : Int64))))), .second, .unset, .unset, .unset, .unset, .unset, .unset, .unset, .unset] [(.long (q1 &&& (9223372036854775807 : Int64)))])) _
    refine XS.lload X4.here hx rfl (hb hby at_29) rfl ?_
    show Steps p.tables e below (T4.setTop (mkF m 31 #[.val (.long q1), .second, .val (.long q2), .second, .val (.long (q1 &&& (9223372036854775807 : Int64))), .second, .val (.long (own_max (1 : Int64) (q2 &&& (9223372036854775807 : Int64)))), .second, .val (.long (own_div (q1 &&& (9223372036854775807 : Int64)) (own_max (1 : Int64) (q2 &&& (9223372036854775807 : Int64))))), .second, .unset, .unset, .unset, .unset, .unset, .unset, .unset, .unset] [(.long (own_max (1 : Int64) (q2 &&& (9223372036854775807 : Int64)))), (.long (q1 &&& (9223372036854775807 : Int64)))])) _
    refine XS.ldiv X4.here hx rfl (hb hby at_31) rfl hnz31 ?_
    show Steps p.tables e below (T4.setTop (mkF m 32 #[.val (.long q1), .second, .val (.long q2), .second, .val (.long (q1 &&& (9223372036854775807 : Int64))), .second, .val (.long (own_max (1 : Int64) (q2 &&& (9223372036854775807 : Int64)))), .second, .val (.long (own_div (q1 &&& (9223372036854775807 : Int64)) (own_max (1 : Int64) (q2 &&& (9223372036854775807 : Int64))))), .second, .unset, .unset, .unset, .unset, .unset, .unset, .unset, .unset] [(.long ((q1 &&& (9223372036854775807 : Int64)) / (own_max (1 : Int64) (q2 &&& (9223372036854775807 : Int64)))))])) _
    refine XS.lstore X4.here hx rfl (hb hby at_32) rfl (l' := #[.val (.long q1), .second, .val (.long q2), .second, .val (.long (q1 &&& (9223372036854775807 : Int64))), .second, .val (.long (own_max (1 : Int64) (q2 &&& (9223372036854775807 : Int64)))), .second, .val (.long (own_div (q1 &&& (9223372036854775807 : Int64)) (own_max (1 : Int64) (q2 &&& (9223372036854775807 : Int64))))), .second, .val (.long ((q1 &&& (9223372036854775807 : Int64)) / (own_max (1 : Int64) (q2 &&& (9223372036854775807 : Int64))))), .second, .unset, .unset, .unset, .unset, .unset, .unset]) rfl ?_
    show Steps p.tables e below (T4.setTop (mkF m 34 #[.val (.long q1), .second, .val (.long q2), .second, .val (.long (q1 &&& (9223372036854775807 : Int64))), .second, .val (.long (own_max (1 : Int64) (q2 &&& (9223372036854775807 : Int64)))), .second, .val (.long (own_div (q1 &&& (9223372036854775807 : Int64)) (own_max (1 : Int64) (q2 &&& (9223372036854775807 : Int64))))), .second, .val (.long ((q1 &&& (9223372036854775807 : Int64)) / (own_max (1 : Int64) (q2 &&& (9223372036854775807 : Int64))))), .second, .unset, .unset, .unset, .unset, .unset, .unset] [])) _
    refine XS.lload X4.here hx rfl (hb hby at_34) rfl ?_
    show Steps p.tables e below (T4.setTop (mkF m 36 #[.val (.long q1), .second, .val (.long q2), .second, .val (.long (q1 &&& (9223372036854775807 : Int64))), .second, .val (.long (own_max (1 : Int64) (q2 &&& (9223372036854775807 : Int64)))), .second, .val (.long (own_div (q1 &&& (9223372036854775807 : Int64)) (own_max (1 : Int64) (q2 &&& (9223372036854775807 : Int64))))), .second, .val (.long ((q1 &&& (9223372036854775807 : Int64)) / (own_max (1 : Int64) (q2 &&& (9223372036854775807 : Int64))))), .second, .unset, .unset, .unset, .unset, .unset, .unset] [(.long (q1 &&& (9223372036854775807 : Int64)))])) _
    refine XS.lload X4.here hx rfl (hb hby at_36) rfl ?_
    show Steps p.tables e below (T4.setTop (mkF m 38 #[.val (.long q1), .second, .val (.long q2), .second, .val (.long (q1 &&& (9223372036854775807 : Int64))), .second, .val (.long (own_max (1 : Int64) (q2 &&& (9223372036854775807 : Int64)))), .second, .val (.long (own_div (q1 &&& (9223372036854775807 : Int64)) (own_max (1 : Int64) (q2 &&& (9223372036854775807 : Int64))))), .second, .val (.long ((q1 &&& (9223372036854775807 : Int64)) / (own_max (1 : Int64) (q2 &&& (9223372036854775807 : Int64))))), .second, .unset, .unset, .unset, .unset, .unset, .unset] [(.long ((q1 &&& (9223372036854775807 : Int64)) / (own_max (1 : Int64) (q2 &&& (9223372036854775807 : Int64))))), (.long (q1 &&& (9223372036854775807 : Int64)))])) _
    refine XS.lload X4.here hx rfl (hb hby at_38) rfl ?_
    show Steps p.tables e below (T4.setTop (mkF m 40 #[.val (.long q1), .second, .val (.long q2), .second, .val (.long (q1 &&& (9223372036854775807 : Int64))), .second, .val (.long (own_max (1 : Int64) (q2 &&& (9223372036854775807 : Int64)))), .second, .val (.long (own_div (q1 &&& (9223372036854775807 : Int64)) (own_max (1 : Int64) (q2 &&& (9223372036854775807 : Int64))))), .second, .val (.long ((q1 &&& (9223372036854775807 : Int64)) / (own_max (1 : Int64) (q2 &&& (9223372036854775807 : Int64))))), .second, .unset, .unset, .unset, .unset, .unset, .unset] [(.long (own_max (1 : Int64) (q2 &&& (9223372036854775807 : Int64)))), (.long ((q1 &&& (9223372036854775807 : Int64)) / (own_max (1 : Int64) (q2 &&& (9223372036854775807 : Int64))))), (.long (q1 &&& (9223372036854775807 : Int64)))])) _
    refine XS.lmul X4.here hx rfl (hb hby at_40) rfl ?_
    show Steps p.tables e below (T4.setTop (mkF m 41 #[.val (.long q1), .second, .val (.long q2), .second, .val (.long (q1 &&& (9223372036854775807 : Int64))), .second, .val (.long (own_max (1 : Int64) (q2 &&& (9223372036854775807 : Int64)))), .second, .val (.long (own_div (q1 &&& (9223372036854775807 : Int64)) (own_max (1 : Int64) (q2 &&& (9223372036854775807 : Int64))))), .second, .val (.long ((q1 &&& (9223372036854775807 : Int64)) / (own_max (1 : Int64) (q2 &&& (9223372036854775807 : Int64))))), .second, .unset, .unset, .unset, .unset, .unset, .unset] [(.long (((q1 &&& (9223372036854775807 : Int64)) / (own_max (1 : Int64) (q2 &&& (9223372036854775807 : Int64)))) * (own_max (1 : Int64) (q2 &&& (9223372036854775807 : Int64))))), (.long (q1 &&& (9223372036854775807 : Int64)))])) _
    refine XS.lsub X4.here hx rfl (hb hby at_41) rfl ?_
    show Steps p.tables e below (T4.setTop (mkF m 42 #[.val (.long q1), .second, .val (.long q2), .second, .val (.long (q1 &&& (9223372036854775807 : Int64))), .second, .val (.long (own_max (1 : Int64) (q2 &&& (9223372036854775807 : Int64)))), .second, .val (.long (own_div (q1 &&& (9223372036854775807 : Int64)) (own_max (1 : Int64) (q2 &&& (9223372036854775807 : Int64))))), .second, .val (.long ((q1 &&& (9223372036854775807 : Int64)) / (own_max (1 : Int64) (q2 &&& (9223372036854775807 : Int64))))), .second, .unset, .unset, .unset, .unset, .unset, .unset] [(.long ((q1 &&& (9223372036854775807 : Int64)) - (((q1 &&& (9223372036854775807 : Int64)) / (own_max (1 : Int64) (q2 &&& (9223372036854775807 : Int64)))) * (own_max (1 : Int64) (q2 &&& (9223372036854775807 : Int64))))))])) _
    refine XS.lstore X4.here hx rfl (hb hby at_42) rfl (l' := #[.val (.long q1), .second, .val (.long q2), .second, .val (.long (q1 &&& (9223372036854775807 : Int64))), .second, .val (.long (own_max (1 : Int64) (q2 &&& (9223372036854775807 : Int64)))), .second, .val (.long (own_div (q1 &&& (9223372036854775807 : Int64)) (own_max (1 : Int64) (q2 &&& (9223372036854775807 : Int64))))), .second, .val (.long ((q1 &&& (9223372036854775807 : Int64)) / (own_max (1 : Int64) (q2 &&& (9223372036854775807 : Int64))))), .second, .val (.long ((q1 &&& (9223372036854775807 : Int64)) - (((q1 &&& (9223372036854775807 : Int64)) / (own_max (1 : Int64) (q2 &&& (9223372036854775807 : Int64)))) * (own_max (1 : Int64) (q2 &&& (9223372036854775807 : Int64)))))), .second, .unset, .unset, .unset, .unset]) rfl ?_
    show Steps p.tables e below (T4.setTop (mkF m 44 #[.val (.long q1), .second, .val (.long q2), .second, .val (.long (q1 &&& (9223372036854775807 : Int64))), .second, .val (.long (own_max (1 : Int64) (q2 &&& (9223372036854775807 : Int64)))), .second, .val (.long (own_div (q1 &&& (9223372036854775807 : Int64)) (own_max (1 : Int64) (q2 &&& (9223372036854775807 : Int64))))), .second, .val (.long ((q1 &&& (9223372036854775807 : Int64)) / (own_max (1 : Int64) (q2 &&& (9223372036854775807 : Int64))))), .second, .val (.long ((q1 &&& (9223372036854775807 : Int64)) - (((q1 &&& (9223372036854775807 : Int64)) / (own_max (1 : Int64) (q2 &&& (9223372036854775807 : Int64)))) * (own_max (1 : Int64) (q2 &&& (9223372036854775807 : Int64)))))), .second, .unset, .unset, .unset, .unset] [])) _
    refine XS.lload X4.here hx rfl (hb hby at_44) rfl ?_
    show Steps p.tables e below (T4.setTop (mkF m 46 #[.val (.long q1), .second, .val (.long q2), .second, .val (.long (q1 &&& (9223372036854775807 : Int64))), .second, .val (.long (own_max (1 : Int64) (q2 &&& (9223372036854775807 : Int64)))), .second, .val (.long (own_div (q1 &&& (9223372036854775807 : Int64)) (own_max (1 : Int64) (q2 &&& (9223372036854775807 : Int64))))), .second, .val (.long ((q1 &&& (9223372036854775807 : Int64)) / (own_max (1 : Int64) (q2 &&& (9223372036854775807 : Int64))))), .second, .val (.long ((q1 &&& (9223372036854775807 : Int64)) - (((q1 &&& (9223372036854775807 : Int64)) / (own_max (1 : Int64) (q2 &&& (9223372036854775807 : Int64)))) * (own_max (1 : Int64) (q2 &&& (9223372036854775807 : Int64)))))), .second, .unset, .unset, .unset, .unset] [(.long (own_max (1 : Int64) (q2 &&& (9223372036854775807 : Int64))))])) _
    refine X4.ldc2Long hx hown (mvT hZ (hw _ (List.mem_of_getElem? (i := 9) rfl))) (g := (mkF m 46 #[.val (.long q1), .second, .val (.long q2), .second, .val (.long (q1 &&& (9223372036854775807 : Int64))), .second, .val (.long (own_max (1 : Int64) (q2 &&& (9223372036854775807 : Int64)))), .second, .val (.long (own_div (q1 &&& (9223372036854775807 : Int64)) (own_max (1 : Int64) (q2 &&& (9223372036854775807 : Int64))))), .second, .val (.long ((q1 &&& (9223372036854775807 : Int64)) / (own_max (1 : Int64) (q2 &&& (9223372036854775807 : Int64))))), .second, .val (.long ((q1 &&& (9223372036854775807 : Int64)) - (((q1 &&& (9223372036854775807 : Int64)) / (own_max (1 : Int64) (q2 &&& (9223372036854775807 : Int64)))) * (own_max (1 : Int64) (q2 &&& (9223372036854775807 : Int64)))))), .second, .unset, .unset, .unset, .unset] [(.long (own_max (1 : Int64) (q2 &&& (9223372036854775807 : Int64))))])) rfl (hb hby at_46) _ ?_
    show Steps p.tables e below (T4.setTop (mkF m 49 #[.val (.long q1), .second, .val (.long q2), .second, .val (.long (q1 &&& (9223372036854775807 : Int64))), .second, .val (.long (own_max (1 : Int64) (q2 &&& (9223372036854775807 : Int64)))), .second, .val (.long (own_div (q1 &&& (9223372036854775807 : Int64)) (own_max (1 : Int64) (q2 &&& (9223372036854775807 : Int64))))), .second, .val (.long ((q1 &&& (9223372036854775807 : Int64)) / (own_max (1 : Int64) (q2 &&& (9223372036854775807 : Int64))))), .second, .val (.long ((q1 &&& (9223372036854775807 : Int64)) - (((q1 &&& (9223372036854775807 : Int64)) / (own_max (1 : Int64) (q2 &&& (9223372036854775807 : Int64)))) * (own_max (1 : Int64) (q2 &&& (9223372036854775807 : Int64)))))), .second, .unset, .unset, .unset, .unset] [(.long (2 : Int64)), (.long (own_max (1 : Int64) (q2 &&& (9223372036854775807 : Int64))))])) _
    refine XS.ldiv X4.here hx rfl (hb hby at_49) rfl hnz49 ?_
    show Steps p.tables e below (T4.setTop (mkF m 50 #[.val (.long q1), .second, .val (.long q2), .second, .val (.long (q1 &&& (9223372036854775807 : Int64))), .second, .val (.long (own_max (1 : Int64) (q2 &&& (9223372036854775807 : Int64)))), .second, .val (.long (own_div (q1 &&& (9223372036854775807 : Int64)) (own_max (1 : Int64) (q2 &&& (9223372036854775807 : Int64))))), .second, .val (.long ((q1 &&& (9223372036854775807 : Int64)) / (own_max (1 : Int64) (q2 &&& (9223372036854775807 : Int64))))), .second, .val (.long ((q1 &&& (9223372036854775807 : Int64)) - (((q1 &&& (9223372036854775807 : Int64)) / (own_max (1 : Int64) (q2 &&& (9223372036854775807 : Int64)))) * (own_max (1 : Int64) (q2 &&& (9223372036854775807 : Int64)))))), .second, .unset, .unset, .unset, .unset] [(.long ((own_max (1 : Int64) (q2 &&& (9223372036854775807 : Int64))) / (2 : Int64)))])) _
    refine XS.lload X4.here hx rfl (hb hby at_50) rfl ?_
    show Steps p.tables e below (T4.setTop (mkF m 52 #[.val (.long q1), .second, .val (.long q2), .second, .val (.long (q1 &&& (9223372036854775807 : Int64))), .second, .val (.long (own_max (1 : Int64) (q2 &&& (9223372036854775807 : Int64)))), .second, .val (.long (own_div (q1 &&& (9223372036854775807 : Int64)) (own_max (1 : Int64) (q2 &&& (9223372036854775807 : Int64))))), .second, .val (.long ((q1 &&& (9223372036854775807 : Int64)) / (own_max (1 : Int64) (q2 &&& (9223372036854775807 : Int64))))), .second, .val (.long ((q1 &&& (9223372036854775807 : Int64)) - (((q1 &&& (9223372036854775807 : Int64)) / (own_max (1 : Int64) (q2 &&& (9223372036854775807 : Int64)))) * (own_max (1 : Int64) (q2 &&& (9223372036854775807 : Int64)))))), .second, .unset, .unset, .unset, .unset] [(.long (own_max (1 : Int64) (q2 &&& (9223372036854775807 : Int64)))), (.long ((own_max (1 : Int64) (q2 &&& (9223372036854775807 : Int64))) / (2 : Int64)))])) _
    refine XS.lconst X4.here hx rfl (hb hby at_52) ?_
    show Steps p.tables e below (T4.setTop (mkF m 53 #[.val (.long q1), .second, .val (.long q2), .second, .val (.long (q1 &&& (9223372036854775807 : Int64))), .second, .val (.long (own_max (1 : Int64) (q2 &&& (9223372036854775807 : Int64)))), .second, .val (.long (own_div (q1 &&& (9223372036854775807 : Int64)) (own_max (1 : Int64) (q2 &&& (9223372036854775807 : Int64))))), .second, .val (.long ((q1 &&& (9223372036854775807 : Int64)) / (own_max (1 : Int64) (q2 &&& (9223372036854775807 : Int64))))), .second, .val (.long ((q1 &&& (9223372036854775807 : Int64)) - (((q1 &&& (9223372036854775807 : Int64)) / (own_max (1 : Int64) (q2 &&& (9223372036854775807 : Int64)))) * (own_max (1 : Int64) (q2 &&& (9223372036854775807 : Int64)))))), .second, .unset, .unset, .unset, .unset] [(.long (1 : Int64)), (.long (own_max (1 : Int64) (q2 &&& (9223372036854775807 : Int64)))), (.long ((own_max (1 : Int64) (q2 &&& (9223372036854775807 : Int64))) / (2 : Int64)))])) _
    refine XS.land X4.here hx rfl (hb hby at_53) rfl ?_
    show Steps p.tables e below (T4.setTop (mkF m 54 #[.val (.long q1), .second, .val (.long q2), .second, .val (.long (q1 &&& (9223372036854775807 : Int64))), .second, .val (.long (own_max (1 : Int64) (q2 &&& (9223372036854775807 : Int64)))), .second, .val (.long (own_div (q1 &&& (9223372036854775807 : Int64)) (own_max (1 : Int64) (q2 &&& (9223372036854775807 : Int64))))), .second, .val (.long ((q1 &&& (9223372036854775807 : Int64)) / (own_max (1 : Int64) (q2 &&& (9223372036854775807 : Int64))))), .second, .val (.long ((q1 &&& (9223372036854775807 : Int64)) - (((q1 &&& (9223372036854775807 : Int64)) / (own_max (1 : Int64) (q2 &&& (9223372036854775807 : Int64)))) * (own_max (1 : Int64) (q2 &&& (9223372036854775807 : Int64)))))), .second, .unset, .unset, .unset, .unset] [(.long ((own_max (1 : Int64) (q2 &&& (9223372036854775807 : Int64))) &&& (1 : Int64))), (.long ((own_max (1 : Int64) (q2 &&& (9223372036854775807 : Int64))) / (2 : Int64)))])) _
    refine XS.ladd X4.here hx rfl (hb hby at_54) rfl ?_
    show Steps p.tables e below (T4.setTop (mkF m 55 #[.val (.long q1), .second, .val (.long q2), .second, .val (.long (q1 &&& (9223372036854775807 : Int64))), .second, .val (.long (own_max (1 : Int64) (q2 &&& (9223372036854775807 : Int64)))), .second, .val (.long (own_div (q1 &&& (9223372036854775807 : Int64)) (own_max (1 : Int64) (q2 &&& (9223372036854775807 : Int64))))), .second, .val (.long ((q1 &&& (9223372036854775807 : Int64)) / (own_max (1 : Int64) (q2 &&& (9223372036854775807 : Int64))))), .second, .val (.long ((q1 &&& (9223372036854775807 : Int64)) - (((q1 &&& (9223372036854775807 : Int64)) / (own_max (1 : Int64) (q2 &&& (9223372036854775807 : Int64)))) * (own_max (1 : Int64) (q2 &&& (9223372036854775807 : Int64)))))), .second, .unset, .unset, .unset, .unset] [(.long (((own_max (1 : Int64) (q2 &&& (9223372036854775807 : Int64))) / (2 : Int64)) + ((own_max (1 : Int64) (q2 &&& (9223372036854775807 : Int64))) &&& (1 : Int64))))])) _
    refine XS.lstore X4.here hx rfl (hb hby at_55) rfl (l' := #[.val (.long q1), .second, .val (.long q2), .second, .val (.long (q1 &&& (9223372036854775807 : Int64))), .second, .val (.long (own_max (1 : Int64) (q2 &&& (9223372036854775807 : Int64)))), .second, .val (.long (own_div (q1 &&& (9223372036854775807 : Int64)) (own_max (1 : Int64) (q2 &&& (9223372036854775807 : Int64))))), .second, .val (.long ((q1 &&& (9223372036854775807 : Int64)) / (own_max (1 : Int64) (q2 &&& (9223372036854775807 : Int64))))), .second, .val (.long ((q1 &&& (9223372036854775807 : Int64)) - (((q1 &&& (9223372036854775807 : Int64)) / (own_max (1 : Int64) (q2 &&& (9223372036854775807 : Int64)))) * (own_max (1 : Int64) (q2 &&& (9223372036854775807 : Int64)))))), .second, .val (.long (((own_max (1 : Int64) (q2 &&& (9223372036854775807 : Int64))) / (2 : Int64)) + ((own_max (1 : Int64) (q2 &&& (9223372036854775807 : Int64))) &&& (1 : Int64)))), .second, .unset, .unset]) rfl ?_
    show Steps p.tables e below (T4.setTop (mkF m 57 #[.val (.long q1), .second, .val (.long q2), .second, .val (.long (q1 &&& (9223372036854775807 : Int64))), .second, .val (.long (own_max (1 : Int64) (q2 &&& (9223372036854775807 : Int64)))), .second, .val (.long (own_div (q1 &&& (9223372036854775807 : Int64)) (own_max (1 : Int64) (q2 &&& (9223372036854775807 : Int64))))), .second, .val (.long ((q1 &&& (9223372036854775807 : Int64)) / (own_max (1 : Int64) (q2 &&& (9223372036854775807 : Int64))))), .second, .val (.long ((q1 &&& (9223372036854775807 : Int64)) - (((q1 &&& (9223372036854775807 : Int64)) / (own_max (1 : Int64) (q2 &&& (9223372036854775807 : Int64)))) * (own_max (1 : Int64) (q2 &&& (9223372036854775807 : Int64)))))), .second, .val (.long (((own_max (1 : Int64) (q2 &&& (9223372036854775807 : Int64))) / (2 : Int64)) + ((own_max (1 : Int64) (q2 &&& (9223372036854775807 : Int64))) &&& (1 : Int64)))), .second, .unset, .unset] [])) _
    refine XS.lload X4.here hx rfl (hb hby at_57) rfl ?_
    show Steps p.tables e below (T4.setTop (mkF m 59 #[.val (.long q1), .second, .val (.long q2), .second, .val (.long (q1 &&& (9223372036854775807 : Int64))), .second, .val (.long (own_max (1 : Int64) (q2 &&& (9223372036854775807 : Int64)))), .second, .val (.long (own_div (q1 &&& (9223372036854775807 : Int64)) (own_max (1 : Int64) (q2 &&& (9223372036854775807 : Int64))))), .second, .val (.long ((q1 &&& (9223372036854775807 : Int64)) / (own_max (1 : Int64) (q2 &&& (9223372036854775807 : Int64))))), .second, .val (.long ((q1 &&& (9223372036854775807 : Int64)) - (((q1 &&& (9223372036854775807 : Int64)) / (own_max (1 : Int64) (q2 &&& (9223372036854775807 : Int64)))) * (own_max (1 : Int64) (q2 &&& (9223372036854775807 : Int64)))))), .second, .val (.long (((own_max (1 : Int64) (q2 &&& (9223372036854775807 : Int64))) / (2 : Int64)) + ((own_max (1 : Int64) (q2 &&& (9223372036854775807 : Int64))) &&& (1 : Int64)))), .second, .unset, .unset] [(.long ((q1 &&& (9223372036854775807 : Int64)) - (((q1 &&& (9223372036854775807 : Int64)) / (own_max (1 : Int64) (q2 &&& (9223372036854775807 : Int64)))) * (own_max (1 : Int64) (q2 &&& (9223372036854775807 : Int64))))))])) _
    refine XS.lload X4.here hx rfl (hb hby at_59) rfl ?_
    show Steps p.tables e below (T4.setTop (mkF m 61 #[.val (.long q1), .second, .val (.long q2), .second, .val (.long (q1 &&& (9223372036854775807 : Int64))), .second, .val (.long (own_max (1 : Int64) (q2 &&& (9223372036854775807 : Int64)))), .second, .val (.long (own_div (q1 &&& (9223372036854775807 : Int64)) (own_max (1 : Int64) (q2 &&& (9223372036854775807 : Int64))))), .second, .val (.long ((q1 &&& (9223372036854775807 : Int64)) / (own_max (1 : Int64) (q2 &&& (9223372036854775807 : Int64))))), .second, .val (.long ((q1 &&& (9223372036854775807 : Int64)) - (((q1 &&& (9223372036854775807 : Int64)) / (own_max (1 : Int64) (q2 &&& (9223372036854775807 : Int64)))) * (own_max (1 : Int64) (q2 &&& (9223372036854775807 : Int64)))))), .second, .val (.long (((own_max (1 : Int64) (q2 &&& (9223372036854775807 : Int64))) / (2 : Int64)) + ((own_max (1 : Int64) (q2 &&& (9223372036854775807 : Int64))) &&& (1 : Int64)))), .second, .unset, .unset] [(.long (((own_max (1 : Int64) (q2 &&& (9223372036854775807 : Int64))) / (2 : Int64)) + ((own_max (1 : Int64) (q2 &&& (9223372036854775807 : Int64))) &&& (1 : Int64)))), (.long ((q1 &&& (9223372036854775807 : Int64)) - (((q1 &&& (9223372036854775807 : Int64)) / (own_max (1 : Int64) (q2 &&& (9223372036854775807 : Int64)))) * (own_max (1 : Int64) (q2 &&& (9223372036854775807 : Int64))))))])) _
    refine XS.lcmp X4.here hx rfl (hb hby at_61) rfl ?_
    show Steps p.tables e below (T4.setTop (mkF m 62 #[.val (.long q1), .second, .val (.long q2), .second, .val (.long (q1 &&& (9223372036854775807 : Int64))), .second, .val (.long (own_max (1 : Int64) (q2 &&& (9223372036854775807 : Int64)))), .second, .val (.long (own_div (q1 &&& (9223372036854775807 : Int64)) (own_max (1 : Int64) (q2 &&& (9223372036854775807 : Int64))))), .second, .val (.long ((q1 &&& (9223372036854775807 : Int64)) / (own_max (1 : Int64) (q2 &&& (9223372036854775807 : Int64))))), .second, .val (.long ((q1 &&& (9223372036854775807 : Int64)) - (((q1 &&& (9223372036854775807 : Int64)) / (own_max (1 : Int64) (q2 &&& (9223372036854775807 : Int64)))) * (own_max (1 : Int64) (q2 &&& (9223372036854775807 : Int64)))))), .second, .val (.long (((own_max (1 : Int64) (q2 &&& (9223372036854775807 : Int64))) / (2 : Int64)) + ((own_max (1 : Int64) (q2 &&& (9223372036854775807 : Int64))) &&& (1 : Int64)))), .second, .unset, .unset] [(.int (lcmpW ((q1 &&& (9223372036854775807 : Int64)) - (((q1 &&& (9223372036854775807 : Int64)) / (own_max (1 : Int64) (q2 &&& (9223372036854775807 : Int64)))) * (own_max (1 : Int64) (q2 &&& (9223372036854775807 : Int64))))) (((own_max (1 : Int64) (q2 &&& (9223372036854775807 : Int64))) / (2 : Int64)) + ((own_max (1 : Int64) (q2 &&& (9223372036854775807 : Int64))) &&& (1 : Int64)))))])) _
    refine XS.ifNo X4.here hx rfl (hb hby at_62) rfl ((if0 _ _).trans (flt hx62).1) ?_
    show Steps p.tables e below (T4.setTop (mkF m 65 #[.val (.long q1), .second, .val (.long q2), .second, .val (.long (q1 &&& (9223372036854775807 : Int64))), .second, .val (.long (own_max (1 : Int64) (q2 &&& (9223372036854775807 : Int64)))), .second, .val (.long (own_div (q1 &&& (9223372036854775807 : Int64)) (own_max (1 : Int64) (q2 &&& (9223372036854775807 : Int64))))), .second, .val (.long ((q1 &&& (9223372036854775807 : Int64)) / (own_max (1 : Int64) (q2 &&& (9223372036854775807 : Int64))))), .second, .val (.long ((q1 &&& (9223372036854775807 : Int64)) - (((q1 &&& (9223372036854775807 : Int64)) / (own_max (1 : Int64) (q2 &&& (9223372036854775807 : Int64)))) * (own_max (1 : Int64) (q2 &&& (9223372036854775807 : Int64)))))), .second, .val (.long (((own_max (1 : Int64) (q2 &&& (9223372036854775807 : Int64))) / (2 : Int64)) + ((own_max (1 : Int64) (q2 &&& (9223372036854775807 : Int64))) &&& (1 : Int64)))), .second, .unset, .unset] [])) _
    refine XS.lload X4.here hx rfl (hb hby at_65) rfl ?_
    show Steps p.tables e below (T4.setTop (mkF m 67 #[.val (.long q1), .second, .val (.long q2), .second, .val (.long (q1 &&& (9223372036854775807 : Int64))), .second, .val (.long (own_max (1 : Int64) (q2 &&& (9223372036854775807 : Int64)))), .second, .val (.long (own_div (q1 &&& (9223372036854775807 : Int64)) (own_max (1 : Int64) (q2 &&& (9223372036854775807 : Int64))))), .second, .val (.long ((q1 &&& (9223372036854775807 : Int64)) / (own_max (1 : Int64) (q2 &&& (9223372036854775807 : Int64))))), .second, .val (.long ((q1 &&& (9223372036854775807 : Int64)) - (((q1 &&& (9223372036854775807 : Int64)) / (own_max (1 : Int64) (q2 &&& (9223372036854775807 : Int64)))) * (own_max (1 : Int64) (q2 &&& (9223372036854775807 : Int64)))))), .second, .val (.long (((own_max (1 : Int64) (q2 &&& (9223372036854775807 : Int64))) / (2 : Int64)) + ((own_max (1 : Int64) (q2 &&& (9223372036854775807 : Int64))) &&& (1 : Int64)))), .second, .unset, .unset] [(.long ((q1 &&& (9223372036854775807 : Int64)) / (own_max (1 : Int64) (q2 &&& (9223372036854775807 : Int64)))))])) _
    refine XS.lconst X4.here hx rfl (hb hby at_67) ?_
    show Steps p.tables e below (T4.setTop (mkF m 68 #[.val (.long q1), .second, .val (.long q2), .second, .val (.long (q1 &&& (9223372036854775807 : Int64))), .second, .val (.long (own_max (1 : Int64) (q2 &&& (9223372036854775807 : Int64)))), .second, .val (.long (own_div (q1 &&& (9223372036854775807 : Int64)) (own_max (1 : Int64) (q2 &&& (9223372036854775807 : Int64))))), .second, .val (.long ((q1 &&& (9223372036854775807 : Int64)) / (own_max (1 : Int64) (q2 &&& (9223372036854775807 : Int64))))), .second, .val (.long ((q1 &&& (9223372036854775807 : Int64)) - (((q1 &&& (9223372036854775807 : Int64)) / (own_max (1 : Int64) (q2 &&& (9223372036854775807 : Int64)))) * (own_max (1 : Int64) (q2 &&& (9223372036854775807 : Int64)))))), .second, .val (.long (((own_max (1 : Int64) (q2 &&& (9223372036854775807 : Int64))) / (2 : Int64)) + ((own_max (1 : Int64) (q2 &&& (9223372036854775807 : Int64))) &&& (1 : Int64)))), .second, .unset, .unset] [(.long (1 : Int64)), (.long ((q1 &&& (9223372036854775807 : Int64)) / (own_max (1 : Int64) (q2 &&& (9223372036854775807 : Int64)))))])) _
    refine XS.ladd X4.here hx rfl (hb hby at_68) rfl ?_
    show Steps p.tables e below (T4.setTop (mkF m 69 #[.val (.long q1), .second, .val (.long q2), .second, .val (.long (q1 &&& (9223372036854775807 : Int64))), .second, .val (.long (own_max (1 : Int64) (q2 &&& (9223372036854775807 : Int64)))), .second, .val (.long (own_div (q1 &&& (9223372036854775807 : Int64)) (own_max (1 : Int64) (q2 &&& (9223372036854775807 : Int64))))), .second, .val (.long ((q1 &&& (9223372036854775807 : Int64)) / (own_max (1 : Int64) (q2 &&& (9223372036854775807 : Int64))))), .second, .val (.long ((q1 &&& (9223372036854775807 : Int64)) - (((q1 &&& (9223372036854775807 : Int64)) / (own_max (1 : Int64) (q2 &&& (9223372036854775807 : Int64)))) * (own_max (1 : Int64) (q2 &&& (9223372036854775807 : Int64)))))), .second, .val (.long (((own_max (1 : Int64) (q2 &&& (9223372036854775807 : Int64))) / (2 : Int64)) + ((own_max (1 : Int64) (q2 &&& (9223372036854775807 : Int64))) &&& (1 : Int64)))), .second, .unset, .unset] [(.long (((q1 &&& (9223372036854775807 : Int64)) / (own_max (1 : Int64) (q2 &&& (9223372036854775807 : Int64)))) + (1 : Int64)))])) _
    refine XS.goto X4.here hx rfl (pc0 := 69) (pc' := 74) rfl (hb hby at_69) (by decide) (by decide) ?_
    show Steps p.tables e below (T4.setTop (mkF m 74 #[.val (.long q1), .second, .val (.long q2), .second, .val (.long (q1 &&& (9223372036854775807 : Int64))), .second, .val (.long (own_max (1 : Int64) (q2 &&& (9223372036854775807 : Int64)))), .second, .val (.long (own_div (q1 &&& (9223372036854775807 : Int64)) (own_max (1 : Int64) (q2 &&& (9223372036854775807 : Int64))))), .second, .val (.long ((q1 &&& (9223372036854775807 : Int64)) / (own_max (1 : Int64) (q2 &&& (9223372036854775807 : Int64))))), .second, .val (.long ((q1 &&& (9223372036854775807 : Int64)) - (((q1 &&& (9223372036854775807 : Int64)) / (own_max (1 : Int64) (q2 &&& (9223372036854775807 : Int64)))) * (own_max (1 : Int64) (q2 &&& (9223372036854775807 : Int64)))))), .second, .val (.long (((own_max (1 : Int64) (q2 &&& (9223372036854775807 : Int64))) / (2 : Int64)) + ((own_max (1 : Int64) (q2 &&& (9223372036854775807 : Int64))) &&& (1 : Int64)))), .second, .unset, .unset] [(.long (((q1 &&& (9223372036854775807 : Int64)) / (own_max (1 : Int64) (q2 &&& (9223372036854775807 : Int64)))) + (1 : Int64)))])) _
    refine XS.lstore X4.here hx rfl (hb hby at_74) rfl (l' := #[.val (.long q1), .second, .val (.long q2), .second, .val (.long (q1 &&& (9223372036854775807 : Int64))), .second, .val (.long (own_max (1 : Int64) (q2 &&& (9223372036854775807 : Int64)))), .second, .val (.long (own_div (q1 &&& (9223372036854775807 : Int64)) (own_max (1 : Int64) (q2 &&& (9223372036854775807 : Int64))))), .second, .val (.long ((q1 &&& (9223372036854775807 : Int64)) / (own_max (1 : Int64) (q2 &&& (9223372036854775807 : Int64))))), .second, .val (.long ((q1 &&& (9223372036854775807 : Int64)) - (((q1 &&& (9223372036854775807 : Int64)) / (own_max (1 : Int64) (q2 &&& (9223372036854775807 : Int64)))) * (own_max (1 : Int64) (q2 &&& (9223372036854775807 : Int64)))))), .second, .val (.long (((own_max (1 : Int64) (q2 &&& (9223372036854775807 : Int64))) / (2 : Int64)) + ((own_max (1 : Int64) (q2 &&& (9223372036854775807 : Int64))) &&& (1 : Int64)))), .second, .val (.long (((q1 &&& (9223372036854775807 : Int64)) / (own_max (1 : Int64) (q2 &&& (9223372036854775807 : Int64)))) + (1 : Int64))), .second]) rfl ?_
    show Steps p.tables e below (T4.setTop (mkF m 76 #[.val (.long q1), .second, .val (.long q2), .second, .val (.long (q1 &&& (9223372036854775807 : Int64))), .second, .val (.long (own_max (1 : Int64) (q2 &&& (9223372036854775807 : Int64)))), .second, .val (.long (own_div (q1 &&& (9223372036854775807 : Int64)) (own_max (1 : Int64) (q2 &&& (9223372036854775807 : Int64))))), .second, .val (.long ((q1 &&& (9223372036854775807 : Int64)) / (own_max (1 : Int64) (q2 &&& (9223372036854775807 : Int64))))), .second, .val (.long ((q1 &&& (9223372036854775807 : Int64)) - (((q1 &&& (9223372036854775807 : Int64)) / (own_max (1 : Int64) (q2 &&& (9223372036854775807 : Int64)))) * (own_max (1 : Int64) (q2 &&& (9223372036854775807 : Int64)))))), .second, .val (.long (((own_max (1 : Int64) (q2 &&& (9223372036854775807 : Int64))) / (2 : Int64)) + ((own_max (1 : Int64) (q2 &&& (9223372036854775807 : Int64))) &&& (1 : Int64)))), .second, .val (.long (((q1 &&& (9223372036854775807 : Int64)) / (own_max (1 : Int64) (q2 &&& (9223372036854775807 : Int64)))) + (1 : Int64))), .second] [])) _
    refine XS.lload X4.here hx rfl (hb hby at_76) rfl ?_
    show Steps p.tables e below (T4.setTop (mkF m 78 #[.val (.long q1), .second, .val (.long q2), .second, .val (.long (q1 &&& (9223372036854775807 : Int64))), .second, .val (.long (own_max (1 : Int64) (q2 &&& (9223372036854775807 : Int64)))), .second, .val (.long (own_div (q1 &&& (9223372036854775807 : Int64)) (own_max (1 : Int64) (q2 &&& (9223372036854775807 : Int64))))), .second, .val (.long ((q1 &&& (9223372036854775807 : Int64)) / (own_max (1 : Int64) (q2 &&& (9223372036854775807 : Int64))))), .second, .val (.long ((q1 &&& (9223372036854775807 : Int64)) - (((q1 &&& (9223372036854775807 : Int64)) / (own_max (1 : Int64) (q2 &&& (9223372036854775807 : Int64)))) * (own_max (1 : Int64) (q2 &&& (9223372036854775807 : Int64)))))), .second, .val (.long (((own_max (1 : Int64) (q2 &&& (9223372036854775807 : Int64))) / (2 : Int64)) + ((own_max (1 : Int64) (q2 &&& (9223372036854775807 : Int64))) &&& (1 : Int64)))), .second, .val (.long (((q1 &&& (9223372036854775807 : Int64)) / (own_max (1 : Int64) (q2 &&& (9223372036854775807 : Int64)))) + (1 : Int64))), .second] [(.long (own_div (q1 &&& (9223372036854775807 : Int64)) (own_max (1 : Int64) (q2 &&& (9223372036854775807 : Int64)))))])) _
    refine XS.lload X4.here hx rfl (hb hby at_78) rfl ?_
    show Steps p.tables e below (T4.setTop (mkF m 80 #[.val (.long q1), .second, .val (.long q2), .second, .val (.long (q1 &&& (9223372036854775807 : Int64))), .second, .val (.long (own_max (1 : Int64) (q2 &&& (9223372036854775807 : Int64)))), .second, .val (.long (own_div (q1 &&& (9223372036854775807 : Int64)) (own_max (1 : Int64) (q2 &&& (9223372036854775807 : Int64))))), .second, .val (.long ((q1 &&& (9223372036854775807 : Int64)) / (own_max (1 : Int64) (q2 &&& (9223372036854775807 : Int64))))), .second, .val (.long ((q1 &&& (9223372036854775807 : Int64)) - (((q1 &&& (9223372036854775807 : Int64)) / (own_max (1 : Int64) (q2 &&& (9223372036854775807 : Int64)))) * (own_max (1 : Int64) (q2 &&& (9223372036854775807 : Int64)))))), .second, .val (.long (((own_max (1 : Int64) (q2 &&& (9223372036854775807 : Int64))) / (2 : Int64)) + ((own_max (1 : Int64) (q2 &&& (9223372036854775807 : Int64))) &&& (1 : Int64)))), .second, .val (.long (((q1 &&& (9223372036854775807 : Int64)) / (own_max (1 : Int64) (q2 &&& (9223372036854775807 : Int64)))) + (1 : Int64))), .second] [(.long (((q1 &&& (9223372036854775807 : Int64)) / (own_max (1 : Int64) (q2 &&& (9223372036854775807 : Int64)))) + (1 : Int64))), (.long (own_div (q1 &&& (9223372036854775807 : Int64)) (own_max (1 : Int64) (q2 &&& (9223372036854775807 : Int64)))))])) _
    refine XS.lcmp X4.here hx rfl (hb hby at_80) rfl ?_
    show Steps p.tables e below (T4.setTop (mkF m 81 #[.val (.long q1), .second, .val (.long q2), .second, .val (.long (q1 &&& (9223372036854775807 : Int64))), .second, .val (.long (own_max (1 : Int64) (q2 &&& (9223372036854775807 : Int64)))), .second, .val (.long (own_div (q1 &&& (9223372036854775807 : Int64)) (own_max (1 : Int64) (q2 &&& (9223372036854775807 : Int64))))), .second, .val (.long ((q1 &&& (9223372036854775807 : Int64)) / (own_max (1 : Int64) (q2 &&& (9223372036854775807 : Int64))))), .second, .val (.long ((q1 &&& (9223372036854775807 : Int64)) - (((q1 &&& (9223372036854775807 : Int64)) / (own_max (1 : Int64) (q2 &&& (9223372036854775807 : Int64)))) * (own_max (1 : Int64) (q2 &&& (9223372036854775807 : Int64)))))), .second, .val (.long (((own_max (1 : Int64) (q2 &&& (9223372036854775807 : Int64))) / (2 : Int64)) + ((own_max (1 : Int64) (q2 &&& (9223372036854775807 : Int64))) &&& (1 : Int64)))), .second, .val (.long (((q1 &&& (9223372036854775807 : Int64)) / (own_max (1 : Int64) (q2 &&& (9223372036854775807 : Int64)))) + (1 : Int64))), .second] [(.int (lcmpW (own_div (q1 &&& (9223372036854775807 : Int64)) (own_max (1 : Int64) (q2 &&& (9223372036854775807 : Int64)))) (((q1 &&& (9223372036854775807 : Int64)) / (own_max (1 : Int64) (q2 &&& (9223372036854775807 : Int64)))) + (1 : Int64))))])) _
    refine XS.ifNo X4.here hx rfl (hb hby at_81) rfl ((if0 _ _).trans (teq hx81).2) ?_
    show Steps p.tables e below (T4.setTop (mkF m 84 #[.val (.long q1), .second, .val (.long q2), .second, .val (.long (q1 &&& (9223372036854775807 : Int64))), .second, .val (.long (own_max (1 : Int64) (q2 &&& (9223372036854775807 : Int64)))), .second, .val (.long (own_div (q1 &&& (9223372036854775807 : Int64)) (own_max (1 : Int64) (q2 &&& (9223372036854775807 : Int64))))), .second, .val (.long ((q1 &&& (9223372036854775807 : Int64)) / (own_max (1 : Int64) (q2 &&& (9223372036854775807 : Int64))))), .second, .val (.long ((q1 &&& (9223372036854775807 : Int64)) - (((q1 &&& (9223372036854775807 : Int64)) / (own_max (1 : Int64) (q2 &&& (9223372036854775807 : Int64)))) * (own_max (1 : Int64) (q2 &&& (9223372036854775807 : Int64)))))), .second, .val (.long (((own_max (1 : Int64) (q2 &&& (9223372036854775807 : Int64))) / (2 : Int64)) + ((own_max (1 : Int64) (q2 &&& (9223372036854775807 : Int64))) &&& (1 : Int64)))), .second, .val (.long (((q1 &&& (9223372036854775807 : Int64)) / (own_max (1 : Int64) (q2 &&& (9223372036854775807 : Int64)))) + (1 : Int64))), .second] [])) _
    refine XS.iconst X4.here hx rfl (hb hby at_84) ?_
    show Steps p.tables e below (T4.setTop (mkF m 85 #[.val (.long q1), .second, .val (.long q2), .second, .val (.long (q1 &&& (9223372036854775807 : Int64))), .second, .val (.long (own_max (1 : Int64) (q2 &&& (9223372036854775807 : Int64)))), .second, .val (.long (own_div (q1 &&& (9223372036854775807 : Int64)) (own_max (1 : Int64) (q2 &&& (9223372036854775807 : Int64))))), .second, .val (.long ((q1 &&& (9223372036854775807 : Int64)) / (own_max (1 : Int64) (q2 &&& (9223372036854775807 : Int64))))), .second, .val (.long ((q1 &&& (9223372036854775807 : Int64)) - (((q1 &&& (9223372036854775807 : Int64)) / (own_max (1 : Int64) (q2 &&& (9223372036854775807 : Int64)))) * (own_max (1 : Int64) (q2 &&& (9223372036854775807 : Int64)))))), .second, .val (.long (((own_max (1 : Int64) (q2 &&& (9223372036854775807 : Int64))) / (2 : Int64)) + ((own_max (1 : Int64) (q2 &&& (9223372036854775807 : Int64))) &&& (1 : Int64)))), .second, .val (.long (((q1 &&& (9223372036854775807 : Int64)) / (own_max (1 : Int64) (q2 &&& (9223372036854775807 : Int64)))) + (1 : Int64))), .second] [(.int (1 : Int32))])) _
    refine XS.goto X4.here hx rfl (pc0 := 85) (pc' := 89) rfl (hb hby at_85) (by decide) (by decide) ?_
    show Steps p.tables e below (T4.setTop (mkF m 89 #[.val (.long q1), .second, .val (.long q2), .second, .val (.long (q1 &&& (9223372036854775807 : Int64))), .second, .val (.long (own_max (1 : Int64) (q2 &&& (9223372036854775807 : Int64)))), .second, .val (.long (own_div (q1 &&& (9223372036854775807 : Int64)) (own_max (1 : Int64) (q2 &&& (9223372036854775807 : Int64))))), .second, .val (.long ((q1 &&& (9223372036854775807 : Int64)) / (own_max (1 : Int64) (q2 &&& (9223372036854775807 : Int64))))), .second, .val (.long ((q1 &&& (9223372036854775807 : Int64)) - (((q1 &&& (9223372036854775807 : Int64)) / (own_max (1 : Int64) (q2 &&& (9223372036854775807 : Int64)))) * (own_max (1 : Int64) (q2 &&& (9223372036854775807 : Int64)))))), .second, .val (.long (((own_max (1 : Int64) (q2 &&& (9223372036854775807 : Int64))) / (2 : Int64)) + ((own_max (1 : Int64) (q2 &&& (9223372036854775807 : Int64))) &&& (1 : Int64)))), .second, .val (.long (((q1 &&& (9223372036854775807 : Int64)) / (own_max (1 : Int64) (q2 &&& (9223372036854775807 : Int64)))) + (1 : Int64))), .second] [(.int (1 : Int32))])) _
    exact retN X4 hx (t := .boolean) Bd.returns (by simp) (hb hby at_89) hr
  · show Q0 Z q1 q2 h0 n0 _ T4.heap _
    exact ⟨rfl, N4⟩
theorem rm0 (l : Launch) (Z : State) (a0 : Array Value) (hw : ∀ d ∈ tables_1, d.before a0 Z = true) (ws : List Jvm.Cond) (q1 : Int64) (q2 : Int64) (h0 : Heap) (n0 : Nat) (Z0 : n0 ≤ h0.size) :
    MetFree l x (head1 (Jvm.Cond.code x code maxLocals ret :: ws) room_1) (fun a U => a = #[(.long q1), (.long q2)] ∧ Z.Warmed39 U.vm ∧ U.heap = h0) (fun _ _ _ _ _ => True) (fun _ U o U' => ∃ v L, o = .returned v ∧ Q0 Z q1 q2 h0 n0 v U'.heap L ∧ FrameEnd U o U' L room_1.cells room_1.slots) := by
  have hd := own_pos (q2 &&& (9223372036854775807 : Int64))
  have hv := own_nn q1
  obtain ⟨P1, P2⟩ := own_law _ _ hv hd
  have hz := own_nz _ hd
  by_cases h : (q1 &&& (9223372036854775807 : Int64)) - ((q1 &&& (9223372036854775807 : Int64)) / (own_max (1 : Int64) (q2 &&& (9223372036854775807 : Int64)))) * (own_max (1 : Int64) (q2 &&& (9223372036854775807 : Int64))) < (own_max (1 : Int64) (q2 &&& (9223372036854775807 : Int64))) / (2 : Int64) + ((own_max (1 : Int64) (q2 &&& (9223372036854775807 : Int64))) &&& (1 : Int64))
  · exact rm0_tf l Z a0 hw ws q1 q2 h0 n0 Z0 hz (by decide) ((lw_lt _ _).mpr h) ((lw_eq _ _).mpr (P1 h))
  · exact rm0_ff l Z a0 hw ws q1 q2 h0 n0 Z0 hz (by decide) (fun k => h ((lw_lt _ _).mp k)) ((lw_eq _ _).mpr (P2 h))
set_option maxRecDepth 65536 in
set_option maxHeartbeats 40000000 in
theorem comes_1 {Post : Tables → Env → Array Value → State → Outcome → State → Prop} (hpost : ∀ tb e args s v u, (limb_1_1.after args s (.returned v) u = true ∧ limb_1_2.after args s (.returned v) u = true ∧ True) → FrameEnd s (.returned v) u (Jvm.fieldLocs frame_1_writes args s ++ Jvm.arrayLocs frame_1_arrays args s ++ Jvm.staticLocs frame_1_statics s) 0 0 → Post tb e args s (.returned v) u) :
    ArmFor flags0 classFile x code maxLocals ret World_1 tables_1 room_1 Calls_1 rest_1 Pre_1 Post := by
  intro l hfl _ _ p e ha hc hk s m args below hf hA hF happ hP
  obtain ⟨hcalls, hrest, hpre⟩ := hP
  obtain ⟨-, -, -, hnamed, -, -, -, hat⟩ := (Spec.applies_iff hf).mp happ
  obtain ⟨hg, hn⟩ := and_e (Cond.before_iff.mp (show (Jvm.Cond.and given_1 narrow_1).before args s = true from hpre))
  obtain ⟨g5, g6⟩ := and_e hg
  obtain ⟨g7, g8⟩ := and_e g6
  obtain ⟨w0, w1, rfl⟩ : ∃ w0 w1 : Value, args = #[w0, w1] := by
    have hs : args.size = 2 := by simpa [Cond.value, given_1] using g5
    obtain ⟨L⟩ := args
    match L, hs with
    | [w0, w1], _ => exact ⟨w0, w1, rfl⟩
  have hw := fun d (hd : d ∈ tables_1) => atoms_spec (ws := Jvm.Cond.code x code maxLocals ret :: tables_1) hat d (List.mem_cons_of_mem _ hd)
  have hfit : Fit s := fun {y c} hc i hi => by
    obtain ⟨ha, rfl⟩ := Array.getElem?_eq_some_iff.mp hc
    have q := List.all_eq_true.mp ((Array.all_eq_true_iff_forall_mem.mp hF) _ (Array.getElem_mem ha)) i (List.mem_range.mpr hi)
    simpa [Array.getElem?_eq_getElem hi] using q
  obtain ⟨i0, ei0⟩ := isL_v g7
  obtain rfl : w0 = (.long i0) := Option.some.inj ei0
  obtain ⟨i1, ei1⟩ := isL_v g8
  obtain rfl : w1 = (.long i1) := Option.some.inj ei1
  obtain ⟨n, o, h1, h2, h3, _, L, rfl, ⟨rfl, N⟩, hq⟩ := rm0 l s _ hw tables_1 i0 i1 s.heap s.heap.size (Nat.le_refl _) p e ha hc hk s m _ below hf ((Spec.applies_iff_loose hf).mp happ).1 ⟨rfl, State.Warmed39.refl s, rfl⟩ trivial
  refine ⟨n, _, h1, h2, h3, hpost _ _ _ _ _ _ ⟨Cond.after_iff.mpr rfl, Cond.after_iff.mpr (eq_i res_at (Term.int_eval (1)) rfl), trivial⟩ ⟨hq.1, hq.2.1, (hq.2.2.sift fun y hy => Or.inr (N y hy)).mono (by decide) (by decide)⟩⟩
theorem main_1_1 : Claimed_1_1 := comes_1 fun _ _ _ _ _ _ h hF => ⟨h.1, hF⟩
theorem main_1_2 : Claimed_1_2 := comes_1 fun _ _ _ _ _ _ h hF => ⟨h.2.1, hF⟩
end Jvm.Pilot.@@N@@
namespace Jvm.Pilot.@@N@@
open Jvm Jvm.ClassFile Sem Op Lib Jvm.Free Jvm.Stand Jvm.Pilot.@@N@@.Jvm.D
/-! MADE BY PROGRAM (witnessworld.py) out of the Statement's table words and the real class files: 10 classes; the members and pool entries that the words name. The judged class is class 1, her method 1. -/
namespace start1
open Jvm.ClassFile
def u (s : String) : CpInfo := .utf8 (stringToUtf16 s)
/-- a pool by its gaps: so many unusable entries, then the entry; so many at the end -/
def gap : Nat → List CpInfo → List CpInfo
  | 0, r => r
  | n + 1, r => .unusable :: gap n r
def poolList (es : List (Nat × CpInfo)) (last : Nat) : List CpInfo := es.foldr (fun e r => gap e.1 (e.2 :: r)) (gap last [])
def pool (es : List (Nat × CpInfo)) (last : Nat) : Array CpInfo := ⟨poolList es last⟩
def fileOf (pool : Array CpInfo) (this : Nat) (attrs : Array Attribute := #[]) (ms : Array MethodInfo := #[]) (fl : Nat := 33) (sup : Nat := 0) (ifs : Array Nat := #[]) (fds : Array FieldInfo := #[]) : ClassFile where
  minorVersion := 0
  majorVersion := 65
  constantPool := pool
  accessFlags := fl
  thisClass := this
  superClass := sup
  interfaces := ifs
  fields := fds
  methods := ms
  attributes := attrs
def plain (name : String) (sup : Option ClassId) : Class where
  name := name
  kind := .ordinary
  loader := none
  accessFlags := 33
  super := sup
  interfaces := #[]
  cf := none
  fields := #[]
  methods := #[]
  instanceTypes := #[]
  staticTypes := #[]
  resolved := #[]
  callSites := []
  init := .initialized
  statics := none
  mirror := none

def pool0 : Array CpInfo := pool [(5, u "<init>"), (0, u "()V"), (1, .class_ 10), (1, u "java/lang/Object")] 113

def k0m0 : Method := { name := "<init>", desc := "()V", sig := { parameters := [], returnType := none }, accessFlags := 1, code := none }
/-- java/lang/Object -/
def k0 : Class := { plain "java/lang/Object" none with
  accessFlags := 33
  interfaces := #[]
  cf := some (fileOf pool0 8 #[] #[{ accessFlags := 1, nameIndex := 5, descriptorIndex := 6, attributes := #[] }] 33 0 #[] #[])
  fields := #[]
  methods := #[k0m0]
  instanceTypes := #[]
  staticTypes := #[]
  resolved := Array.replicate 124 none
  statics := none }

def pool1 : Array CpInfo := pool [(2, .class_ 4), (1, u "java/lang/Object"), (0, u "<init>"), (0, u "()V"), (2, .long 9223372036854775807), (1, .methodref 12 13), (0, .class_ 14), (0, .nameAndType 15 16), (0, u "java/lang/Math"), (0, u "max"), (0, u "(JJ)J"), (0, .methodref 18 19), (0, .class_ 20), (0, .nameAndType 21 16), (0, u "com/example/slackwater/slackwater/Decimals"), (0, u "divideRounded"), (0, .long 2), (1, .class_ 25), (0, u "com/example/slackwater/slackwater/DecimalsDivideRoundedPinLaw"), (2, u "law"), (0, u "(JJ)Z")] 3

def k1m0 : Method := { name := "<init>", desc := "()V", sig := { parameters := [], returnType := none }, accessFlags := 2, code := none }
def k1c1 : Code := { maxStack := 6, maxLocals := 18, code := code, exceptionTable := #[], attributes := #[] }
def k1m1 : Method := { name := "law", desc := "(JJ)Z", sig := { parameters := [.long, .long], returnType := some .boolean }, accessFlags := 9, code := some k1c1 }
/-- com/example/slackwater/slackwater/DecimalsDivideRoundedPinLaw -/
def k1 : Class := { plain "com/example/slackwater/slackwater/DecimalsDivideRoundedPinLaw" (some 0) with
  accessFlags := 49
  interfaces := #[]
  cf := some (fileOf pool1 24 #[] #[{ accessFlags := 2, nameIndex := 5, descriptorIndex := 6, attributes := #[] }, { accessFlags := 9, nameIndex := 28, descriptorIndex := 29, attributes := #[] }] 49 2 #[] #[])
  fields := #[]
  methods := #[k1m0, k1m1]
  instanceTypes := #[]
  staticTypes := #[]
  resolved := Array.replicate 33 none
  statics := none }

def pool2 : Array CpInfo := pool [(1, .class_ 2), (0, u "java/lang/Math"), (1, .class_ 6), (1, u "java/lang/Object"), (0, u "<init>"), (0, u "()V"), (89, .class_ 100), (1, u "java/lang/Math$RandomNumberGeneratorHolder"), (20, u "(JJ)J"), (50, u "negativeZeroFloatBits"), (0, u "J"), (2, u "negativeZeroDoubleBits"), (21, u "max"), (46, u "$assertionsDisabled"), (0, u "Z"), (91, u "twoToTheDoubleScaleDown"), (0, u "D"), (4, u "twoToTheDoubleScaleUp"), (9, u "E"), (3, u "PI"), (2, u "TAU"), (2, u "DEGREES_TO_RADIANS"), (0, u "RADIANS_TO_DEGREES")] 94

def k2m0 : Method := { name := "<init>", desc := "()V", sig := { parameters := [], returnType := none }, accessFlags := 2, code := none }
def k2c1 : Code := { maxStack := 4, maxLocals := 4, code := jdk_29_method_66_code, exceptionTable := #[], attributes := #[] }
def k2m1 : Method := { name := "max", desc := "(JJ)J", sig := { parameters := [.long, .long], returnType := some .long }, accessFlags := 9, code := some k2c1 }
/-- java/lang/Math -/
def k2 : Class := { plain "java/lang/Math" (some 0) with
  accessFlags := 49
  interfaces := #[]
  cf := some (fileOf pool2 1 #[.nestMembers #[98]] #[{ accessFlags := 2, nameIndex := 7, descriptorIndex := 8, attributes := #[] }, { accessFlags := 9, nameIndex := 198, descriptorIndex := 121, attributes := #[] }] 49 4 #[] #[{ accessFlags := 25, nameIndex := 354, descriptorIndex := 339, attributes := #[] }, { accessFlags := 25, nameIndex := 358, descriptorIndex := 339, attributes := #[] }, { accessFlags := 25, nameIndex := 361, descriptorIndex := 339, attributes := #[] }, { accessFlags := 26, nameIndex := 364, descriptorIndex := 339, attributes := #[] }, { accessFlags := 26, nameIndex := 365, descriptorIndex := 339, attributes := #[] }, { accessFlags := 26, nameIndex := 172, descriptorIndex := 173, attributes := #[] }, { accessFlags := 26, nameIndex := 176, descriptorIndex := 173, attributes := #[] }, { accessFlags := 8, nameIndex := 344, descriptorIndex := 339, attributes := #[] }, { accessFlags := 8, nameIndex := 338, descriptorIndex := 339, attributes := #[] }, { accessFlags := 4120, nameIndex := 245, descriptorIndex := 246, attributes := #[] }])
  fields := #[{ name := "E", type := .double, accessFlags := 25, slot := 0, constantValue := 0 }, { name := "PI", type := .double, accessFlags := 25, slot := 1, constantValue := 0 }, { name := "TAU", type := .double, accessFlags := 25, slot := 2, constantValue := 0 }, { name := "DEGREES_TO_RADIANS", type := .double, accessFlags := 26, slot := 3, constantValue := 0 }, { name := "RADIANS_TO_DEGREES", type := .double, accessFlags := 26, slot := 4, constantValue := 0 }, { name := "negativeZeroFloatBits", type := .long, accessFlags := 26, slot := 5, constantValue := 0 }, { name := "negativeZeroDoubleBits", type := .long, accessFlags := 26, slot := 6, constantValue := 0 }, { name := "twoToTheDoubleScaleUp", type := .double, accessFlags := 8, slot := 7, constantValue := 0 }, { name := "twoToTheDoubleScaleDown", type := .double, accessFlags := 8, slot := 8, constantValue := 0 }, { name := "$assertionsDisabled", type := .boolean, accessFlags := 4120, slot := 9, constantValue := 0 }]
  methods := #[k2m0, k2m1]
  instanceTypes := #[]
  staticTypes := #[.double, .double, .double, .double, .double, .long, .long, .double, .double, .boolean]
  resolved := Array.replicate 460 none
  statics := none }

def pool3 : Array CpInfo := pool [(2, .class_ 4), (1, u "java/lang/Object"), (0, u "<init>"), (0, u "()V"), (20, .class_ 29), (1, u "com/example/slackwater/slackwater/Decimals"), (39, u "(JJ)J"), (60, u "DIGITS"), (0, u "I"), (2, u "SCALE"), (0, u "J"), (7, u "divideRounded")] 25

def k3m0 : Method := { name := "<init>", desc := "()V", sig := { parameters := [], returnType := none }, accessFlags := 2, code := none }
def k3c1 : Code := { maxStack := 8, maxLocals := 6, code := prog_21_method_6_code, exceptionTable := #[], attributes := #[] }
def k3m1 : Method := { name := "divideRounded", desc := "(JJ)J", sig := { parameters := [.long, .long], returnType := some .long }, accessFlags := 9, code := some k3c1 }
/-- com/example/slackwater/slackwater/Decimals -/
def k3 : Class := { plain "com/example/slackwater/slackwater/Decimals" (some 0) with
  accessFlags := 49
  interfaces := #[]
  cf := some (fileOf pool3 27 #[] #[{ accessFlags := 2, nameIndex := 5, descriptorIndex := 6, attributes := #[] }, { accessFlags := 9, nameIndex := 143, descriptorIndex := 69, attributes := #[] }] 49 2 #[] #[{ accessFlags := 26, nameIndex := 130, descriptorIndex := 131, attributes := #[] }, { accessFlags := 26, nameIndex := 134, descriptorIndex := 135, attributes := #[] }])
  fields := #[{ name := "DIGITS", type := .int, accessFlags := 26, slot := 0, constantValue := 0 }, { name := "SCALE", type := .long, accessFlags := 26, slot := 1, constantValue := 0 }]
  methods := #[k3m0, k3m1]
  instanceTypes := #[]
  staticTypes := #[.int, .long]
  resolved := Array.replicate 169 none
  statics := none }

def pool4 : Array CpInfo := pool [(1, u "java/lang/Cloneable"), (0, .class_ 1), (0, u "java/lang/Object"), (0, .class_ 3)] 3

/-- java/lang/Cloneable -/
def k4 : Class := { plain "java/lang/Cloneable" (some 0) with
  accessFlags := 1537
  interfaces := #[]
  cf := some (fileOf pool4 2 #[] #[] 1537 4 #[] #[])
  fields := #[]
  methods := #[]
  instanceTypes := #[]
  staticTypes := #[]
  resolved := Array.replicate 8 none
  statics := none }

def pool5 : Array CpInfo := pool [(1, u "java/io/Serializable"), (0, .class_ 1), (0, u "java/lang/Object"), (0, .class_ 3)] 3

/-- java/io/Serializable -/
def k5 : Class := { plain "java/io/Serializable" (some 0) with
  accessFlags := 1537
  interfaces := #[]
  cf := some (fileOf pool5 2 #[] #[] 1537 4 #[] #[])
  fields := #[]
  methods := #[]
  instanceTypes := #[]
  staticTypes := #[]
  resolved := Array.replicate 8 none
  statics := none }

/-- the primitive byte -/
def k6 : Class := { plain "byte" none with kind := .primitive 'B', accessFlags := 0x411 }
/-- [B -/
def k7 : Class := { plain "[B" (some 0) with kind := .array 6 .byte, interfaces := #[4, 5], accessFlags := 1041 }

/-- the primitive int -/
def k8 : Class := { plain "int" none with kind := .primitive 'I', accessFlags := 0x411 }
/-- [I -/
def k9 : Class := { plain "[I" (some 0) with kind := .array 8 .int, interfaces := #[4, 5], accessFlags := 1041 }

def heap : Heap := #[]
def classes : Array Class := #[k0, k1, k2, k3, k4, k5, k6, k7, k8, k9]
def interned : List (Array UInt16 × Addr) := []
def slotsUsed : Nat := 0
def theMethod : MethodId := ⟨1, 1⟩
def args0 : Array Value := #[.long 5, .long 3]
def aboutOver (below : List Frame) : State where
  vm := { classes := classes, interned := interned.toArray }
  heap := heap
  slotsUsed := slotsUsed
  threads := #[{ frames := .invoking theMethod args0 :: below }]
def below0 : List Frame := [.native { method := ⟨0, 0⟩, args := #[] }]
def about1 : State := aboutOver below0
def p0 : Program := .bare "" "" ""
def e0 : Env := launch0.env 0 0 0
theorem w_frames : about1.frames = Frame.invoking theMethod args0 :: below0 := rfl
set_option maxRecDepth 65536 in
theorem w_args : argsFit about1.vm theMethod args0 = true := by decide +kernel
set_option maxRecDepth 65536 in
theorem w_heap : heapFits about1 = true := by decide +kernel
set_option maxRecDepth 65536 in
theorem w_runnable : about1.curStatus? = some .runnable := by decide +kernel
set_option maxRecDepth 65536 in
theorem w_alone : about1.alone = true := by decide +kernel
set_option maxRecDepth 65536 in
theorem w_named : about1.methodNamed? x = some theMethod := by decide +kernel
set_option maxRecDepth 65536 in
theorem w_hears : about1.hears theMethod below0 = true := by decide +kernel
set_option maxRecDepth 65536 in
theorem w_ripe : about1.ripe theMethod args0 below0 = true := by decide +kernel
theorem w_running : about1.status = .running := rfl
set_option maxRecDepth 65536 in
theorem w_room : about1.hasRoom e0.platform room_1 = true :=
  launch0.hasRoom_least _ room_1 (by decide +kernel) (by decide +kernel) (by decide +kernel) (by decide +kernel) (by decide +kernel) (by decide +kernel)
theorem allAtoms_all (ts : List Jvm.Cond) (a : Array Jvm.Value) (st : Jvm.State) : (allAtoms ts).before a st = ts.all (fun c => c.before a st) := by
  induction ts with
  | nil => rfl
  | cons c t ih =>
    show (Jvm.Cond.and c (allAtoms t)).before a st = _
    rw [Jvm.Cond.before_and, ih, List.all_cons]
def words1 : List Jvm.Cond := Jvm.Cond.code x code maxLocals ret :: tables_1
/-- a 'code' word, met by the world's own term for the bytes: nothing is compared byte by byte -/
theorem code_word {y : MethodName} {bytes : ByteArray} {mx : Nat} {rt : Option FieldType} {a : Array Value} {s : State} {m : MethodId} {meth : Method} {c : Code} (h1 : s.methodNamed? y = some m) (h2 : s.vm.method? m = some meth) (h3 : meth.code = some c) (h4 : c.code = bytes)
    (h5 : (c.maxLocals == mx && c.exceptionTable.isEmpty && decide (c.maxStack ≤ mostOperands) && decide (meth.sig.returnType = rt) && !meth.locks && decide (parseMethodDescriptor y.desc = some meth.sig)) = true) : (Jvm.Cond.code y bytes mx rt).before a s = true := by
  simp only [Bool.and_eq_true, beq_iff_eq, Bool.not_eq_true', decide_eq_true_eq] at h5
  obtain ⟨⟨⟨⟨⟨g1, g2⟩, g3⟩, g4⟩, g5⟩, g6⟩ := h5
  simp [Cond.before, Cond.holds, Cond.value, h1, h2, h3, h4, g1, g2, g3, g4, g5, g6]
def isCode : Jvm.Cond → Bool
  | .code _ _ _ _ => true
  | _ => false
theorem all_split {L : List Jvm.Cond} {P : Jvm.Cond → Bool} (h1 : L.all (fun c => isCode c || P c) = true) (h2 : ∀ c ∈ L.filter isCode, P c = true) : L.all P = true := by
  refine List.all_eq_true.mpr fun c hc => ?_
  have h := List.all_eq_true.mp h1 c hc
  rcases Bool.eq_false_or_eq_true (isCode c) with hi | hi
  · exact h2 c (List.mem_filter.mpr ⟨hc, hi⟩)
  · simpa [hi] using h
set_option maxRecDepth 65536 in
theorem w_c0 : (Jvm.Cond.code x code maxLocals ret).before args0 about1 = true := code_word (m := ⟨1, 1⟩) (meth := k1m1) (c := k1c1) (by decide +kernel) rfl rfl rfl (by decide +kernel)
set_option maxRecDepth 65536 in
theorem w_c1 : (Jvm.Cond.code ({ cls := "java/lang/Math", name := "max", desc := "(JJ)J" } : Jvm.MethodName) jdk_29_method_66_code (4 : Nat) (Option.some Jvm.ClassFile.FieldType.long)).before args0 about1 = true := code_word (m := ⟨2, 1⟩) (meth := k2m1) (c := k2c1) (by decide +kernel) rfl rfl rfl (by decide +kernel)
set_option maxRecDepth 65536 in
theorem w_c2 : (Jvm.Cond.code ({ cls := "com/example/slackwater/slackwater/Decimals", name := "divideRounded", desc := "(JJ)J" } : Jvm.MethodName) prog_21_method_6_code (6 : Nat) (Option.some Jvm.ClassFile.FieldType.long)).before args0 about1 = true := code_word (m := ⟨3, 1⟩) (meth := k3m1) (c := k3c1) (by decide +kernel) rfl rfl rfl (by decide +kernel)
def codes1 : List Jvm.Cond := [Jvm.Cond.code x code maxLocals ret, Jvm.Cond.code ({ cls := "java/lang/Math", name := "max", desc := "(JJ)J" } : Jvm.MethodName) jdk_29_method_66_code (4 : Nat) (Option.some Jvm.ClassFile.FieldType.long), Jvm.Cond.code ({ cls := "com/example/slackwater/slackwater/Decimals", name := "divideRounded", desc := "(JJ)J" } : Jvm.MethodName) prog_21_method_6_code (6 : Nat) (Option.some Jvm.ClassFile.FieldType.long)]
set_option maxRecDepth 65536 in
theorem codes_eq : words1.filter isCode = codes1 := rfl
theorem w_codes : ∀ c ∈ words1.filter isCode, c.before args0 about1 = true := by
  rw [codes_eq]
  intro c hc
  simp only [codes1, List.mem_cons, List.not_mem_nil, or_false] at hc
  rcases hc with rfl | rfl | rfl
  · exact w_c0
  · exact w_c1
  · exact w_c2
set_option maxRecDepth 65536 in
theorem w_t1 : words1.all (fun c => isCode c || c.before args0 about1) = true := by decide +kernel
theorem w_tables : (allAtoms (Jvm.Cond.code x code maxLocals ret :: tables_1)).before args0 about1 = true := by
  rw [allAtoms_all]
  show words1.all (fun c => c.before args0 about1) = true
  refine all_split ?_ w_codes
  rw [w_t1]
set_option maxRecDepth 65536 in
theorem w_case : (Jvm.Cond.and given_1 narrow_1).before args0 about1 = true := by decide +kernel
theorem w_applies : (headSpec (Jvm.Cond.code x code maxLocals ret :: tables_1) room_1).applies x e0.platform about1 = true :=
  (Spec.applies_iff w_frames).mpr ⟨w_running, w_runnable, w_alone, w_named, w_hears, w_ripe, w_room, w_tables⟩
theorem atStart : AtStart classFile x code maxLocals ret World_1 tables_1 room_1 Calls_1 rest_1 Pre_1 launch0 p0 e0 about1 theMethod args0 below0 :=
  ⟨lists_1, trivial, launch0.admits_env _ _ _, launch0.least_env, fairChoices_fair.cas, fairChoices_fair.clock, w_frames, w_args, w_heap, w_applies, trivial, trivial, w_case⟩
end start1
theorem witness_1 : WitnessClaimed_1 := ⟨start1.p0, start1.e0, start1.about1, start1.theMethod, start1.args0, start1.below0, start1.atStart⟩
end Jvm.Pilot.@@N@@
