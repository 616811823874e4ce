import JvmDerived
import JvmDerived.Pilot.@@N@@Statement
import JvmDerived.Pilot.@@N@@Code
set_option linter.unusedVariables false
set_option linter.unusedSimpArgs false
namespace Jvm.RoadKit
open Sem ClassFile Op Lib Jvm.Stand Jvm.Free Jvm.LawKit
section New
variable {p : Program} {l : Launch} {e : Env} {R : Room} {s : State} {m : MethodId} {args : Array Value} {below : List Frame} {meth : Method} {c : Code} {T : State} {locs : List Loc} {cells slots : Nat}
theorem retI (X : Stand p l e R s m args below meth c T locs cells slots) (hx : p.tables.exec = Jvm.exec) {pc : Nat} {Ls : Array Slot} {z : Int32} {rest : List Value} (hret : meth.sig.returnType = some .int) (hd : decode c.code pc = .ok (.ireturn, 1)) {fs : List Frame}
    (hl : ∀ (f : JFrame) (acts : List Action), f.method = m → f.locked = none → f.entered = [] → (doReturn e (T.setTop f) acts (some (.int z))).1 = T.setFrames fs) : Steps p.tables e below (T.setTop (mkF m pc Ls (.int z :: rest))) (T.setFrames fs) := by
  have hm' : T.vm.method? m = some meth := X.method'
  have hn : narrow .int (.int z) = .int z := rfl
  show Steps p.tables e below (T.setTop { method := m, pc := pc, locals := Ls, stack := _ :: rest, locked := none }) _
  jvm_step X.here [X.here.top, hx, hd, hm', hret, hn]
  first | (intro acts; rw [hl _ acts rfl rfl rfl]) | rw [hl _ _ rfl rfl rfl]
  exact Steps.refl _
end New
end Jvm.RoadKit
namespace Jvm.Pilot.@@N@@
open Jvm Jvm.ClassFile Sem Op Lib Jvm.Free Jvm.Stand Jvm.LawKit Jvm.RoadKit Bundle Jvm.Pilot.@@N@@.Jvm.D
def own_ceil (a b : Int64) : Int64 := if a - (a / b) * b = 0 then a / b else if a ^^^ b < 0 then a / b else a / b + 1
theorem own_sub (a t b : Int64) : a - (t + 1) * b = (a - t * b) - b := by
  apply Int64.toInt_inj.mp
  have e : (t + 1) * b = t * b + b := by rw [Int64.add_mul, Int64.one_mul]
  rw [e]
  have s1 := c_ladd (t * b) b
  have s2 := c_lsub a (t * b + b)
  have s3 := c_lsub a (t * b)
  have s4 := c_lsub (a - t * b) b
  have r1 := rng64 (a - (t * b + b))
  have r2 := rng64 (a - t * b - b)
  omega
theorem own_rem (a b : Int64) (hb : ¬ b = 0) : (0 ≤ a.toInt → 0 ≤ (a - (a / b) * b).toInt ∧ (a - (a / b) * b).toInt < (b.toInt.natAbs : Int)) ∧ (a.toInt < 0 → (a - (a / b) * b).toInt ≤ 0 ∧ -(b.toInt.natAbs : Int) < (a - (a / b) * b).toInt) := by
  have hB : b.toInt ≠ 0 := fun k => hb (Int64.toInt_inj.mp (k.trans (by decide)))
  have s := c_lrem a b b.toInt rfl
  constructor
  · intro h
    rw [s.1 h]
    exact ⟨Int.emod_nonneg _ hB, Int.emod_lt _ hB⟩
  · intro h
    rw [s.2 h]
    have g1 := Int.emod_nonneg (-a.toInt) hB
    have g2 := Int.emod_lt (-a.toInt) hB
    omega
theorem own_pin (a b : Int64) (hb : ¬ b = 0) : (own_ceil a b = a / b ∨ own_ceil a b = a / b + 1) ∧ (0 < b → ¬ 0 < a - own_ceil a b * b ∧ 0 < (a - own_ceil a b * b) + b) ∧ (¬ 0 < b → ¬ a - own_ceil a b * b < 0 ∧ (a - own_ceil a b * b) + b < 0) := by
  have hB : b.toInt ≠ 0 := fun k => hb (Int64.toInt_inj.mp (k.trans (by decide)))
  have k0 : (0 : Int64).toInt = 0 := by decide
  have R := own_rem a b hb
  have X := c_xorSL a b
  have ra := rng64 a
  have rb := rng64 b
  by_cases h1 : a - (a / b) * b = 0
  · have e : own_ceil a b = a / b := if_pos h1
    rw [e, h1]
    refine ⟨Or.inl rfl, fun h => ?_, fun h => ?_⟩
    · rw [Int64.lt_iff_toInt_lt, k0] at h
      simp only [Int64.lt_iff_toInt_lt, k0, Int64.zero_add]
      omega
    · rw [Int64.lt_iff_toInt_lt, k0] at h
      simp only [Int64.lt_iff_toInt_lt, k0, Int64.zero_add]
      omega
  · have m0 : (a - (a / b) * b).toInt ≠ 0 := fun k => h1 (Int64.toInt_inj.mp (k.trans (by decide)))
    by_cases h2 : a ^^^ b < 0
    · have e : own_ceil a b = a / b := (if_neg h1).trans (if_pos h2)
      rw [e]
      rw [Int64.lt_iff_toInt_lt, k0] at h2
      have s1 := c_ladd (a - (a / b) * b) b
      have r1 := rng64 (a - (a / b) * b + b)
      refine ⟨Or.inl rfl, fun h => ?_, fun h => ?_⟩
      · rw [Int64.lt_iff_toInt_lt, k0] at h
        simp only [Int64.lt_iff_toInt_lt, k0]
        omega
      · rw [Int64.lt_iff_toInt_lt, k0] at h
        simp only [Int64.lt_iff_toInt_lt, k0]
        omega
    · have e : own_ceil a b = a / b + 1 := (if_neg h1).trans (if_neg h2)
      rw [e, own_sub]
      rw [Int64.lt_iff_toInt_lt, k0] at h2
      have s0 := c_lsub (a - (a / b) * b) b
      have r0 := rng64 (a - (a / b) * b - b)
      have s1 := c_ladd (a - (a / b) * b - b) b
      have r1 := rng64 (a - (a / b) * b - b + b)
      refine ⟨Or.inr rfl, fun h => ?_, fun h => ?_⟩
      · rw [Int64.lt_iff_toInt_lt, k0] at h
        simp only [Int64.lt_iff_toInt_lt, k0]
        omega
      · rw [Int64.lt_iff_toInt_lt, k0] at h
        simp only [Int64.lt_iff_toInt_lt, k0]
        omega
theorem d1_0 : decode prog_46_method_2_code 0 = .ok (.lload_n 0, 1) := by decide +kernel
theorem d1_1 : decode prog_46_method_2_code 1 = .ok (.lload_n 2, 1) := by decide +kernel
theorem d1_2 : decode prog_46_method_2_code 2 = .ok (.ldiv, 1) := by decide +kernel
theorem d1_3 : decode prog_46_method_2_code 3 = .ok (.lstore 4, 2) := by decide +kernel
theorem d1_5 : decode prog_46_method_2_code 5 = .ok (.lload_n 0, 1) := by decide +kernel
theorem d1_6 : decode prog_46_method_2_code 6 = .ok (.lload_n 2, 1) := by decide +kernel
theorem d1_7 : decode prog_46_method_2_code 7 = .ok (.lrem, 1) := by decide +kernel
theorem d1_8 : decode prog_46_method_2_code 8 = .ok (.lconst 0, 1) := by decide +kernel
theorem d1_9 : decode prog_46_method_2_code 9 = .ok (.lcmp, 1) := by decide +kernel
theorem d1_10 : decode prog_46_method_2_code 10 = .ok (.ifCond .eq 18, 3) := by decide +kernel
theorem d1_28 : decode prog_46_method_2_code 28 = .ok (.lload 4, 2) := by decide +kernel
theorem d1_30 : decode prog_46_method_2_code 30 = .ok (.lreturn, 1) := by decide +kernel
theorem pn_1 : plainName "com/example/loops_to_gates/loopstogates/util/LongMath" = true := by first | (simp [plainName, overriddenIn]; done) | decide +kernel
theorem ef_1 (m : MethodId) (x0 : Int64) (x1 : Int64) : entryFrame m #[(.long x0), (.long x1)] 6 = mkF m 0 #[.val (.long x0), .second, .val (.long x1), .second, .unset, .unset] [] := by first | (simp [entryFrame, mkF, argsToLocals, Value.category]; done) | rfl
def Q1 (Z : State) (q1 : Int64) (q2 : Int64) (r : Int64) (h0 : Heap) (n0 : Nat) (v : Option Value) (h : Heap) (L : List Loc) : Prop := v = some (.long r) ∧ Fr n0 L ∧ h = h0
set_option maxRecDepth 65536 in
set_option maxHeartbeats 40000000 in
theorem rm1_t (l : Launch) (Z : State) (a0 : Array Value) (hw : ∀ d ∈ tables_1, d.before a0 Z = true) (ws : List Jvm.Cond) (q1 : Int64) (q2 : Int64) (h0 : Heap) (n0 : Nat) (Z0 : n0 ≤ h0.size) (hnz2 : ¬ (q2 = (0 : Int64))) (hnz7 : ¬ (q2 = (0 : Int64))) (hc10 : (lcmpW (q1 - (q1 / q2) * q2) (0 : Int64)) = (0 : Int32)) :
    MetFree l (⟨"com/example/loops_to_gates/loopstogates/util/LongMath", "ceilDiv", "(JJ)J"⟩ : MethodName) (head1 (Jvm.Cond.code (⟨"com/example/loops_to_gates/loopstogates/util/LongMath", "ceilDiv", "(JJ)J"⟩ : MethodName) prog_46_method_2_code 6 (some .long) :: ws) ({ frames := 0, cells := 0, slots := 0, locals := 0 } : Room)) (fun a U => a = #[(.long q1), (.long q2)] ∧ Z.Warmed39 U.vm ∧ U.heap = h0) (fun _ _ _ _ _ => True) (fun _ U o U' => ∃ v L, o = .returned v ∧ Q1 Z q1 q2 (q1 / q2) h0 n0 v U'.heap L ∧ FrameEnd U o U' L ({ frames := 0, cells := 0, slots := 0, locals := 0 } : Room).cells ({ frames := 0, cells := 0, slots := 0, locals := 0 } : Room).slots) := by
  refine MetFree.of_bodySF (plainFor_of_name pn_1) hisR ?_
  intro p e s m args below meth c s₁ Bd hml0 hP hK
  obtain ⟨rfl, hZ, hh⟩ := hP
  have hx := Bd.exec
  have hby := Bd.bytes
  have hml : c.maxLocals = 6 := hml0
  have hown : s.vm.findClass "com/example/loops_to_gates/loopstogates/util/LongMath" = some m.cls := findClass_of_methodNamed Bd.named
  have hnm := (name_of_methodNamed Bd.named Bd.method).1
  have X0 : Stand p l e ({ frames := 0, cells := 0, slots := 0, locals := 0 } : Room) s m #[(.long q1), (.long q2)] below meth c s₁ [] 0 0 := Stand.of_body Bd
  have e0 : s₁.heap = h0 := by rw [← hh, Bd.state]; rfl
  have N0 := Fr.nil n0
  have pre0 : ∀ t, Steps p.tables e below (s₁.setTop (mkF m 0 #[.val (.long q1), .second, .val (.long q2), .second, .unset, .unset] [])) t → Steps p.tables e below (s₁.setTop (entryFrame m #[(.long q1), (.long q2)] 6)) t := fun t k => castTop (ef_1 m q1 q2) k
  obtain ⟨fs, hr, hrun, hended, hW, hsame⟩ := X0.leave (v := some (.long (q1 / q2))) (fun h => by rw [Bd.returns] at h; cases h)
  refine ⟨_, _, pre0 _ ?_, hrun, hended, _, _, rfl, ?_, ⟨_, rfl⟩, hW, hsame.mono (by decide) (by decide)⟩
  · show Steps p.tables e below (s₁.setTop (mkF m 0 #[.val (.long q1), .second, .val (.long q2), .second, .unset, .unset] [])) _
    refine XS.lloadN X0.here hx rfl (hb hby d1_0) rfl ?_
    show Steps p.tables e below (s₁.setTop (mkF m 1 #[.val (.long q1), .second, .val (.long q2), .second, .unset, .unset] [(.long q1)])) _
    refine XS.lloadN X0.here hx rfl (hb hby d1_1) rfl ?_
    show Steps p.tables e below (s₁.setTop (mkF m 2 #[.val (.long q1), .second, .val (.long q2), .second, .unset, .unset] [(.long q2), (.long q1)])) _
    refine XS.ldiv X0.here hx rfl (hb hby d1_2) rfl hnz2 ?_
    show Steps p.tables e below (s₁.setTop (mkF m 3 #[.val (.long q1), .second, .val (.long q2), .second, .unset, .unset] [(.long (q1 / q2))])) _
    refine XS.lstore X0.here hx rfl (hb hby d1_3) rfl (l' := #[.val (.long q1), .second, .val (.long q2), .second, .val (.long (q1 / q2)), .second]) rfl ?_
    show Steps p.tables e below (s₁.setTop (mkF m 5 #[.val (.long q1), .second, .val (.long q2), .second, .val (.long (q1 / q2)), .second] [])) _
    refine XS.lloadN X0.here hx rfl (hb hby d1_5) rfl ?_
    show Steps p.tables e below (s₁.setTop (mkF m 6 #[.val (.long q1), .second, .val (.long q2), .second, .val (.long (q1 / q2)), .second] [(.long q1)])) _
    refine XS.lloadN X0.here hx rfl (hb hby d1_6) rfl ?_
    show Steps p.tables e below (s₁.setTop (mkF m 7 #[.val (.long q1), .second, .val (.long q2), .second, .val (.long (q1 / q2)), .second] [(.long q2), (.long q1)])) _
    refine XS.lrem X0.here hx rfl (hb hby d1_7) rfl hnz7 ?_
    show Steps p.tables e below (s₁.setTop (mkF m 8 #[.val (.long q1), .second, .val (.long q2), .second, .val (.long (q1 / q2)), .second] [(.long (q1 - (q1 / q2) * q2))])) _
    refine XS.lconst X0.here hx rfl (hb hby d1_8) ?_
    show Steps p.tables e below (s₁.setTop (mkF m 9 #[.val (.long q1), .second, .val (.long q2), .second, .val (.long (q1 / q2)), .second] [(.long (0 : Int64)), (.long (q1 - (q1 / q2) * q2))])) _
    refine XS.lcmp X0.here hx rfl (hb hby d1_9) rfl ?_
    show Steps p.tables e below (s₁.setTop (mkF m 10 #[.val (.long q1), .second, .val (.long q2), .second, .val (.long (q1 / q2)), .second] [(.int (lcmpW (q1 - (q1 / q2) * q2) (0 : Int64)))])) _
    refine XS.ifYes X0.here hx rfl (pc0 := 10) (pc' := 28) rfl (hb hby d1_10) rfl ((if0 _ _).trans (teq hc10).1) (by decide) (by decide) ?_
    show Steps p.tables e below (s₁.setTop (mkF m 28 #[.val (.long q1), .second, .val (.long q2), .second, .val (.long (q1 / q2)), .second] [])) _
    refine XS.lload X0.here hx rfl (hb hby d1_28) rfl ?_
    show Steps p.tables e below (s₁.setTop (mkF m 30 #[.val (.long q1), .second, .val (.long q2), .second, .val (.long (q1 / q2)), .second] [(.long (q1 / q2))])) _
    jvm_step X0.here [X0.here.top, hx, (hb hby d1_30), X0.method', Bd.returns, narrow]
    first | (intro acts; rw [hr _ acts rfl rfl rfl]) | rw [hr _ _ rfl rfl rfl]
    exact Steps.refl _
  · show Q1 Z q1 q2 (q1 / q2) h0 n0 _ s₁.heap _
    rw [e0]
    exact ⟨rfl, N0, rfl⟩
theorem d1_13 : decode prog_46_method_2_code 13 = .ok (.lload_n 0, 1) := by decide +kernel
theorem d1_14 : decode prog_46_method_2_code 14 = .ok (.lload_n 2, 1) := by decide +kernel
theorem d1_15 : decode prog_46_method_2_code 15 = .ok (.lxor, 1) := by decide +kernel
theorem d1_16 : decode prog_46_method_2_code 16 = .ok (.lconst 0, 1) := by decide +kernel
theorem d1_17 : decode prog_46_method_2_code 17 = .ok (.lcmp, 1) := by decide +kernel
theorem d1_18 : decode prog_46_method_2_code 18 = .ok (.ifCond .lt 10, 3) := by decide +kernel
set_option maxRecDepth 65536 in
set_option maxHeartbeats 40000000 in
theorem rm1_ft (l : Launch) (Z : State) (a0 : Array Value) (hw : ∀ d ∈ tables_1, d.before a0 Z = true) (ws : List Jvm.Cond) (q1 : Int64) (q2 : Int64) (h0 : Heap) (n0 : Nat) (Z0 : n0 ≤ h0.size) (hnz2 : ¬ (q2 = (0 : Int64))) (hnz7 : ¬ (q2 = (0 : Int64))) (hc10 : ¬ ((lcmpW (q1 - (q1 / q2) * q2) (0 : Int64)) = (0 : Int32))) (hc18 : (lcmpW (q1 ^^^ q2) (0 : Int64)) < (0 : Int32)) :
    MetFree l (⟨"com/example/loops_to_gates/loopstogates/util/LongMath", "ceilDiv", "(JJ)J"⟩ : MethodName) (head1 (Jvm.Cond.code (⟨"com/example/loops_to_gates/loopstogates/util/LongMath", "ceilDiv", "(JJ)J"⟩ : MethodName) prog_46_method_2_code 6 (some .long) :: ws) ({ frames := 0, cells := 0, slots := 0, locals := 0 } : Room)) (fun a U => a = #[(.long q1), (.long q2)] ∧ Z.Warmed39 U.vm ∧ U.heap = h0) (fun _ _ _ _ _ => True) (fun _ U o U' => ∃ v L, o = .returned v ∧ Q1 Z q1 q2 (q1 / q2) h0 n0 v U'.heap L ∧ FrameEnd U o U' L ({ frames := 0, cells := 0, slots := 0, locals := 0 } : Room).cells ({ frames := 0, cells := 0, slots := 0, locals := 0 } : Room).slots) := by
  refine MetFree.of_bodySF (plainFor_of_name pn_1) hisR ?_
  intro p e s m args below meth c s₁ Bd hml0 hP hK
  obtain ⟨rfl, hZ, hh⟩ := hP
  have hx := Bd.exec
  have hby := Bd.bytes
  have hml : c.maxLocals = 6 := hml0
  have hown : s.vm.findClass "com/example/loops_to_gates/loopstogates/util/LongMath" = some m.cls := findClass_of_methodNamed Bd.named
  have hnm := (name_of_methodNamed Bd.named Bd.method).1
  have X0 : Stand p l e ({ frames := 0, cells := 0, slots := 0, locals := 0 } : Room) s m #[(.long q1), (.long q2)] below meth c s₁ [] 0 0 := Stand.of_body Bd
  have e0 : s₁.heap = h0 := by rw [← hh, Bd.state]; rfl
  have N0 := Fr.nil n0
  have pre0 : ∀ t, Steps p.tables e below (s₁.setTop (mkF m 0 #[.val (.long q1), .second, .val (.long q2), .second, .unset, .unset] [])) t → Steps p.tables e below (s₁.setTop (entryFrame m #[(.long q1), (.long q2)] 6)) t := fun t k => castTop (ef_1 m q1 q2) k
  obtain ⟨fs, hr, hrun, hended, hW, hsame⟩ := X0.leave (v := some (.long (q1 / q2))) (fun h => by rw [Bd.returns] at h; cases h)
  refine ⟨_, _, pre0 _ ?_, hrun, hended, _, _, rfl, ?_, ⟨_, rfl⟩, hW, hsame.mono (by decide) (by decide)⟩
  · show Steps p.tables e below (s₁.setTop (mkF m 0 #[.val (.long q1), .second, .val (.long q2), .second, .unset, .unset] [])) _
    refine XS.lloadN X0.here hx rfl (hb hby d1_0) rfl ?_
    show Steps p.tables e below (s₁.setTop (mkF m 1 #[.val (.long q1), .second, .val (.long q2), .second, .unset, .unset] [(.long q1)])) _
    refine XS.lloadN X0.here hx rfl (hb hby d1_1) rfl ?_
    show Steps p.tables e below (s₁.setTop (mkF m 2 #[.val (.long q1), .second, .val (.long q2), .second, .unset, .unset] [(.long q2), (.long q1)])) _
    refine XS.ldiv X0.here hx rfl (hb hby d1_2) rfl hnz2 ?_
    show Steps p.tables e below (s₁.setTop (mkF m 3 #[.val (.long q1), .second, .val (.long q2), .second, .unset, .unset] [(.long (q1 / q2))])) _
    refine XS.lstore X0.here hx rfl (hb hby d1_3) rfl (l' := #[.val (.long q1), .second, .val (.long q2), .second, .val (.long (q1 / q2)), .second]) rfl ?_
    show Steps p.tables e below (s₁.setTop (mkF m 5 #[.val (.long q1), .second, .val (.long q2), .second, .val (.long (q1 / q2)), .second] [])) _
    refine XS.lloadN X0.here hx rfl (hb hby d1_5) rfl ?_
    show Steps p.tables e below (s₁.setTop (mkF m 6 #[.val (.long q1), .second, .val (.long q2), .second, .val (.long (q1 / q2)), .second] [(.long q1)])) _
    refine XS.lloadN X0.here hx rfl (hb hby d1_6) rfl ?_
    show Steps p.tables e below (s₁.setTop (mkF m 7 #[.val (.long q1), .second, .val (.long q2), .second, .val (.long (q1 / q2)), .second] [(.long q2), (.long q1)])) _
    refine XS.lrem X0.here hx rfl (hb hby d1_7) rfl hnz7 ?_
    show Steps p.tables e below (s₁.setTop (mkF m 8 #[.val (.long q1), .second, .val (.long q2), .second, .val (.long (q1 / q2)), .second] [(.long (q1 - (q1 / q2) * q2))])) _
    refine XS.lconst X0.here hx rfl (hb hby d1_8) ?_
    show Steps p.tables e below (s₁.setTop (mkF m 9 #[.val (.long q1), .second, .val (.long q2), .second, .val (.long (q1 / q2)), .second] [(.long (0 : Int64)), (.long (q1 - (q1 / q2) * q2))])) _
    refine XS.lcmp X0.here hx rfl (hb hby d1_9) rfl ?_
    show Steps p.tables e below (s₁.setTop (mkF m 10 #[.val (.long q1), .second, .val (.long q2), .second, .val (.long (q1 / q2)), .second] [(.int (lcmpW (q1 - (q1 / q2) * q2) (0 : Int64)))])) _
    refine XS.ifNo X0.here hx rfl (hb hby d1_10) rfl ((if0 _ _).trans (feq hc10).1) ?_
    show Steps p.tables e below (s₁.setTop (mkF m 13 #[.val (.long q1), .second, .val (.long q2), .second, .val (.long (q1 / q2)), .second] [])) _
    refine XS.lloadN X0.here hx rfl (hb hby d1_13) rfl ?_
    show Steps p.tables e below (s₁.setTop (mkF m 14 #[.val (.long q1), .second, .val (.long q2), .second, .val (.long (q1 / q2)), .second] [(.long q1)])) _
    refine XS.lloadN X0.here hx rfl (hb hby d1_14) rfl ?_
    show Steps p.tables e below (s₁.setTop (mkF m 15 #[.val (.long q1), .second, .val (.long q2), .second, .val (.long (q1 / q2)), .second] [(.long q2), (.long q1)])) _
    refine XS.lxor X0.here hx rfl (hb hby d1_15) rfl ?_
    show Steps p.tables e below (s₁.setTop (mkF m 16 #[.val (.long q1), .second, .val (.long q2), .second, .val (.long (q1 / q2)), .second] [(.long (q1 ^^^ q2))])) _
    refine XS.lconst X0.here hx rfl (hb hby d1_16) ?_
    show Steps p.tables e below (s₁.setTop (mkF m 17 #[.val (.long q1), .second, .val (.long q2), .second, .val (.long (q1 / q2)), .second] [(.long (0 : Int64)), (.long (q1 ^^^ q2))])) _
    refine XS.lcmp X0.here hx rfl (hb hby d1_17) rfl ?_
    show Steps p.tables e below (s₁.setTop (mkF m 18 #[.val (.long q1), .second, .val (.long q2), .second, .val (.long (q1 / q2)), .second] [(.int (lcmpW (q1 ^^^ q2) (0 : Int64)))])) _
    refine XS.ifYes X0.here hx rfl (pc0 := 18) (pc' := 28) rfl (hb hby d1_18) rfl ((if0 _ _).trans (tlt hc18).1) (by decide) (by decide) ?_
    show Steps p.tables e below (s₁.setTop (mkF m 28 #[.val (.long q1), .second, .val (.long q2), .second, .val (.long (q1 / q2)), .second] [])) _
    refine XS.lload X0.here hx rfl (hb hby d1_28) rfl ?_
    show Steps p.tables e below (s₁.setTop (mkF m 30 #[.val (.long q1), .second, .val (.long q2), .second, .val (.long (q1 / q2)), .second] [(.long (q1 / q2))])) _
    jvm_step X0.here [X0.here.top, hx, (hb hby d1_30), X0.method', Bd.returns, narrow]
    first | (intro acts; rw [hr _ acts rfl rfl rfl]) | rw [hr _ _ rfl rfl rfl]
    exact Steps.refl _
  · show Q1 Z q1 q2 (q1 / q2) h0 n0 _ s₁.heap _
    rw [e0]
    exact ⟨rfl, N0, rfl⟩
theorem d1_21 : decode prog_46_method_2_code 21 = .ok (.lload 4, 2) := by decide +kernel
theorem d1_23 : decode prog_46_method_2_code 23 = .ok (.lconst 1, 1) := by decide +kernel
theorem d1_24 : decode prog_46_method_2_code 24 = .ok (.ladd, 1) := by decide +kernel
theorem d1_25 : decode prog_46_method_2_code 25 = .ok (.goto 5, 3) := by decide +kernel
set_option maxRecDepth 65536 in
set_option maxHeartbeats 40000000 in
theorem rm1_ff (l : Launch) (Z : State) (a0 : Array Value) (hw : ∀ d ∈ tables_1, d.before a0 Z = true) (ws : List Jvm.Cond) (q1 : Int64) (q2 : Int64) (h0 : Heap) (n0 : Nat) (Z0 : n0 ≤ h0.size) (hnz2 : ¬ (q2 = (0 : Int64))) (hnz7 : ¬ (q2 = (0 : Int64))) (hc10 : ¬ ((lcmpW (q1 - (q1 / q2) * q2) (0 : Int64)) = (0 : Int32))) (hc18 : ¬ ((lcmpW (q1 ^^^ q2) (0 : Int64)) < (0 : Int32))) :
    MetFree l (⟨"com/example/loops_to_gates/loopstogates/util/LongMath", "ceilDiv", "(JJ)J"⟩ : MethodName) (head1 (Jvm.Cond.code (⟨"com/example/loops_to_gates/loopstogates/util/LongMath", "ceilDiv", "(JJ)J"⟩ : MethodName) prog_46_method_2_code 6 (some .long) :: ws) ({ frames := 0, cells := 0, slots := 0, locals := 0 } : Room)) (fun a U => a = #[(.long q1), (.long q2)] ∧ Z.Warmed39 U.vm ∧ U.heap = h0) (fun _ _ _ _ _ => True) (fun _ U o U' => ∃ v L, o = .returned v ∧ Q1 Z q1 q2 ((q1 / q2) + (1 : Int64)) h0 n0 v U'.heap L ∧ FrameEnd U o U' L ({ frames := 0, cells := 0, slots := 0, locals := 0 } : Room).cells ({ frames := 0, cells := 0, slots := 0, locals := 0 } : Room).slots) := by
  refine MetFree.of_bodySF (plainFor_of_name pn_1) hisR ?_
  intro p e s m args below meth c s₁ Bd hml0 hP hK
  obtain ⟨rfl, hZ, hh⟩ := hP
  have hx := Bd.exec
  have hby := Bd.bytes
  have hml : c.maxLocals = 6 := hml0
  have hown : s.vm.findClass "com/example/loops_to_gates/loopstogates/util/LongMath" = some m.cls := findClass_of_methodNamed Bd.named
  have hnm := (name_of_methodNamed Bd.named Bd.method).1
  have X0 : Stand p l e ({ frames := 0, cells := 0, slots := 0, locals := 0 } : Room) s m #[(.long q1), (.long q2)] below meth c s₁ [] 0 0 := Stand.of_body Bd
  have e0 : s₁.heap = h0 := by rw [← hh, Bd.state]; rfl
  have N0 := Fr.nil n0
  have pre0 : ∀ t, Steps p.tables e below (s₁.setTop (mkF m 0 #[.val (.long q1), .second, .val (.long q2), .second, .unset, .unset] [])) t → Steps p.tables e below (s₁.setTop (entryFrame m #[(.long q1), (.long q2)] 6)) t := fun t k => castTop (ef_1 m q1 q2) k
  obtain ⟨fs, hr, hrun, hended, hW, hsame⟩ := X0.leave (v := some (.long ((q1 / q2) + (1 : Int64)))) (fun h => by rw [Bd.returns] at h; cases h)
  refine ⟨_, _, pre0 _ ?_, hrun, hended, _, _, rfl, ?_, ⟨_, rfl⟩, hW, hsame.mono (by decide) (by decide)⟩
  · show Steps p.tables e below (s₁.setTop (mkF m 0 #[.val (.long q1), .second, .val (.long q2), .second, .unset, .unset] [])) _
    refine XS.lloadN X0.here hx rfl (hb hby d1_0) rfl ?_
    show Steps p.tables e below (s₁.setTop (mkF m 1 #[.val (.long q1), .second, .val (.long q2), .second, .unset, .unset] [(.long q1)])) _
    refine XS.lloadN X0.here hx rfl (hb hby d1_1) rfl ?_
    show Steps p.tables e below (s₁.setTop (mkF m 2 #[.val (.long q1), .second, .val (.long q2), .second, .unset, .unset] [(.long q2), (.long q1)])) _
    refine XS.ldiv X0.here hx rfl (hb hby d1_2) rfl hnz2 ?_
    show Steps p.tables e below (s₁.setTop (mkF m 3 #[.val (.long q1), .second, .val (.long q2), .second, .unset, .unset] [(.long (q1 / q2))])) _
    refine XS.lstore X0.here hx rfl (hb hby d1_3) rfl (l' := #[.val (.long q1), .second, .val (.long q2), .second, .val (.long (q1 / q2)), .second]) rfl ?_
    show Steps p.tables e below (s₁.setTop (mkF m 5 #[.val (.long q1), .second, .val (.long q2), .second, .val (.long (q1 / q2)), .second] [])) _
    refine XS.lloadN X0.here hx rfl (hb hby d1_5) rfl ?_
    show Steps p.tables e below (s₁.setTop (mkF m 6 #[.val (.long q1), .second, .val (.long q2), .second, .val (.long (q1 / q2)), .second] [(.long q1)])) _
    refine XS.lloadN X0.here hx rfl (hb hby d1_6) rfl ?_
    show Steps p.tables e below (s₁.setTop (mkF m 7 #[.val (.long q1), .second, .val (.long q2), .second, .val (.long (q1 / q2)), .second] [(.long q2), (.long q1)])) _
    refine XS.lrem X0.here hx rfl (hb hby d1_7) rfl hnz7 ?_
    show Steps p.tables e below (s₁.setTop (mkF m 8 #[.val (.long q1), .second, .val (.long q2), .second, .val (.long (q1 / q2)), .second] [(.long (q1 - (q1 / q2) * q2))])) _
    refine XS.lconst X0.here hx rfl (hb hby d1_8) ?_
    show Steps p.tables e below (s₁.setTop (mkF m 9 #[.val (.long q1), .second, .val (.long q2), .second, .val (.long (q1 / q2)), .second] [(.long (0 : Int64)), (.long (q1 - (q1 / q2) * q2))])) _
    refine XS.lcmp X0.here hx rfl (hb hby d1_9) rfl ?_
    show Steps p.tables e below (s₁.setTop (mkF m 10 #[.val (.long q1), .second, .val (.long q2), .second, .val (.long (q1 / q2)), .second] [(.int (lcmpW (q1 - (q1 / q2) * q2) (0 : Int64)))])) _
    refine XS.ifNo X0.here hx rfl (hb hby d1_10) rfl ((if0 _ _).trans (feq hc10).1) ?_
    show Steps p.tables e below (s₁.setTop (mkF m 13 #[.val (.long q1), .second, .val (.long q2), .second, .val (.long (q1 / q2)), .second] [])) _
    refine XS.lloadN X0.here hx rfl (hb hby d1_13) rfl ?_
    show Steps p.tables e below (s₁.setTop (mkF m 14 #[.val (.long q1), .second, .val (.long q2), .second, .val (.long (q1 / q2)), .second] [(.long q1)])) _
    refine XS.lloadN X0.here hx rfl (hb hby d1_14) rfl ?_
    show Steps p.tables e below (s₁.setTop (mkF m 15 #[.val (.long q1), .second, .val (.long q2), .second, .val (.long (q1 / q2)), .second] [(.long q2), (.long q1)])) _
    refine XS.lxor X0.here hx rfl (hb hby d1_15) rfl ?_
    show Steps p.tables e below (s₁.setTop (mkF m 16 #[.val (.long q1), .second, .val (.long q2), .second, .val (.long (q1 / q2)), .second] [(.long (q1 ^^^ q2))])) _
    refine XS.lconst X0.here hx rfl (hb hby d1_16) ?_
    show Steps p.tables e below (s₁.setTop (mkF m 17 #[.val (.long q1), .second, .val (.long q2), .second, .val (.long (q1 / q2)), .second] [(.long (0 : Int64)), (.long (q1 ^^^ q2))])) _
    refine XS.lcmp X0.here hx rfl (hb hby d1_17) rfl ?_
    show Steps p.tables e below (s₁.setTop (mkF m 18 #[.val (.long q1), .second, .val (.long q2), .second, .val (.long (q1 / q2)), .second] [(.int (lcmpW (q1 ^^^ q2) (0 : Int64)))])) _
    refine XS.ifNo X0.here hx rfl (hb hby d1_18) rfl ((if0 _ _).trans (flt hc18).1) ?_
    show Steps p.tables e below (s₁.setTop (mkF m 21 #[.val (.long q1), .second, .val (.long q2), .second, .val (.long (q1 / q2)), .second] [])) _
    refine XS.lload X0.here hx rfl (hb hby d1_21) rfl ?_
    show Steps p.tables e below (s₁.setTop (mkF m 23 #[.val (.long q1), .second, .val (.long q2), .second, .val (.long (q1 / q2)), .second] [(.long (q1 / q2))])) _
    refine XS.lconst X0.here hx rfl (hb hby d1_23) ?_
    show Steps p.tables e below (s₁.setTop (mkF m 24 #[.val (.long q1), .second, .val (.long q2), .second, .val (.long (q1 / q2)), .second] [(.long (1 : Int64)), (.long (q1 / q2))])) _
    refine XS.ladd X0.here hx rfl (hb hby d1_24) rfl ?_
    show Steps p.tables e below (s₁.setTop (mkF m 25 #[.val (.long q1), .second, .val (.long q2), .second, .val (.long (q1 / q2)), .second] [(.long ((q1 / q2) + (1 : Int64)))])) _
    refine XS.goto X0.here hx rfl (pc0 := 25) (pc' := 30) rfl (hb hby d1_25) (by decide) (by decide) ?_
    show Steps p.tables e below (s₁.setTop (mkF m 30 #[.val (.long q1), .second, .val (.long q2), .second, .val (.long (q1 / q2)), .second] [(.long ((q1 / q2) + (1 : Int64)))])) _
    jvm_step X0.here [X0.here.top, hx, (hb hby d1_30), X0.method', Bd.returns, narrow]
    first | (intro acts; rw [hr _ acts rfl rfl rfl]) | rw [hr _ _ rfl rfl rfl]
    exact Steps.refl _
  · show Q1 Z q1 q2 ((q1 / q2) + (1 : Int64)) h0 n0 _ s₁.heap _
    rw [e0]
    exact ⟨rfl, N0, rfl⟩
theorem rm1 (l : Launch) (Z : State) (a0 : Array Value) (hw : ∀ d ∈ tables_1, d.before a0 Z = true) (ws : List Jvm.Cond) (q1 : Int64) (q2 : Int64) (h0 : Heap) (n0 : Nat) (Z0 : n0 ≤ h0.size) (hz : ¬ (q2 = (0 : Int64))) :
    MetFree l (⟨"com/example/loops_to_gates/loopstogates/util/LongMath", "ceilDiv", "(JJ)J"⟩ : MethodName) (head1 (Jvm.Cond.code (⟨"com/example/loops_to_gates/loopstogates/util/LongMath", "ceilDiv", "(JJ)J"⟩ : MethodName) prog_46_method_2_code 6 (some .long) :: ws) ({ frames := 0, cells := 0, slots := 0, locals := 0 } : Room)) (fun a U => a = #[(.long q1), (.long q2)] ∧ Z.Warmed39 U.vm ∧ U.heap = h0) (fun _ _ _ _ _ => True) (fun _ U o U' => ∃ v L, o = .returned v ∧ Q1 Z q1 q2 (own_ceil q1 q2) h0 n0 v U'.heap L ∧ FrameEnd U o U' L ({ frames := 0, cells := 0, slots := 0, locals := 0 } : Room).cells ({ frames := 0, cells := 0, slots := 0, locals := 0 } : Room).slots) := by
  by_cases h1 : q1 - (q1 / q2) * q2 = 0
  · rw [show own_ceil q1 q2 = q1 / q2 from if_pos h1]
    exact rm1_t l Z a0 hw ws q1 q2 h0 n0 Z0 hz hz ((lw_eq _ _).mpr h1)
  · have g1 := fun k => h1 ((lw_eq (q1 - (q1 / q2) * q2) 0).mp k)
    by_cases h2 : q1 ^^^ q2 < 0
    · rw [show own_ceil q1 q2 = q1 / q2 from (if_neg h1).trans (if_pos h2)]
      exact rm1_ft l Z a0 hw ws q1 q2 h0 n0 Z0 hz hz g1 ((lw_lt _ _).mpr h2)
    · rw [show own_ceil q1 q2 = q1 / q2 + 1 from (if_neg h1).trans (if_neg h2)]
      exact rm1_ff l Z a0 hw ws q1 q2 h0 n0 Z0 hz hz g1 (fun k => h2 ((lw_lt _ _).mp k))
theorem pn_0 : plainName "com/example/loops_to_gates/loopstogates/util/LongMathCeilDivPinLaw" = true := by first | (simp [plainName, overriddenIn]; done) | decide +kernel
theorem ef_0 (m : MethodId) (x0 : Int64) (x1 : Int64) : entryFrame m #[(.long x0), (.long x1)] maxLocals = mkF m 0 #[.val (.long x0), .second, .val (.long x1), .second, .unset, .unset, .unset, .unset, .unset, .unset, .unset, .unset] [] := by first | (simp [entryFrame, mkF, argsToLocals, Value.category, maxLocals]; done) | rfl
def Q0 (Z : State) (q1 : Int64) (q2 : Int64) (h0 : Heap) (n0 : Nat) (v : Option Value) (h : Heap) (L : List Loc) : Prop := v = some (.int (1 : Int32)) ∧ Fr n0 L
set_option maxRecDepth 65536 in
set_option maxHeartbeats 40000000 in
theorem rm0_f (l : Launch) (Z : State) (a0 : Array Value) (hw : ∀ d ∈ tables_1, d.before a0 Z = true) (ws : List Jvm.Cond) (q1 : Int64) (q2 : Int64) (h0 : Heap) (n0 : Nat) (Z0 : n0 ≤ h0.size) (hc3 : (lcmpW q2 (0 : Int64)) = (0 : Int32)) :
    MetFree l x (head1 (Jvm.Cond.code x code maxLocals ret :: ws) room_1) (fun a U => a = #[(.long q1), (.long q2)] ∧ Z.Warmed39 U.vm ∧ U.heap = h0) (fun _ _ _ _ _ => True) (fun _ U o U' => ∃ v L, o = .returned v ∧ Q0 Z q1 q2 h0 n0 v U'.heap L ∧ FrameEnd U o U' L room_1.cells room_1.slots) := by
  refine MetFree.of_bodySF (plainFor_of_name pn_0) hisR ?_
  intro p e s m args below meth c s₁ Bd hml0 hP hK
  obtain ⟨rfl, hZ, hh⟩ := hP
  have hx := Bd.exec
  have hby := Bd.bytes
  have hml : c.maxLocals = 12 := hml0
  have hown : s.vm.findClass "com/example/loops_to_gates/loopstogates/util/LongMathCeilDivPinLaw" = some m.cls := findClass_of_methodNamed Bd.named
  have hnm := (name_of_methodNamed Bd.named Bd.method).1
  have X0 : Stand p l e room_1 s m #[(.long q1), (.long q2)] below meth c s₁ [] 0 0 := Stand.of_body Bd
  have e0 : s₁.heap = h0 := by rw [← hh, Bd.state]; rfl
  have N0 := Fr.nil n0
  have pre0 : ∀ t, Steps p.tables e below (s₁.setTop (mkF m 0 #[.val (.long q1), .second, .val (.long q2), .second, .unset, .unset, .unset, .unset, .unset, .unset, .unset, .unset] [])) t → Steps p.tables e below (s₁.setTop (entryFrame m #[(.long q1), (.long q2)] maxLocals)) t := fun t k => castTop (ef_0 m q1 q2) k
  obtain ⟨fs, hr, hrun, hended, hW, hsame⟩ := X0.leave (v := some (.int (1 : Int32))) (fun h => by rw [Bd.returns] at h; cases h)
  refine ⟨_, _, pre0 _ ?_, hrun, hended, _, _, rfl, ?_, ⟨_, rfl⟩, hW, hsame.mono (by decide) (by decide)⟩
  · show Steps p.tables e below (s₁.setTop (mkF m 0 #[.val (.long q1), .second, .val (.long q2), .second, .unset, .unset, .unset, .unset, .unset, .unset, .unset, .unset] [])) _
    refine XS.lloadN X0.here hx rfl (hb hby at_0) rfl ?_
    show Steps p.tables e below (s₁.setTop (mkF m 1 #[.val (.long q1), .second, .val (.long q2), .second, .unset, .unset, .unset, .unset, .unset, .unset, .unset, .unset] [(.long q2)])) _
    refine XS.lconst X0.here hx rfl (hb hby at_1) ?_
    show Steps p.tables e below (s₁.setTop (mkF m 2 #[.val (.long q1), .second, .val (.long q2), .second, .unset, .unset, .unset, .unset, .unset, .unset, .unset, .unset] [(.long (0 : Int64)), (.long q2)])) _
    refine XS.lcmp X0.here hx rfl (hb hby at_2) rfl ?_
    show Steps p.tables e below (s₁.setTop (mkF m 3 #[.val (.long q1), .second, .val (.long q2), .second, .unset, .unset, .unset, .unset, .unset, .unset, .unset, .unset] [(.int (lcmpW q2 (0 : Int64)))])) _
    refine XS.ifNo X0.here hx rfl (hb hby at_3) rfl ((if0 _ _).trans (teq hc3).2) ?_
    show Steps p.tables e below (s₁.setTop (mkF m 6 #[.val (.long q1), .second, .val (.long q2), .second, .unset, .unset, .unset, .unset, .unset, .unset, .unset, .unset] [])) _
    refine XS.iconst X0.here hx rfl (hb hby at_6) ?_
    show Steps p.tables e below (s₁.setTop (mkF m 7 #[.val (.long q1), .second, .val (.long q2), .second, .unset, .unset, .unset, .unset, .unset, .unset, .unset, .unset] [(.int (1 : Int32))])) _
    exact retN X0 hx (t := .boolean) Bd.returns (by simp) (hb hby at_7) hr
  · show Q0 Z q1 q2 h0 n0 _ s₁.heap _
    rw [e0]
    exact ⟨rfl, N0⟩
theorem pd_0_0 : parseMethodDescriptor "(JJ)J" = some ⟨[.long, .long], some .long⟩ := by decide +kernel
set_option maxRecDepth 65536 in
set_option maxHeartbeats 40000000 in
theorem rm0_ttfffff (l : Launch) (Z : State) (a0 : Array Value) (hw : ∀ d ∈ tables_1, d.before a0 Z = true) (ws : List Jvm.Cond) (q1 : Int64) (q2 : Int64) (h0 : Heap) (n0 : Nat) (Z0 : n0 ≤ h0.size) (hc3 : ¬ ((lcmpW q2 (0 : Int64)) = (0 : Int32))) (hnz17 : ¬ (q2 = (0 : Int64))) (hc56 : (0 : Int32) < (lcmpW q2 (0 : Int64))) (hc110 : ¬ ((1 : Int32) = (0 : Int32))) (hc115 : ¬ ((1 : Int32) = (0 : Int32))) (hx25 : (lcmpW (own_ceil q1 q2) (q1 / q2)) = (0 : Int32)) (hx63 : ¬ ((0 : Int32) < (lcmpW (q1 - ((own_ceil q1 q2) * q2)) (0 : Int64)))) (hx72 : (0 : Int32) < (lcmpW ((q1 - ((own_ceil q1 q2) * q2)) + q2) (0 : Int64))) :
    MetFree l x (head1 (Jvm.Cond.code x code maxLocals ret :: ws) room_1) (fun a U => a = #[(.long q1), (.long q2)] ∧ Z.Warmed39 U.vm ∧ U.heap = h0) (fun _ _ _ _ _ => True) (fun _ U o U' => ∃ v L, o = .returned v ∧ Q0 Z q1 q2 h0 n0 v U'.heap L ∧ FrameEnd U o U' L room_1.cells room_1.slots) := by
  refine MetFree.of_bodySF (plainFor_of_name pn_0) hisR ?_
  intro p e s m args below meth c s₁ Bd hml0 hP hK
  obtain ⟨rfl, hZ, hh⟩ := hP
  have hx := Bd.exec
  have hby := Bd.bytes
  have hml : c.maxLocals = 12 := hml0
  have hown : s.vm.findClass "com/example/loops_to_gates/loopstogates/util/LongMathCeilDivPinLaw" = some m.cls := findClass_of_methodNamed Bd.named
  have hnm := (name_of_methodNamed Bd.named Bd.method).1
  have X0 : Stand p l e room_1 s m #[(.long q1), (.long q2)] below meth c s₁ [] 0 0 := Stand.of_body Bd
  have e0 : s₁.heap = h0 := by rw [← hh, Bd.state]; rfl
  have N0 := Fr.nil n0
  have pre0 : ∀ t, Steps p.tables e below (s₁.setTop (mkF m 0 #[.val (.long q1), .second, .val (.long q2), .second, .unset, .unset, .unset, .unset, .unset, .unset, .unset, .unset] [])) t → Steps p.tables e below (s₁.setTop (entryFrame m #[(.long q1), (.long q2)] maxLocals)) t := fun t k => castTop (ef_0 m q1 q2) k
  obtain ⟨_, _, ⟨T3, L3, k3, n3⟩, -, X3, ⟨Lc3, hQ3, l3, y3, z3⟩, st3⟩ := Jvm.LawKit.callS X0 hx (y := (⟨"com/example/loops_to_gates/loopstogates/util/LongMath", "ceilDiv", "(JJ)J"⟩ : MethodName)) hown (mvT hZ (hw _ (List.mem_of_getElem? (i := 0) rfl))) (mvT hZ (hw _ (List.mem_of_getElem? (i := 1) rfl))) (mvT hZ (hw _ (List.mem_of_getElem? (i := 2) rfl))) (mvT hZ (hw _ (List.mem_of_getElem? (i := 3) rfl))) (by decide) (backOf (W := 0) (rm1 l Z a0 hw [] q1 q2 h0 n0 Z0 (fun k => hc3 ((lw_eq _ _).mpr k))) hZ (hw _ (List.mem_of_getElem? (i := 3) rfl)) (hw _ (List.mem_of_getElem? (i := 2) rfl)) (by decide) (by decide)) (g := (mkF m 10 #[.val (.long q1), .second, .val (.long q2), .second, .unset, .unset, .unset, .unset, .unset, .unset, .unset, .unset] [(.long q2), (.long q1)])) rfl (by rw [hml]; rfl) (argsL := [(.long q1), (.long q2)]) (rest := []) (lenOf pd_0_0 rfl) rfl (by show 2 * 0 + _ ≤ _; exact Nat.le_of_eq rfl) (hb hby at_10) (fun _ _ => ⟨rfl, e0, (by decide : 0 + 0 ≤ _), (by decide : 0 + 0 ≤ _)⟩)
  dsimp only [Pt.U, Pt.locs, Pt.cells, Pt.slots] at X3 l3 y3 z3 st3 hQ3
  subst l3 y3 z3
  obtain ⟨rfl, N3q, e3q⟩ := hQ3
  have N3 := Fr.app N0 N3q
  obtain ⟨fs, hr, hrun, hended, hW, hsame⟩ := X3.leave (v := some (.int (1 : Int32))) (fun h => by rw [Bd.returns] at h; cases h)
  refine ⟨_, _, pre0 _ ?_, hrun, hended, _, _, rfl, ?_, ⟨_, rfl⟩, hW, hsame.mono (by decide) (by decide)⟩
  · show Steps p.tables e below (s₁.setTop (mkF m 0 #[.val (.long q1), .second, .val (.long q2), .second, .unset, .unset, .unset, .unset, .unset, .unset, .unset, .unset] [])) _
    refine XS.lloadN X0.here hx rfl (hb hby at_0) rfl ?_
    show Steps p.tables e below (s₁.setTop (mkF m 1 #[.val (.long q1), .second, .val (.long q2), .second, .unset, .unset, .unset, .unset, .unset, .unset, .unset, .unset] [(.long q2)])) _
    refine XS.lconst X0.here hx rfl (hb hby at_1) ?_
    show Steps p.tables e below (s₁.setTop (mkF m 2 #[.val (.long q1), .second, .val (.long q2), .second, .unset, .unset, .unset, .unset, .unset, .unset, .unset, .unset] [(.long (0 : Int64)), (.long q2)])) _
    refine XS.lcmp X0.here hx rfl (hb hby at_2) rfl ?_
    show Steps p.tables e below (s₁.setTop (mkF m 3 #[.val (.long q1), .second, .val (.long q2), .second, .unset, .unset, .unset, .unset, .unset, .unset, .unset, .unset] [(.int (lcmpW q2 (0 : Int64)))])) _
    refine XS.ifYes X0.here hx rfl (pc0 := 3) (pc' := 8) rfl (hb hby at_3) rfl ((if0 _ _).trans (feq hc3).2) (by decide) (by decide) ?_
    show Steps p.tables e below (s₁.setTop (mkF m 8 #[.val (.long q1), .second, .val (.long q2), .second, .unset, .unset, .unset, .unset, .unset, .unset, .unset, .unset] [])) _
    refine XS.lloadN X0.here hx rfl (hb hby at_8) rfl ?_
    show Steps p.tables e below (s₁.setTop (mkF m 9 #[.val (.long q1), .second, .val (.long q2), .second, .unset, .unset, .unset, .unset, .unset, .unset, .unset, .unset] [(.long q1)])) _
    refine XS.lloadN X0.here hx rfl (hb hby at_9) rfl ?_
    show Steps p.tables e below (s₁.setTop (mkF m 10 #[.val (.long q1), .second, .val (.long q2), .second, .unset, .unset, .unset, .unset, .unset, .unset, .unset, .unset] [(.long q2), (.long q1)])) _
    refine st3 _ ?_
    show Steps p.tables e below (T3.setTop (mkF m 13 #[.val (.long q1), .second, .val (.long q2), .second, .unset, .unset, .unset, .unset, .unset, .unset, .unset, .unset] [(.long (own_ceil q1 q2))])) _
    refine XS.lstore X3.here hx rfl (hb hby at_13) rfl (l' := #[.val (.long q1), .second, .val (.long q2), .second, .val (.long (own_ceil q1 q2)), .second, .unset, .unset, .unset, .unset, .unset, .unset]) rfl ?_
    show Steps p.tables e below (T3.setTop (mkF m 15 #[.val (.long q1), .second, .val (.long q2), .second, .val (.long (own_ceil q1 q2)), .second, .unset, .unset, .unset, .unset, .unset, .unset] [])) _
    refine XS.lloadN X3.here hx rfl (hb hby at_15) rfl ?_
    show Steps p.tables e below (T3.setTop (mkF m 16 #[.val (.long q1), .second, .val (.long q2), .second, .val (.long (own_ceil q1 q2)), .second, .unset, .unset, .unset, .unset, .unset, .unset] [(.long q1)])) _
    refine XS.lloadN X3.here hx rfl (hb hby at_16) rfl ?_
    show Steps p.tables e below (T3.setTop (mkF m 17 #[.val (.long q1), .second, .val (.long q2), .second, .val (.long (own_ceil q1 q2)), .second, .unset, .unset, .unset, .unset, .unset, .unset] [(.long q2), (.long q1)])) _
    refine XS.ldiv X3.here hx rfl (hb hby at_17) rfl hnz17 ?_
    show Steps p.tables e below (T3.setTop (mkF m 18 #[.val (.long q1), .second, .val (.long q2), .second, .val (.long (own_ceil q1 q2)), .second, .unset, .unset, .unset, .unset, .unset, .unset] [(.long (q1 / q2))])) _
    refine XS.lstore X3.here hx rfl (hb hby at_18) rfl (l' := #[.val (.long q1), .second, .val (.long q2), .second, .val (.long (own_ceil q1 q2)), .second, .val (.long (q1 / q2)), .second, .unset, .unset, .unset, .unset]) rfl ?_
    show Steps p.tables e below (T3.setTop (mkF m 20 #[.val (.long q1), .second, .val (.long q2), .second, .val (.long (own_ceil q1 q2)), .second, .val (.long (q1 / q2)), .second, .unset, .unset, .unset, .unset] [])) _
    refine XS.lload X3.here hx rfl (hb hby at_20) rfl ?_
    show Steps p.tables e below (T3.setTop (mkF m 22 #[.val (.long q1), .second, .val (.long q2), .second, .val (.long (own_ceil q1 q2)), .second, .val (.long (q1 / q2)), .second, .unset, .unset, .unset, .unset] [(.long (own_ceil q1 q2))])) _
    refine XS.lload X3.here hx rfl (hb hby at_22) rfl ?_
    show Steps p.tables e below (T3.setTop (mkF m 24 #[.val (.long q1), .second, .val (.long q2), .second, .val (.long (own_ceil q1 q2)), .second, .val (.long (q1 / q2)), .second, .unset, .unset, .unset, .unset] [(.long (q1 / q2)), (.long (own_ceil q1 q2))])) _
    refine XS.lcmp X3.here hx rfl (hb hby at_24) rfl ?_
    show Steps p.tables e below (T3.setTop (mkF m 25 #[.val (.long q1), .second, .val (.long q2), .second, .val (.long (own_ceil q1 q2)), .second, .val (.long (q1 / q2)), .second, .unset, .unset, .unset, .unset] [(.int (lcmpW (own_ceil q1 q2) (q1 / q2)))])) _
    refine XS.ifYes X3.here hx rfl (pc0 := 25) (pc' := 38) rfl (hb hby at_25) rfl ((if0 _ _).trans (teq hx25).1) (by decide) (by decide) ?_
    show Steps p.tables e below (T3.setTop (mkF m 38 #[.val (.long q1), .second, .val (.long q2), .second, .val (.long (own_ceil q1 q2)), .second, .val (.long (q1 / q2)), .second, .unset, .unset, .unset, .unset] [])) _
    refine XS.iconst X3.here hx rfl (hb hby at_38) ?_
    show Steps p.tables e below (T3.setTop (mkF m 39 #[.val (.long q1), .second, .val (.long q2), .second, .val (.long (own_ceil q1 q2)), .second, .val (.long (q1 / q2)), .second, .unset, .unset, .unset, .unset] [(.int (1 : Int32))])) _
    refine XS.goto X3.here hx rfl (pc0 := 39) (pc' := 43) rfl (hb hby at_39) (by decide) (by decide) ?_
    show Steps p.tables e below (T3.setTop (mkF m 43 #[.val (.long q1), .second, .val (.long q2), .second, .val (.long (own_ceil q1 q2)), .second, .val (.long (q1 / q2)), .second, .unset, .unset, .unset, .unset] [(.int (1 : Int32))])) _
    refine XS.istore X3.here hx rfl (hb hby at_43) rfl (l' := #[.val (.long q1), .second, .val (.long q2), .second, .val (.long (own_ceil q1 q2)), .second, .val (.long (q1 / q2)), .second, .val (.int (1 : Int32)), .unset, .unset, .unset]) rfl ?_
    show Steps p.tables e below (T3.setTop (mkF m 45 #[.val (.long q1), .second, .val (.long q2), .second, .val (.long (own_ceil q1 q2)), .second, .val (.long (q1 / q2)), .second, .val (.int (1 : Int32)), .unset, .unset, .unset] [])) _
    refine XS.lloadN X3.here hx rfl (hb hby at_45) rfl ?_
    show Steps p.tables e below (T3.setTop (mkF m 46 #[.val (.long q1), .second, .val (.long q2), .second, .val (.long (own_ceil q1 q2)), .second, .val (.long (q1 / q2)), .second, .val (.int (1 : Int32)), .unset, .unset, .unset] [(.long q1)])) _
    refine XS.lload X3.here hx rfl (hb hby at_46) rfl ?_
    show Steps p.tables e below (T3.setTop (mkF m 48 #[.val (.long q1), .second, .val (.long q2), .second, .val (.long (own_ceil q1 q2)), .second, .val (.long (q1 / q2)), .second, .val (.int (1 : Int32)), .unset, .unset, .unset] [(.long (own_ceil q1 q2)), (.long q1)])) _
    refine XS.lloadN X3.here hx rfl (hb hby at_48) rfl ?_
    show Steps p.tables e below (T3.setTop (mkF m 49 #[.val (.long q1), .second, .val (.long q2), .second, .val (.long (own_ceil q1 q2)), .second, .val (.long (q1 / q2)), .second, .val (.int (1 : Int32)), .unset, .unset, .unset] [(.long q2), (.long (own_ceil q1 q2)), (.long q1)])) _
    refine XS.lmul X3.here hx rfl (hb hby at_49) rfl ?_
    show Steps p.tables e below (T3.setTop (mkF m 50 #[.val (.long q1), .second, .val (.long q2), .second, .val (.long (own_ceil q1 q2)), .second, .val (.long (q1 / q2)), .second, .val (.int (1 : Int32)), .unset, .unset, .unset] [(.long ((own_ceil q1 q2) * q2)), (.long q1)])) _
    refine XS.lsub X3.here hx rfl (hb hby at_50) rfl ?_
    show Steps p.tables e below (T3.setTop (mkF m 51 #[.val (.long q1), .second, .val (.long q2), .second, .val (.long (own_ceil q1 q2)), .second, .val (.long (q1 / q2)), .second, .val (.int (1 : Int32)), .unset, .unset, .unset] [(.long (q1 - ((own_ceil q1 q2) * q2)))])) _
    refine XS.lstore X3.here hx rfl (hb hby at_51) rfl (l' := #[.val (.long q1), .second, .val (.long q2), .second, .val (.long (own_ceil q1 q2)), .second, .val (.long (q1 / q2)), .second, .val (.int (1 : Int32)), .val (.long (q1 - ((own_ceil q1 q2) * q2))), .second, .unset]) rfl ?_
    show Steps p.tables e below (T3.setTop (mkF m 53 #[.val (.long q1), .second, .val (.long q2), .second, .val (.long (own_ceil q1 q2)), .second, .val (.long (q1 / q2)), .second, .val (.int (1 : Int32)), .val (.long (q1 - ((own_ceil q1 q2) * q2))), .second, .unset] [])) _
    refine XS.lloadN X3.here hx rfl (hb hby at_53) rfl ?_
    show Steps p.tables e below (T3.setTop (mkF m 54 #[.val (.long q1), .second, .val (.long q2), .second, .val (.long (own_ceil q1 q2)), .second, .val (.long (q1 / q2)), .second, .val (.int (1 : Int32)), .val (.long (q1 - ((own_ceil q1 q2) * q2))), .second, .unset] [(.long q2)])) _
    refine XS.lconst X3.here hx rfl (hb hby at_54) ?_
    show Steps p.tables e below (T3.setTop (mkF m 55 #[.val (.long q1), .second, .val (.long q2), .second, .val (.long (own_ceil q1 q2)), .second, .val (.long (q1 / q2)), .second, .val (.int (1 : Int32)), .val (.long (q1 - ((own_ceil q1 q2) * q2))), .second, .unset] [(.long (0 : Int64)), (.long q2)])) _
    refine XS.lcmp X3.here hx rfl (hb hby at_55) rfl ?_
    show Steps p.tables e below (T3.setTop (mkF m 56 #[.val (.long q1), .second, .val (.long q2), .second, .val (.long (own_ceil q1 q2)), .second, .val (.long (q1 / q2)), .second, .val (.int (1 : Int32)), .val (.long (q1 - ((own_ceil q1 q2) * q2))), .second, .unset] [(.int (lcmpW q2 (0 : Int64)))])) _
    refine XS.ifNo X3.here hx rfl (hb hby at_56) rfl ((if0 _ _).trans (tlt hc56).2.2.2) ?_
    show Steps p.tables e below (T3.setTop (mkF m 59 #[.val (.long q1), .second, .val (.long q2), .second, .val (.long (own_ceil q1 q2)), .second, .val (.long (q1 / q2)), .second, .val (.int (1 : Int32)), .val (.long (q1 - ((own_ceil q1 q2) * q2))), .second, .unset] [])) _
    refine XS.lload X3.here hx rfl (hb hby at_59) rfl ?_
    show Steps p.tables e below (T3.setTop (mkF m 61 #[.val (.long q1), .second, .val (.long q2), .second, .val (.long (own_ceil q1 q2)), .second, .val (.long (q1 / q2)), .second, .val (.int (1 : Int32)), .val (.long (q1 - ((own_ceil q1 q2) * q2))), .second, .unset] [(.long (q1 - ((own_ceil q1 q2) * q2)))])) _
    refine XS.lconst X3.here hx rfl (hb hby at_61) ?_
    show Steps p.tables e below (T3.setTop (mkF m 62 #[.val (.long q1), .second, .val (.long q2), .second, .val (.long (own_ceil q1 q2)), .second, .val (.long (q1 / q2)), .second, .val (.int (1 : Int32)), .val (.long (q1 - ((own_ceil q1 q2) * q2))), .second, .unset] [(.long (0 : Int64)), (.long (q1 - ((own_ceil q1 q2) * q2)))])) _
    refine XS.lcmp X3.here hx rfl (hb hby at_62) rfl ?_
    show Steps p.tables e below (T3.setTop (mkF m 63 #[.val (.long q1), .second, .val (.long q2), .second, .val (.long (own_ceil q1 q2)), .second, .val (.long (q1 / q2)), .second, .val (.int (1 : Int32)), .val (.long (q1 - ((own_ceil q1 q2) * q2))), .second, .unset] [(.int (lcmpW (q1 - ((own_ceil q1 q2) * q2)) (0 : Int64)))])) _
    refine XS.ifNo X3.here hx rfl (hb hby at_63) rfl ((if0 _ _).trans (flt hx63).2.2.1) ?_
    show Steps p.tables e below (T3.setTop (mkF m 66 #[.val (.long q1), .second, .val (.long q2), .second, .val (.long (own_ceil q1 q2)), .second, .val (.long (q1 / q2)), .second, .val (.int (1 : Int32)), .val (.long (q1 - ((own_ceil q1 q2) * q2))), .second, .unset] [])) _
    refine XS.lload X3.here hx rfl (hb hby at_66) rfl ?_
    show Steps p.tables e below (T3.setTop (mkF m 68 #[.val (.long q1), .second, .val (.long q2), .second, .val (.long (own_ceil q1 q2)), .second, .val (.long (q1 / q2)), .second, .val (.int (1 : Int32)), .val (.long (q1 - ((own_ceil q1 q2) * q2))), .second, .unset] [(.long (q1 - ((own_ceil q1 q2) * q2)))])) _
    refine XS.lloadN X3.here hx rfl (hb hby at_68) rfl ?_
    show Steps p.tables e below (T3.setTop (mkF m 69 #[.val (.long q1), .second, .val (.long q2), .second, .val (.long (own_ceil q1 q2)), .second, .val (.long (q1 / q2)), .second, .val (.int (1 : Int32)), .val (.long (q1 - ((own_ceil q1 q2) * q2))), .second, .unset] [(.long q2), (.long (q1 - ((own_ceil q1 q2) * q2)))])) _
    refine XS.ladd X3.here hx rfl (hb hby at_69) rfl ?_
    show Steps p.tables e below (T3.setTop (mkF m 70 #[.val (.long q1), .second, .val (.long q2), .second, .val (.long (own_ceil q1 q2)), .second, .val (.long (q1 / q2)), .second, .val (.int (1 : Int32)), .val (.long (q1 - ((own_ceil q1 q2) * q2))), .second, .unset] [(.long ((q1 - ((own_ceil q1 q2) * q2)) + q2))])) _
    refine XS.lconst X3.here hx rfl (hb hby at_70) ?_
    show Steps p.tables e below (T3.setTop (mkF m 71 #[.val (.long q1), .second, .val (.long q2), .second, .val (.long (own_ceil q1 q2)), .second, .val (.long (q1 / q2)), .second, .val (.int (1 : Int32)), .val (.long (q1 - ((own_ceil q1 q2) * q2))), .second, .unset] [(.long (0 : Int64)), (.long ((q1 - ((own_ceil q1 q2) * q2)) + q2))])) _
    refine XS.lcmp X3.here hx rfl (hb hby at_71) rfl ?_
    show Steps p.tables e below (T3.setTop (mkF m 72 #[.val (.long q1), .second, .val (.long q2), .second, .val (.long (own_ceil q1 q2)), .second, .val (.long (q1 / q2)), .second, .val (.int (1 : Int32)), .val (.long (q1 - ((own_ceil q1 q2) * q2))), .second, .unset] [(.int (lcmpW ((q1 - ((own_ceil q1 q2) * q2)) + q2) (0 : Int64)))])) _
    refine XS.ifNo X3.here hx rfl (hb hby at_72) rfl ((if0 _ _).trans (tlt hx72).2.2.2) ?_
    show Steps p.tables e below (T3.setTop (mkF m 75 #[.val (.long q1), .second, .val (.long q2), .second, .val (.long (own_ceil q1 q2)), .second, .val (.long (q1 / q2)), .second, .val (.int (1 : Int32)), .val (.long (q1 - ((own_ceil q1 q2) * q2))), .second, .unset] [])) _
    refine XS.iconst X3.here hx rfl (hb hby at_75) ?_
    show Steps p.tables e below (T3.setTop (mkF m 76 #[.val (.long q1), .second, .val (.long q2), .second, .val (.long (own_ceil q1 q2)), .second, .val (.long (q1 / q2)), .second, .val (.int (1 : Int32)), .val (.long (q1 - ((own_ceil q1 q2) * q2))), .second, .unset] [(.int (1 : Int32))])) _
    refine XS.goto X3.here hx rfl (pc0 := 76) (pc' := 80) rfl (hb hby at_76) (by decide) (by decide) ?_
    show Steps p.tables e below (T3.setTop (mkF m 80 #[.val (.long q1), .second, .val (.long q2), .second, .val (.long (own_ceil q1 q2)), .second, .val (.long (q1 / q2)), .second, .val (.int (1 : Int32)), .val (.long (q1 - ((own_ceil q1 q2) * q2))), .second, .unset] [(.int (1 : Int32))])) _
    refine XS.istore X3.here hx rfl (hb hby at_80) rfl (l' := #[.val (.long q1), .second, .val (.long q2), .second, .val (.long (own_ceil q1 q2)), .second, .val (.long (q1 / q2)), .second, .val (.int (1 : Int32)), .val (.long (q1 - ((own_ceil q1 q2) * q2))), .second, .val (.int (1 : Int32))]) rfl ?_
    show Steps p.tables e below (T3.setTop (mkF m 82 #[.val (.long q1), .second, .val (.long q2), .second, .val (.long (own_ceil q1 q2)), .second, .val (.long (q1 / q2)), .second, .val (.int (1 : Int32)), .val (.long (q1 - ((own_ceil q1 q2) * q2))), .second, .val (.int (1 : Int32))] [])) _
    refine XS.goto X3.here hx rfl (pc0 := 82) (pc' := 108) rfl (hb hby at_82) (by decide) (by decide) ?_
    show Steps p.tables e below (T3.setTop (mkF m 108 #[.val (.long q1), .second, .val (.long q2), .second, .val (.long (own_ceil q1 q2)), .second, .val (.long (q1 / q2)), .second, .val (.int (1 : Int32)), .val (.long (q1 - ((own_ceil q1 q2) * q2))), .second, .val (.int (1 : Int32))] [])) _
    refine XS.iload X3.here hx rfl (hb hby at_108) rfl ?_
    show Steps p.tables e below (T3.setTop (mkF m 110 #[.val (.long q1), .second, .val (.long q2), .second, .val (.long (own_ceil q1 q2)), .second, .val (.long (q1 / q2)), .second, .val (.int (1 : Int32)), .val (.long (q1 - ((own_ceil q1 q2) * q2))), .second, .val (.int (1 : Int32))] [(.int (1 : Int32))])) _
    refine XS.ifNo X3.here hx rfl (hb hby at_110) rfl ((if0 _ _).trans (feq hc110).1) ?_
    show Steps p.tables e below (T3.setTop (mkF m 113 #[.val (.long q1), .second, .val (.long q2), .second, .val (.long (own_ceil q1 q2)), .second, .val (.long (q1 / q2)), .second, .val (.int (1 : Int32)), .val (.long (q1 - ((own_ceil q1 q2) * q2))), .second, .val (.int (1 : Int32))] [])) _
    refine XS.iload X3.here hx rfl (hb hby at_113) rfl ?_
    show Steps p.tables e below (T3.setTop (mkF m 115 #[.val (.long q1), .second, .val (.long q2), .second, .val (.long (own_ceil q1 q2)), .second, .val (.long (q1 / q2)), .second, .val (.int (1 : Int32)), .val (.long (q1 - ((own_ceil q1 q2) * q2))), .second, .val (.int (1 : Int32))] [(.int (1 : Int32))])) _
    refine XS.ifNo X3.here hx rfl (hb hby at_115) rfl ((if0 _ _).trans (feq hc115).1) ?_
    show Steps p.tables e below (T3.setTop (mkF m 118 #[.val (.long q1), .second, .val (.long q2), .second, .val (.long (own_ceil q1 q2)), .second, .val (.long (q1 / q2)), .second, .val (.int (1 : Int32)), .val (.long (q1 - ((own_ceil q1 q2) * q2))), .second, .val (.int (1 : Int32))] [])) _
    refine XS.iconst X3.here hx rfl (hb hby at_118) ?_
    show Steps p.tables e below (T3.setTop (mkF m 119 #[.val (.long q1), .second, .val (.long q2), .second, .val (.long (own_ceil q1 q2)), .second, .val (.long (q1 / q2)), .second, .val (.int (1 : Int32)), .val (.long (q1 - ((own_ceil q1 q2) * q2))), .second, .val (.int (1 : Int32))] [(.int (1 : Int32))])) _
    refine XS.goto X3.here hx rfl (pc0 := 119) (pc' := 123) rfl (hb hby at_119) (by decide) (by decide) ?_
    show Steps p.tables e below (T3.setTop (mkF m 123 #[.val (.long q1), .second, .val (.long q2), .second, .val (.long (own_ceil q1 q2)), .second, .val (.long (q1 / q2)), .second, .val (.int (1 : Int32)), .val (.long (q1 - ((own_ceil q1 q2) * q2))), .second, .val (.int (1 : Int32))] [(.int (1 : Int32))])) _
    exact retN X3 hx (t := .boolean) Bd.returns (by simp) (hb hby at_123) hr
  · show Q0 Z q1 q2 h0 n0 _ T3.heap _
    exact ⟨rfl, N3⟩
set_option maxRecDepth 65536 in
set_option maxHeartbeats 40000000 in
theorem rm0_tfffffff (l : Launch) (Z : State) (a0 : Array Value) (hw : ∀ d ∈ tables_1, d.before a0 Z = true) (ws : List Jvm.Cond) (q1 : Int64) (q2 : Int64) (h0 : Heap) (n0 : Nat) (Z0 : n0 ≤ h0.size) (hc3 : ¬ ((lcmpW q2 (0 : Int64)) = (0 : Int32))) (hnz17 : ¬ (q2 = (0 : Int64))) (hc56 : (0 : Int32) < (lcmpW q2 (0 : Int64))) (hc110 : ¬ ((1 : Int32) = (0 : Int32))) (hc115 : ¬ ((1 : Int32) = (0 : Int32))) (hx25 : ¬ ((lcmpW (own_ceil q1 q2) (q1 / q2)) = (0 : Int32))) (hx35 : (lcmpW (own_ceil q1 q2) ((q1 / q2) + (1 : Int64))) = (0 : Int32)) (hx63 : ¬ ((0 : Int32) < (lcmpW (q1 - ((own_ceil q1 q2) * q2)) (0 : Int64)))) (hx72 : (0 : Int32) < (lcmpW ((q1 - ((own_ceil q1 q2) * q2)) + q2) (0 : Int64))) :
    MetFree l x (head1 (Jvm.Cond.code x code maxLocals ret :: ws) room_1) (fun a U => a = #[(.long q1), (.long q2)] ∧ Z.Warmed39 U.vm ∧ U.heap = h0) (fun _ _ _ _ _ => True) (fun _ U o U' => ∃ v L, o = .returned v ∧ Q0 Z q1 q2 h0 n0 v U'.heap L ∧ FrameEnd U o U' L room_1.cells room_1.slots) := by
  refine MetFree.of_bodySF (plainFor_of_name pn_0) hisR ?_
  intro p e s m args below meth c s₁ Bd hml0 hP hK
  obtain ⟨rfl, hZ, hh⟩ := hP
  have hx := Bd.exec
  have hby := Bd.bytes
  have hml : c.maxLocals = 12 := hml0
  have hown : s.vm.findClass "com/example/loops_to_gates/loopstogates/util/LongMathCeilDivPinLaw" = some m.cls := findClass_of_methodNamed Bd.named
  have hnm := (name_of_methodNamed Bd.named Bd.method).1
  have X0 : Stand p l e room_1 s m #[(.long q1), (.long q2)] below meth c s₁ [] 0 0 := Stand.of_body Bd
  have e0 : s₁.heap = h0 := by rw [← hh, Bd.state]; rfl
  have N0 := Fr.nil n0
  have pre0 : ∀ t, Steps p.tables e below (s₁.setTop (mkF m 0 #[.val (.long q1), .second, .val (.long q2), .second, .unset, .unset, .unset, .unset, .unset, .unset, .unset, .unset] [])) t → Steps p.tables e below (s₁.setTop (entryFrame m #[(.long q1), (.long q2)] maxLocals)) t := fun t k => castTop (ef_0 m q1 q2) k
  obtain ⟨_, _, ⟨T3, L3, k3, n3⟩, -, X3, ⟨Lc3, hQ3, l3, y3, z3⟩, st3⟩ := Jvm.LawKit.callS X0 hx (y := (⟨"com/example/loops_to_gates/loopstogates/util/LongMath", "ceilDiv", "(JJ)J"⟩ : MethodName)) hown (mvT hZ (hw _ (List.mem_of_getElem? (i := 0) rfl))) (mvT hZ (hw _ (List.mem_of_getElem? (i := 1) rfl))) (mvT hZ (hw _ (List.mem_of_getElem? (i := 2) rfl))) (mvT hZ (hw _ (List.mem_of_getElem? (i := 3) rfl))) (by decide) (backOf (W := 0) (rm1 l Z a0 hw [] q1 q2 h0 n0 Z0 (fun k => hc3 ((lw_eq _ _).mpr k))) hZ (hw _ (List.mem_of_getElem? (i := 3) rfl)) (hw _ (List.mem_of_getElem? (i := 2) rfl)) (by decide) (by decide)) (g := (mkF m 10 #[.val (.long q1), .second, .val (.long q2), .second, .unset, .unset, .unset, .unset, .unset, .unset, .unset, .unset] [(.long q2), (.long q1)])) rfl (by rw [hml]; rfl) (argsL := [(.long q1), (.long q2)]) (rest := []) (lenOf pd_0_0 rfl) rfl (by show 2 * 0 + _ ≤ _; exact Nat.le_of_eq rfl) (hb hby at_10) (fun _ _ => ⟨rfl, e0, (by decide : 0 + 0 ≤ _), (by decide : 0 + 0 ≤ _)⟩)
  dsimp only [Pt.U, Pt.locs, Pt.cells, Pt.slots] at X3 l3 y3 z3 st3 hQ3
  subst l3 y3 z3
  obtain ⟨rfl, N3q, e3q⟩ := hQ3
  have N3 := Fr.app N0 N3q
  obtain ⟨fs, hr, hrun, hended, hW, hsame⟩ := X3.leave (v := some (.int (1 : Int32))) (fun h => by rw [Bd.returns] at h; cases h)
  refine ⟨_, _, pre0 _ ?_, hrun, hended, _, _, rfl, ?_, ⟨_, rfl⟩, hW, hsame.mono (by decide) (by decide)⟩
  · show Steps p.tables e below (s₁.setTop (mkF m 0 #[.val (.long q1), .second, .val (.long q2), .second, .unset, .unset, .unset, .unset, .unset, .unset, .unset, .unset] [])) _
    refine XS.lloadN X0.here hx rfl (hb hby at_0) rfl ?_
    show Steps p.tables e below (s₁.setTop (mkF m 1 #[.val (.long q1), .second, .val (.long q2), .second, .unset, .unset, .unset, .unset, .unset, .unset, .unset, .unset] [(.long q2)])) _
    refine XS.lconst X0.here hx rfl (hb hby at_1) ?_
    show Steps p.tables e below (s₁.setTop (mkF m 2 #[.val (.long q1), .second, .val (.long q2), .second, .unset, .unset, .unset, .unset, .unset, .unset, .unset, .unset] [(.long (0 : Int64)), (.long q2)])) _
    refine XS.lcmp X0.here hx rfl (hb hby at_2) rfl ?_
    show Steps p.tables e below (s₁.setTop (mkF m 3 #[.val (.long q1), .second, .val (.long q2), .second, .unset, .unset, .unset, .unset, .unset, .unset, .unset, .unset] [(.int (lcmpW q2 (0 : Int64)))])) _
    refine XS.ifYes X0.here hx rfl (pc0 := 3) (pc' := 8) rfl (hb hby at_3) rfl ((if0 _ _).trans (feq hc3).2) (by decide) (by decide) ?_
    show Steps p.tables e below (s₁.setTop (mkF m 8 #[.val (.long q1), .second, .val (.long q2), .second, .unset, .unset, .unset, .unset, .unset, .unset, .unset, .unset] [])) _
    refine XS.lloadN X0.here hx rfl (hb hby at_8) rfl ?_
    show Steps p.tables e below (s₁.setTop (mkF m 9 #[.val (.long q1), .second, .val (.long q2), .second, .unset, .unset, .unset, .unset, .unset, .unset, .unset, .unset] [(.long q1)])) _
    refine XS.lloadN X0.here hx rfl (hb hby at_9) rfl ?_
    show Steps p.tables e below (s₁.setTop (mkF m 10 #[.val (.long q1), .second, .val (.long q2), .second, .unset, .unset, .unset, .unset, .unset, .unset, .unset, .unset] [(.long q2), (.long q1)])) _
    refine st3 _ ?_
    show Steps p.tables e below (T3.setTop (mkF m 13 #[.val (.long q1), .second, .val (.long q2), .second, .unset, .unset, .unset, .unset, .unset, .unset, .unset, .unset] [(.long (own_ceil q1 q2))])) _
    refine XS.lstore X3.here hx rfl (hb hby at_13) rfl (l' := #[.val (.long q1), .second, .val (.long q2), .second, .val (.long (own_ceil q1 q2)), .second, .unset, .unset, .unset, .unset, .unset, .unset]) rfl ?_
    show Steps p.tables e below (T3.setTop (mkF m 15 #[.val (.long q1), .second, .val (.long q2), .second, .val (.long (own_ceil q1 q2)), .second, .unset, .unset, .unset, .unset, .unset, .unset] [])) _
    refine XS.lloadN X3.here hx rfl (hb hby at_15) rfl ?_
    show Steps p.tables e below (T3.setTop (mkF m 16 #[.val (.long q1), .second, .val (.long q2), .second, .val (.long (own_ceil q1 q2)), .second, .unset, .unset, .unset, .unset, .unset, .unset] [(.long q1)])) _
    refine XS.lloadN X3.here hx rfl (hb hby at_16) rfl ?_
    show Steps p.tables e below (T3.setTop (mkF m 17 #[.val (.long q1), .second, .val (.long q2), .second, .val (.long (own_ceil q1 q2)), .second, .unset, .unset, .unset, .unset, .unset, .unset] [(.long q2), (.long q1)])) _
    refine XS.ldiv X3.here hx rfl (hb hby at_17) rfl hnz17 ?_
    show Steps p.tables e below (T3.setTop (mkF m 18 #[.val (.long q1), .second, .val (.long q2), .second, .val (.long (own_ceil q1 q2)), .second, .unset, .unset, .unset, .unset, .unset, .unset] [(.long (q1 / q2))])) _
    refine XS.lstore X3.here hx rfl (hb hby at_18) rfl (l' := #[.val (.long q1), .second, .val (.long q2), .second, .val (.long (own_ceil q1 q2)), .second, .val (.long (q1 / q2)), .second, .unset, .unset, .unset, .unset]) rfl ?_
    show Steps p.tables e below (T3.setTop (mkF m 20 #[.val (.long q1), .second, .val (.long q2), .second, .val (.long (own_ceil q1 q2)), .second, .val (.long (q1 / q2)), .second, .unset, .unset, .unset, .unset] [])) _
    refine XS.lload X3.here hx rfl (hb hby at_20) rfl ?_
    show Steps p.tables e below (T3.setTop (mkF m 22 #[.val (.long q1), .second, .val (.long q2), .second, .val (.long (own_ceil q1 q2)), .second, .val (.long (q1 / q2)), .second, .unset, .unset, .unset, .unset] [(.long (own_ceil q1 q2))])) _
    refine XS.lload X3.here hx rfl (hb hby at_22) rfl ?_
    show Steps p.tables e below (T3.setTop (mkF m 24 #[.val (.long q1), .second, .val (.long q2), .second, .val (.long (own_ceil q1 q2)), .second, .val (.long (q1 / q2)), .second, .unset, .unset, .unset, .unset] [(.long (q1 / q2)), (.long (own_ceil q1 q2))])) _
    refine XS.lcmp X3.here hx rfl (hb hby at_24) rfl ?_
    show Steps p.tables e below (T3.setTop (mkF m 25 #[.val (.long q1), .second, .val (.long q2), .second, .val (.long (own_ceil q1 q2)), .second, .val (.long (q1 / q2)), .second, .unset, .unset, .unset, .unset] [(.int (lcmpW (own_ceil q1 q2) (q1 / q2)))])) _
    refine XS.ifNo X3.here hx rfl (hb hby at_25) rfl ((if0 _ _).trans (feq hx25).1) ?_
    show Steps p.tables e below (T3.setTop (mkF m 28 #[.val (.long q1), .second, .val (.long q2), .second, .val (.long (own_ceil q1 q2)), .second, .val (.long (q1 / q2)), .second, .unset, .unset, .unset, .unset] [])) _
    refine XS.lload X3.here hx rfl (hb hby at_28) rfl ?_
    show Steps p.tables e below (T3.setTop (mkF m 30 #[.val (.long q1), .second, .val (.long q2), .second, .val (.long (own_ceil q1 q2)), .second, .val (.long (q1 / q2)), .second, .unset, .unset, .unset, .unset] [(.long (own_ceil q1 q2))])) _
    refine XS.lload X3.here hx rfl (hb hby at_30) rfl ?_
    show Steps p.tables e below (T3.setTop (mkF m 32 #[.val (.long q1), .second, .val (.long q2), .second, .val (.long (own_ceil q1 q2)), .second, .val (.long (q1 / q2)), .second, .unset, .unset, .unset, .unset] [(.long (q1 / q2)), (.long (own_ceil q1 q2))])) _
    refine XS.lconst X3.here hx rfl (hb hby at_32) ?_
    show Steps p.tables e below (T3.setTop (mkF m 33 #[.val (.long q1), .second, .val (.long q2), .second, .val (.long (own_ceil q1 q2)), .second, .val (.long (q1 / q2)), .second, .unset, .unset, .unset, .unset] [(.long (1 : Int64)), (.long (q1 / q2)), (.long (own_ceil q1 q2))])) _
    refine XS.ladd X3.here hx rfl (hb hby at_33) rfl ?_
    show Steps p.tables e below (T3.setTop (mkF m 34 #[.val (.long q1), .second, .val (.long q2), .second, .val (.long (own_ceil q1 q2)), .second, .val (.long (q1 / q2)), .second, .unset, .unset, .unset, .unset] [(.long ((q1 / q2) + (1 : Int64))), (.long (own_ceil q1 q2))])) _
    refine XS.lcmp X3.here hx rfl (hb hby at_34) rfl ?_
    show Steps p.tables e below (T3.setTop (mkF m 35 #[.val (.long q1), .second, .val (.long q2), .second, .val (.long (own_ceil q1 q2)), .second, .val (.long (q1 / q2)), .second, .unset, .unset, .unset, .unset] [(.int (lcmpW (own_ceil q1 q2) ((q1 / q2) + (1 : Int64))))])) _
    refine XS.ifNo X3.here hx rfl (hb hby at_35) rfl ((if0 _ _).trans (teq hx35).2) ?_
    show Steps p.tables e below (T3.setTop (mkF m 38 #[.val (.long q1), .second, .val (.long q2), .second, .val (.long (own_ceil q1 q2)), .second, .val (.long (q1 / q2)), .second, .unset, .unset, .unset, .unset] [])) _
    refine XS.iconst X3.here hx rfl (hb hby at_38) ?_
    show Steps p.tables e below (T3.setTop (mkF m 39 #[.val (.long q1), .second, .val (.long q2), .second, .val (.long (own_ceil q1 q2)), .second, .val (.long (q1 / q2)), .second, .unset, .unset, .unset, .unset] [(.int (1 : Int32))])) _
    refine XS.goto X3.here hx rfl (pc0 := 39) (pc' := 43) rfl (hb hby at_39) (by decide) (by decide) ?_
    show Steps p.tables e below (T3.setTop (mkF m 43 #[.val (.long q1), .second, .val (.long q2), .second, .val (.long (own_ceil q1 q2)), .second, .val (.long (q1 / q2)), .second, .unset, .unset, .unset, .unset] [(.int (1 : Int32))])) _
    refine XS.istore X3.here hx rfl (hb hby at_43) rfl (l' := #[.val (.long q1), .second, .val (.long q2), .second, .val (.long (own_ceil q1 q2)), .second, .val (.long (q1 / q2)), .second, .val (.int (1 : Int32)), .unset, .unset, .unset]) rfl ?_
    show Steps p.tables e below (T3.setTop (mkF m 45 #[.val (.long q1), .second, .val (.long q2), .second, .val (.long (own_ceil q1 q2)), .second, .val (.long (q1 / q2)), .second, .val (.int (1 : Int32)), .unset, .unset, .unset] [])) _
    refine XS.lloadN X3.here hx rfl (hb hby at_45) rfl ?_
    show Steps p.tables e below (T3.setTop (mkF m 46 #[.val (.long q1), .second, .val (.long q2), .second, .val (.long (own_ceil q1 q2)), .second, .val (.long (q1 / q2)), .second, .val (.int (1 : Int32)), .unset, .unset, .unset] [(.long q1)])) _
    refine XS.lload X3.here hx rfl (hb hby at_46) rfl ?_
    show Steps p.tables e below (T3.setTop (mkF m 48 #[.val (.long q1), .second, .val (.long q2), .second, .val (.long (own_ceil q1 q2)), .second, .val (.long (q1 / q2)), .second, .val (.int (1 : Int32)), .unset, .unset, .unset] [(.long (own_ceil q1 q2)), (.long q1)])) _
    refine XS.lloadN X3.here hx rfl (hb hby at_48) rfl ?_
    show Steps p.tables e below (T3.setTop (mkF m 49 #[.val (.long q1), .second, .val (.long q2), .second, .val (.long (own_ceil q1 q2)), .second, .val (.long (q1 / q2)), .second, .val (.int (1 : Int32)), .unset, .unset, .unset] [(.long q2), (.long (own_ceil q1 q2)), (.long q1)])) _
    refine XS.lmul X3.here hx rfl (hb hby at_49) rfl ?_
    show Steps p.tables e below (T3.setTop (mkF m 50 #[.val (.long q1), .second, .val (.long q2), .second, .val (.long (own_ceil q1 q2)), .second, .val (.long (q1 / q2)), .second, .val (.int (1 : Int32)), .unset, .unset, .unset] [(.long ((own_ceil q1 q2) * q2)), (.long q1)])) _
    refine XS.lsub X3.here hx rfl (hb hby at_50) rfl ?_
    show Steps p.tables e below (T3.setTop (mkF m 51 #[.val (.long q1), .second, .val (.long q2), .second, .val (.long (own_ceil q1 q2)), .second, .val (.long (q1 / q2)), .second, .val (.int (1 : Int32)), .unset, .unset, .unset] [(.long (q1 - ((own_ceil q1 q2) * q2)))])) _
    refine XS.lstore X3.here hx rfl (hb hby at_51) rfl (l' := #[.val (.long q1), .second, .val (.long q2), .second, .val (.long (own_ceil q1 q2)), .second, .val (.long (q1 / q2)), .second, .val (.int (1 : Int32)), .val (.long (q1 - ((own_ceil q1 q2) * q2))), .second, .unset]) rfl ?_
    show Steps p.tables e below (T3.setTop (mkF m 53 #[.val (.long q1), .second, .val (.long q2), .second, .val (.long (own_ceil q1 q2)), .second, .val (.long (q1 / q2)), .second, .val (.int (1 : Int32)), .val (.long (q1 - ((own_ceil q1 q2) * q2))), .second, .unset] [])) _
    refine XS.lloadN X3.here hx rfl (hb hby at_53) rfl ?_
    show Steps p.tables e below (T3.setTop (mkF m 54 #[.val (.long q1), .second, .val (.long q2), .second, .val (.long (own_ceil q1 q2)), .second, .val (.long (q1 / q2)), .second, .val (.int (1 : Int32)), .val (.long (q1 - ((own_ceil q1 q2) * q2))), .second, .unset] [(.long q2)])) _
    refine XS.lconst X3.here hx rfl (hb hby at_54) ?_
    show Steps p.tables e below (T3.setTop (mkF m 55 #[.val (.long q1), .second, .val (.long q2), .second, .val (.long (own_ceil q1 q2)), .second, .val (.long (q1 / q2)), .second, .val (.int (1 : Int32)), .val (.long (q1 - ((own_ceil q1 q2) * q2))), .second, .unset] [(.long (0 : Int64)), (.long q2)])) _
    refine XS.lcmp X3.here hx rfl (hb hby at_55) rfl ?_
    show Steps p.tables e below (T3.setTop (mkF m 56 #[.val (.long q1), .second, .val (.long q2), .second, .val (.long (own_ceil q1 q2)), .second, .val (.long (q1 / q2)), .second, .val (.int (1 : Int32)), .val (.long (q1 - ((own_ceil q1 q2) * q2))), .second, .unset] [(.int (lcmpW q2 (0 : Int64)))])) _
    refine XS.ifNo X3.here hx rfl (hb hby at_56) rfl ((if0 _ _).trans (tlt hc56).2.2.2) ?_
    show Steps p.tables e below (T3.setTop (mkF m 59 #[.val (.long q1), .second, .val (.long q2), .second, .val (.long (own_ceil q1 q2)), .second, .val (.long (q1 / q2)), .second, .val (.int (1 : Int32)), .val (.long (q1 - ((own_ceil q1 q2) * q2))), .second, .unset] [])) _
    refine XS.lload X3.here hx rfl (hb hby at_59) rfl ?_
    show Steps p.tables e below (T3.setTop (mkF m 61 #[.val (.long q1), .second, .val (.long q2), .second, .val (.long (own_ceil q1 q2)), .second, .val (.long (q1 / q2)), .second, .val (.int (1 : Int32)), .val (.long (q1 - ((own_ceil q1 q2) * q2))), .second, .unset] [(.long (q1 - ((own_ceil q1 q2) * q2)))])) _
    refine XS.lconst X3.here hx rfl (hb hby at_61) ?_
    show Steps p.tables e below (T3.setTop (mkF m 62 #[.val (.long q1), .second, .val (.long q2), .second, .val (.long (own_ceil q1 q2)), .second, .val (.long (q1 / q2)), .second, .val (.int (1 : Int32)), .val (.long (q1 - ((own_ceil q1 q2) * q2))), .second, .unset] [(.long (0 : Int64)), (.long (q1 - ((own_ceil q1 q2) * q2)))])) _
    refine XS.lcmp X3.here hx rfl (hb hby at_62) rfl ?_
    show Steps p.tables e below (T3.setTop (mkF m 63 #[.val (.long q1), .second, .val (.long q2), .second, .val (.long (own_ceil q1 q2)), .second, .val (.long (q1 / q2)), .second, .val (.int (1 : Int32)), .val (.long (q1 - ((own_ceil q1 q2) * q2))), .second, .unset] [(.int (lcmpW (q1 - ((own_ceil q1 q2) * q2)) (0 : Int64)))])) _
    refine XS.ifNo X3.here hx rfl (hb hby at_63) rfl ((if0 _ _).trans (flt hx63).2.2.1) ?_
    show Steps p.tables e below (T3.setTop (mkF m 66 #[.val (.long q1), .second, .val (.long q2), .second, .val (.long (own_ceil q1 q2)), .second, .val (.long (q1 / q2)), .second, .val (.int (1 : Int32)), .val (.long (q1 - ((own_ceil q1 q2) * q2))), .second, .unset] [])) _
    refine XS.lload X3.here hx rfl (hb hby at_66) rfl ?_
    show Steps p.tables e below (T3.setTop (mkF m 68 #[.val (.long q1), .second, .val (.long q2), .second, .val (.long (own_ceil q1 q2)), .second, .val (.long (q1 / q2)), .second, .val (.int (1 : Int32)), .val (.long (q1 - ((own_ceil q1 q2) * q2))), .second, .unset] [(.long (q1 - ((own_ceil q1 q2) * q2)))])) _
    refine XS.lloadN X3.here hx rfl (hb hby at_68) rfl ?_
    show Steps p.tables e below (T3.setTop (mkF m 69 #[.val (.long q1), .second, .val (.long q2), .second, .val (.long (own_ceil q1 q2)), .second, .val (.long (q1 / q2)), .second, .val (.int (1 : Int32)), .val (.long (q1 - ((own_ceil q1 q2) * q2))), .second, .unset] [(.long q2), (.long (q1 - ((own_ceil q1 q2) * q2)))])) _
    refine XS.ladd X3.here hx rfl (hb hby at_69) rfl ?_
    show Steps p.tables e below (T3.setTop (mkF m 70 #[.val (.long q1), .second, .val (.long q2), .second, .val (.long (own_ceil q1 q2)), .second, .val (.long (q1 / q2)), .second, .val (.int (1 : Int32)), .val (.long (q1 - ((own_ceil q1 q2) * q2))), .second, .unset] [(.long ((q1 - ((own_ceil q1 q2) * q2)) + q2))])) _
    refine XS.lconst X3.here hx rfl (hb hby at_70) ?_
    show Steps p.tables e below (T3.setTop (mkF m 71 #[.val (.long q1), .second, .val (.long q2), .second, .val (.long (own_ceil q1 q2)), .second, .val (.long (q1 / q2)), .second, .val (.int (1 : Int32)), .val (.long (q1 - ((own_ceil q1 q2) * q2))), .second, .unset] [(.long (0 : Int64)), (.long ((q1 - ((own_ceil q1 q2) * q2)) + q2))])) _
    refine XS.lcmp X3.here hx rfl (hb hby at_71) rfl ?_
    show Steps p.tables e below (T3.setTop (mkF m 72 #[.val (.long q1), .second, .val (.long q2), .second, .val (.long (own_ceil q1 q2)), .second, .val (.long (q1 / q2)), .second, .val (.int (1 : Int32)), .val (.long (q1 - ((own_ceil q1 q2) * q2))), .second, .unset] [(.int (lcmpW ((q1 - ((own_ceil q1 q2) * q2)) + q2) (0 : Int64)))])) _
    refine XS.ifNo X3.here hx rfl (hb hby at_72) rfl ((if0 _ _).trans (tlt hx72).2.2.2) ?_
    show Steps p.tables e below (T3.setTop (mkF m 75 #[.val (.long q1), .second, .val (.long q2), .second, .val (.long (own_ceil q1 q2)), .second, .val (.long (q1 / q2)), .second, .val (.int (1 : Int32)), .val (.long (q1 - ((own_ceil q1 q2) * q2))), .second, .unset] [])) _
    refine XS.iconst X3.here hx rfl (hb hby at_75) ?_
    show Steps p.tables e below (T3.setTop (mkF m 76 #[.val (.long q1), .second, .val (.long q2), .second, .val (.long (own_ceil q1 q2)), .second, .val (.long (q1 / q2)), .second, .val (.int (1 : Int32)), .val (.long (q1 - ((own_ceil q1 q2) * q2))), .second, .unset] [(.int (1 : Int32))])) _
    refine XS.goto X3.here hx rfl (pc0 := 76) (pc' := 80) rfl (hb hby at_76) (by decide) (by decide) ?_
    show Steps p.tables e below (T3.setTop (mkF m 80 #[.val (.long q1), .second, .val (.long q2), .second, .val (.long (own_ceil q1 q2)), .second, .val (.long (q1 / q2)), .second, .val (.int (1 : Int32)), .val (.long (q1 - ((own_ceil q1 q2) * q2))), .second, .unset] [(.int (1 : Int32))])) _
    refine XS.istore X3.here hx rfl (hb hby at_80) rfl (l' := #[.val (.long q1), .second, .val (.long q2), .second, .val (.long (own_ceil q1 q2)), .second, .val (.long (q1 / q2)), .second, .val (.int (1 : Int32)), .val (.long (q1 - ((own_ceil q1 q2) * q2))), .second, .val (.int (1 : Int32))]) rfl ?_
    show Steps p.tables e below (T3.setTop (mkF m 82 #[.val (.long q1), .second, .val (.long q2), .second, .val (.long (own_ceil q1 q2)), .second, .val (.long (q1 / q2)), .second, .val (.int (1 : Int32)), .val (.long (q1 - ((own_ceil q1 q2) * q2))), .second, .val (.int (1 : Int32))] [])) _
    refine XS.goto X3.here hx rfl (pc0 := 82) (pc' := 108) rfl (hb hby at_82) (by decide) (by decide) ?_
    show Steps p.tables e below (T3.setTop (mkF m 108 #[.val (.long q1), .second, .val (.long q2), .second, .val (.long (own_ceil q1 q2)), .second, .val (.long (q1 / q2)), .second, .val (.int (1 : Int32)), .val (.long (q1 - ((own_ceil q1 q2) * q2))), .second, .val (.int (1 : Int32))] [])) _
    refine XS.iload X3.here hx rfl (hb hby at_108) rfl ?_
    show Steps p.tables e below (T3.setTop (mkF m 110 #[.val (.long q1), .second, .val (.long q2), .second, .val (.long (own_ceil q1 q2)), .second, .val (.long (q1 / q2)), .second, .val (.int (1 : Int32)), .val (.long (q1 - ((own_ceil q1 q2) * q2))), .second, .val (.int (1 : Int32))] [(.int (1 : Int32))])) _
    refine XS.ifNo X3.here hx rfl (hb hby at_110) rfl ((if0 _ _).trans (feq hc110).1) ?_
    show Steps p.tables e below (T3.setTop (mkF m 113 #[.val (.long q1), .second, .val (.long q2), .second, .val (.long (own_ceil q1 q2)), .second, .val (.long (q1 / q2)), .second, .val (.int (1 : Int32)), .val (.long (q1 - ((own_ceil q1 q2) * q2))), .second, .val (.int (1 : Int32))] [])) _
    refine XS.iload X3.here hx rfl (hb hby at_113) rfl ?_
    show Steps p.tables e below (T3.setTop (mkF m 115 #[.val (.long q1), .second, .val (.long q2), .second, .val (.long (own_ceil q1 q2)), .second, .val (.long (q1 / q2)), .second, .val (.int (1 : Int32)), .val (.long (q1 - ((own_ceil q1 q2) * q2))), .second, .val (.int (1 : Int32))] [(.int (1 : Int32))])) _
    refine XS.ifNo X3.here hx rfl (hb hby at_115) rfl ((if0 _ _).trans (feq hc115).1) ?_
    show Steps p.tables e below (T3.setTop (mkF m 118 #[.val (.long q1), .second, .val (.long q2), .second, .val (.long (own_ceil q1 q2)), .second, .val (.long (q1 / q2)), .second, .val (.int (1 : Int32)), .val (.long (q1 - ((own_ceil q1 q2) * q2))), .second, .val (.int (1 : Int32))] [])) _
    refine XS.iconst X3.here hx rfl (hb hby at_118) ?_
    show Steps p.tables e below (T3.setTop (mkF m 119 #[.val (.long q1), .second, .val (.long q2), .second, .val (.long (own_ceil q1 q2)), .second, .val (.long (q1 / q2)), .second, .val (.int (1 : Int32)), .val (.long (q1 - ((own_ceil q1 q2) * q2))), .second, .val (.int (1 : Int32))] [(.int (1 : Int32))])) _
    refine XS.goto X3.here hx rfl (pc0 := 119) (pc' := 123) rfl (hb hby at_119) (by decide) (by decide) ?_
    show Steps p.tables e below (T3.setTop (mkF m 123 #[.val (.long q1), .second, .val (.long q2), .second, .val (.long (own_ceil q1 q2)), .second, .val (.long (q1 / q2)), .second, .val (.int (1 : Int32)), .val (.long (q1 - ((own_ceil q1 q2) * q2))), .second, .val (.int (1 : Int32))] [(.int (1 : Int32))])) _
    exact retN X3 hx (t := .boolean) Bd.returns (by simp) (hb hby at_123) hr
  · show Q0 Z q1 q2 h0 n0 _ T3.heap _
    exact ⟨rfl, N3⟩
set_option maxRecDepth 65536 in
set_option maxHeartbeats 40000000 in
theorem rm0_tttffff (l : Launch) (Z : State) (a0 : Array Value) (hw : ∀ d ∈ tables_1, d.before a0 Z = true) (ws : List Jvm.Cond) (q1 : Int64) (q2 : Int64) (h0 : Heap) (n0 : Nat) (Z0 : n0 ≤ h0.size) (hc3 : ¬ ((lcmpW q2 (0 : Int64)) = (0 : Int32))) (hnz17 : ¬ (q2 = (0 : Int64))) (hc56 : ¬ ((0 : Int32) < (lcmpW q2 (0 : Int64)))) (hc110 : ¬ ((1 : Int32) = (0 : Int32))) (hc115 : ¬ ((1 : Int32) = (0 : Int32))) (hx25 : (lcmpW (own_ceil q1 q2) (q1 / q2)) = (0 : Int32)) (hx89 : ¬ ((lcmpW (q1 - ((own_ceil q1 q2) * q2)) (0 : Int64)) < (0 : Int32))) (hx98 : (lcmpW ((q1 - ((own_ceil q1 q2) * q2)) + q2) (0 : Int64)) < (0 : Int32)) :
    MetFree l x (head1 (Jvm.Cond.code x code maxLocals ret :: ws) room_1) (fun a U => a = #[(.long q1), (.long q2)] ∧ Z.Warmed39 U.vm ∧ U.heap = h0) (fun _ _ _ _ _ => True) (fun _ U o U' => ∃ v L, o = .returned v ∧ Q0 Z q1 q2 h0 n0 v U'.heap L ∧ FrameEnd U o U' L room_1.cells room_1.slots) := by
  refine MetFree.of_bodySF (plainFor_of_name pn_0) hisR ?_
  intro p e s m args below meth c s₁ Bd hml0 hP hK
  obtain ⟨rfl, hZ, hh⟩ := hP
  have hx := Bd.exec
  have hby := Bd.bytes
  have hml : c.maxLocals = 12 := hml0
  have hown : s.vm.findClass "com/example/loops_to_gates/loopstogates/util/LongMathCeilDivPinLaw" = some m.cls := findClass_of_methodNamed Bd.named
  have hnm := (name_of_methodNamed Bd.named Bd.method).1
  have X0 : Stand p l e room_1 s m #[(.long q1), (.long q2)] below meth c s₁ [] 0 0 := Stand.of_body Bd
  have e0 : s₁.heap = h0 := by rw [← hh, Bd.state]; rfl
  have N0 := Fr.nil n0
  have pre0 : ∀ t, Steps p.tables e below (s₁.setTop (mkF m 0 #[.val (.long q1), .second, .val (.long q2), .second, .unset, .unset, .unset, .unset, .unset, .unset, .unset, .unset] [])) t → Steps p.tables e below (s₁.setTop (entryFrame m #[(.long q1), (.long q2)] maxLocals)) t := fun t k => castTop (ef_0 m q1 q2) k
  obtain ⟨_, _, ⟨T3, L3, k3, n3⟩, -, X3, ⟨Lc3, hQ3, l3, y3, z3⟩, st3⟩ := Jvm.LawKit.callS X0 hx (y := (⟨"com/example/loops_to_gates/loopstogates/util/LongMath", "ceilDiv", "(JJ)J"⟩ : MethodName)) hown (mvT hZ (hw _ (List.mem_of_getElem? (i := 0) rfl))) (mvT hZ (hw _ (List.mem_of_getElem? (i := 1) rfl))) (mvT hZ (hw _ (List.mem_of_getElem? (i := 2) rfl))) (mvT hZ (hw _ (List.mem_of_getElem? (i := 3) rfl))) (by decide) (backOf (W := 0) (rm1 l Z a0 hw [] q1 q2 h0 n0 Z0 (fun k => hc3 ((lw_eq _ _).mpr k))) hZ (hw _ (List.mem_of_getElem? (i := 3) rfl)) (hw _ (List.mem_of_getElem? (i := 2) rfl)) (by decide) (by decide)) (g := (mkF m 10 #[.val (.long q1), .second, .val (.long q2), .second, .unset, .unset, .unset, .unset, .unset, .unset, .unset, .unset] [(.long q2), (.long q1)])) rfl (by rw [hml]; rfl) (argsL := [(.long q1), (.long q2)]) (rest := []) (lenOf pd_0_0 rfl) rfl (by show 2 * 0 + _ ≤ _; exact Nat.le_of_eq rfl) (hb hby at_10) (fun _ _ => ⟨rfl, e0, (by decide : 0 + 0 ≤ _), (by decide : 0 + 0 ≤ _)⟩)
  dsimp only [Pt.U, Pt.locs, Pt.cells, Pt.slots] at X3 l3 y3 z3 st3 hQ3
  subst l3 y3 z3
  obtain ⟨rfl, N3q, e3q⟩ := hQ3
  have N3 := Fr.app N0 N3q
  obtain ⟨fs, hr, hrun, hended, hW, hsame⟩ := X3.leave (v := some (.int (1 : Int32))) (fun h => by rw [Bd.returns] at h; cases h)
  refine ⟨_, _, pre0 _ ?_, hrun, hended, _, _, rfl, ?_, ⟨_, rfl⟩, hW, hsame.mono (by decide) (by decide)⟩
  · show Steps p.tables e below (s₁.setTop (mkF m 0 #[.val (.long q1), .second, .val (.long q2), .second, .unset, .unset, .unset, .unset, .unset, .unset, .unset, .unset] [])) _
    refine XS.lloadN X0.here hx rfl (hb hby at_0) rfl ?_
    show Steps p.tables e below (s₁.setTop (mkF m 1 #[.val (.long q1), .second, .val (.long q2), .second, .unset, .unset, .unset, .unset, .unset, .unset, .unset, .unset] [(.long q2)])) _
    refine XS.lconst X0.here hx rfl (hb hby at_1) ?_
    show Steps p.tables e below (s₁.setTop (mkF m 2 #[.val (.long q1), .second, .val (.long q2), .second, .unset, .unset, .unset, .unset, .unset, .unset, .unset, .unset] [(.long (0 : Int64)), (.long q2)])) _
    refine XS.lcmp X0.here hx rfl (hb hby at_2) rfl ?_
    show Steps p.tables e below (s₁.setTop (mkF m 3 #[.val (.long q1), .second, .val (.long q2), .second, .unset, .unset, .unset, .unset, .unset, .unset, .unset, .unset] [(.int (lcmpW q2 (0 : Int64)))])) _
    refine XS.ifYes X0.here hx rfl (pc0 := 3) (pc' := 8) rfl (hb hby at_3) rfl ((if0 _ _).trans (feq hc3).2) (by decide) (by decide) ?_
    show Steps p.tables e below (s₁.setTop (mkF m 8 #[.val (.long q1), .second, .val (.long q2), .second, .unset, .unset, .unset, .unset, .unset, .unset, .unset, .unset] [])) _
    refine XS.lloadN X0.here hx rfl (hb hby at_8) rfl ?_
    show Steps p.tables e below (s₁.setTop (mkF m 9 #[.val (.long q1), .second, .val (.long q2), .second, .unset, .unset, .unset, .unset, .unset, .unset, .unset, .unset] [(.long q1)])) _
    refine XS.lloadN X0.here hx rfl (hb hby at_9) rfl ?_
    show Steps p.tables e below (s₁.setTop (mkF m 10 #[.val (.long q1), .second, .val (.long q2), .second, .unset, .unset, .unset, .unset, .unset, .unset, .unset, .unset] [(.long q2), (.long q1)])) _
    refine st3 _ ?_
    show Steps p.tables e below (T3.setTop (mkF m 13 #[.val (.long q1), .second, .val (.long q2), .second, .unset, .unset, .unset, .unset, .unset, .unset, .unset, .unset] [(.long (own_ceil q1 q2))])) _
    refine XS.lstore X3.here hx rfl (hb hby at_13) rfl (l' := #[.val (.long q1), .second, .val (.long q2), .second, .val (.long (own_ceil q1 q2)), .second, .unset, .unset, .unset, .unset, .unset, .unset]) rfl ?_
    show Steps p.tables e below (T3.setTop (mkF m 15 #[.val (.long q1), .second, .val (.long q2), .second, .val (.long (own_ceil q1 q2)), .second, .unset, .unset, .unset, .unset, .unset, .unset] [])) _
    refine XS.lloadN X3.here hx rfl (hb hby at_15) rfl ?_
    show Steps p.tables e below (T3.setTop (mkF m 16 #[.val (.long q1), .second, .val (.long q2), .second, .val (.long (own_ceil q1 q2)), .second, .unset, .unset, .unset, .unset, .unset, .unset] [(.long q1)])) _
    refine XS.lloadN X3.here hx rfl (hb hby at_16) rfl ?_
    show Steps p.tables e below (T3.setTop (mkF m 17 #[.val (.long q1), .second, .val (.long q2), .second, .val (.long (own_ceil q1 q2)), .second, .unset, .unset, .unset, .unset, .unset, .unset] [(.long q2), (.long q1)])) _
    refine XS.ldiv X3.here hx rfl (hb hby at_17) rfl hnz17 ?_
    show Steps p.tables e below (T3.setTop (mkF m 18 #[.val (.long q1), .second, .val (.long q2), .second, .val (.long (own_ceil q1 q2)), .second, .unset, .unset, .unset, .unset, .unset, .unset] [(.long (q1 / q2))])) _
    refine XS.lstore X3.here hx rfl (hb hby at_18) rfl (l' := #[.val (.long q1), .second, .val (.long q2), .second, .val (.long (own_ceil q1 q2)), .second, .val (.long (q1 / q2)), .second, .unset, .unset, .unset, .unset]) rfl ?_
    show Steps p.tables e below (T3.setTop (mkF m 20 #[.val (.long q1), .second, .val (.long q2), .second, .val (.long (own_ceil q1 q2)), .second, .val (.long (q1 / q2)), .second, .unset, .unset, .unset, .unset] [])) _
    refine XS.lload X3.here hx rfl (hb hby at_20) rfl ?_
    show Steps p.tables e below (T3.setTop (mkF m 22 #[.val (.long q1), .second, .val (.long q2), .second, .val (.long (own_ceil q1 q2)), .second, .val (.long (q1 / q2)), .second, .unset, .unset, .unset, .unset] [(.long (own_ceil q1 q2))])) _
    refine XS.lload X3.here hx rfl (hb hby at_22) rfl ?_
    show Steps p.tables e below (T3.setTop (mkF m 24 #[.val (.long q1), .second, .val (.long q2), .second, .val (.long (own_ceil q1 q2)), .second, .val (.long (q1 / q2)), .second, .unset, .unset, .unset, .unset] [(.long (q1 / q2)), (.long (own_ceil q1 q2))])) _
    refine XS.lcmp X3.here hx rfl (hb hby at_24) rfl ?_
    show Steps p.tables e below (T3.setTop (mkF m 25 #[.val (.long q1), .second, .val (.long q2), .second, .val (.long (own_ceil q1 q2)), .second, .val (.long (q1 / q2)), .second, .unset, .unset, .unset, .unset] [(.int (lcmpW (own_ceil q1 q2) (q1 / q2)))])) _
    refine XS.ifYes X3.here hx rfl (pc0 := 25) (pc' := 38) rfl (hb hby at_25) rfl ((if0 _ _).trans (teq hx25).1) (by decide) (by decide) ?_
    show Steps p.tables e below (T3.setTop (mkF m 38 #[.val (.long q1), .second, .val (.long q2), .second, .val (.long (own_ceil q1 q2)), .second, .val (.long (q1 / q2)), .second, .unset, .unset, .unset, .unset] [])) _
    refine XS.iconst X3.here hx rfl (hb hby at_38) ?_
    show Steps p.tables e below (T3.setTop (mkF m 39 #[.val (.long q1), .second, .val (.long q2), .second, .val (.long (own_ceil q1 q2)), .second, .val (.long (q1 / q2)), .second, .unset, .unset, .unset, .unset] [(.int (1 : Int32))])) _
    refine XS.goto X3.here hx rfl (pc0 := 39) (pc' := 43) rfl (hb hby at_39) (by decide) (by decide) ?_
    show Steps p.tables e below (T3.setTop (mkF m 43 #[.val (.long q1), .second, .val (.long q2), .second, .val (.long (own_ceil q1 q2)), .second, .val (.long (q1 / q2)), .second, .unset, .unset, .unset, .unset] [(.int (1 : Int32))])) _
    refine XS.istore X3.here hx rfl (hb hby at_43) rfl (l' := #[.val (.long q1), .second, .val (.long q2), .second, .val (.long (own_ceil q1 q2)), .second, .val (.long (q1 / q2)), .second, .val (.int (1 : Int32)), .unset, .unset, .unset]) rfl ?_
    show Steps p.tables e below (T3.setTop (mkF m 45 #[.val (.long q1), .second, .val (.long q2), .second, .val (.long (own_ceil q1 q2)), .second, .val (.long (q1 / q2)), .second, .val (.int (1 : Int32)), .unset, .unset, .unset] [])) _
    refine XS.lloadN X3.here hx rfl (hb hby at_45) rfl ?_
    show Steps p.tables e below (T3.setTop (mkF m 46 #[.val (.long q1), .second, .val (.long q2), .second, .val (.long (own_ceil q1 q2)), .second, .val (.long (q1 / q2)), .second, .val (.int (1 : Int32)), .unset, .unset, .unset] [(.long q1)])) _
    refine XS.lload X3.here hx rfl (hb hby at_46) rfl ?_
    show Steps p.tables e below (T3.setTop (mkF m 48 #[.val (.long q1), .second, .val (.long q2), .second, .val (.long (own_ceil q1 q2)), .second, .val (.long (q1 / q2)), .second, .val (.int (1 : Int32)), .unset, .unset, .unset] [(.long (own_ceil q1 q2)), (.long q1)])) _
    refine XS.lloadN X3.here hx rfl (hb hby at_48) rfl ?_
    show Steps p.tables e below (T3.setTop (mkF m 49 #[.val (.long q1), .second, .val (.long q2), .second, .val (.long (own_ceil q1 q2)), .second, .val (.long (q1 / q2)), .second, .val (.int (1 : Int32)), .unset, .unset, .unset] [(.long q2), (.long (own_ceil q1 q2)), (.long q1)])) _
    refine XS.lmul X3.here hx rfl (hb hby at_49) rfl ?_
    show Steps p.tables e below (T3.setTop (mkF m 50 #[.val (.long q1), .second, .val (.long q2), .second, .val (.long (own_ceil q1 q2)), .second, .val (.long (q1 / q2)), .second, .val (.int (1 : Int32)), .unset, .unset, .unset] [(.long ((own_ceil q1 q2) * q2)), (.long q1)])) _
    refine XS.lsub X3.here hx rfl (hb hby at_50) rfl ?_
    show Steps p.tables e below (T3.setTop (mkF m 51 #[.val (.long q1), .second, .val (.long q2), .second, .val (.long (own_ceil q1 q2)), .second, .val (.long (q1 / q2)), .second, .val (.int (1 : Int32)), .unset, .unset, .unset] [(.long (q1 - ((own_ceil q1 q2) * q2)))])) _
    refine XS.lstore X3.here hx rfl (hb hby at_51) rfl (l' := #[.val (.long q1), .second, .val (.long q2), .second, .val (.long (own_ceil q1 q2)), .second, .val (.long (q1 / q2)), .second, .val (.int (1 : Int32)), .val (.long (q1 - ((own_ceil q1 q2) * q2))), .second, .unset]) rfl ?_
    show Steps p.tables e below (T3.setTop (mkF m 53 #[.val (.long q1), .second, .val (.long q2), .second, .val (.long (own_ceil q1 q2)), .second, .val (.long (q1 / q2)), .second, .val (.int (1 : Int32)), .val (.long (q1 - ((own_ceil q1 q2) * q2))), .second, .unset] [])) _
    refine XS.lloadN X3.here hx rfl (hb hby at_53) rfl ?_
    show Steps p.tables e below (T3.setTop (mkF m 54 #[.val (.long q1), .second, .val (.long q2), .second, .val (.long (own_ceil q1 q2)), .second, .val (.long (q1 / q2)), .second, .val (.int (1 : Int32)), .val (.long (q1 - ((own_ceil q1 q2) * q2))), .second, .unset] [(.long q2)])) _
    refine XS.lconst X3.here hx rfl (hb hby at_54) ?_
    show Steps p.tables e below (T3.setTop (mkF m 55 #[.val (.long q1), .second, .val (.long q2), .second, .val (.long (own_ceil q1 q2)), .second, .val (.long (q1 / q2)), .second, .val (.int (1 : Int32)), .val (.long (q1 - ((own_ceil q1 q2) * q2))), .second, .unset] [(.long (0 : Int64)), (.long q2)])) _
    refine XS.lcmp X3.here hx rfl (hb hby at_55) rfl ?_
    show Steps p.tables e below (T3.setTop (mkF m 56 #[.val (.long q1), .second, .val (.long q2), .second, .val (.long (own_ceil q1 q2)), .second, .val (.long (q1 / q2)), .second, .val (.int (1 : Int32)), .val (.long (q1 - ((own_ceil q1 q2) * q2))), .second, .unset] [(.int (lcmpW q2 (0 : Int64)))])) _
    refine XS.ifYes X3.here hx rfl (pc0 := 56) (pc' := 85) rfl (hb hby at_56) rfl ((if0 _ _).trans (flt hc56).2.2.2) (by decide) (by decide) ?_
    show Steps p.tables e below (T3.setTop (mkF m 85 #[.val (.long q1), .second, .val (.long q2), .second, .val (.long (own_ceil q1 q2)), .second, .val (.long (q1 / q2)), .second, .val (.int (1 : Int32)), .val (.long (q1 - ((own_ceil q1 q2) * q2))), .second, .unset] [])) _
    refine XS.lload X3.here hx rfl (hb hby at_85) rfl ?_
    show Steps p.tables e below (T3.setTop (mkF m 87 #[.val (.long q1), .second, .val (.long q2), .second, .val (.long (own_ceil q1 q2)), .second, .val (.long (q1 / q2)), .second, .val (.int (1 : Int32)), .val (.long (q1 - ((own_ceil q1 q2) * q2))), .second, .unset] [(.long (q1 - ((own_ceil q1 q2) * q2)))])) _
    refine XS.lconst X3.here hx rfl (hb hby at_87) ?_
    show Steps p.tables e below (T3.setTop (mkF m 88 #[.val (.long q1), .second, .val (.long q2), .second, .val (.long (own_ceil q1 q2)), .second, .val (.long (q1 / q2)), .second, .val (.int (1 : Int32)), .val (.long (q1 - ((own_ceil q1 q2) * q2))), .second, .unset] [(.long (0 : Int64)), (.long (q1 - ((own_ceil q1 q2) * q2)))])) _
    refine XS.lcmp X3.here hx rfl (hb hby at_88) rfl ?_
    show Steps p.tables e below (T3.setTop (mkF m 89 #[.val (.long q1), .second, .val (.long q2), .second, .val (.long (own_ceil q1 q2)), .second, .val (.long (q1 / q2)), .second, .val (.int (1 : Int32)), .val (.long (q1 - ((own_ceil q1 q2) * q2))), .second, .unset] [(.int (lcmpW (q1 - ((own_ceil q1 q2) * q2)) (0 : Int64)))])) _
    refine XS.ifNo X3.here hx rfl (hb hby at_89) rfl ((if0 _ _).trans (flt hx89).1) ?_
    show Steps p.tables e below (T3.setTop (mkF m 92 #[.val (.long q1), .second, .val (.long q2), .second, .val (.long (own_ceil q1 q2)), .second, .val (.long (q1 / q2)), .second, .val (.int (1 : Int32)), .val (.long (q1 - ((own_ceil q1 q2) * q2))), .second, .unset] [])) _
    refine XS.lload X3.here hx rfl (hb hby at_92) rfl ?_
    show Steps p.tables e below (T3.setTop (mkF m 94 #[.val (.long q1), .second, .val (.long q2), .second, .val (.long (own_ceil q1 q2)), .second, .val (.long (q1 / q2)), .second, .val (.int (1 : Int32)), .val (.long (q1 - ((own_ceil q1 q2) * q2))), .second, .unset] [(.long (q1 - ((own_ceil q1 q2) * q2)))])) _
    refine XS.lloadN X3.here hx rfl (hb hby at_94) rfl ?_
    show Steps p.tables e below (T3.setTop (mkF m 95 #[.val (.long q1), .second, .val (.long q2), .second, .val (.long (own_ceil q1 q2)), .second, .val (.long (q1 / q2)), .second, .val (.int (1 : Int32)), .val (.long (q1 - ((own_ceil q1 q2) * q2))), .second, .unset] [(.long q2), (.long (q1 - ((own_ceil q1 q2) * q2)))])) _
    refine XS.ladd X3.here hx rfl (hb hby at_95) rfl ?_
    show Steps p.tables e below (T3.setTop (mkF m 96 #[.val (.long q1), .second, .val (.long q2), .second, .val (.long (own_ceil q1 q2)), .second, .val (.long (q1 / q2)), .second, .val (.int (1 : Int32)), .val (.long (q1 - ((own_ceil q1 q2) * q2))), .second, .unset] [(.long ((q1 - ((own_ceil q1 q2) * q2)) + q2))])) _
    refine XS.lconst X3.here hx rfl (hb hby at_96) ?_
    show Steps p.tables e below (T3.setTop (mkF m 97 #[.val (.long q1), .second, .val (.long q2), .second, .val (.long (own_ceil q1 q2)), .second, .val (.long (q1 / q2)), .second, .val (.int (1 : Int32)), .val (.long (q1 - ((own_ceil q1 q2) * q2))), .second, .unset] [(.long (0 : Int64)), (.long ((q1 - ((own_ceil q1 q2) * q2)) + q2))])) _
    refine XS.lcmp X3.here hx rfl (hb hby at_97) rfl ?_
    show Steps p.tables e below (T3.setTop (mkF m 98 #[.val (.long q1), .second, .val (.long q2), .second, .val (.long (own_ceil q1 q2)), .second, .val (.long (q1 / q2)), .second, .val (.int (1 : Int32)), .val (.long (q1 - ((own_ceil q1 q2) * q2))), .second, .unset] [(.int (lcmpW ((q1 - ((own_ceil q1 q2) * q2)) + q2) (0 : Int64)))])) _
    refine XS.ifNo X3.here hx rfl (hb hby at_98) rfl ((if0 _ _).trans (tlt hx98).2.1) ?_
    show Steps p.tables e below (T3.setTop (mkF m 101 #[.val (.long q1), .second, .val (.long q2), .second, .val (.long (own_ceil q1 q2)), .second, .val (.long (q1 / q2)), .second, .val (.int (1 : Int32)), .val (.long (q1 - ((own_ceil q1 q2) * q2))), .second, .unset] [])) _
    refine XS.iconst X3.here hx rfl (hb hby at_101) ?_
    show Steps p.tables e below (T3.setTop (mkF m 102 #[.val (.long q1), .second, .val (.long q2), .second, .val (.long (own_ceil q1 q2)), .second, .val (.long (q1 / q2)), .second, .val (.int (1 : Int32)), .val (.long (q1 - ((own_ceil q1 q2) * q2))), .second, .unset] [(.int (1 : Int32))])) _
    refine XS.goto X3.here hx rfl (pc0 := 102) (pc' := 106) rfl (hb hby at_102) (by decide) (by decide) ?_
    show Steps p.tables e below (T3.setTop (mkF m 106 #[.val (.long q1), .second, .val (.long q2), .second, .val (.long (own_ceil q1 q2)), .second, .val (.long (q1 / q2)), .second, .val (.int (1 : Int32)), .val (.long (q1 - ((own_ceil q1 q2) * q2))), .second, .unset] [(.int (1 : Int32))])) _
    refine XS.istore X3.here hx rfl (hb hby at_106) rfl (l' := #[.val (.long q1), .second, .val (.long q2), .second, .val (.long (own_ceil q1 q2)), .second, .val (.long (q1 / q2)), .second, .val (.int (1 : Int32)), .val (.long (q1 - ((own_ceil q1 q2) * q2))), .second, .val (.int (1 : Int32))]) rfl ?_
    show Steps p.tables e below (T3.setTop (mkF m 108 #[.val (.long q1), .second, .val (.long q2), .second, .val (.long (own_ceil q1 q2)), .second, .val (.long (q1 / q2)), .second, .val (.int (1 : Int32)), .val (.long (q1 - ((own_ceil q1 q2) * q2))), .second, .val (.int (1 : Int32))] [])) _
    refine XS.iload X3.here hx rfl (hb hby at_108) rfl ?_
    show Steps p.tables e below (T3.setTop (mkF m 110 #[.val (.long q1), .second, .val (.long q2), .second, .val (.long (own_ceil q1 q2)), .second, .val (.long (q1 / q2)), .second, .val (.int (1 : Int32)), .val (.long (q1 - ((own_ceil q1 q2) * q2))), .second, .val (.int (1 : Int32))] [(.int (1 : Int32))])) _
    refine XS.ifNo X3.here hx rfl (hb hby at_110) rfl ((if0 _ _).trans (feq hc110).1) ?_
    show Steps p.tables e below (T3.setTop (mkF m 113 #[.val (.long q1), .second, .val (.long q2), .second, .val (.long (own_ceil q1 q2)), .second, .val (.long (q1 / q2)), .second, .val (.int (1 : Int32)), .val (.long (q1 - ((own_ceil q1 q2) * q2))), .second, .val (.int (1 : Int32))] [])) _
    refine XS.iload X3.here hx rfl (hb hby at_113) rfl ?_
    show Steps p.tables e below (T3.setTop (mkF m 115 #[.val (.long q1), .second, .val (.long q2), .second, .val (.long (own_ceil q1 q2)), .second, .val (.long (q1 / q2)), .second, .val (.int (1 : Int32)), .val (.long (q1 - ((own_ceil q1 q2) * q2))), .second, .val (.int (1 : Int32))] [(.int (1 : Int32))])) _
    refine XS.ifNo X3.here hx rfl (hb hby at_115) rfl ((if0 _ _).trans (feq hc115).1) ?_
    show Steps p.tables e below (T3.setTop (mkF m 118 #[.val (.long q1), .second, .val (.long q2), .second, .val (.long (own_ceil q1 q2)), .second, .val (.long (q1 / q2)), .second, .val (.int (1 : Int32)), .val (.long (q1 - ((own_ceil q1 q2) * q2))), .second, .val (.int (1 : Int32))] [])) _
    refine XS.iconst X3.here hx rfl (hb hby at_118) ?_
    show Steps p.tables e below (T3.setTop (mkF m 119 #[.val (.long q1), .second, .val (.long q2), .second, .val (.long (own_ceil q1 q2)), .second, .val (.long (q1 / q2)), .second, .val (.int (1 : Int32)), .val (.long (q1 - ((own_ceil q1 q2) * q2))), .second, .val (.int (1 : Int32))] [(.int (1 : Int32))])) _
    refine XS.goto X3.here hx rfl (pc0 := 119) (pc' := 123) rfl (hb hby at_119) (by decide) (by decide) ?_
    show Steps p.tables e below (T3.setTop (mkF m 123 #[.val (.long q1), .second, .val (.long q2), .second, .val (.long (own_ceil q1 q2)), .second, .val (.long (q1 / q2)), .second, .val (.int (1 : Int32)), .val (.long (q1 - ((own_ceil q1 q2) * q2))), .second, .val (.int (1 : Int32))] [(.int (1 : Int32))])) _
    exact retN X3 hx (t := .boolean) Bd.returns (by simp) (hb hby at_123) hr
  · show Q0 Z q1 q2 h0 n0 _ T3.heap _
    exact ⟨rfl, N3⟩
set_option maxRecDepth 65536 in
set_option maxHeartbeats 40000000 in
theorem rm0_tfftffff (l : Launch) (Z : State) (a0 : Array Value) (hw : ∀ d ∈ tables_1, d.before a0 Z = true) (ws : List Jvm.Cond) (q1 : Int64) (q2 : Int64) (h0 : Heap) (n0 : Nat) (Z0 : n0 ≤ h0.size) (hc3 : ¬ ((lcmpW q2 (0 : Int64)) = (0 : Int32))) (hnz17 : ¬ (q2 = (0 : Int64))) (hc56 : ¬ ((0 : Int32) < (lcmpW q2 (0 : Int64)))) (hc110 : ¬ ((1 : Int32) = (0 : Int32))) (hc115 : ¬ ((1 : Int32) = (0 : Int32))) (hx25 : ¬ ((lcmpW (own_ceil q1 q2) (q1 / q2)) = (0 : Int32))) (hx35 : (lcmpW (own_ceil q1 q2) ((q1 / q2) + (1 : Int64))) = (0 : Int32)) (hx89 : ¬ ((lcmpW (q1 - ((own_ceil q1 q2) * q2)) (0 : Int64)) < (0 : Int32))) (hx98 : (lcmpW ((q1 - ((own_ceil q1 q2) * q2)) + q2) (0 : Int64)) < (0 : Int32)) :
    MetFree l x (head1 (Jvm.Cond.code x code maxLocals ret :: ws) room_1) (fun a U => a = #[(.long q1), (.long q2)] ∧ Z.Warmed39 U.vm ∧ U.heap = h0) (fun _ _ _ _ _ => True) (fun _ U o U' => ∃ v L, o = .returned v ∧ Q0 Z q1 q2 h0 n0 v U'.heap L ∧ FrameEnd U o U' L room_1.cells room_1.slots) := by
  refine MetFree.of_bodySF (plainFor_of_name pn_0) hisR ?_
  intro p e s m args below meth c s₁ Bd hml0 hP hK
  obtain ⟨rfl, hZ, hh⟩ := hP
  have hx := Bd.exec
  have hby := Bd.bytes
  have hml : c.maxLocals = 12 := hml0
  have hown : s.vm.findClass "com/example/loops_to_gates/loopstogates/util/LongMathCeilDivPinLaw" = some m.cls := findClass_of_methodNamed Bd.named
  have hnm := (name_of_methodNamed Bd.named Bd.method).1
  have X0 : Stand p l e room_1 s m #[(.long q1), (.long q2)] below meth c s₁ [] 0 0 := Stand.of_body Bd
  have e0 : s₁.heap = h0 := by rw [← hh, Bd.state]; rfl
  have N0 := Fr.nil n0
  have pre0 : ∀ t, Steps p.tables e below (s₁.setTop (mkF m 0 #[.val (.long q1), .second, .val (.long q2), .second, .unset, .unset, .unset, .unset, .unset, .unset, .unset, .unset] [])) t → Steps p.tables e below (s₁.setTop (entryFrame m #[(.long q1), (.long q2)] maxLocals)) t := fun t k => castTop (ef_0 m q1 q2) k
  obtain ⟨_, _, ⟨T3, L3, k3, n3⟩, -, X3, ⟨Lc3, hQ3, l3, y3, z3⟩, st3⟩ := Jvm.LawKit.callS X0 hx (y := (⟨"com/example/loops_to_gates/loopstogates/util/LongMath", "ceilDiv", "(JJ)J"⟩ : MethodName)) hown (mvT hZ (hw _ (List.mem_of_getElem? (i := 0) rfl))) (mvT hZ (hw _ (List.mem_of_getElem? (i := 1) rfl))) (mvT hZ (hw _ (List.mem_of_getElem? (i := 2) rfl))) (mvT hZ (hw _ (List.mem_of_getElem? (i := 3) rfl))) (by decide) (backOf (W := 0) (rm1 l Z a0 hw [] q1 q2 h0 n0 Z0 (fun k => hc3 ((lw_eq _ _).mpr k))) hZ (hw _ (List.mem_of_getElem? (i := 3) rfl)) (hw _ (List.mem_of_getElem? (i := 2) rfl)) (by decide) (by decide)) (g := (mkF m 10 #[.val (.long q1), .second, .val (.long q2), .second, .unset, .unset, .unset, .unset, .unset, .unset, .unset, .unset] [(.long q2), (.long q1)])) rfl (by rw [hml]; rfl) (argsL := [(.long q1), (.long q2)]) (rest := []) (lenOf pd_0_0 rfl) rfl (by show 2 * 0 + _ ≤ _; exact Nat.le_of_eq rfl) (hb hby at_10) (fun _ _ => ⟨rfl, e0, (by decide : 0 + 0 ≤ _), (by decide : 0 + 0 ≤ _)⟩)
  dsimp only [Pt.U, Pt.locs, Pt.cells, Pt.slots] at X3 l3 y3 z3 st3 hQ3
  subst l3 y3 z3
  obtain ⟨rfl, N3q, e3q⟩ := hQ3
  have N3 := Fr.app N0 N3q
  obtain ⟨fs, hr, hrun, hended, hW, hsame⟩ := X3.leave (v := some (.int (1 : Int32))) (fun h => by rw [Bd.returns] at h; cases h)
  refine ⟨_, _, pre0 _ ?_, hrun, hended, _, _, rfl, ?_, ⟨_, rfl⟩, hW, hsame.mono (by decide) (by decide)⟩
  · show Steps p.tables e below (s₁.setTop (mkF m 0 #[.val (.long q1), .second, .val (.long q2), .second, .unset, .unset, .unset, .unset, .unset, .unset, .unset, .unset] [])) _
    refine XS.lloadN X0.here hx rfl (hb hby at_0) rfl ?_
    show Steps p.tables e below (s₁.setTop (mkF m 1 #[.val (.long q1), .second, .val (.long q2), .second, .unset, .unset, .unset, .unset, .unset, .unset, .unset, .unset] [(.long q2)])) _
    refine XS.lconst X0.here hx rfl (hb hby at_1) ?_
    show Steps p.tables e below (s₁.setTop (mkF m 2 #[.val (.long q1), .second, .val (.long q2), .second, .unset, .unset, .unset, .unset, .unset, .unset, .unset, .unset] [(.long (0 : Int64)), (.long q2)])) _
    refine XS.lcmp X0.here hx rfl (hb hby at_2) rfl ?_
    show Steps p.tables e below (s₁.setTop (mkF m 3 #[.val (.long q1), .second, .val (.long q2), .second, .unset, .unset, .unset, .unset, .unset, .unset, .unset, .unset] [(.int (lcmpW q2 (0 : Int64)))])) _
    refine XS.ifYes X0.here hx rfl (pc0 := 3) (pc' := 8) rfl (hb hby at_3) rfl ((if0 _ _).trans (feq hc3).2) (by decide) (by decide) ?_
    show Steps p.tables e below (s₁.setTop (mkF m 8 #[.val (.long q1), .second, .val (.long q2), .second, .unset, .unset, .unset, .unset, .unset, .unset, .unset, .unset] [])) _
    refine XS.lloadN X0.here hx rfl (hb hby at_8) rfl ?_
    show Steps p.tables e below (s₁.setTop (mkF m 9 #[.val (.long q1), .second, .val (.long q2), .second, .unset, .unset, .unset, .unset, .unset, .unset, .unset, .unset] [(.long q1)])) _
    refine XS.lloadN X0.here hx rfl (hb hby at_9) rfl ?_
    show Steps p.tables e below (s₁.setTop (mkF m 10 #[.val (.long q1), .second, .val (.long q2), .second, .unset, .unset, .unset, .unset, .unset, .unset, .unset, .unset] [(.long q2), (.long q1)])) _
    refine st3 _ ?_
    show Steps p.tables e below (T3.setTop (mkF m 13 #[.val (.long q1), .second, .val (.long q2), .second, .unset, .unset, .unset, .unset, .unset, .unset, .unset, .unset] [(.long (own_ceil q1 q2))])) _
    refine XS.lstore X3.here hx rfl (hb hby at_13) rfl (l' := #[.val (.long q1), .second, .val (.long q2), .second, .val (.long (own_ceil q1 q2)), .second, .unset, .unset, .unset, .unset, .unset, .unset]) rfl ?_
    show Steps p.tables e below (T3.setTop (mkF m 15 #[.val (.long q1), .second, .val (.long q2), .second, .val (.long (own_ceil q1 q2)), .second, .unset, .unset, .unset, .unset, .unset, .unset] [])) _
    refine XS.lloadN X3.here hx rfl (hb hby at_15) rfl ?_
    show Steps p.tables e below (T3.setTop (mkF m 16 #[.val (.long q1), .second, .val (.long q2), .second, .val (.long (own_ceil q1 q2)), .second, .unset, .unset, .unset, .unset, .unset, .unset] [(.long q1)])) _
    refine XS.lloadN X3.here hx rfl (hb hby at_16) rfl ?_
    show Steps p.tables e below (T3.setTop (mkF m 17 #[.val (.long q1), .second, .val (.long q2), .second, .val (.long (own_ceil q1 q2)), .second, .unset, .unset, .unset, .unset, .unset, .unset] [(.long q2), (.long q1)])) _
    refine XS.ldiv X3.here hx rfl (hb hby at_17) rfl hnz17 ?_
    show Steps p.tables e below (T3.setTop (mkF m 18 #[.val (.long q1), .second, .val (.long q2), .second, .val (.long (own_ceil q1 q2)), .second, .unset, .unset, .unset, .unset, .unset, .unset] [(.long (q1 / q2))])) _
    refine XS.lstore X3.here hx rfl (hb hby at_18) rfl (l' := #[.val (.long q1), .second, .val (.long q2), .second, .val (.long (own_ceil q1 q2)), .second, .val (.long (q1 / q2)), .second, .unset, .unset, .unset, .unset]) rfl ?_
    show Steps p.tables e below (T3.setTop (mkF m 20 #[.val (.long q1), .second, .val (.long q2), .second, .val (.long (own_ceil q1 q2)), .second, .val (.long (q1 / q2)), .second, .unset, .unset, .unset, .unset] [])) _
    refine XS.lload X3.here hx rfl (hb hby at_20) rfl ?_
    show Steps p.tables e below (T3.setTop (mkF m 22 #[.val (.long q1), .second, .val (.long q2), .second, .val (.long (own_ceil q1 q2)), .second, .val (.long (q1 / q2)), .second, .unset, .unset, .unset, .unset] [(.long (own_ceil q1 q2))])) _
    refine XS.lload X3.here hx rfl (hb hby at_22) rfl ?_
    show Steps p.tables e below (T3.setTop (mkF m 24 #[.val (.long q1), .second, .val (.long q2), .second, .val (.long (own_ceil q1 q2)), .second, .val (.long (q1 / q2)), .second, .unset, .unset, .unset, .unset] [(.long (q1 / q2)), (.long (own_ceil q1 q2))])) _
    refine XS.lcmp X3.here hx rfl (hb hby at_24) rfl ?_
    show Steps p.tables e below (T3.setTop (mkF m 25 #[.val (.long q1), .second, .val (.long q2), .second, .val (.long (own_ceil q1 q2)), .second, .val (.long (q1 / q2)), .second, .unset, .unset, .unset, .unset] [(.int (lcmpW (own_ceil q1 q2) (q1 / q2)))])) _
    refine XS.ifNo X3.here hx rfl (hb hby at_25) rfl ((if0 _ _).trans (feq hx25).1) ?_
    show Steps p.tables e below (T3.setTop (mkF m 28 #[.val (.long q1), .second, .val (.long q2), .second, .val (.long (own_ceil q1 q2)), .second, .val (.long (q1 / q2)), .second, .unset, .unset, .unset, .unset] [])) _
    refine XS.lload X3.here hx rfl (hb hby at_28) rfl ?_
    show Steps p.tables e below (T3.setTop (mkF m 30 #[.val (.long q1), .second, .val (.long q2), .second, .val (.long (own_ceil q1 q2)), .second, .val (.long (q1 / q2)), .second, .unset, .unset, .unset, .unset] [(.long (own_ceil q1 q2))])) _
    refine XS.lload X3.here hx rfl (hb hby at_30) rfl ?_
    show Steps p.tables e below (T3.setTop (mkF m 32 #[.val (.long q1), .second, .val (.long q2), .second, .val (.long (own_ceil q1 q2)), .second, .val (.long (q1 / q2)), .second, .unset, .unset, .unset, .unset] [(.long (q1 / q2)), (.long (own_ceil q1 q2))])) _
    refine XS.lconst X3.here hx rfl (hb hby at_32) ?_
    show Steps p.tables e below (T3.setTop (mkF m 33 #[.val (.long q1), .second, .val (.long q2), .second, .val (.long (own_ceil q1 q2)), .second, .val (.long (q1 / q2)), .second, .unset, .unset, .unset, .unset] [(.long (1 : Int64)), (.long (q1 / q2)), (.long (own_ceil q1 q2))])) _
    refine XS.ladd X3.here hx rfl (hb hby at_33) rfl ?_
    show Steps p.tables e below (T3.setTop (mkF m 34 #[.val (.long q1), .second, .val (.long q2), .second, .val (.long (own_ceil q1 q2)), .second, .val (.long (q1 / q2)), .second, .unset, .unset, .unset, .unset] [(.long ((q1 / q2) + (1 : Int64))), (.long (own_ceil q1 q2))])) _
    refine XS.lcmp X3.here hx rfl (hb hby at_34) rfl ?_
    show Steps p.tables e below (T3.setTop (mkF m 35 #[.val (.long q1), .second, .val (.long q2), .second, .val (.long (own_ceil q1 q2)), .second, .val (.long (q1 / q2)), .second, .unset, .unset, .unset, .unset] [(.int (lcmpW (own_ceil q1 q2) ((q1 / q2) + (1 : Int64))))])) _
    refine XS.ifNo X3.here hx rfl (hb hby at_35) rfl ((if0 _ _).trans (teq hx35).2) ?_
    show Steps p.tables e below (T3.setTop (mkF m 38 #[.val (.long q1), .second, .val (.long q2), .second, .val (.long (own_ceil q1 q2)), .second, .val (.long (q1 / q2)), .second, .unset, .unset, .unset, .unset] [])) _
    refine XS.iconst X3.here hx rfl (hb hby at_38) ?_
    show Steps p.tables e below (T3.setTop (mkF m 39 #[.val (.long q1), .second, .val (.long q2), .second, .val (.long (own_ceil q1 q2)), .second, .val (.long (q1 / q2)), .second, .unset, .unset, .unset, .unset] [(.int (1 : Int32))])) _
    refine XS.goto X3.here hx rfl (pc0 := 39) (pc' := 43) rfl (hb hby at_39) (by decide) (by decide) ?_
    show Steps p.tables e below (T3.setTop (mkF m 43 #[.val (.long q1), .second, .val (.long q2), .second, .val (.long (own_ceil q1 q2)), .second, .val (.long (q1 / q2)), .second, .unset, .unset, .unset, .unset] [(.int (1 : Int32))])) _
    refine XS.istore X3.here hx rfl (hb hby at_43) rfl (l' := #[.val (.long q1), .second, .val (.long q2), .second, .val (.long (own_ceil q1 q2)), .second, .val (.long (q1 / q2)), .second, .val (.int (1 : Int32)), .unset, .unset, .unset]) rfl ?_
    show Steps p.tables e below (T3.setTop (mkF m 45 #[.val (.long q1), .second, .val (.long q2), .second, .val (.long (own_ceil q1 q2)), .second, .val (.long (q1 / q2)), .second, .val (.int (1 : Int32)), .unset, .unset, .unset] [])) _
    refine XS.lloadN X3.here hx rfl (hb hby at_45) rfl ?_
    show Steps p.tables e below (T3.setTop (mkF m 46 #[.val (.long q1), .second, .val (.long q2), .second, .val (.long (own_ceil q1 q2)), .second, .val (.long (q1 / q2)), .second, .val (.int (1 : Int32)), .unset, .unset, .unset] [(.long q1)])) _
    refine XS.lload X3.here hx rfl (hb hby at_46) rfl ?_
    show Steps p.tables e below (T3.setTop (mkF m 48 #[.val (.long q1), .second, .val (.long q2), .second, .val (.long (own_ceil q1 q2)), .second, .val (.long (q1 / q2)), .second, .val (.int (1 : Int32)), .unset, .unset, .unset] [(.long (own_ceil q1 q2)), (.long q1)])) _
    refine XS.lloadN X3.here hx rfl (hb hby at_48) rfl ?_
    show Steps p.tables e below (T3.setTop (mkF m 49 #[.val (.long q1), .second, .val (.long q2), .second, .val (.long (own_ceil q1 q2)), .second, .val (.long (q1 / q2)), .second, .val (.int (1 : Int32)), .unset, .unset, .unset] [(.long q2), (.long (own_ceil q1 q2)), (.long q1)])) _
    refine XS.lmul X3.here hx rfl (hb hby at_49) rfl ?_
    show Steps p.tables e below (T3.setTop (mkF m 50 #[.val (.long q1), .second, .val (.long q2), .second, .val (.long (own_ceil q1 q2)), .second, .val (.long (q1 / q2)), .second, .val (.int (1 : Int32)), .unset, .unset, .unset] [(.long ((own_ceil q1 q2) * q2)), (.long q1)])) _
    refine XS.lsub X3.here hx rfl (hb hby at_50) rfl ?_
    show Steps p.tables e below (T3.setTop (mkF m 51 #[.val (.long q1), .second, .val (.long q2), .second, .val (.long (own_ceil q1 q2)), .second, .val (.long (q1 / q2)), .second, .val (.int (1 : Int32)), .unset, .unset, .unset] [(.long (q1 - ((own_ceil q1 q2) * q2)))])) _
    refine XS.lstore X3.here hx rfl (hb hby at_51) rfl (l' := #[.val (.long q1), .second, .val (.long q2), .second, .val (.long (own_ceil q1 q2)), .second, .val (.long (q1 / q2)), .second, .val (.int (1 : Int32)), .val (.long (q1 - ((own_ceil q1 q2) * q2))), .second, .unset]) rfl ?_
    show Steps p.tables e below (T3.setTop (mkF m 53 #[.val (.long q1), .second, .val (.long q2), .second, .val (.long (own_ceil q1 q2)), .second, .val (.long (q1 / q2)), .second, .val (.int (1 : Int32)), .val (.long (q1 - ((own_ceil q1 q2) * q2))), .second, .unset] [])) _
    refine XS.lloadN X3.here hx rfl (hb hby at_53) rfl ?_
    show Steps p.tables e below (T3.setTop (mkF m 54 #[.val (.long q1), .second, .val (.long q2), .second, .val (.long (own_ceil q1 q2)), .second, .val (.long (q1 / q2)), .second, .val (.int (1 : Int32)), .val (.long (q1 - ((own_ceil q1 q2) * q2))), .second, .unset] [(.long q2)])) _
    refine XS.lconst X3.here hx rfl (hb hby at_54) ?_
    show Steps p.tables e below (T3.setTop (mkF m 55 #[.val (.long q1), .second, .val (.long q2), .second, .val (.long (own_ceil q1 q2)), .second, .val (.long (q1 / q2)), .second, .val (.int (1 : Int32)), .val (.long (q1 - ((own_ceil q1 q2) * q2))), .second, .unset] [(.long (0 : Int64)), (.long q2)])) _
    refine XS.lcmp X3.here hx rfl (hb hby at_55) rfl ?_
    show Steps p.tables e below (T3.setTop (mkF m 56 #[.val (.long q1), .second, .val (.long q2), .second, .val (.long (own_ceil q1 q2)), .second, .val (.long (q1 / q2)), .second, .val (.int (1 : Int32)), .val (.long (q1 - ((own_ceil q1 q2) * q2))), .second, .unset] [(.int (lcmpW q2 (0 : Int64)))])) _
    refine XS.ifYes X3.here hx rfl (pc0 := 56) (pc' := 85) rfl (hb hby at_56) rfl ((if0 _ _).trans (flt hc56).2.2.2) (by decide) (by decide) ?_
    show Steps p.tables e below (T3.setTop (mkF m 85 #[.val (.long q1), .second, .val (.long q2), .second, .val (.long (own_ceil q1 q2)), .second, .val (.long (q1 / q2)), .second, .val (.int (1 : Int32)), .val (.long (q1 - ((own_ceil q1 q2) * q2))), .second, .unset] [])) _
    refine XS.lload X3.here hx rfl (hb hby at_85) rfl ?_
    show Steps p.tables e below (T3.setTop (mkF m 87 #[.val (.long q1), .second, .val (.long q2), .second, .val (.long (own_ceil q1 q2)), .second, .val (.long (q1 / q2)), .second, .val (.int (1 : Int32)), .val (.long (q1 - ((own_ceil q1 q2) * q2))), .second, .unset] [(.long (q1 - ((own_ceil q1 q2) * q2)))])) _
    refine XS.lconst X3.here hx rfl (hb hby at_87) ?_
    show Steps p.tables e below (T3.setTop (mkF m 88 #[.val (.long q1), .second, .val (.long q2), .second, .val (.long (own_ceil q1 q2)), .second, .val (.long (q1 / q2)), .second, .val (.int (1 : Int32)), .val (.long (q1 - ((own_ceil q1 q2) * q2))), .second, .unset] [(.long (0 : Int64)), (.long (q1 - ((own_ceil q1 q2) * q2)))])) _
    refine XS.lcmp X3.here hx rfl (hb hby at_88) rfl ?_
    show Steps p.tables e below (T3.setTop (mkF m 89 #[.val (.long q1), .second, .val (.long q2), .second, .val (.long (own_ceil q1 q2)), .second, .val (.long (q1 / q2)), .second, .val (.int (1 : Int32)), .val (.long (q1 - ((own_ceil q1 q2) * q2))), .second, .unset] [(.int (lcmpW (q1 - ((own_ceil q1 q2) * q2)) (0 : Int64)))])) _
    refine XS.ifNo X3.here hx rfl (hb hby at_89) rfl ((if0 _ _).trans (flt hx89).1) ?_
    show Steps p.tables e below (T3.setTop (mkF m 92 #[.val (.long q1), .second, .val (.long q2), .second, .val (.long (own_ceil q1 q2)), .second, .val (.long (q1 / q2)), .second, .val (.int (1 : Int32)), .val (.long (q1 - ((own_ceil q1 q2) * q2))), .second, .unset] [])) _
    refine XS.lload X3.here hx rfl (hb hby at_92) rfl ?_
    show Steps p.tables e below (T3.setTop (mkF m 94 #[.val (.long q1), .second, .val (.long q2), .second, .val (.long (own_ceil q1 q2)), .second, .val (.long (q1 / q2)), .second, .val (.int (1 : Int32)), .val (.long (q1 - ((own_ceil q1 q2) * q2))), .second, .unset] [(.long (q1 - ((own_ceil q1 q2) * q2)))])) _
    refine XS.lloadN X3.here hx rfl (hb hby at_94) rfl ?_
    show Steps p.tables e below (T3.setTop (mkF m 95 #[.val (.long q1), .second, .val (.long q2), .second, .val (.long (own_ceil q1 q2)), .second, .val (.long (q1 / q2)), .second, .val (.int (1 : Int32)), .val (.long (q1 - ((own_ceil q1 q2) * q2))), .second, .unset] [(.long q2), (.long (q1 - ((own_ceil q1 q2) * q2)))])) _
    refine XS.ladd X3.here hx rfl (hb hby at_95) rfl ?_
    show Steps p.tables e below (T3.setTop (mkF m 96 #[.val (.long q1), .second, .val (.long q2), .second, .val (.long (own_ceil q1 q2)), .second, .val (.long (q1 / q2)), .second, .val (.int (1 : Int32)), .val (.long (q1 - ((own_ceil q1 q2) * q2))), .second, .unset] [(.long ((q1 - ((own_ceil q1 q2) * q2)) + q2))])) _
    refine XS.lconst X3.here hx rfl (hb hby at_96) ?_
    show Steps p.tables e below (T3.setTop (mkF m 97 #[.val (.long q1), .second, .val (.long q2), .second, .val (.long (own_ceil q1 q2)), .second, .val (.long (q1 / q2)), .second, .val (.int (1 : Int32)), .val (.long (q1 - ((own_ceil q1 q2) * q2))), .second, .unset] [(.long (0 : Int64)), (.long ((q1 - ((own_ceil q1 q2) * q2)) + q2))])) _
    refine XS.lcmp X3.here hx rfl (hb hby at_97) rfl ?_
    show Steps p.tables e below (T3.setTop (mkF m 98 #[.val (.long q1), .second, .val (.long q2), .second, .val (.long (own_ceil q1 q2)), .second, .val (.long (q1 / q2)), .second, .val (.int (1 : Int32)), .val (.long (q1 - ((own_ceil q1 q2) * q2))), .second, .unset] [(.int (lcmpW ((q1 - ((own_ceil q1 q2) * q2)) + q2) (0 : Int64)))])) _
    refine XS.ifNo X3.here hx rfl (hb hby at_98) rfl ((if0 _ _).trans (tlt hx98).2.1) ?_
    show Steps p.tables e below (T3.setTop (mkF m 101 #[.val (.long q1), .second, .val (.long q2), .second, .val (.long (own_ceil q1 q2)), .second, .val (.long (q1 / q2)), .second, .val (.int (1 : Int32)), .val (.long (q1 - ((own_ceil q1 q2) * q2))), .second, .unset] [])) _
    refine XS.iconst X3.here hx rfl (hb hby at_101) ?_
    show Steps p.tables e below (T3.setTop (mkF m 102 #[.val (.long q1), .second, .val (.long q2), .second, .val (.long (own_ceil q1 q2)), .second, .val (.long (q1 / q2)), .second, .val (.int (1 : Int32)), .val (.long (q1 - ((own_ceil q1 q2) * q2))), .second, .unset] [(.int (1 : Int32))])) _
    refine XS.goto X3.here hx rfl (pc0 := 102) (pc' := 106) rfl (hb hby at_102) (by decide) (by decide) ?_
    show Steps p.tables e below (T3.setTop (mkF m 106 #[.val (.long q1), .second, .val (.long q2), .second, .val (.long (own_ceil q1 q2)), .second, .val (.long (q1 / q2)), .second, .val (.int (1 : Int32)), .val (.long (q1 - ((own_ceil q1 q2) * q2))), .second, .unset] [(.int (1 : Int32))])) _
    refine XS.istore X3.here hx rfl (hb hby at_106) rfl (l' := #[.val (.long q1), .second, .val (.long q2), .second, .val (.long (own_ceil q1 q2)), .second, .val (.long (q1 / q2)), .second, .val (.int (1 : Int32)), .val (.long (q1 - ((own_ceil q1 q2) * q2))), .second, .val (.int (1 : Int32))]) rfl ?_
    show Steps p.tables e below (T3.setTop (mkF m 108 #[.val (.long q1), .second, .val (.long q2), .second, .val (.long (own_ceil q1 q2)), .second, .val (.long (q1 / q2)), .second, .val (.int (1 : Int32)), .val (.long (q1 - ((own_ceil q1 q2) * q2))), .second, .val (.int (1 : Int32))] [])) _
    refine XS.iload X3.here hx rfl (hb hby at_108) rfl ?_
    show Steps p.tables e below (T3.setTop (mkF m 110 #[.val (.long q1), .second, .val (.long q2), .second, .val (.long (own_ceil q1 q2)), .second, .val (.long (q1 / q2)), .second, .val (.int (1 : Int32)), .val (.long (q1 - ((own_ceil q1 q2) * q2))), .second, .val (.int (1 : Int32))] [(.int (1 : Int32))])) _
    refine XS.ifNo X3.here hx rfl (hb hby at_110) rfl ((if0 _ _).trans (feq hc110).1) ?_
    show Steps p.tables e below (T3.setTop (mkF m 113 #[.val (.long q1), .second, .val (.long q2), .second, .val (.long (own_ceil q1 q2)), .second, .val (.long (q1 / q2)), .second, .val (.int (1 : Int32)), .val (.long (q1 - ((own_ceil q1 q2) * q2))), .second, .val (.int (1 : Int32))] [])) _
    refine XS.iload X3.here hx rfl (hb hby at_113) rfl ?_
    show Steps p.tables e below (T3.setTop (mkF m 115 #[.val (.long q1), .second, .val (.long q2), .second, .val (.long (own_ceil q1 q2)), .second, .val (.long (q1 / q2)), .second, .val (.int (1 : Int32)), .val (.long (q1 - ((own_ceil q1 q2) * q2))), .second, .val (.int (1 : Int32))] [(.int (1 : Int32))])) _
    refine XS.ifNo X3.here hx rfl (hb hby at_115) rfl ((if0 _ _).trans (feq hc115).1) ?_
    show Steps p.tables e below (T3.setTop (mkF m 118 #[.val (.long q1), .second, .val (.long q2), .second, .val (.long (own_ceil q1 q2)), .second, .val (.long (q1 / q2)), .second, .val (.int (1 : Int32)), .val (.long (q1 - ((own_ceil q1 q2) * q2))), .second, .val (.int (1 : Int32))] [])) _
    refine XS.iconst X3.here hx rfl (hb hby at_118) ?_
    show Steps p.tables e below (T3.setTop (mkF m 119 #[.val (.long q1), .second, .val (.long q2), .second, .val (.long (own_ceil q1 q2)), .second, .val (.long (q1 / q2)), .second, .val (.int (1 : Int32)), .val (.long (q1 - ((own_ceil q1 q2) * q2))), .second, .val (.int (1 : Int32))] [(.int (1 : Int32))])) _
    refine XS.goto X3.here hx rfl (pc0 := 119) (pc' := 123) rfl (hb hby at_119) (by decide) (by decide) ?_
    show Steps p.tables e below (T3.setTop (mkF m 123 #[.val (.long q1), .second, .val (.long q2), .second, .val (.long (own_ceil q1 q2)), .second, .val (.long (q1 / q2)), .second, .val (.int (1 : Int32)), .val (.long (q1 - ((own_ceil q1 q2) * q2))), .second, .val (.int (1 : Int32))] [(.int (1 : Int32))])) _
    exact retN X3 hx (t := .boolean) Bd.returns (by simp) (hb hby at_123) hr
  · show Q0 Z q1 q2 h0 n0 _ T3.heap _
    exact ⟨rfl, N3⟩
theorem rm0 (l : Launch) (Z : State) (a0 : Array Value) (hw : ∀ d ∈ tables_1, d.before a0 Z = true) (ws : List Jvm.Cond) (q1 : Int64) (q2 : Int64) (h0 : Heap) (n0 : Nat) (Z0 : n0 ≤ h0.size) :
    MetFree l x (head1 (Jvm.Cond.code x code maxLocals ret :: ws) room_1) (fun a U => a = #[(.long q1), (.long q2)] ∧ Z.Warmed39 U.vm ∧ U.heap = h0) (fun _ _ _ _ _ => True) (fun _ U o U' => ∃ v L, o = .returned v ∧ Q0 Z q1 q2 h0 n0 v U'.heap L ∧ FrameEnd U o U' L room_1.cells room_1.slots) := by
  by_cases hb : q2 = 0
  · exact rm0_f l Z a0 hw ws q1 q2 h0 n0 Z0 ((lw_eq _ _).mpr hb)
  · have g3 : ¬ lcmpW q2 0 = 0 := fun k => hb ((lw_eq _ _).mp k)
    obtain ⟨P1, P2, P3⟩ := own_pin q1 q2 hb
    by_cases hs : 0 < q2
    · obtain ⟨u1, u2⟩ := P2 hs
      by_cases hq : own_ceil q1 q2 = q1 / q2
      · exact rm0_ttfffff l Z a0 hw ws q1 q2 h0 n0 Z0 g3 hb ((lw_gt _ _).mpr hs) (by decide) (by decide) ((lw_eq _ _).mpr hq) (fun k => u1 ((lw_gt _ _).mp k)) ((lw_gt _ _).mpr u2)
      · have hq' := P1.resolve_left hq
        exact rm0_tfffffff l Z a0 hw ws q1 q2 h0 n0 Z0 g3 hb ((lw_gt _ _).mpr hs) (by decide) (by decide) (fun k => hq ((lw_eq _ _).mp k)) ((lw_eq _ _).mpr hq') (fun k => u1 ((lw_gt _ _).mp k)) ((lw_gt _ _).mpr u2)
    · obtain ⟨u1, u2⟩ := P3 hs
      by_cases hq : own_ceil q1 q2 = q1 / q2
      · exact rm0_tttffff l Z a0 hw ws q1 q2 h0 n0 Z0 g3 hb (fun k => hs ((lw_gt _ _).mp k)) (by decide) (by decide) ((lw_eq _ _).mpr hq) (fun k => u1 ((lw_lt _ _).mp k)) ((lw_lt _ _).mpr u2)
      · have hq' := P1.resolve_left hq
        exact rm0_tfftffff l Z a0 hw ws q1 q2 h0 n0 Z0 g3 hb (fun k => hs ((lw_gt _ _).mp k)) (by decide) (by decide) (fun k => hq ((lw_eq _ _).mp k)) ((lw_eq _ _).mpr hq') (fun k => u1 ((lw_lt _ _).mp k)) ((lw_lt _ _).mpr u2)
set_option maxRecDepth 65536 in
set_option maxHeartbeats 40000000 in
theorem comes_1 {Post : Tables → Env → Array Value → State → Outcome → State → Prop} (hpost : ∀ tb e args s v u, (limb_1_1.after args s (.returned v) u = true ∧ limb_1_2.after args s (.returned v) u = true ∧ True) → FrameEnd s (.returned v) u (Jvm.fieldLocs frame_1_writes args s ++ Jvm.arrayLocs frame_1_arrays args s ++ Jvm.staticLocs frame_1_statics s) 0 0 → Post tb e args s (.returned v) u) :
    ArmFor flags0 classFile x code maxLocals ret World_1 tables_1 room_1 Calls_1 rest_1 Pre_1 Post := by
  intro l hfl _ _ p e ha hc hk s m args below hf hA hF happ hP
  obtain ⟨hcalls, hrest, hpre⟩ := hP
  obtain ⟨-, -, -, hnamed, -, -, -, hat⟩ := (Spec.applies_iff hf).mp happ
  obtain ⟨hg, hn⟩ := and_e (Cond.before_iff.mp (show (Jvm.Cond.and given_1 narrow_1).before args s = true from hpre))
  obtain ⟨g4, g5⟩ := and_e hg
  obtain ⟨g6, g7⟩ := and_e g5
  obtain ⟨w0, w1, rfl⟩ : ∃ w0 w1 : Value, args = #[w0, w1] := by
    have hs : args.size = 2 := by simpa [Cond.value, given_1] using g4
    obtain ⟨L⟩ := args
    match L, hs with
    | [w0, w1], _ => exact ⟨w0, w1, rfl⟩
  have hw := fun d (hd : d ∈ tables_1) => atoms_spec (ws := Jvm.Cond.code x code maxLocals ret :: tables_1) hat d (List.mem_cons_of_mem _ hd)
  have hfit : Fit s := fun {y c} hc i hi => by
    obtain ⟨ha, rfl⟩ := Array.getElem?_eq_some_iff.mp hc
    have q := List.all_eq_true.mp ((Array.all_eq_true_iff_forall_mem.mp hF) _ (Array.getElem_mem ha)) i (List.mem_range.mpr hi)
    simpa [Array.getElem?_eq_getElem hi] using q
  obtain ⟨i0, ei0⟩ := isL_v g6
  obtain rfl : w0 = (.long i0) := Option.some.inj ei0
  obtain ⟨i1, ei1⟩ := isL_v g7
  obtain rfl : w1 = (.long i1) := Option.some.inj ei1
  obtain ⟨n, o, h1, h2, h3, _, L, rfl, ⟨rfl, N⟩, hq⟩ := rm0 l s _ hw tables_1 i0 i1 s.heap s.heap.size (Nat.le_refl _) p e ha hc hk s m _ below hf ((Spec.applies_iff_loose hf).mp happ).1 ⟨rfl, State.Warmed39.refl s, rfl⟩ trivial
  refine ⟨n, _, h1, h2, h3, hpost _ _ _ _ _ _ ⟨Cond.after_iff.mpr rfl, Cond.after_iff.mpr (eq_i res_at (Term.int_eval (1)) rfl), trivial⟩ ⟨hq.1, hq.2.1, (hq.2.2.sift fun y hy => Or.inr (N y hy)).mono (by decide) (by decide)⟩⟩
theorem main_1_1 : Claimed_1_1 := comes_1 fun _ _ _ _ _ _ h hF => ⟨h.1, hF⟩
theorem main_1_2 : Claimed_1_2 := comes_1 fun _ _ _ _ _ _ h hF => ⟨h.2.1, hF⟩
end Jvm.Pilot.@@N@@
namespace Jvm.Pilot.@@N@@
open Jvm Jvm.ClassFile Sem Op Lib Jvm.Free Jvm.Stand Jvm.Pilot.@@N@@.Jvm.D
/-! MADE BY PROGRAM (witnessworld.py) out of the Statement's table words and the real class files: 7 classes; the members and pool entries that the words name. The judged class is class 1, her method 1. -/
namespace start1
open Jvm.ClassFile
def u (s : String) : CpInfo := .utf8 (stringToUtf16 s)
/-- a pool by its gaps: so many unusable entries, then the entry; so many at the end -/
def gap : Nat → List CpInfo → List CpInfo
  | 0, r => r
  | n + 1, r => .unusable :: gap n r
def poolList (es : List (Nat × CpInfo)) (last : Nat) : List CpInfo := es.foldr (fun e r => gap e.1 (e.2 :: r)) (gap last [])
def pool (es : List (Nat × CpInfo)) (last : Nat) : Array CpInfo := ⟨poolList es last⟩
def fileOf (pool : Array CpInfo) (this : Nat) (attrs : Array Attribute := #[]) (ms : Array MethodInfo := #[]) (fl : Nat := 33) (sup : Nat := 0) (ifs : Array Nat := #[]) (fds : Array FieldInfo := #[]) : ClassFile where
  minorVersion := 0
  majorVersion := 65
  constantPool := pool
  accessFlags := fl
  thisClass := this
  superClass := sup
  interfaces := ifs
  fields := fds
  methods := ms
  attributes := attrs
def plain (name : String) (sup : Option ClassId) : Class where
  name := name
  kind := .ordinary
  loader := none
  accessFlags := 33
  super := sup
  interfaces := #[]
  cf := none
  fields := #[]
  methods := #[]
  instanceTypes := #[]
  staticTypes := #[]
  resolved := #[]
  callSites := []
  init := .initialized
  statics := none
  mirror := none

def pool0 : Array CpInfo := pool [(5, u "<init>"), (0, u "()V"), (1, .class_ 10), (1, u "java/lang/Object")] 113

def k0m0 : Method := { name := "<init>", desc := "()V", sig := { parameters := [], returnType := none }, accessFlags := 1, code := none }
/-- java/lang/Object -/
def k0 : Class := { plain "java/lang/Object" none with
  accessFlags := 33
  interfaces := #[]
  cf := some (fileOf pool0 8 #[] #[{ accessFlags := 1, nameIndex := 5, descriptorIndex := 6, attributes := #[] }] 33 0 #[] #[])
  fields := #[]
  methods := #[k0m0]
  instanceTypes := #[]
  staticTypes := #[]
  resolved := Array.replicate 124 none
  statics := none }

def pool1 : Array CpInfo := pool [(2, .class_ 4), (1, u "java/lang/Object"), (0, u "<init>"), (0, u "()V"), (0, .methodref 8 9), (0, .class_ 10), (0, .nameAndType 11 12), (0, u "com/example/loops_to_gates/loopstogates/util/LongMath"), (0, u "ceilDiv"), (0, u "(JJ)J"), (0, .class_ 14), (0, u "com/example/loops_to_gates/loopstogates/util/LongMathCeilDivPinLaw"), (2, u "law"), (0, u "(JJ)Z")] 3

def k1m0 : Method := { name := "<init>", desc := "()V", sig := { parameters := [], returnType := none }, accessFlags := 2, code := none }
def k1c1 : Code := { maxStack := 6, maxLocals := 12, code := code, exceptionTable := #[], attributes := #[] }
def k1m1 : Method := { name := "law", desc := "(JJ)Z", sig := { parameters := [.long, .long], returnType := some .boolean }, accessFlags := 9, code := some k1c1 }
/-- com/example/loops_to_gates/loopstogates/util/LongMathCeilDivPinLaw -/
def k1 : Class := { plain "com/example/loops_to_gates/loopstogates/util/LongMathCeilDivPinLaw" (some 0) with
  accessFlags := 49
  interfaces := #[]
  cf := some (fileOf pool1 13 #[] #[{ accessFlags := 2, nameIndex := 5, descriptorIndex := 6, attributes := #[] }, { accessFlags := 9, nameIndex := 17, descriptorIndex := 18, attributes := #[] }] 49 2 #[] #[])
  fields := #[]
  methods := #[k1m0, k1m1]
  instanceTypes := #[]
  staticTypes := #[]
  resolved := Array.replicate 22 none
  statics := none }

def pool2 : Array CpInfo := pool [(2, .class_ 4), (1, u "java/lang/Object"), (0, u "<init>"), (0, u "()V"), (6, .class_ 14), (0, u "com/example/loops_to_gates/loopstogates/util/LongMath"), (2, u "ceilDiv"), (0, u "(JJ)J")] 4

def k2m0 : Method := { name := "<init>", desc := "()V", sig := { parameters := [], returnType := none }, accessFlags := 2, code := none }
def k2c1 : Code := { maxStack := 4, maxLocals := 6, code := prog_46_method_2_code, exceptionTable := #[], attributes := #[] }
def k2m1 : Method := { name := "ceilDiv", desc := "(JJ)J", sig := { parameters := [.long, .long], returnType := some .long }, accessFlags := 9, code := some k2c1 }
/-- com/example/loops_to_gates/loopstogates/util/LongMath -/
def k2 : Class := { plain "com/example/loops_to_gates/loopstogates/util/LongMath" (some 0) with
  accessFlags := 49
  interfaces := #[]
  cf := some (fileOf pool2 13 #[] #[{ accessFlags := 2, nameIndex := 5, descriptorIndex := 6, attributes := #[] }, { accessFlags := 9, nameIndex := 17, descriptorIndex := 18, attributes := #[] }] 49 2 #[] #[])
  fields := #[]
  methods := #[k2m0, k2m1]
  instanceTypes := #[]
  staticTypes := #[]
  resolved := Array.replicate 23 none
  statics := none }

def pool3 : Array CpInfo := pool [(1, u "java/lang/Cloneable"), (0, .class_ 1), (0, u "java/lang/Object"), (0, .class_ 3)] 3

/-- java/lang/Cloneable -/
def k3 : Class := { plain "java/lang/Cloneable" (some 0) with
  accessFlags := 1537
  interfaces := #[]
  cf := some (fileOf pool3 2 #[] #[] 1537 4 #[] #[])
  fields := #[]
  methods := #[]
  instanceTypes := #[]
  staticTypes := #[]
  resolved := Array.replicate 8 none
  statics := none }

def pool4 : Array CpInfo := pool [(1, u "java/io/Serializable"), (0, .class_ 1), (0, u "java/lang/Object"), (0, .class_ 3)] 3

/-- java/io/Serializable -/
def k4 : Class := { plain "java/io/Serializable" (some 0) with
  accessFlags := 1537
  interfaces := #[]
  cf := some (fileOf pool4 2 #[] #[] 1537 4 #[] #[])
  fields := #[]
  methods := #[]
  instanceTypes := #[]
  staticTypes := #[]
  resolved := Array.replicate 8 none
  statics := none }

/-- the primitive byte -/
def k5 : Class := { plain "byte" none with kind := .primitive 'B', accessFlags := 0x411 }
/-- [B -/
def k6 : Class := { plain "[B" (some 0) with kind := .array 5 .byte, interfaces := #[3, 4], accessFlags := 1041 }

def heap : Heap := #[]
def classes : Array Class := #[k0, k1, k2, k3, k4, k5, k6]
def interned : List (Array UInt16 × Addr) := []
def slotsUsed : Nat := 0
def theMethod : MethodId := ⟨1, 1⟩
def args0 : Array Value := #[.long 5, .long 3]
def aboutOver (below : List Frame) : State where
  vm := { classes := classes, interned := interned.toArray }
  heap := heap
  slotsUsed := slotsUsed
  threads := #[{ frames := .invoking theMethod args0 :: below }]
def below0 : List Frame := [.native { method := ⟨0, 0⟩, args := #[] }]
def about1 : State := aboutOver below0
def p0 : Program := .bare "" "" ""
def e0 : Env := launch0.env 0 0 0
theorem w_frames : about1.frames = Frame.invoking theMethod args0 :: below0 := rfl
set_option maxRecDepth 65536 in
theorem w_args : argsFit about1.vm theMethod args0 = true := by decide +kernel
set_option maxRecDepth 65536 in
theorem w_heap : heapFits about1 = true := by decide +kernel
set_option maxRecDepth 65536 in
theorem w_runnable : about1.curStatus? = some .runnable := by decide +kernel
set_option maxRecDepth 65536 in
theorem w_alone : about1.alone = true := by decide +kernel
set_option maxRecDepth 65536 in
theorem w_named : about1.methodNamed? x = some theMethod := by decide +kernel
set_option maxRecDepth 65536 in
theorem w_hears : about1.hears theMethod below0 = true := by decide +kernel
set_option maxRecDepth 65536 in
theorem w_ripe : about1.ripe theMethod args0 below0 = true := by decide +kernel
theorem w_running : about1.status = .running := rfl
set_option maxRecDepth 65536 in
theorem w_room : about1.hasRoom e0.platform room_1 = true :=
  launch0.hasRoom_least _ room_1 (by decide +kernel) (by decide +kernel) (by decide +kernel) (by decide +kernel) (by decide +kernel) (by decide +kernel)
theorem allAtoms_all (ts : List Jvm.Cond) (a : Array Jvm.Value) (st : Jvm.State) : (allAtoms ts).before a st = ts.all (fun c => c.before a st) := by
  induction ts with
  | nil => rfl
  | cons c t ih =>
    show (Jvm.Cond.and c (allAtoms t)).before a st = _
    rw [Jvm.Cond.before_and, ih, List.all_cons]
def words1 : List Jvm.Cond := Jvm.Cond.code x code maxLocals ret :: tables_1
/-- a 'code' word, met by the world's own term for the bytes: nothing is compared byte by byte -/
theorem code_word {y : MethodName} {bytes : ByteArray} {mx : Nat} {rt : Option FieldType} {a : Array Value} {s : State} {m : MethodId} {meth : Method} {c : Code} (h1 : s.methodNamed? y = some m) (h2 : s.vm.method? m = some meth) (h3 : meth.code = some c) (h4 : c.code = bytes)
    (h5 : (c.maxLocals == mx && c.exceptionTable.isEmpty && decide (c.maxStack ≤ mostOperands) && decide (meth.sig.returnType = rt) && !meth.locks && decide (parseMethodDescriptor y.desc = some meth.sig)) = true) : (Jvm.Cond.code y bytes mx rt).before a s = true := by
  simp only [Bool.and_eq_true, beq_iff_eq, Bool.not_eq_true', decide_eq_true_eq] at h5
  obtain ⟨⟨⟨⟨⟨g1, g2⟩, g3⟩, g4⟩, g5⟩, g6⟩ := h5
  simp [Cond.before, Cond.holds, Cond.value, h1, h2, h3, h4, g1, g2, g3, g4, g5, g6]
def isCode : Jvm.Cond → Bool
  | .code _ _ _ _ => true
  | _ => false
theorem all_split {L : List Jvm.Cond} {P : Jvm.Cond → Bool} (h1 : L.all (fun c => isCode c || P c) = true) (h2 : ∀ c ∈ L.filter isCode, P c = true) : L.all P = true := by
  refine List.all_eq_true.mpr fun c hc => ?_
  have h := List.all_eq_true.mp h1 c hc
  rcases Bool.eq_false_or_eq_true (isCode c) with hi | hi
  · exact h2 c (List.mem_filter.mpr ⟨hc, hi⟩)
  · simpa [hi] using h
set_option maxRecDepth 65536 in
theorem w_c0 : (Jvm.Cond.code x code maxLocals ret).before args0 about1 = true := code_word (m := ⟨1, 1⟩) (meth := k1m1) (c := k1c1) (by decide +kernel) rfl rfl rfl (by decide +kernel)
set_option maxRecDepth 65536 in
theorem w_c1 : (Jvm.Cond.code ({ cls := "com/example/loops_to_gates/loopstogates/util/LongMath", name := "ceilDiv", desc := "(JJ)J" } : Jvm.MethodName) prog_46_method_2_code (6 : Nat) (Option.some Jvm.ClassFile.FieldType.long)).before args0 about1 = true := code_word (m := ⟨2, 1⟩) (meth := k2m1) (c := k2c1) (by decide +kernel) rfl rfl rfl (by decide +kernel)
def codes1 : List Jvm.Cond := [Jvm.Cond.code x code maxLocals ret, Jvm.Cond.code ({ cls := "com/example/loops_to_gates/loopstogates/util/LongMath", name := "ceilDiv", desc := "(JJ)J" } : Jvm.MethodName) prog_46_method_2_code (6 : Nat) (Option.some Jvm.ClassFile.FieldType.long)]
set_option maxRecDepth 65536 in
theorem codes_eq : words1.filter isCode = codes1 := rfl
theorem w_codes : ∀ c ∈ words1.filter isCode, c.before args0 about1 = true := by
  rw [codes_eq]
  intro c hc
  simp only [codes1, List.mem_cons, List.not_mem_nil, or_false] at hc
  rcases hc with rfl | rfl
  · exact w_c0
  · exact w_c1
set_option maxRecDepth 65536 in
theorem w_t1 : words1.all (fun c => isCode c || c.before args0 about1) = true := by decide +kernel
theorem w_tables : (allAtoms (Jvm.Cond.code x code maxLocals ret :: tables_1)).before args0 about1 = true := by
  rw [allAtoms_all]
  show words1.all (fun c => c.before args0 about1) = true
  refine all_split ?_ w_codes
  rw [w_t1]
set_option maxRecDepth 65536 in
theorem w_case : (Jvm.Cond.and given_1 narrow_1).before args0 about1 = true := by decide +kernel
theorem w_applies : (headSpec (Jvm.Cond.code x code maxLocals ret :: tables_1) room_1).applies x e0.platform about1 = true :=
  (Spec.applies_iff w_frames).mpr ⟨w_running, w_runnable, w_alone, w_named, w_hears, w_ripe, w_room, w_tables⟩
theorem atStart : AtStart classFile x code maxLocals ret World_1 tables_1 room_1 Calls_1 rest_1 Pre_1 launch0 p0 e0 about1 theMethod args0 below0 :=
  ⟨lists_1, trivial, launch0.admits_env _ _ _, launch0.least_env, fairChoices_fair.cas, fairChoices_fair.clock, w_frames, w_args, w_heap, w_applies, trivial, trivial, w_case⟩
end start1
theorem witness_1 : WitnessClaimed_1 := ⟨start1.p0, start1.e0, start1.about1, start1.theMethod, start1.args0, start1.below0, start1.atStart⟩
end Jvm.Pilot.@@N@@
