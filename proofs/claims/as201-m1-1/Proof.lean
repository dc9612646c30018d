import JvmDerived
import JvmDerived.Pilot.@@N@@Statement
import JvmDerived.Pilot.@@N@@Code
set_option linter.unusedVariables false
set_option linter.unusedSimpArgs false
namespace Jvm.RoadKit
open Sem ClassFile Op Lib Jvm.Stand Jvm.Free Jvm.LawKit
section New
variable {p : Program} {l : Launch} {e : Env} {R : Room} {s : State} {m : MethodId} {args : Array Value} {below : List Frame} {meth : Method} {c : Code} {T : State} {locs : List Loc} {cells slots : Nat}
theorem retI (X : Stand p l e R s m args below meth c T locs cells slots) (hx : p.tables.exec = Jvm.exec) {pc : Nat} {Ls : Array Slot} {z : Int32} {rest : List Value} (hret : meth.sig.returnType = some .int) (hd : decode c.code pc = .ok (.ireturn, 1)) {fs : List Frame}
    (hl : ∀ (f : JFrame) (acts : List Action), f.method = m → f.locked = none → f.entered = [] → (doReturn e (T.setTop f) acts (some (.int z))).1 = T.setFrames fs) : Steps p.tables e below (T.setTop (mkF m pc Ls (.int z :: rest))) (T.setFrames fs) := by
  have hm' : T.vm.method? m = some meth := X.method'
  have hn : narrow .int (.int z) = .int z := rfl
  show Steps p.tables e below (T.setTop { method := m, pc := pc, locals := Ls, stack := _ :: rest, locked := none }) _
  jvm_step X.here [X.here.top, hx, hd, hm', hret, hn]
  first | (intro acts; rw [hl _ acts rfl rfl rfl]) | rw [hl _ _ rfl rfl rfl]
  exact Steps.refl _
end New
end Jvm.RoadKit
namespace Jvm.Pilot.@@N@@
open Jvm Jvm.ClassFile Sem Op Lib Jvm.Free Jvm.Stand Jvm.LawKit Jvm.RoadKit Bundle Jvm.Pilot.@@N@@.Jvm.D
def adF (a b : Int64) : Int64 := if a + b < 0 then 9223372036854775807 else a + b
def rfF (a b : Int64) : Int64 := if (9223372036854775807 : Int64) - b < a then 9223372036854775807 else a + b
theorem own_add (a b : Int64) (ha : 0 ≤ a.toInt) (hb : 0 ≤ b.toInt) : adF a b = rfF a b := by
  have h1 := c_ladd a b
  have h2 := c_lsub (9223372036854775807 : Int64) b
  have h3 := rng64 (a + b)
  have h4 := rng64 ((9223372036854775807 : Int64) - b)
  have h5 := rng64 a
  have h6 := rng64 b
  have h7 : (9223372036854775807 : Int64).toInt = 9223372036854775807 := by decide
  have h8 : (0 : Int64).toInt = 0 := by decide
  rw [h7] at h2
  have key : (a + b < 0) ↔ ((9223372036854775807 : Int64) - b < a) := by
    rw [Int64.lt_iff_toInt_lt, Int64.lt_iff_toInt_lt, h8]; omega
  simp only [adF, rfF, key]
theorem own_add' (a b : Int64) (ha : 0 ≤ a.toInt) (hb : 0 ≤ b.toInt) : adF b a = rfF a b := by
  rw [← own_add a b ha hb]; simp only [adF, Int64.add_comm b a]
theorem own_msk (a : Int64) : 0 ≤ (a &&& (9223372036854775807 : Int64)).toInt := by
  have := c_maskL a 9223372036854775807 63 (by decide) (by decide)
  rw [this]; omega
theorem own_byte (a : Int64) : 0 ≤ (a &&& (255 : Int64)).toInt ∧ (a &&& (255 : Int64)).toInt < 256 := by
  have := c_maskL a 255 8 (by decide) (by decide)
  rw [this]; omega
theorem own_top (a : Int64) : 0 ≤ ((9223372036854775807 : Int64) - (a &&& (255 : Int64))).toInt := by
  have h2 := c_lsub (9223372036854775807 : Int64) (a &&& (255 : Int64))
  have h4 := rng64 ((9223372036854775807 : Int64) - (a &&& (255 : Int64)))
  have h5 := own_byte a
  have h7 : (9223372036854775807 : Int64).toInt = 9223372036854775807 := by decide
  rw [h7] at h2; omega
theorem d1_0 : decode prog_6_method_2_code 0 = .ok (.lload_n 0, 1) := by decide +kernel
theorem d1_1 : decode prog_6_method_2_code 1 = .ok (.lload_n 2, 1) := by decide +kernel
theorem d1_2 : decode prog_6_method_2_code 2 = .ok (.ladd, 1) := by decide +kernel
theorem d1_3 : decode prog_6_method_2_code 3 = .ok (.lstore 4, 2) := by decide +kernel
theorem d1_5 : decode prog_6_method_2_code 5 = .ok (.lload 4, 2) := by decide +kernel
theorem d1_7 : decode prog_6_method_2_code 7 = .ok (.lconst 0, 1) := by decide +kernel
theorem d1_8 : decode prog_6_method_2_code 8 = .ok (.lcmp, 1) := by decide +kernel
theorem d1_9 : decode prog_6_method_2_code 9 = .ok (.ifCond .ge 9, 3) := by decide +kernel
theorem d1_12 : decode prog_6_method_2_code 12 = .ok (.ldc2_w 11, 3) := by decide +kernel
theorem d1_15 : decode prog_6_method_2_code 15 = .ok (.goto 5, 3) := by decide +kernel
theorem d1_20 : decode prog_6_method_2_code 20 = .ok (.lreturn, 1) := by decide +kernel
theorem pn_1 : plainName "com/example/sluice/sluice/internal/Demand" = true := by first | (simp [plainName, overriddenIn]; done) | decide +kernel
theorem ef_1 (m : MethodId) (x0 : Int64) (x1 : Int64) : entryFrame m #[(.long x0), (.long x1)] 6 = mkF m 0 #[.val (.long x0), .second, .val (.long x1), .second, .unset, .unset] [] := by first | (simp [entryFrame, mkF, argsToLocals, Value.category]; done) | rfl
def Q1 (Z : State) (q1 : Int64) (q2 : Int64) (h0 : Heap) (n0 : Nat) (v : Option Value) (h : Heap) (L : List Loc) : Prop := v = some (.long (adF q1 q2)) ∧ Fr n0 L ∧ h = h0
set_option maxRecDepth 65536 in
set_option maxHeartbeats 40000000 in
theorem rm1_f (l : Launch) (Z : State) (a0 : Array Value) (hw : ∀ d ∈ tables_1, d.before a0 Z = true) (ws : List Jvm.Cond) (q1 : Int64) (q2 : Int64) (h0 : Heap) (n0 : Nat) (Z0 : n0 ≤ h0.size) (hc9 : (lcmpW (q1 + q2) (0 : Int64)) < (0 : Int32)) :
    MetFree l (⟨"com/example/sluice/sluice/internal/Demand", "add", "(JJ)J"⟩ : MethodName) (head1 (Jvm.Cond.code (⟨"com/example/sluice/sluice/internal/Demand", "add", "(JJ)J"⟩ : MethodName) prog_6_method_2_code 6 (some .long) :: ws) ({ frames := 0, cells := 0, slots := 0, locals := 0 } : Room)) (fun a U => a = #[(.long q1), (.long q2)] ∧ Z.Warmed39 U.vm ∧ U.heap = h0) (fun _ _ _ _ _ => True) (fun _ U o U' => ∃ v L, o = .returned v ∧ Q1 Z q1 q2 h0 n0 v U'.heap L ∧ FrameEnd U o U' L ({ frames := 0, cells := 0, slots := 0, locals := 0 } : Room).cells ({ frames := 0, cells := 0, slots := 0, locals := 0 } : Room).slots) := by
  refine MetFree.of_bodySF (plainFor_of_name pn_1) hisR ?_
  intro p e s m args below meth c s₁ Bd hml0 hP hK
  obtain ⟨rfl, hZ, hh⟩ := hP
  have hx := Bd.exec
  have hby := Bd.bytes
  have hml : c.maxLocals = 6 := hml0
  have hown : s.vm.findClass "com/example/sluice/sluice/internal/Demand" = some m.cls := findClass_of_methodNamed Bd.named
  have hnm := (name_of_methodNamed Bd.named Bd.method).1
  have X0 : Stand p l e ({ frames := 0, cells := 0, slots := 0, locals := 0 } : Room) s m #[(.long q1), (.long q2)] below meth c s₁ [] 0 0 := Stand.of_body Bd
  have e0 : s₁.heap = h0 := by rw [← hh, Bd.state]; rfl
  have N0 := Fr.nil n0
  have pre0 : ∀ t, Steps p.tables e below (s₁.setTop (mkF m 0 #[.val (.long q1), .second, .val (.long q2), .second, .unset, .unset] [])) t → Steps p.tables e below (s₁.setTop (entryFrame m #[(.long q1), (.long q2)] 6)) t := fun t k => castTop (ef_1 m q1 q2) k
  -- 3. LAWS

  obtain ⟨fs, hr, hrun, hended, hW, hsame⟩ := X0.leave (v := some (.long (9223372036854775807 : Int64))) (fun h => by rw [Bd.returns] at h; cases h)
  refine ⟨_, _, pre0 _ ?_, hrun, hended, _, _, rfl, ?_, ⟨_, rfl⟩, hW, hsame.mono (by decide) (by decide)⟩
  -- 4. STEPS
  · show Steps p.tables e below (s₁.setTop (mkF m 0 #[.val (.long q1), .second, .val (.long q2), .second, .unset, .unset] [])) _
    refine XS.lloadN X0.here hx rfl (hb hby d1_0) rfl ?_
    show Steps p.tables e below (s₁.setTop (mkF m 1 #[.val (.long q1), .second, .val (.long q2), .second, .unset, .unset] [(.long q1)])) _
    refine XS.lloadN X0.here hx rfl (hb hby d1_1) rfl ?_
    show Steps p.tables e below (s₁.setTop (mkF m 2 #[.val (.long q1), .second, .val (.long q2), .second, .unset, .unset] [(.long q2), (.long q1)])) _
    refine XS.ladd X0.here hx rfl (hb hby d1_2) rfl ?_
    show Steps p.tables e below (s₁.setTop (mkF m 3 #[.val (.long q1), .second, .val (.long q2), .second, .unset, .unset] [(.long (q1 + q2))])) _
    refine XS.lstore X0.here hx rfl (hb hby d1_3) rfl (l' := #[.val (.long q1), .second, .val (.long q2), .second, .val (.long (q1 + q2)), .second]) rfl ?_
    show Steps p.tables e below (s₁.setTop (mkF m 5 #[.val (.long q1), .second, .val (.long q2), .second, .val (.long (q1 + q2)), .second] [])) _
    refine XS.lload X0.here hx rfl (hb hby d1_5) rfl ?_
    show Steps p.tables e below (s₁.setTop (mkF m 7 #[.val (.long q1), .second, .val (.long q2), .second, .val (.long (q1 + q2)), .second] [(.long (q1 + q2))])) _
    refine XS.lconst X0.here hx rfl (hb hby d1_7) ?_
    show Steps p.tables e below (s₁.setTop (mkF m 8 #[.val (.long q1), .second, .val (.long q2), .second, .val (.long (q1 + q2)), .second] [(.long (0 : Int64)), (.long (q1 + q2))])) _
    refine XS.lcmp X0.here hx rfl (hb hby d1_8) rfl ?_
    show Steps p.tables e below (s₁.setTop (mkF m 9 #[.val (.long q1), .second, .val (.long q2), .second, .val (.long (q1 + q2)), .second] [(.int (lcmpW (q1 + q2) (0 : Int64)))])) _
    refine XS.ifNo X0.here hx rfl (hb hby d1_9) rfl ((if0 _ _).trans (tlt hc9).2.1) ?_
    show Steps p.tables e below (s₁.setTop (mkF m 12 #[.val (.long q1), .second, .val (.long q2), .second, .val (.long (q1 + q2)), .second] [])) _
    refine X0.ldc2Long hx hown (mvT hZ (hw _ (List.mem_of_getElem? (i := 10) rfl))) (g := (mkF m 12 #[.val (.long q1), .second, .val (.long q2), .second, .val (.long (q1 + q2)), .second] [])) rfl (hb hby d1_12) _ ?_
    show Steps p.tables e below (s₁.setTop (mkF m 15 #[.val (.long q1), .second, .val (.long q2), .second, .val (.long (q1 + q2)), .second] [(.long (9223372036854775807 : Int64))])) _
    refine XS.goto X0.here hx rfl (pc0 := 15) (pc' := 20) rfl (hb hby d1_15) (by decide) (by decide) ?_
    show Steps p.tables e below (s₁.setTop (mkF m 20 #[.val (.long q1), .second, .val (.long q2), .second, .val (.long (q1 + q2)), .second] [(.long (9223372036854775807 : Int64))])) _
    jvm_step X0.here [X0.here.top, hx, (hb hby d1_20), X0.method', Bd.returns, narrow]
    first | (intro acts; rw [hr _ acts rfl rfl rfl]) | rw [hr _ _ rfl rfl rfl]
    exact Steps.refl _
  · show Q1 Z q1 q2 h0 n0 _ s₁.heap _
    rw [e0]
    exact ⟨by rw [adF, if_pos ((lw_lt _ _).mp hc9)], N0, rfl⟩
theorem d1_18 : decode prog_6_method_2_code 18 = .ok (.lload 4, 2) := by decide +kernel
set_option maxRecDepth 65536 in
set_option maxHeartbeats 40000000 in
theorem rm1_t (l : Launch) (Z : State) (a0 : Array Value) (hw : ∀ d ∈ tables_1, d.before a0 Z = true) (ws : List Jvm.Cond) (q1 : Int64) (q2 : Int64) (h0 : Heap) (n0 : Nat) (Z0 : n0 ≤ h0.size) (hc9 : ¬ ((lcmpW (q1 + q2) (0 : Int64)) < (0 : Int32))) :
    MetFree l (⟨"com/example/sluice/sluice/internal/Demand", "add", "(JJ)J"⟩ : MethodName) (head1 (Jvm.Cond.code (⟨"com/example/sluice/sluice/internal/Demand", "add", "(JJ)J"⟩ : MethodName) prog_6_method_2_code 6 (some .long) :: ws) ({ frames := 0, cells := 0, slots := 0, locals := 0 } : Room)) (fun a U => a = #[(.long q1), (.long q2)] ∧ Z.Warmed39 U.vm ∧ U.heap = h0) (fun _ _ _ _ _ => True) (fun _ U o U' => ∃ v L, o = .returned v ∧ Q1 Z q1 q2 h0 n0 v U'.heap L ∧ FrameEnd U o U' L ({ frames := 0, cells := 0, slots := 0, locals := 0 } : Room).cells ({ frames := 0, cells := 0, slots := 0, locals := 0 } : Room).slots) := by
  refine MetFree.of_bodySF (plainFor_of_name pn_1) hisR ?_
  intro p e s m args below meth c s₁ Bd hml0 hP hK
  obtain ⟨rfl, hZ, hh⟩ := hP
  have hx := Bd.exec
  have hby := Bd.bytes
  have hml : c.maxLocals = 6 := hml0
  have hown : s.vm.findClass "com/example/sluice/sluice/internal/Demand" = some m.cls := findClass_of_methodNamed Bd.named
  have hnm := (name_of_methodNamed Bd.named Bd.method).1
  have X0 : Stand p l e ({ frames := 0, cells := 0, slots := 0, locals := 0 } : Room) s m #[(.long q1), (.long q2)] below meth c s₁ [] 0 0 := Stand.of_body Bd
  have e0 : s₁.heap = h0 := by rw [← hh, Bd.state]; rfl
  have N0 := Fr.nil n0
  have pre0 : ∀ t, Steps p.tables e below (s₁.setTop (mkF m 0 #[.val (.long q1), .second, .val (.long q2), .second, .unset, .unset] [])) t → Steps p.tables e below (s₁.setTop (entryFrame m #[(.long q1), (.long q2)] 6)) t := fun t k => castTop (ef_1 m q1 q2) k
  -- 3. LAWS

  obtain ⟨fs, hr, hrun, hended, hW, hsame⟩ := X0.leave (v := some (.long (q1 + q2))) (fun h => by rw [Bd.returns] at h; cases h)
  refine ⟨_, _, pre0 _ ?_, hrun, hended, _, _, rfl, ?_, ⟨_, rfl⟩, hW, hsame.mono (by decide) (by decide)⟩
  -- 4. STEPS
  · show Steps p.tables e below (s₁.setTop (mkF m 0 #[.val (.long q1), .second, .val (.long q2), .second, .unset, .unset] [])) _
    refine XS.lloadN X0.here hx rfl (hb hby d1_0) rfl ?_
    show Steps p.tables e below (s₁.setTop (mkF m 1 #[.val (.long q1), .second, .val (.long q2), .second, .unset, .unset] [(.long q1)])) _
    refine XS.lloadN X0.here hx rfl (hb hby d1_1) rfl ?_
    show Steps p.tables e below (s₁.setTop (mkF m 2 #[.val (.long q1), .second, .val (.long q2), .second, .unset, .unset] [(.long q2), (.long q1)])) _
    refine XS.ladd X0.here hx rfl (hb hby d1_2) rfl ?_
    show Steps p.tables e below (s₁.setTop (mkF m 3 #[.val (.long q1), .second, .val (.long q2), .second, .unset, .unset] [(.long (q1 + q2))])) _
    refine XS.lstore X0.here hx rfl (hb hby d1_3) rfl (l' := #[.val (.long q1), .second, .val (.long q2), .second, .val (.long (q1 + q2)), .second]) rfl ?_
    show Steps p.tables e below (s₁.setTop (mkF m 5 #[.val (.long q1), .second, .val (.long q2), .second, .val (.long (q1 + q2)), .second] [])) _
    refine XS.lload X0.here hx rfl (hb hby d1_5) rfl ?_
    show Steps p.tables e below (s₁.setTop (mkF m 7 #[.val (.long q1), .second, .val (.long q2), .second, .val (.long (q1 + q2)), .second] [(.long (q1 + q2))])) _
    refine XS.lconst X0.here hx rfl (hb hby d1_7) ?_
    show Steps p.tables e below (s₁.setTop (mkF m 8 #[.val (.long q1), .second, .val (.long q2), .second, .val (.long (q1 + q2)), .second] [(.long (0 : Int64)), (.long (q1 + q2))])) _
    refine XS.lcmp X0.here hx rfl (hb hby d1_8) rfl ?_
    show Steps p.tables e below (s₁.setTop (mkF m 9 #[.val (.long q1), .second, .val (.long q2), .second, .val (.long (q1 + q2)), .second] [(.int (lcmpW (q1 + q2) (0 : Int64)))])) _
    refine XS.ifYes X0.here hx rfl (pc0 := 9) (pc' := 18) rfl (hb hby d1_9) rfl ((if0 _ _).trans (flt hc9).2.1) (by decide) (by decide) ?_
    show Steps p.tables e below (s₁.setTop (mkF m 18 #[.val (.long q1), .second, .val (.long q2), .second, .val (.long (q1 + q2)), .second] [])) _
    refine XS.lload X0.here hx rfl (hb hby d1_18) rfl ?_
    show Steps p.tables e below (s₁.setTop (mkF m 20 #[.val (.long q1), .second, .val (.long q2), .second, .val (.long (q1 + q2)), .second] [(.long (q1 + q2))])) _
    jvm_step X0.here [X0.here.top, hx, (hb hby d1_20), X0.method', Bd.returns, narrow]
    first | (intro acts; rw [hr _ acts rfl rfl rfl]) | rw [hr _ _ rfl rfl rfl]
    exact Steps.refl _
  · show Q1 Z q1 q2 h0 n0 _ s₁.heap _
    rw [e0]
    exact ⟨by rw [adF, if_neg (fun q => hc9 ((lw_lt _ _).mpr q))], N0, rfl⟩
theorem rm1 (l : Launch) (Z : State) (a0 : Array Value) (hw : ∀ d ∈ tables_1, d.before a0 Z = true) (ws : List Jvm.Cond) (q1 : Int64) (q2 : Int64) (h0 : Heap) (n0 : Nat) (Z0 : n0 ≤ h0.size) :
    MetFree l (⟨"com/example/sluice/sluice/internal/Demand", "add", "(JJ)J"⟩ : MethodName) (head1 (Jvm.Cond.code (⟨"com/example/sluice/sluice/internal/Demand", "add", "(JJ)J"⟩ : MethodName) prog_6_method_2_code 6 (some .long) :: ws) ({ frames := 0, cells := 0, slots := 0, locals := 0 } : Room)) (fun a U => a = #[(.long q1), (.long q2)] ∧ Z.Warmed39 U.vm ∧ U.heap = h0) (fun _ _ _ _ _ => True) (fun _ U o U' => ∃ v L, o = .returned v ∧ Q1 Z q1 q2 h0 n0 v U'.heap L ∧ FrameEnd U o U' L ({ frames := 0, cells := 0, slots := 0, locals := 0 } : Room).cells ({ frames := 0, cells := 0, slots := 0, locals := 0 } : Room).slots) := by
  by_cases h1 : (lcmpW (q1 + q2) (0 : Int64)) < (0 : Int32)
  · exact rm1_f l Z a0 hw ws q1 q2 h0 n0 Z0 h1
  · exact rm1_t l Z a0 hw ws q1 q2 h0 n0 Z0 h1
theorem d2_0 : decode method_2_code 0 = .ok (.lload_n 0, 1) := by decide +kernel
theorem d2_1 : decode method_2_code 1 = .ok (.ldc2_w 9, 3) := by decide +kernel
theorem d2_4 : decode method_2_code 4 = .ok (.lload_n 2, 1) := by decide +kernel
theorem d2_5 : decode method_2_code 5 = .ok (.lsub, 1) := by decide +kernel
theorem d2_6 : decode method_2_code 6 = .ok (.lcmp, 1) := by decide +kernel
theorem d2_7 : decode method_2_code 7 = .ok (.ifCond .le 7, 3) := by decide +kernel
theorem d2_10 : decode method_2_code 10 = .ok (.ldc2_w 9, 3) := by decide +kernel
theorem d2_13 : decode method_2_code 13 = .ok (.lreturn, 1) := by decide +kernel
theorem pn_2 : plainName "com/example/sluice/sluice/internal/DemandAddPinLaw" = true := by first | (simp [plainName, overriddenIn]; done) | decide +kernel
theorem ef_2 (m : MethodId) (x0 : Int64) (x1 : Int64) : entryFrame m #[(.long x0), (.long x1)] 4 = mkF m 0 #[.val (.long x0), .second, .val (.long x1), .second] [] := by first | (simp [entryFrame, mkF, argsToLocals, Value.category]; done) | rfl
def Q2 (Z : State) (q1 : Int64) (q2 : Int64) (h0 : Heap) (n0 : Nat) (v : Option Value) (h : Heap) (L : List Loc) : Prop := v = some (.long (rfF q1 q2)) ∧ Fr n0 L ∧ h = h0
set_option maxRecDepth 65536 in
set_option maxHeartbeats 40000000 in
theorem rm2_f (l : Launch) (Z : State) (a0 : Array Value) (hw : ∀ d ∈ tables_1, d.before a0 Z = true) (ws : List Jvm.Cond) (q1 : Int64) (q2 : Int64) (h0 : Heap) (n0 : Nat) (Z0 : n0 ≤ h0.size) (hc7 : (0 : Int32) < (lcmpW q1 ((9223372036854775807 : Int64) - q2))) :
    MetFree l (⟨"com/example/sluice/sluice/internal/DemandAddPinLaw", "reference", "(JJ)J"⟩ : MethodName) (head1 (Jvm.Cond.code (⟨"com/example/sluice/sluice/internal/DemandAddPinLaw", "reference", "(JJ)J"⟩ : MethodName) method_2_code 4 (some .long) :: ws) ({ frames := 0, cells := 0, slots := 0, locals := 0 } : Room)) (fun a U => a = #[(.long q1), (.long q2)] ∧ Z.Warmed39 U.vm ∧ U.heap = h0) (fun _ _ _ _ _ => True) (fun _ U o U' => ∃ v L, o = .returned v ∧ Q2 Z q1 q2 h0 n0 v U'.heap L ∧ FrameEnd U o U' L ({ frames := 0, cells := 0, slots := 0, locals := 0 } : Room).cells ({ frames := 0, cells := 0, slots := 0, locals := 0 } : Room).slots) := by
  refine MetFree.of_bodySF (plainFor_of_name pn_2) hisR ?_
  intro p e s m args below meth c s₁ Bd hml0 hP hK
  obtain ⟨rfl, hZ, hh⟩ := hP
  have hx := Bd.exec
  have hby := Bd.bytes
  have hml : c.maxLocals = 4 := hml0
  have hown : s.vm.findClass "com/example/sluice/sluice/internal/DemandAddPinLaw" = some m.cls := findClass_of_methodNamed Bd.named
  have hnm := (name_of_methodNamed Bd.named Bd.method).1
  have X0 : Stand p l e ({ frames := 0, cells := 0, slots := 0, locals := 0 } : Room) s m #[(.long q1), (.long q2)] below meth c s₁ [] 0 0 := Stand.of_body Bd
  have e0 : s₁.heap = h0 := by rw [← hh, Bd.state]; rfl
  have N0 := Fr.nil n0
  have pre0 : ∀ t, Steps p.tables e below (s₁.setTop (mkF m 0 #[.val (.long q1), .second, .val (.long q2), .second] [])) t → Steps p.tables e below (s₁.setTop (entryFrame m #[(.long q1), (.long q2)] 4)) t := fun t k => castTop (ef_2 m q1 q2) k
  -- 3. LAWS

  obtain ⟨fs, hr, hrun, hended, hW, hsame⟩ := X0.leave (v := some (.long (9223372036854775807 : Int64))) (fun h => by rw [Bd.returns] at h; cases h)
  refine ⟨_, _, pre0 _ ?_, hrun, hended, _, _, rfl, ?_, ⟨_, rfl⟩, hW, hsame.mono (by decide) (by decide)⟩
  -- 4. STEPS
  · show Steps p.tables e below (s₁.setTop (mkF m 0 #[.val (.long q1), .second, .val (.long q2), .second] [])) _
    refine XS.lloadN X0.here hx rfl (hb hby d2_0) rfl ?_
    show Steps p.tables e below (s₁.setTop (mkF m 1 #[.val (.long q1), .second, .val (.long q2), .second] [(.long q1)])) _
    refine X0.ldc2Long hx hown (mvT hZ (hw _ (List.mem_of_getElem? (i := 0) rfl))) (g := (mkF m 1 #[.val (.long q1), .second, .val (.long q2), .second] [(.long q1)])) rfl (hb hby d2_1) _ ?_
    show Steps p.tables e below (s₁.setTop (mkF m 4 #[.val (.long q1), .second, .val (.long q2), .second] [(.long (9223372036854775807 : Int64)), (.long q1)])) _
    refine XS.lloadN X0.here hx rfl (hb hby d2_4) rfl ?_
    show Steps p.tables e below (s₁.setTop (mkF m 5 #[.val (.long q1), .second, .val (.long q2), .second] [(.long q2), (.long (9223372036854775807 : Int64)), (.long q1)])) _
    refine XS.lsub X0.here hx rfl (hb hby d2_5) rfl ?_
    show Steps p.tables e below (s₁.setTop (mkF m 6 #[.val (.long q1), .second, .val (.long q2), .second] [(.long ((9223372036854775807 : Int64) - q2)), (.long q1)])) _
    refine XS.lcmp X0.here hx rfl (hb hby d2_6) rfl ?_
    show Steps p.tables e below (s₁.setTop (mkF m 7 #[.val (.long q1), .second, .val (.long q2), .second] [(.int (lcmpW q1 ((9223372036854775807 : Int64) - q2)))])) _
    refine XS.ifNo X0.here hx rfl (hb hby d2_7) rfl ((if0 _ _).trans (tlt hc7).2.2.2) ?_
    show Steps p.tables e below (s₁.setTop (mkF m 10 #[.val (.long q1), .second, .val (.long q2), .second] [])) _
    refine X0.ldc2Long hx hown (mvT hZ (hw _ (List.mem_of_getElem? (i := 0) rfl))) (g := (mkF m 10 #[.val (.long q1), .second, .val (.long q2), .second] [])) rfl (hb hby d2_10) _ ?_
    show Steps p.tables e below (s₁.setTop (mkF m 13 #[.val (.long q1), .second, .val (.long q2), .second] [(.long (9223372036854775807 : Int64))])) _
    jvm_step X0.here [X0.here.top, hx, (hb hby d2_13), X0.method', Bd.returns, narrow]
    first | (intro acts; rw [hr _ acts rfl rfl rfl]) | rw [hr _ _ rfl rfl rfl]
    exact Steps.refl _
  · show Q2 Z q1 q2 h0 n0 _ s₁.heap _
    rw [e0]
    exact ⟨by rw [rfF, if_pos ((lw_gt _ _).mp hc7)], N0, rfl⟩
theorem d2_14 : decode method_2_code 14 = .ok (.lload_n 0, 1) := by decide +kernel
theorem d2_15 : decode method_2_code 15 = .ok (.lload_n 2, 1) := by decide +kernel
theorem d2_16 : decode method_2_code 16 = .ok (.ladd, 1) := by decide +kernel
theorem d2_17 : decode method_2_code 17 = .ok (.lreturn, 1) := by decide +kernel
set_option maxRecDepth 65536 in
set_option maxHeartbeats 40000000 in
theorem rm2_t (l : Launch) (Z : State) (a0 : Array Value) (hw : ∀ d ∈ tables_1, d.before a0 Z = true) (ws : List Jvm.Cond) (q1 : Int64) (q2 : Int64) (h0 : Heap) (n0 : Nat) (Z0 : n0 ≤ h0.size) (hc7 : ¬ ((0 : Int32) < (lcmpW q1 ((9223372036854775807 : Int64) - q2)))) :
    MetFree l (⟨"com/example/sluice/sluice/internal/DemandAddPinLaw", "reference", "(JJ)J"⟩ : MethodName) (head1 (Jvm.Cond.code (⟨"com/example/sluice/sluice/internal/DemandAddPinLaw", "reference", "(JJ)J"⟩ : MethodName) method_2_code 4 (some .long) :: ws) ({ frames := 0, cells := 0, slots := 0, locals := 0 } : Room)) (fun a U => a = #[(.long q1), (.long q2)] ∧ Z.Warmed39 U.vm ∧ U.heap = h0) (fun _ _ _ _ _ => True) (fun _ U o U' => ∃ v L, o = .returned v ∧ Q2 Z q1 q2 h0 n0 v U'.heap L ∧ FrameEnd U o U' L ({ frames := 0, cells := 0, slots := 0, locals := 0 } : Room).cells ({ frames := 0, cells := 0, slots := 0, locals := 0 } : Room).slots) := by
  refine MetFree.of_bodySF (plainFor_of_name pn_2) hisR ?_
  intro p e s m args below meth c s₁ Bd hml0 hP hK
  obtain ⟨rfl, hZ, hh⟩ := hP
  have hx := Bd.exec
  have hby := Bd.bytes
  have hml : c.maxLocals = 4 := hml0
  have hown : s.vm.findClass "com/example/sluice/sluice/internal/DemandAddPinLaw" = some m.cls := findClass_of_methodNamed Bd.named
  have hnm := (name_of_methodNamed Bd.named Bd.method).1
  have X0 : Stand p l e ({ frames := 0, cells := 0, slots := 0, locals := 0 } : Room) s m #[(.long q1), (.long q2)] below meth c s₁ [] 0 0 := Stand.of_body Bd
  have e0 : s₁.heap = h0 := by rw [← hh, Bd.state]; rfl
  have N0 := Fr.nil n0
  have pre0 : ∀ t, Steps p.tables e below (s₁.setTop (mkF m 0 #[.val (.long q1), .second, .val (.long q2), .second] [])) t → Steps p.tables e below (s₁.setTop (entryFrame m #[(.long q1), (.long q2)] 4)) t := fun t k => castTop (ef_2 m q1 q2) k
  -- 3. LAWS

  obtain ⟨fs, hr, hrun, hended, hW, hsame⟩ := X0.leave (v := some (.long (q1 + q2))) (fun h => by rw [Bd.returns] at h; cases h)
  refine ⟨_, _, pre0 _ ?_, hrun, hended, _, _, rfl, ?_, ⟨_, rfl⟩, hW, hsame.mono (by decide) (by decide)⟩
  -- 4. STEPS
  · show Steps p.tables e below (s₁.setTop (mkF m 0 #[.val (.long q1), .second, .val (.long q2), .second] [])) _
    refine XS.lloadN X0.here hx rfl (hb hby d2_0) rfl ?_
    show Steps p.tables e below (s₁.setTop (mkF m 1 #[.val (.long q1), .second, .val (.long q2), .second] [(.long q1)])) _
    refine X0.ldc2Long hx hown (mvT hZ (hw _ (List.mem_of_getElem? (i := 0) rfl))) (g := (mkF m 1 #[.val (.long q1), .second, .val (.long q2), .second] [(.long q1)])) rfl (hb hby d2_1) _ ?_
    show Steps p.tables e below (s₁.setTop (mkF m 4 #[.val (.long q1), .second, .val (.long q2), .second] [(.long (9223372036854775807 : Int64)), (.long q1)])) _
    refine XS.lloadN X0.here hx rfl (hb hby d2_4) rfl ?_
    show Steps p.tables e below (s₁.setTop (mkF m 5 #[.val (.long q1), .second, .val (.long q2), .second] [(.long q2), (.long (9223372036854775807 : Int64)), (.long q1)])) _
    refine XS.lsub X0.here hx rfl (hb hby d2_5) rfl ?_
    show Steps p.tables e below (s₁.setTop (mkF m 6 #[.val (.long q1), .second, .val (.long q2), .second] [(.long ((9223372036854775807 : Int64) - q2)), (.long q1)])) _
    refine XS.lcmp X0.here hx rfl (hb hby d2_6) rfl ?_
    show Steps p.tables e below (s₁.setTop (mkF m 7 #[.val (.long q1), .second, .val (.long q2), .second] [(.int (lcmpW q1 ((9223372036854775807 : Int64) - q2)))])) _
    refine XS.ifYes X0.here hx rfl (pc0 := 7) (pc' := 14) rfl (hb hby d2_7) rfl ((if0 _ _).trans (flt hc7).2.2.2) (by decide) (by decide) ?_
    show Steps p.tables e below (s₁.setTop (mkF m 14 #[.val (.long q1), .second, .val (.long q2), .second] [])) _
    refine XS.lloadN X0.here hx rfl (hb hby d2_14) rfl ?_
    show Steps p.tables e below (s₁.setTop (mkF m 15 #[.val (.long q1), .second, .val (.long q2), .second] [(.long q1)])) _
    refine XS.lloadN X0.here hx rfl (hb hby d2_15) rfl ?_
    show Steps p.tables e below (s₁.setTop (mkF m 16 #[.val (.long q1), .second, .val (.long q2), .second] [(.long q2), (.long q1)])) _
    refine XS.ladd X0.here hx rfl (hb hby d2_16) rfl ?_
    show Steps p.tables e below (s₁.setTop (mkF m 17 #[.val (.long q1), .second, .val (.long q2), .second] [(.long (q1 + q2))])) _
    jvm_step X0.here [X0.here.top, hx, (hb hby d2_17), X0.method', Bd.returns, narrow]
    first | (intro acts; rw [hr _ acts rfl rfl rfl]) | rw [hr _ _ rfl rfl rfl]
    exact Steps.refl _
  · show Q2 Z q1 q2 h0 n0 _ s₁.heap _
    rw [e0]
    exact ⟨by rw [rfF, if_neg (fun q => hc7 ((lw_gt _ _).mpr q))], N0, rfl⟩
theorem rm2 (l : Launch) (Z : State) (a0 : Array Value) (hw : ∀ d ∈ tables_1, d.before a0 Z = true) (ws : List Jvm.Cond) (q1 : Int64) (q2 : Int64) (h0 : Heap) (n0 : Nat) (Z0 : n0 ≤ h0.size) :
    MetFree l (⟨"com/example/sluice/sluice/internal/DemandAddPinLaw", "reference", "(JJ)J"⟩ : MethodName) (head1 (Jvm.Cond.code (⟨"com/example/sluice/sluice/internal/DemandAddPinLaw", "reference", "(JJ)J"⟩ : MethodName) method_2_code 4 (some .long) :: ws) ({ frames := 0, cells := 0, slots := 0, locals := 0 } : Room)) (fun a U => a = #[(.long q1), (.long q2)] ∧ Z.Warmed39 U.vm ∧ U.heap = h0) (fun _ _ _ _ _ => True) (fun _ U o U' => ∃ v L, o = .returned v ∧ Q2 Z q1 q2 h0 n0 v U'.heap L ∧ FrameEnd U o U' L ({ frames := 0, cells := 0, slots := 0, locals := 0 } : Room).cells ({ frames := 0, cells := 0, slots := 0, locals := 0 } : Room).slots) := by
  by_cases h1 : (0 : Int32) < (lcmpW q1 ((9223372036854775807 : Int64) - q2))
  · exact rm2_f l Z a0 hw ws q1 q2 h0 n0 Z0 h1
  · exact rm2_t l Z a0 hw ws q1 q2 h0 n0 Z0 h1
theorem pn_0 : plainName "com/example/sluice/sluice/internal/DemandAddPinLaw" = true := by first | (simp [plainName, overriddenIn]; done) | decide +kernel
theorem pd_0_0 : parseMethodDescriptor "(JJ)J" = some ⟨[.long, .long], some .long⟩ := by decide +kernel
theorem ef_0 (m : MethodId) (x0 : Int64) (x1 : Int64) (x2 : Int32) : entryFrame m #[(.long x0), (.long x1), (.int x2)] maxLocals = mkF m 0 #[.val (.long x0), .second, .val (.long x1), .second, .val (.int x2), .unset, .unset, .unset, .unset, .unset, .unset, .unset, .unset, .unset, .unset, .unset] [] := by first | (simp [entryFrame, mkF, argsToLocals, Value.category, maxLocals]; done) | rfl
def Q0 (Z : State) (q1 : Int64) (q2 : Int64) (p3 : Int32) (h0 : Heap) (n0 : Nat) (v : Option Value) (h : Heap) (L : List Loc) : Prop := v = some (.int (1 : Int32)) ∧ Fr n0 L
set_option maxRecDepth 65536 in
set_option maxHeartbeats 40000000 in
theorem rm0_fff (l : Launch) (Z : State) (a0 : Array Value) (hw : ∀ d ∈ tables_1, d.before a0 Z = true) (ws : List Jvm.Cond) (q1 : Int64) (q2 : Int64) (p3 : Int32) (h0 : Heap) (n0 : Nat) (Z0 : n0 ≤ h0.size) (hc8 : (p3 &&& (3 : Int32)) = (0 : Int32)) :
    MetFree l x (head1 (Jvm.Cond.code x code maxLocals ret :: ws) room_1) (fun a U => a = #[(.long q1), (.long q2), (.int p3)] ∧ Z.Warmed39 U.vm ∧ U.heap = h0) (fun _ _ _ _ _ => True) (fun _ U o U' => ∃ v L, o = .returned v ∧ Q0 Z q1 q2 p3 h0 n0 v U'.heap L ∧ FrameEnd U o U' L room_1.cells room_1.slots) := by
  refine MetFree.of_bodySF (plainFor_of_name pn_0) hisR ?_
  intro p e s m args below meth c s₁ Bd hml0 hP hK
  obtain ⟨rfl, hZ, hh⟩ := hP
  have hx := Bd.exec
  have hby := Bd.bytes
  have hml : c.maxLocals = 16 := hml0
  have hown : s.vm.findClass "com/example/sluice/sluice/internal/DemandAddPinLaw" = some m.cls := findClass_of_methodNamed Bd.named
  have hnm := (name_of_methodNamed Bd.named Bd.method).1
  have X0 : Stand p l e room_1 s m #[(.long q1), (.long q2), (.int p3)] below meth c s₁ [] 0 0 := Stand.of_body Bd
  have e0 : s₁.heap = h0 := by rw [← hh, Bd.state]; rfl
  have N0 := Fr.nil n0
  have pre0 : ∀ t, Steps p.tables e below (s₁.setTop (mkF m 0 #[.val (.long q1), .second, .val (.long q2), .second, .val (.int p3), .unset, .unset, .unset, .unset, .unset, .unset, .unset, .unset, .unset, .unset, .unset] [])) t → Steps p.tables e below (s₁.setTop (entryFrame m #[(.long q1), (.long q2), (.int p3)] maxLocals)) t := fun t k => castTop (ef_0 m q1 q2 p3) k
  -- 3. LAWS
  -- pc 109: com/example/sluice/sluice/internal/Demand.add by its contract rm1
  obtain ⟨_, _, ⟨T4, L4, k4, n4⟩, -, X4, ⟨Lc4, hQ4, l4, y4, z4⟩, st4⟩ := Jvm.LawKit.callS X0 hx (y := (⟨"com/example/sluice/sluice/internal/Demand", "add", "(JJ)J"⟩ : MethodName)) hown (mvT hZ (hw _ (List.mem_of_getElem? (i := 1) rfl))) (mvT hZ (hw _ (List.mem_of_getElem? (i := 2) rfl))) (mvT hZ (hw _ (List.mem_of_getElem? (i := 3) rfl))) (mvT hZ (hw _ (List.mem_of_getElem? (i := 4) rfl))) (by decide) (backOf (W := 0) (rm1 l Z a0 hw [] (q1 &&& (9223372036854775807 : Int64)) (q2 &&& (9223372036854775807 : Int64)) h0 n0 Z0) hZ (hw _ (List.mem_of_getElem? (i := 4) rfl)) (hw _ (List.mem_of_getElem? (i := 3) rfl)) (by decide) (by decide)) (g := (mkF m 109 #[.val (.long q1), .second, .val (.long q2), .second, .val (.int p3), .val (.long (q1 &&& (9223372036854775807 : Int64))), .second, .val (.long (q2 &&& (9223372036854775807 : Int64))), .second, .val (.int (p3 &&& (3 : Int32))), .unset, .unset, .unset, .unset, .unset, .unset] [(.long (q2 &&& (9223372036854775807 : Int64))), (.long (q1 &&& (9223372036854775807 : Int64)))])) rfl (by rw [hml]; rfl) (argsL := [(.long (q1 &&& (9223372036854775807 : Int64))), (.long (q2 &&& (9223372036854775807 : Int64)))]) (rest := []) (lenOf pd_0_0 rfl) rfl (by show 2 * 0 + _ ≤ _; exact Nat.le_of_eq rfl) (hb hby at_109) (fun _ _ => ⟨rfl, e0, (by decide : 0 + 0 ≤ _), (by decide : 0 + 0 ≤ _)⟩)
  dsimp only [Pt.U, Pt.locs, Pt.cells, Pt.slots] at X4 l4 y4 z4 st4 hQ4
  subst l4 y4 z4
  obtain ⟨rfl, N4q, eq4⟩ := hQ4      -- what it returned, that it wrote nothing old, and the rest of your Q1
  have N4 := Fr.app N0 N4q
  -- pc 118: com/example/sluice/sluice/internal/Demand.add by its contract rm1
  obtain ⟨_, _, ⟨T5, L5, k5, n5⟩, -, X5, ⟨Lc5, hQ5, l5, y5, z5⟩, st5⟩ := Jvm.LawKit.callS X4 hx (y := (⟨"com/example/sluice/sluice/internal/Demand", "add", "(JJ)J"⟩ : MethodName)) hown (mvT hZ (hw _ (List.mem_of_getElem? (i := 1) rfl))) (mvT hZ (hw _ (List.mem_of_getElem? (i := 2) rfl))) (mvT hZ (hw _ (List.mem_of_getElem? (i := 3) rfl))) (mvT hZ (hw _ (List.mem_of_getElem? (i := 4) rfl))) (by decide) (backOf (W := 0) (rm1 l Z a0 hw [] (q2 &&& (9223372036854775807 : Int64)) (q1 &&& (9223372036854775807 : Int64)) T4.heap n0 (by rw [eq4]; exact Z0)) hZ (hw _ (List.mem_of_getElem? (i := 4) rfl)) (hw _ (List.mem_of_getElem? (i := 3) rfl)) (by decide) (by decide)) (g := (mkF m 118 #[.val (.long q1), .second, .val (.long q2), .second, .val (.int p3), .val (.long (q1 &&& (9223372036854775807 : Int64))), .second, .val (.long (q2 &&& (9223372036854775807 : Int64))), .second, .val (.int (p3 &&& (3 : Int32))), .val (.long (adF (q1 &&& (9223372036854775807 : Int64)) (q2 &&& (9223372036854775807 : Int64)))), .second, .unset, .unset, .unset, .unset] [(.long (q1 &&& (9223372036854775807 : Int64))), (.long (q2 &&& (9223372036854775807 : Int64)))])) rfl (by rw [hml]; rfl) (argsL := [(.long (q2 &&& (9223372036854775807 : Int64))), (.long (q1 &&& (9223372036854775807 : Int64)))]) (rest := []) (lenOf pd_0_0 rfl) rfl (by show 2 * 0 + _ ≤ _; exact Nat.le_of_eq rfl) (hb hby at_118) (fun _ _ => ⟨rfl, rfl, (by decide : 0 + 0 ≤ _), (by decide : 0 + 0 ≤ _)⟩)
  dsimp only [Pt.U, Pt.locs, Pt.cells, Pt.slots] at X5 l5 y5 z5 st5 hQ5
  subst l5 y5 z5
  obtain ⟨rfl, N5q, eq5⟩ := hQ5      -- what it returned, that it wrote nothing old, and the rest of your Q1
  have N5 := Fr.app N4 N5q
  -- pc 127: com/example/sluice/sluice/internal/DemandAddPinLaw.reference by its contract rm2
  obtain ⟨_, _, ⟨T6, L6, k6, n6⟩, -, X6, ⟨Lc6, hQ6, l6, y6, z6⟩, st6⟩ := Jvm.LawKit.callS X5 hx (y := (⟨"com/example/sluice/sluice/internal/DemandAddPinLaw", "reference", "(JJ)J"⟩ : MethodName)) hown (mvT hZ (hw _ (List.mem_of_getElem? (i := 5) rfl))) (mvT hZ (hw _ (List.mem_of_getElem? (i := 6) rfl))) (mvT hZ (hw _ (List.mem_of_getElem? (i := 7) rfl))) (mvT hZ (hw _ (List.mem_of_getElem? (i := 8) rfl))) (by decide) (backOf (W := 0) (rm2 l Z a0 hw [] (q1 &&& (9223372036854775807 : Int64)) (q2 &&& (9223372036854775807 : Int64)) T5.heap n0 (by rw [eq5, eq4]; exact Z0)) hZ (hw _ (List.mem_of_getElem? (i := 8) rfl)) (hw _ (List.mem_of_getElem? (i := 7) rfl)) (by decide) (by decide)) (g := (mkF m 127 #[.val (.long q1), .second, .val (.long q2), .second, .val (.int p3), .val (.long (q1 &&& (9223372036854775807 : Int64))), .second, .val (.long (q2 &&& (9223372036854775807 : Int64))), .second, .val (.int (p3 &&& (3 : Int32))), .val (.long (adF (q1 &&& (9223372036854775807 : Int64)) (q2 &&& (9223372036854775807 : Int64)))), .second, .val (.long (adF (q2 &&& (9223372036854775807 : Int64)) (q1 &&& (9223372036854775807 : Int64)))), .second, .unset, .unset] [(.long (q2 &&& (9223372036854775807 : Int64))), (.long (q1 &&& (9223372036854775807 : Int64)))])) rfl (by rw [hml]; rfl) (argsL := [(.long (q1 &&& (9223372036854775807 : Int64))), (.long (q2 &&& (9223372036854775807 : Int64)))]) (rest := []) (lenOf pd_0_0 rfl) rfl (by show 2 * 0 + _ ≤ _; exact Nat.le_of_eq rfl) (hb hby at_127) (fun _ _ => ⟨rfl, rfl, (by decide : 0 + 0 ≤ _), (by decide : 0 + 0 ≤ _)⟩)
  dsimp only [Pt.U, Pt.locs, Pt.cells, Pt.slots] at X6 l6 y6 z6 st6 hQ6
  subst l6 y6 z6
  obtain ⟨rfl, N6q, eq6⟩ := hQ6      -- what it returned, that it wrote nothing old, and the rest of your Q2
  have N6 := Fr.app N5 N6q
  obtain ⟨fs, hr, hrun, hended, hW, hsame⟩ := X6.leave (v := some (.int (1 : Int32))) (fun h => by rw [Bd.returns] at h; cases h)
  refine ⟨_, _, pre0 _ ?_, hrun, hended, _, _, rfl, ?_, ⟨_, rfl⟩, hW, hsame.mono (by decide) (by decide)⟩
  -- 4. STEPS
  · show Steps p.tables e below (s₁.setTop (mkF m 0 #[.val (.long q1), .second, .val (.long q2), .second, .val (.int p3), .unset, .unset, .unset, .unset, .unset, .unset, .unset, .unset, .unset, .unset, .unset] [])) _
    refine XS.iload X0.here hx rfl (hb hby at_0) rfl ?_
    show Steps p.tables e below (s₁.setTop (mkF m 2 #[.val (.long q1), .second, .val (.long q2), .second, .val (.int p3), .unset, .unset, .unset, .unset, .unset, .unset, .unset, .unset, .unset, .unset, .unset] [(.int p3)])) _
    refine XS.iconst X0.here hx rfl (hb hby at_2) ?_
    show Steps p.tables e below (s₁.setTop (mkF m 3 #[.val (.long q1), .second, .val (.long q2), .second, .val (.int p3), .unset, .unset, .unset, .unset, .unset, .unset, .unset, .unset, .unset, .unset, .unset] [(.int (3 : Int32)), (.int p3)])) _
    refine XS.iand X0.here hx rfl (hb hby at_3) rfl ?_
    show Steps p.tables e below (s₁.setTop (mkF m 4 #[.val (.long q1), .second, .val (.long q2), .second, .val (.int p3), .unset, .unset, .unset, .unset, .unset, .unset, .unset, .unset, .unset, .unset, .unset] [(.int (p3 &&& (3 : Int32)))])) _
    refine XS.istore X0.here hx rfl (hb hby at_4) rfl (l' := #[.val (.long q1), .second, .val (.long q2), .second, .val (.int p3), .unset, .unset, .unset, .unset, .val (.int (p3 &&& (3 : Int32))), .unset, .unset, .unset, .unset, .unset, .unset]) rfl ?_
    show Steps p.tables e below (s₁.setTop (mkF m 6 #[.val (.long q1), .second, .val (.long q2), .second, .val (.int p3), .unset, .unset, .unset, .unset, .val (.int (p3 &&& (3 : Int32))), .unset, .unset, .unset, .unset, .unset, .unset] [])) _
    refine XS.iload X0.here hx rfl (hb hby at_6) rfl ?_
    show Steps p.tables e below (s₁.setTop (mkF m 8 #[.val (.long q1), .second, .val (.long q2), .second, .val (.int p3), .unset, .unset, .unset, .unset, .val (.int (p3 &&& (3 : Int32))), .unset, .unset, .unset, .unset, .unset, .unset] [(.int (p3 &&& (3 : Int32)))])) _
    refine XS.ifNo X0.here hx rfl (hb hby at_8) rfl ((if0 _ _).trans (teq hc8).2) ?_
    show Steps p.tables e below (s₁.setTop (mkF m 11 #[.val (.long q1), .second, .val (.long q2), .second, .val (.int p3), .unset, .unset, .unset, .unset, .val (.int (p3 &&& (3 : Int32))), .unset, .unset, .unset, .unset, .unset, .unset] [])) _
    refine XS.lloadN X0.here hx rfl (hb hby at_11) rfl ?_
    show Steps p.tables e below (s₁.setTop (mkF m 12 #[.val (.long q1), .second, .val (.long q2), .second, .val (.int p3), .unset, .unset, .unset, .unset, .val (.int (p3 &&& (3 : Int32))), .unset, .unset, .unset, .unset, .unset, .unset] [(.long q1)])) _
    refine X0.ldc2Long hx hown (mvT hZ (hw _ (List.mem_of_getElem? (i := 0) rfl))) (g := (mkF m 12 #[.val (.long q1), .second, .val (.long q2), .second, .val (.int p3), .unset, .unset, .unset, .unset, .val (.int (p3 &&& (3 : Int32))), .unset, .unset, .unset, .unset, .unset, .unset] [(.long q1)])) rfl (hb hby at_12) _ ?_
    show Steps p.tables e below (s₁.setTop (mkF m 15 #[.val (.long q1), .second, .val (.long q2), .second, .val (.int p3), .unset, .unset, .unset, .unset, .val (.int (p3 &&& (3 : Int32))), .unset, .unset, .unset, .unset, .unset, .unset] [(.long (9223372036854775807 : Int64)), (.long q1)])) _
    refine XS.land X0.here hx rfl (hb hby at_15) rfl ?_
    show Steps p.tables e below (s₁.setTop (mkF m 16 #[.val (.long q1), .second, .val (.long q2), .second, .val (.int p3), .unset, .unset, .unset, .unset, .val (.int (p3 &&& (3 : Int32))), .unset, .unset, .unset, .unset, .unset, .unset] [(.long (q1 &&& (9223372036854775807 : Int64)))])) _
    refine XS.lstore X0.here hx rfl (hb hby at_16) rfl (l' := #[.val (.long q1), .second, .val (.long q2), .second, .val (.int p3), .val (.long (q1 &&& (9223372036854775807 : Int64))), .second, .unset, .unset, .val (.int (p3 &&& (3 : Int32))), .unset, .unset, .unset, .unset, .unset, .unset]) rfl ?_
    show Steps p.tables e below (s₁.setTop (mkF m 18 #[.val (.long q1), .second, .val (.long q2), .second, .val (.int p3), .val (.long (q1 &&& (9223372036854775807 : Int64))), .second, .unset, .unset, .val (.int (p3 &&& (3 : Int32))), .unset, .unset, .unset, .unset, .unset, .unset] [])) _
    refine XS.lloadN X0.here hx rfl (hb hby at_18) rfl ?_
    show Steps p.tables e below (s₁.setTop (mkF m 19 #[.val (.long q1), .second, .val (.long q2), .second, .val (.int p3), .val (.long (q1 &&& (9223372036854775807 : Int64))), .second, .unset, .unset, .val (.int (p3 &&& (3 : Int32))), .unset, .unset, .unset, .unset, .unset, .unset] [(.long q2)])) _
    refine X0.ldc2Long hx hown (mvT hZ (hw _ (List.mem_of_getElem? (i := 0) rfl))) (g := (mkF m 19 #[.val (.long q1), .second, .val (.long q2), .second, .val (.int p3), .val (.long (q1 &&& (9223372036854775807 : Int64))), .second, .unset, .unset, .val (.int (p3 &&& (3 : Int32))), .unset, .unset, .unset, .unset, .unset, .unset] [(.long q2)])) rfl (hb hby at_19) _ ?_
    show Steps p.tables e below (s₁.setTop (mkF m 22 #[.val (.long q1), .second, .val (.long q2), .second, .val (.int p3), .val (.long (q1 &&& (9223372036854775807 : Int64))), .second, .unset, .unset, .val (.int (p3 &&& (3 : Int32))), .unset, .unset, .unset, .unset, .unset, .unset] [(.long (9223372036854775807 : Int64)), (.long q2)])) _
    refine XS.land X0.here hx rfl (hb hby at_22) rfl ?_
    show Steps p.tables e below (s₁.setTop (mkF m 23 #[.val (.long q1), .second, .val (.long q2), .second, .val (.int p3), .val (.long (q1 &&& (9223372036854775807 : Int64))), .second, .unset, .unset, .val (.int (p3 &&& (3 : Int32))), .unset, .unset, .unset, .unset, .unset, .unset] [(.long (q2 &&& (9223372036854775807 : Int64)))])) _
    refine XS.lstore X0.here hx rfl (hb hby at_23) rfl (l' := #[.val (.long q1), .second, .val (.long q2), .second, .val (.int p3), .val (.long (q1 &&& (9223372036854775807 : Int64))), .second, .val (.long (q2 &&& (9223372036854775807 : Int64))), .second, .val (.int (p3 &&& (3 : Int32))), .unset, .unset, .unset, .unset, .unset, .unset]) rfl ?_
    show Steps p.tables e below (s₁.setTop (mkF m 25 #[.val (.long q1), .second, .val (.long q2), .second, .val (.int p3), .val (.long (q1 &&& (9223372036854775807 : Int64))), .second, .val (.long (q2 &&& (9223372036854775807 : Int64))), .second, .val (.int (p3 &&& (3 : Int32))), .unset, .unset, .unset, .unset, .unset, .unset] [])) _
    refine XS.goto X0.here hx rfl (pc0 := 25) (pc' := 105) rfl (hb hby at_25) (by decide) (by decide) ?_
    show Steps p.tables e below (s₁.setTop (mkF m 105 #[.val (.long q1), .second, .val (.long q2), .second, .val (.int p3), .val (.long (q1 &&& (9223372036854775807 : Int64))), .second, .val (.long (q2 &&& (9223372036854775807 : Int64))), .second, .val (.int (p3 &&& (3 : Int32))), .unset, .unset, .unset, .unset, .unset, .unset] [])) _
    refine XS.lload X0.here hx rfl (hb hby at_105) rfl ?_
    show Steps p.tables e below (s₁.setTop (mkF m 107 #[.val (.long q1), .second, .val (.long q2), .second, .val (.int p3), .val (.long (q1 &&& (9223372036854775807 : Int64))), .second, .val (.long (q2 &&& (9223372036854775807 : Int64))), .second, .val (.int (p3 &&& (3 : Int32))), .unset, .unset, .unset, .unset, .unset, .unset] [(.long (q1 &&& (9223372036854775807 : Int64)))])) _
    refine XS.lload X0.here hx rfl (hb hby at_107) rfl ?_
    show Steps p.tables e below (s₁.setTop (mkF m 109 #[.val (.long q1), .second, .val (.long q2), .second, .val (.int p3), .val (.long (q1 &&& (9223372036854775807 : Int64))), .second, .val (.long (q2 &&& (9223372036854775807 : Int64))), .second, .val (.int (p3 &&& (3 : Int32))), .unset, .unset, .unset, .unset, .unset, .unset] [(.long (q2 &&& (9223372036854775807 : Int64))), (.long (q1 &&& (9223372036854775807 : Int64)))])) _
    refine st4 _ ?_
    show Steps p.tables e below (T4.setTop (mkF m 112 #[.val (.long q1), .second, .val (.long q2), .second, .val (.int p3), .val (.long (q1 &&& (9223372036854775807 : Int64))), .second, .val (.long (q2 &&& (9223372036854775807 : Int64))), .second, .val (.int (p3 &&& (3 : Int32))), .unset, .unset, .unset, .unset, .unset, .unset] [(.long (adF (q1 &&& (9223372036854775807 : Int64)) (q2 &&& (9223372036854775807 : Int64))))])) _
    refine XS.lstore X4.here hx rfl (hb hby at_112) rfl (l' := #[.val (.long q1), .second, .val (.long q2), .second, .val (.int p3), .val (.long (q1 &&& (9223372036854775807 : Int64))), .second, .val (.long (q2 &&& (9223372036854775807 : Int64))), .second, .val (.int (p3 &&& (3 : Int32))), .val (.long (adF (q1 &&& (9223372036854775807 : Int64)) (q2 &&& (9223372036854775807 : Int64)))), .second, .unset, .unset, .unset, .unset]) rfl ?_
    show Steps p.tables e below (T4.setTop (mkF m 114 #[.val (.long q1), .second, .val (.long q2), .second, .val (.int p3), .val (.long (q1 &&& (9223372036854775807 : Int64))), .second, .val (.long (q2 &&& (9223372036854775807 : Int64))), .second, .val (.int (p3 &&& (3 : Int32))), .val (.long (adF (q1 &&& (9223372036854775807 : Int64)) (q2 &&& (9223372036854775807 : Int64)))), .second, .unset, .unset, .unset, .unset] [])) _
    refine XS.lload X4.here hx rfl (hb hby at_114) rfl ?_
    show Steps p.tables e below (T4.setTop (mkF m 116 #[.val (.long q1), .second, .val (.long q2), .second, .val (.int p3), .val (.long (q1 &&& (9223372036854775807 : Int64))), .second, .val (.long (q2 &&& (9223372036854775807 : Int64))), .second, .val (.int (p3 &&& (3 : Int32))), .val (.long (adF (q1 &&& (9223372036854775807 : Int64)) (q2 &&& (9223372036854775807 : Int64)))), .second, .unset, .unset, .unset, .unset] [(.long (q2 &&& (9223372036854775807 : Int64)))])) _
    refine XS.lload X4.here hx rfl (hb hby at_116) rfl ?_
    show Steps p.tables e below (T4.setTop (mkF m 118 #[.val (.long q1), .second, .val (.long q2), .second, .val (.int p3), .val (.long (q1 &&& (9223372036854775807 : Int64))), .second, .val (.long (q2 &&& (9223372036854775807 : Int64))), .second, .val (.int (p3 &&& (3 : Int32))), .val (.long (adF (q1 &&& (9223372036854775807 : Int64)) (q2 &&& (9223372036854775807 : Int64)))), .second, .unset, .unset, .unset, .unset] [(.long (q1 &&& (9223372036854775807 : Int64))), (.long (q2 &&& (9223372036854775807 : Int64)))])) _
    refine st5 _ ?_
    show Steps p.tables e below (T5.setTop (mkF m 121 #[.val (.long q1), .second, .val (.long q2), .second, .val (.int p3), .val (.long (q1 &&& (9223372036854775807 : Int64))), .second, .val (.long (q2 &&& (9223372036854775807 : Int64))), .second, .val (.int (p3 &&& (3 : Int32))), .val (.long (adF (q1 &&& (9223372036854775807 : Int64)) (q2 &&& (9223372036854775807 : Int64)))), .second, .unset, .unset, .unset, .unset] [(.long (adF (q2 &&& (9223372036854775807 : Int64)) (q1 &&& (9223372036854775807 : Int64))))])) _
    refine XS.lstore X5.here hx rfl (hb hby at_121) rfl (l' := #[.val (.long q1), .second, .val (.long q2), .second, .val (.int p3), .val (.long (q1 &&& (9223372036854775807 : Int64))), .second, .val (.long (q2 &&& (9223372036854775807 : Int64))), .second, .val (.int (p3 &&& (3 : Int32))), .val (.long (adF (q1 &&& (9223372036854775807 : Int64)) (q2 &&& (9223372036854775807 : Int64)))), .second, .val (.long (adF (q2 &&& (9223372036854775807 : Int64)) (q1 &&& (9223372036854775807 : Int64)))), .second, .unset, .unset]) rfl ?_
    show Steps p.tables e below (T5.setTop (mkF m 123 #[.val (.long q1), .second, .val (.long q2), .second, .val (.int p3), .val (.long (q1 &&& (9223372036854775807 : Int64))), .second, .val (.long (q2 &&& (9223372036854775807 : Int64))), .second, .val (.int (p3 &&& (3 : Int32))), .val (.long (adF (q1 &&& (9223372036854775807 : Int64)) (q2 &&& (9223372036854775807 : Int64)))), .second, .val (.long (adF (q2 &&& (9223372036854775807 : Int64)) (q1 &&& (9223372036854775807 : Int64)))), .second, .unset, .unset] [])) _
    refine XS.lload X5.here hx rfl (hb hby at_123) rfl ?_
    show Steps p.tables e below (T5.setTop (mkF m 125 #[.val (.long q1), .second, .val (.long q2), .second, .val (.int p3), .val (.long (q1 &&& (9223372036854775807 : Int64))), .second, .val (.long (q2 &&& (9223372036854775807 : Int64))), .second, .val (.int (p3 &&& (3 : Int32))), .val (.long (adF (q1 &&& (9223372036854775807 : Int64)) (q2 &&& (9223372036854775807 : Int64)))), .second, .val (.long (adF (q2 &&& (9223372036854775807 : Int64)) (q1 &&& (9223372036854775807 : Int64)))), .second, .unset, .unset] [(.long (q1 &&& (9223372036854775807 : Int64)))])) _
    refine XS.lload X5.here hx rfl (hb hby at_125) rfl ?_
    show Steps p.tables e below (T5.setTop (mkF m 127 #[.val (.long q1), .second, .val (.long q2), .second, .val (.int p3), .val (.long (q1 &&& (9223372036854775807 : Int64))), .second, .val (.long (q2 &&& (9223372036854775807 : Int64))), .second, .val (.int (p3 &&& (3 : Int32))), .val (.long (adF (q1 &&& (9223372036854775807 : Int64)) (q2 &&& (9223372036854775807 : Int64)))), .second, .val (.long (adF (q2 &&& (9223372036854775807 : Int64)) (q1 &&& (9223372036854775807 : Int64)))), .second, .unset, .unset] [(.long (q2 &&& (9223372036854775807 : Int64))), (.long (q1 &&& (9223372036854775807 : Int64)))])) _
    refine st6 _ ?_
    show Steps p.tables e below (T6.setTop (mkF m 130 #[.val (.long q1), .second, .val (.long q2), .second, .val (.int p3), .val (.long (q1 &&& (9223372036854775807 : Int64))), .second, .val (.long (q2 &&& (9223372036854775807 : Int64))), .second, .val (.int (p3 &&& (3 : Int32))), .val (.long (adF (q1 &&& (9223372036854775807 : Int64)) (q2 &&& (9223372036854775807 : Int64)))), .second, .val (.long (adF (q2 &&& (9223372036854775807 : Int64)) (q1 &&& (9223372036854775807 : Int64)))), .second, .unset, .unset] [(.long (rfF (q1 &&& (9223372036854775807 : Int64)) (q2 &&& (9223372036854775807 : Int64))))])) _
    refine XS.lstore X6.here hx rfl (hb hby at_130) rfl (l' := #[.val (.long q1), .second, .val (.long q2), .second, .val (.int p3), .val (.long (q1 &&& (9223372036854775807 : Int64))), .second, .val (.long (q2 &&& (9223372036854775807 : Int64))), .second, .val (.int (p3 &&& (3 : Int32))), .val (.long (adF (q1 &&& (9223372036854775807 : Int64)) (q2 &&& (9223372036854775807 : Int64)))), .second, .val (.long (adF (q2 &&& (9223372036854775807 : Int64)) (q1 &&& (9223372036854775807 : Int64)))), .second, .val (.long (rfF (q1 &&& (9223372036854775807 : Int64)) (q2 &&& (9223372036854775807 : Int64)))), .second]) rfl ?_
    show Steps p.tables e below (T6.setTop (mkF m 132 #[.val (.long q1), .second, .val (.long q2), .second, .val (.int p3), .val (.long (q1 &&& (9223372036854775807 : Int64))), .second, .val (.long (q2 &&& (9223372036854775807 : Int64))), .second, .val (.int (p3 &&& (3 : Int32))), .val (.long (adF (q1 &&& (9223372036854775807 : Int64)) (q2 &&& (9223372036854775807 : Int64)))), .second, .val (.long (adF (q2 &&& (9223372036854775807 : Int64)) (q1 &&& (9223372036854775807 : Int64)))), .second, .val (.long (rfF (q1 &&& (9223372036854775807 : Int64)) (q2 &&& (9223372036854775807 : Int64)))), .second] [])) _
    refine XS.lload X6.here hx rfl (hb hby at_132) rfl ?_
    show Steps p.tables e below (T6.setTop (mkF m 134 #[.val (.long q1), .second, .val (.long q2), .second, .val (.int p3), .val (.long (q1 &&& (9223372036854775807 : Int64))), .second, .val (.long (q2 &&& (9223372036854775807 : Int64))), .second, .val (.int (p3 &&& (3 : Int32))), .val (.long (adF (q1 &&& (9223372036854775807 : Int64)) (q2 &&& (9223372036854775807 : Int64)))), .second, .val (.long (adF (q2 &&& (9223372036854775807 : Int64)) (q1 &&& (9223372036854775807 : Int64)))), .second, .val (.long (rfF (q1 &&& (9223372036854775807 : Int64)) (q2 &&& (9223372036854775807 : Int64)))), .second] [(.long (adF (q1 &&& (9223372036854775807 : Int64)) (q2 &&& (9223372036854775807 : Int64))))])) _
    refine XS.lload X6.here hx rfl (hb hby at_134) rfl ?_
    show Steps p.tables e below (T6.setTop (mkF m 136 #[.val (.long q1), .second, .val (.long q2), .second, .val (.int p3), .val (.long (q1 &&& (9223372036854775807 : Int64))), .second, .val (.long (q2 &&& (9223372036854775807 : Int64))), .second, .val (.int (p3 &&& (3 : Int32))), .val (.long (adF (q1 &&& (9223372036854775807 : Int64)) (q2 &&& (9223372036854775807 : Int64)))), .second, .val (.long (adF (q2 &&& (9223372036854775807 : Int64)) (q1 &&& (9223372036854775807 : Int64)))), .second, .val (.long (rfF (q1 &&& (9223372036854775807 : Int64)) (q2 &&& (9223372036854775807 : Int64)))), .second] [(.long (rfF (q1 &&& (9223372036854775807 : Int64)) (q2 &&& (9223372036854775807 : Int64)))), (.long (adF (q1 &&& (9223372036854775807 : Int64)) (q2 &&& (9223372036854775807 : Int64))))])) _
    refine XS.lcmp X6.here hx rfl (hb hby at_136) rfl ?_
    show Steps p.tables e below (T6.setTop (mkF m 137 #[.val (.long q1), .second, .val (.long q2), .second, .val (.int p3), .val (.long (q1 &&& (9223372036854775807 : Int64))), .second, .val (.long (q2 &&& (9223372036854775807 : Int64))), .second, .val (.int (p3 &&& (3 : Int32))), .val (.long (adF (q1 &&& (9223372036854775807 : Int64)) (q2 &&& (9223372036854775807 : Int64)))), .second, .val (.long (adF (q2 &&& (9223372036854775807 : Int64)) (q1 &&& (9223372036854775807 : Int64)))), .second, .val (.long (rfF (q1 &&& (9223372036854775807 : Int64)) (q2 &&& (9223372036854775807 : Int64)))), .second] [(.int (lcmpW (adF (q1 &&& (9223372036854775807 : Int64)) (q2 &&& (9223372036854775807 : Int64))) (rfF (q1 &&& (9223372036854775807 : Int64)) (q2 &&& (9223372036854775807 : Int64)))))])) _
    refine XS.ifNo X6.here hx rfl (hb hby at_137) rfl ((if0 _ _).trans (teq ((lw_eq _ _).mpr (own_add (q1 &&& (9223372036854775807 : Int64)) (q2 &&& (9223372036854775807 : Int64)) (own_msk q1) (own_msk q2)) : (lcmpW (adF (q1 &&& (9223372036854775807 : Int64)) (q2 &&& (9223372036854775807 : Int64))) (rfF (q1 &&& (9223372036854775807 : Int64)) (q2 &&& (9223372036854775807 : Int64)))) = (0 : Int32))).2) ?_
    show Steps p.tables e below (T6.setTop (mkF m 140 #[.val (.long q1), .second, .val (.long q2), .second, .val (.int p3), .val (.long (q1 &&& (9223372036854775807 : Int64))), .second, .val (.long (q2 &&& (9223372036854775807 : Int64))), .second, .val (.int (p3 &&& (3 : Int32))), .val (.long (adF (q1 &&& (9223372036854775807 : Int64)) (q2 &&& (9223372036854775807 : Int64)))), .second, .val (.long (adF (q2 &&& (9223372036854775807 : Int64)) (q1 &&& (9223372036854775807 : Int64)))), .second, .val (.long (rfF (q1 &&& (9223372036854775807 : Int64)) (q2 &&& (9223372036854775807 : Int64)))), .second] [])) _
    refine XS.lload X6.here hx rfl (hb hby at_140) rfl ?_
    show Steps p.tables e below (T6.setTop (mkF m 142 #[.val (.long q1), .second, .val (.long q2), .second, .val (.int p3), .val (.long (q1 &&& (9223372036854775807 : Int64))), .second, .val (.long (q2 &&& (9223372036854775807 : Int64))), .second, .val (.int (p3 &&& (3 : Int32))), .val (.long (adF (q1 &&& (9223372036854775807 : Int64)) (q2 &&& (9223372036854775807 : Int64)))), .second, .val (.long (adF (q2 &&& (9223372036854775807 : Int64)) (q1 &&& (9223372036854775807 : Int64)))), .second, .val (.long (rfF (q1 &&& (9223372036854775807 : Int64)) (q2 &&& (9223372036854775807 : Int64)))), .second] [(.long (adF (q2 &&& (9223372036854775807 : Int64)) (q1 &&& (9223372036854775807 : Int64))))])) _
    refine XS.lload X6.here hx rfl (hb hby at_142) rfl ?_
    show Steps p.tables e below (T6.setTop (mkF m 144 #[.val (.long q1), .second, .val (.long q2), .second, .val (.int p3), .val (.long (q1 &&& (9223372036854775807 : Int64))), .second, .val (.long (q2 &&& (9223372036854775807 : Int64))), .second, .val (.int (p3 &&& (3 : Int32))), .val (.long (adF (q1 &&& (9223372036854775807 : Int64)) (q2 &&& (9223372036854775807 : Int64)))), .second, .val (.long (adF (q2 &&& (9223372036854775807 : Int64)) (q1 &&& (9223372036854775807 : Int64)))), .second, .val (.long (rfF (q1 &&& (9223372036854775807 : Int64)) (q2 &&& (9223372036854775807 : Int64)))), .second] [(.long (rfF (q1 &&& (9223372036854775807 : Int64)) (q2 &&& (9223372036854775807 : Int64)))), (.long (adF (q2 &&& (9223372036854775807 : Int64)) (q1 &&& (9223372036854775807 : Int64))))])) _
    refine XS.lcmp X6.here hx rfl (hb hby at_144) rfl ?_
    show Steps p.tables e below (T6.setTop (mkF m 145 #[.val (.long q1), .second, .val (.long q2), .second, .val (.int p3), .val (.long (q1 &&& (9223372036854775807 : Int64))), .second, .val (.long (q2 &&& (9223372036854775807 : Int64))), .second, .val (.int (p3 &&& (3 : Int32))), .val (.long (adF (q1 &&& (9223372036854775807 : Int64)) (q2 &&& (9223372036854775807 : Int64)))), .second, .val (.long (adF (q2 &&& (9223372036854775807 : Int64)) (q1 &&& (9223372036854775807 : Int64)))), .second, .val (.long (rfF (q1 &&& (9223372036854775807 : Int64)) (q2 &&& (9223372036854775807 : Int64)))), .second] [(.int (lcmpW (adF (q2 &&& (9223372036854775807 : Int64)) (q1 &&& (9223372036854775807 : Int64))) (rfF (q1 &&& (9223372036854775807 : Int64)) (q2 &&& (9223372036854775807 : Int64)))))])) _
    refine XS.ifNo X6.here hx rfl (hb hby at_145) rfl ((if0 _ _).trans (teq ((lw_eq _ _).mpr (own_add' (q1 &&& (9223372036854775807 : Int64)) (q2 &&& (9223372036854775807 : Int64)) (own_msk q1) (own_msk q2)) : (lcmpW (adF (q2 &&& (9223372036854775807 : Int64)) (q1 &&& (9223372036854775807 : Int64))) (rfF (q1 &&& (9223372036854775807 : Int64)) (q2 &&& (9223372036854775807 : Int64)))) = (0 : Int32))).2) ?_
    show Steps p.tables e below (T6.setTop (mkF m 148 #[.val (.long q1), .second, .val (.long q2), .second, .val (.int p3), .val (.long (q1 &&& (9223372036854775807 : Int64))), .second, .val (.long (q2 &&& (9223372036854775807 : Int64))), .second, .val (.int (p3 &&& (3 : Int32))), .val (.long (adF (q1 &&& (9223372036854775807 : Int64)) (q2 &&& (9223372036854775807 : Int64)))), .second, .val (.long (adF (q2 &&& (9223372036854775807 : Int64)) (q1 &&& (9223372036854775807 : Int64)))), .second, .val (.long (rfF (q1 &&& (9223372036854775807 : Int64)) (q2 &&& (9223372036854775807 : Int64)))), .second] [])) _
    refine XS.iconst X6.here hx rfl (hb hby at_148) ?_
    show Steps p.tables e below (T6.setTop (mkF m 149 #[.val (.long q1), .second, .val (.long q2), .second, .val (.int p3), .val (.long (q1 &&& (9223372036854775807 : Int64))), .second, .val (.long (q2 &&& (9223372036854775807 : Int64))), .second, .val (.int (p3 &&& (3 : Int32))), .val (.long (adF (q1 &&& (9223372036854775807 : Int64)) (q2 &&& (9223372036854775807 : Int64)))), .second, .val (.long (adF (q2 &&& (9223372036854775807 : Int64)) (q1 &&& (9223372036854775807 : Int64)))), .second, .val (.long (rfF (q1 &&& (9223372036854775807 : Int64)) (q2 &&& (9223372036854775807 : Int64)))), .second] [(.int (1 : Int32))])) _
    refine XS.goto X6.here hx rfl (pc0 := 149) (pc' := 153) rfl (hb hby at_149) (by decide) (by decide) ?_
    show Steps p.tables e below (T6.setTop (mkF m 153 #[.val (.long q1), .second, .val (.long q2), .second, .val (.int p3), .val (.long (q1 &&& (9223372036854775807 : Int64))), .second, .val (.long (q2 &&& (9223372036854775807 : Int64))), .second, .val (.int (p3 &&& (3 : Int32))), .val (.long (adF (q1 &&& (9223372036854775807 : Int64)) (q2 &&& (9223372036854775807 : Int64)))), .second, .val (.long (adF (q2 &&& (9223372036854775807 : Int64)) (q1 &&& (9223372036854775807 : Int64)))), .second, .val (.long (rfF (q1 &&& (9223372036854775807 : Int64)) (q2 &&& (9223372036854775807 : Int64)))), .second] [(.int (1 : Int32))])) _
    exact retN X6 hx (t := .boolean) Bd.returns (by simp) (hb hby at_153) hr
  · show Q0 Z q1 q2 p3 h0 n0 _ T6.heap _
    exact ⟨rfl, N6⟩
set_option maxRecDepth 65536 in
set_option maxHeartbeats 40000000 in
theorem rm0_tfff (l : Launch) (Z : State) (a0 : Array Value) (hw : ∀ d ∈ tables_1, d.before a0 Z = true) (ws : List Jvm.Cond) (q1 : Int64) (q2 : Int64) (p3 : Int32) (h0 : Heap) (n0 : Nat) (Z0 : n0 ≤ h0.size) (hc8 : ¬ ((p3 &&& (3 : Int32)) = (0 : Int32))) (hc31 : (p3 &&& (3 : Int32)) = (1 : Int32)) :
    MetFree l x (head1 (Jvm.Cond.code x code maxLocals ret :: ws) room_1) (fun a U => a = #[(.long q1), (.long q2), (.int p3)] ∧ Z.Warmed39 U.vm ∧ U.heap = h0) (fun _ _ _ _ _ => True) (fun _ U o U' => ∃ v L, o = .returned v ∧ Q0 Z q1 q2 p3 h0 n0 v U'.heap L ∧ FrameEnd U o U' L room_1.cells room_1.slots) := by
  refine MetFree.of_bodySF (plainFor_of_name pn_0) hisR ?_
  intro p e s m args below meth c s₁ Bd hml0 hP hK
  obtain ⟨rfl, hZ, hh⟩ := hP
  have hx := Bd.exec
  have hby := Bd.bytes
  have hml : c.maxLocals = 16 := hml0
  have hown : s.vm.findClass "com/example/sluice/sluice/internal/DemandAddPinLaw" = some m.cls := findClass_of_methodNamed Bd.named
  have hnm := (name_of_methodNamed Bd.named Bd.method).1
  have X0 : Stand p l e room_1 s m #[(.long q1), (.long q2), (.int p3)] below meth c s₁ [] 0 0 := Stand.of_body Bd
  have e0 : s₁.heap = h0 := by rw [← hh, Bd.state]; rfl
  have N0 := Fr.nil n0
  have pre0 : ∀ t, Steps p.tables e below (s₁.setTop (mkF m 0 #[.val (.long q1), .second, .val (.long q2), .second, .val (.int p3), .unset, .unset, .unset, .unset, .unset, .unset, .unset, .unset, .unset, .unset, .unset] [])) t → Steps p.tables e below (s₁.setTop (entryFrame m #[(.long q1), (.long q2), (.int p3)] maxLocals)) t := fun t k => castTop (ef_0 m q1 q2 p3) k
  -- 3. LAWS
  -- pc 109: com/example/sluice/sluice/internal/Demand.add by its contract rm1
  obtain ⟨_, _, ⟨T4, L4, k4, n4⟩, -, X4, ⟨Lc4, hQ4, l4, y4, z4⟩, st4⟩ := Jvm.LawKit.callS X0 hx (y := (⟨"com/example/sluice/sluice/internal/Demand", "add", "(JJ)J"⟩ : MethodName)) hown (mvT hZ (hw _ (List.mem_of_getElem? (i := 1) rfl))) (mvT hZ (hw _ (List.mem_of_getElem? (i := 2) rfl))) (mvT hZ (hw _ (List.mem_of_getElem? (i := 3) rfl))) (mvT hZ (hw _ (List.mem_of_getElem? (i := 4) rfl))) (by decide) (backOf (W := 0) (rm1 l Z a0 hw [] (q1 &&& (9223372036854775807 : Int64)) (((((9223372036854775807 : Int64) - (q1 &&& (9223372036854775807 : Int64))) - (1 : Int64)) + (q2 &&& (3 : Int64))) &&& (9223372036854775807 : Int64)) h0 n0 Z0) hZ (hw _ (List.mem_of_getElem? (i := 4) rfl)) (hw _ (List.mem_of_getElem? (i := 3) rfl)) (by decide) (by decide)) (g := (mkF m 109 #[.val (.long q1), .second, .val (.long q2), .second, .val (.int p3), .val (.long (q1 &&& (9223372036854775807 : Int64))), .second, .val (.long (((((9223372036854775807 : Int64) - (q1 &&& (9223372036854775807 : Int64))) - (1 : Int64)) + (q2 &&& (3 : Int64))) &&& (9223372036854775807 : Int64))), .second, .val (.int (p3 &&& (3 : Int32))), .unset, .unset, .unset, .unset, .unset, .unset] [(.long (((((9223372036854775807 : Int64) - (q1 &&& (9223372036854775807 : Int64))) - (1 : Int64)) + (q2 &&& (3 : Int64))) &&& (9223372036854775807 : Int64))), (.long (q1 &&& (9223372036854775807 : Int64)))])) rfl (by rw [hml]; rfl) (argsL := [(.long (q1 &&& (9223372036854775807 : Int64))), (.long (((((9223372036854775807 : Int64) - (q1 &&& (9223372036854775807 : Int64))) - (1 : Int64)) + (q2 &&& (3 : Int64))) &&& (9223372036854775807 : Int64)))]) (rest := []) (lenOf pd_0_0 rfl) rfl (by show 2 * 0 + _ ≤ _; exact Nat.le_of_eq rfl) (hb hby at_109) (fun _ _ => ⟨rfl, e0, (by decide : 0 + 0 ≤ _), (by decide : 0 + 0 ≤ _)⟩)
  dsimp only [Pt.U, Pt.locs, Pt.cells, Pt.slots] at X4 l4 y4 z4 st4 hQ4
  subst l4 y4 z4
  obtain ⟨rfl, N4q, eq4⟩ := hQ4      -- what it returned, that it wrote nothing old, and the rest of your Q1
  have N4 := Fr.app N0 N4q
  -- pc 118: com/example/sluice/sluice/internal/Demand.add by its contract rm1
  obtain ⟨_, _, ⟨T5, L5, k5, n5⟩, -, X5, ⟨Lc5, hQ5, l5, y5, z5⟩, st5⟩ := Jvm.LawKit.callS X4 hx (y := (⟨"com/example/sluice/sluice/internal/Demand", "add", "(JJ)J"⟩ : MethodName)) hown (mvT hZ (hw _ (List.mem_of_getElem? (i := 1) rfl))) (mvT hZ (hw _ (List.mem_of_getElem? (i := 2) rfl))) (mvT hZ (hw _ (List.mem_of_getElem? (i := 3) rfl))) (mvT hZ (hw _ (List.mem_of_getElem? (i := 4) rfl))) (by decide) (backOf (W := 0) (rm1 l Z a0 hw [] (((((9223372036854775807 : Int64) - (q1 &&& (9223372036854775807 : Int64))) - (1 : Int64)) + (q2 &&& (3 : Int64))) &&& (9223372036854775807 : Int64)) (q1 &&& (9223372036854775807 : Int64)) T4.heap n0 (by rw [eq4]; exact Z0)) hZ (hw _ (List.mem_of_getElem? (i := 4) rfl)) (hw _ (List.mem_of_getElem? (i := 3) rfl)) (by decide) (by decide)) (g := (mkF m 118 #[.val (.long q1), .second, .val (.long q2), .second, .val (.int p3), .val (.long (q1 &&& (9223372036854775807 : Int64))), .second, .val (.long (((((9223372036854775807 : Int64) - (q1 &&& (9223372036854775807 : Int64))) - (1 : Int64)) + (q2 &&& (3 : Int64))) &&& (9223372036854775807 : Int64))), .second, .val (.int (p3 &&& (3 : Int32))), .val (.long (adF (q1 &&& (9223372036854775807 : Int64)) (((((9223372036854775807 : Int64) - (q1 &&& (9223372036854775807 : Int64))) - (1 : Int64)) + (q2 &&& (3 : Int64))) &&& (9223372036854775807 : Int64)))), .second, .unset, .unset, .unset, .unset] [(.long (q1 &&& (9223372036854775807 : Int64))), (.long (((((9223372036854775807 : Int64) - (q1 &&& (9223372036854775807 : Int64))) - (1 : Int64)) + (q2 &&& (3 : Int64))) &&& (9223372036854775807 : Int64)))])) rfl (by rw [hml]; rfl) (argsL := [(.long (((((9223372036854775807 : Int64) - (q1 &&& (9223372036854775807 : Int64))) - (1 : Int64)) + (q2 &&& (3 : Int64))) &&& (9223372036854775807 : Int64))), (.long (q1 &&& (9223372036854775807 : Int64)))]) (rest := []) (lenOf pd_0_0 rfl) rfl (by show 2 * 0 + _ ≤ _; exact Nat.le_of_eq rfl) (hb hby at_118) (fun _ _ => ⟨rfl, rfl, (by decide : 0 + 0 ≤ _), (by decide : 0 + 0 ≤ _)⟩)
  dsimp only [Pt.U, Pt.locs, Pt.cells, Pt.slots] at X5 l5 y5 z5 st5 hQ5
  subst l5 y5 z5
  obtain ⟨rfl, N5q, eq5⟩ := hQ5      -- what it returned, that it wrote nothing old, and the rest of your Q1
  have N5 := Fr.app N4 N5q
  -- pc 127: com/example/sluice/sluice/internal/DemandAddPinLaw.reference by its contract rm2
  obtain ⟨_, _, ⟨T6, L6, k6, n6⟩, -, X6, ⟨Lc6, hQ6, l6, y6, z6⟩, st6⟩ := Jvm.LawKit.callS X5 hx (y := (⟨"com/example/sluice/sluice/internal/DemandAddPinLaw", "reference", "(JJ)J"⟩ : MethodName)) hown (mvT hZ (hw _ (List.mem_of_getElem? (i := 5) rfl))) (mvT hZ (hw _ (List.mem_of_getElem? (i := 6) rfl))) (mvT hZ (hw _ (List.mem_of_getElem? (i := 7) rfl))) (mvT hZ (hw _ (List.mem_of_getElem? (i := 8) rfl))) (by decide) (backOf (W := 0) (rm2 l Z a0 hw [] (q1 &&& (9223372036854775807 : Int64)) (((((9223372036854775807 : Int64) - (q1 &&& (9223372036854775807 : Int64))) - (1 : Int64)) + (q2 &&& (3 : Int64))) &&& (9223372036854775807 : Int64)) T5.heap n0 (by rw [eq5, eq4]; exact Z0)) hZ (hw _ (List.mem_of_getElem? (i := 8) rfl)) (hw _ (List.mem_of_getElem? (i := 7) rfl)) (by decide) (by decide)) (g := (mkF m 127 #[.val (.long q1), .second, .val (.long q2), .second, .val (.int p3), .val (.long (q1 &&& (9223372036854775807 : Int64))), .second, .val (.long (((((9223372036854775807 : Int64) - (q1 &&& (9223372036854775807 : Int64))) - (1 : Int64)) + (q2 &&& (3 : Int64))) &&& (9223372036854775807 : Int64))), .second, .val (.int (p3 &&& (3 : Int32))), .val (.long (adF (q1 &&& (9223372036854775807 : Int64)) (((((9223372036854775807 : Int64) - (q1 &&& (9223372036854775807 : Int64))) - (1 : Int64)) + (q2 &&& (3 : Int64))) &&& (9223372036854775807 : Int64)))), .second, .val (.long (adF (((((9223372036854775807 : Int64) - (q1 &&& (9223372036854775807 : Int64))) - (1 : Int64)) + (q2 &&& (3 : Int64))) &&& (9223372036854775807 : Int64)) (q1 &&& (9223372036854775807 : Int64)))), .second, .unset, .unset] [(.long (((((9223372036854775807 : Int64) - (q1 &&& (9223372036854775807 : Int64))) - (1 : Int64)) + (q2 &&& (3 : Int64))) &&& (9223372036854775807 : Int64))), (.long (q1 &&& (9223372036854775807 : Int64)))])) rfl (by rw [hml]; rfl) (argsL := [(.long (q1 &&& (9223372036854775807 : Int64))), (.long (((((9223372036854775807 : Int64) - (q1 &&& (9223372036854775807 : Int64))) - (1 : Int64)) + (q2 &&& (3 : Int64))) &&& (9223372036854775807 : Int64)))]) (rest := []) (lenOf pd_0_0 rfl) rfl (by show 2 * 0 + _ ≤ _; exact Nat.le_of_eq rfl) (hb hby at_127) (fun _ _ => ⟨rfl, rfl, (by decide : 0 + 0 ≤ _), (by decide : 0 + 0 ≤ _)⟩)
  dsimp only [Pt.U, Pt.locs, Pt.cells, Pt.slots] at X6 l6 y6 z6 st6 hQ6
  subst l6 y6 z6
  obtain ⟨rfl, N6q, eq6⟩ := hQ6      -- what it returned, that it wrote nothing old, and the rest of your Q2
  have N6 := Fr.app N5 N6q
  obtain ⟨fs, hr, hrun, hended, hW, hsame⟩ := X6.leave (v := some (.int (1 : Int32))) (fun h => by rw [Bd.returns] at h; cases h)
  refine ⟨_, _, pre0 _ ?_, hrun, hended, _, _, rfl, ?_, ⟨_, rfl⟩, hW, hsame.mono (by decide) (by decide)⟩
  -- 4. STEPS
  · show Steps p.tables e below (s₁.setTop (mkF m 0 #[.val (.long q1), .second, .val (.long q2), .second, .val (.int p3), .unset, .unset, .unset, .unset, .unset, .unset, .unset, .unset, .unset, .unset, .unset] [])) _
    refine XS.iload X0.here hx rfl (hb hby at_0) rfl ?_
    show Steps p.tables e below (s₁.setTop (mkF m 2 #[.val (.long q1), .second, .val (.long q2), .second, .val (.int p3), .unset, .unset, .unset, .unset, .unset, .unset, .unset, .unset, .unset, .unset, .unset] [(.int p3)])) _
    refine XS.iconst X0.here hx rfl (hb hby at_2) ?_
    show Steps p.tables e below (s₁.setTop (mkF m 3 #[.val (.long q1), .second, .val (.long q2), .second, .val (.int p3), .unset, .unset, .unset, .unset, .unset, .unset, .unset, .unset, .unset, .unset, .unset] [(.int (3 : Int32)), (.int p3)])) _
    refine XS.iand X0.here hx rfl (hb hby at_3) rfl ?_
    show Steps p.tables e below (s₁.setTop (mkF m 4 #[.val (.long q1), .second, .val (.long q2), .second, .val (.int p3), .unset, .unset, .unset, .unset, .unset, .unset, .unset, .unset, .unset, .unset, .unset] [(.int (p3 &&& (3 : Int32)))])) _
    refine XS.istore X0.here hx rfl (hb hby at_4) rfl (l' := #[.val (.long q1), .second, .val (.long q2), .second, .val (.int p3), .unset, .unset, .unset, .unset, .val (.int (p3 &&& (3 : Int32))), .unset, .unset, .unset, .unset, .unset, .unset]) rfl ?_
    show Steps p.tables e below (s₁.setTop (mkF m 6 #[.val (.long q1), .second, .val (.long q2), .second, .val (.int p3), .unset, .unset, .unset, .unset, .val (.int (p3 &&& (3 : Int32))), .unset, .unset, .unset, .unset, .unset, .unset] [])) _
    refine XS.iload X0.here hx rfl (hb hby at_6) rfl ?_
    show Steps p.tables e below (s₁.setTop (mkF m 8 #[.val (.long q1), .second, .val (.long q2), .second, .val (.int p3), .unset, .unset, .unset, .unset, .val (.int (p3 &&& (3 : Int32))), .unset, .unset, .unset, .unset, .unset, .unset] [(.int (p3 &&& (3 : Int32)))])) _
    refine XS.ifYes X0.here hx rfl (pc0 := 8) (pc' := 28) rfl (hb hby at_8) rfl ((if0 _ _).trans (feq hc8).2) (by decide) (by decide) ?_
    show Steps p.tables e below (s₁.setTop (mkF m 28 #[.val (.long q1), .second, .val (.long q2), .second, .val (.int p3), .unset, .unset, .unset, .unset, .val (.int (p3 &&& (3 : Int32))), .unset, .unset, .unset, .unset, .unset, .unset] [])) _
    refine XS.iload X0.here hx rfl (hb hby at_28) rfl ?_
    show Steps p.tables e below (s₁.setTop (mkF m 30 #[.val (.long q1), .second, .val (.long q2), .second, .val (.int p3), .unset, .unset, .unset, .unset, .val (.int (p3 &&& (3 : Int32))), .unset, .unset, .unset, .unset, .unset, .unset] [(.int (p3 &&& (3 : Int32)))])) _
    refine XS.iconst X0.here hx rfl (hb hby at_30) ?_
    show Steps p.tables e below (s₁.setTop (mkF m 31 #[.val (.long q1), .second, .val (.long q2), .second, .val (.int p3), .unset, .unset, .unset, .unset, .val (.int (p3 &&& (3 : Int32))), .unset, .unset, .unset, .unset, .unset, .unset] [(.int (1 : Int32)), (.int (p3 &&& (3 : Int32)))])) _
    refine XS.icmpNo X0.here hx rfl (hb hby at_31) rfl (teq hc31).2 ?_
    show Steps p.tables e below (s₁.setTop (mkF m 34 #[.val (.long q1), .second, .val (.long q2), .second, .val (.int p3), .unset, .unset, .unset, .unset, .val (.int (p3 &&& (3 : Int32))), .unset, .unset, .unset, .unset, .unset, .unset] [])) _
    refine XS.lloadN X0.here hx rfl (hb hby at_34) rfl ?_
    show Steps p.tables e below (s₁.setTop (mkF m 35 #[.val (.long q1), .second, .val (.long q2), .second, .val (.int p3), .unset, .unset, .unset, .unset, .val (.int (p3 &&& (3 : Int32))), .unset, .unset, .unset, .unset, .unset, .unset] [(.long q1)])) _
    refine X0.ldc2Long hx hown (mvT hZ (hw _ (List.mem_of_getElem? (i := 0) rfl))) (g := (mkF m 35 #[.val (.long q1), .second, .val (.long q2), .second, .val (.int p3), .unset, .unset, .unset, .unset, .val (.int (p3 &&& (3 : Int32))), .unset, .unset, .unset, .unset, .unset, .unset] [(.long q1)])) rfl (hb hby at_35) _ ?_
    show Steps p.tables e below (s₁.setTop (mkF m 38 #[.val (.long q1), .second, .val (.long q2), .second, .val (.int p3), .unset, .unset, .unset, .unset, .val (.int (p3 &&& (3 : Int32))), .unset, .unset, .unset, .unset, .unset, .unset] [(.long (9223372036854775807 : Int64)), (.long q1)])) _
    refine XS.land X0.here hx rfl (hb hby at_38) rfl ?_
    show Steps p.tables e below (s₁.setTop (mkF m 39 #[.val (.long q1), .second, .val (.long q2), .second, .val (.int p3), .unset, .unset, .unset, .unset, .val (.int (p3 &&& (3 : Int32))), .unset, .unset, .unset, .unset, .unset, .unset] [(.long (q1 &&& (9223372036854775807 : Int64)))])) _
    refine XS.lstore X0.here hx rfl (hb hby at_39) rfl (l' := #[.val (.long q1), .second, .val (.long q2), .second, .val (.int p3), .val (.long (q1 &&& (9223372036854775807 : Int64))), .second, .unset, .unset, .val (.int (p3 &&& (3 : Int32))), .unset, .unset, .unset, .unset, .unset, .unset]) rfl ?_
    show Steps p.tables e below (s₁.setTop (mkF m 41 #[.val (.long q1), .second, .val (.long q2), .second, .val (.int p3), .val (.long (q1 &&& (9223372036854775807 : Int64))), .second, .unset, .unset, .val (.int (p3 &&& (3 : Int32))), .unset, .unset, .unset, .unset, .unset, .unset] [])) _
    refine X0.ldc2Long hx hown (mvT hZ (hw _ (List.mem_of_getElem? (i := 0) rfl))) (g := (mkF m 41 #[.val (.long q1), .second, .val (.long q2), .second, .val (.int p3), .val (.long (q1 &&& (9223372036854775807 : Int64))), .second, .unset, .unset, .val (.int (p3 &&& (3 : Int32))), .unset, .unset, .unset, .unset, .unset, .unset] [])) rfl (hb hby at_41) _ ?_
    show Steps p.tables e below (s₁.setTop (mkF m 44 #[.val (.long q1), .second, .val (.long q2), .second, .val (.int p3), .val (.long (q1 &&& (9223372036854775807 : Int64))), .second, .unset, .unset, .val (.int (p3 &&& (3 : Int32))), .unset, .unset, .unset, .unset, .unset, .unset] [(.long (9223372036854775807 : Int64))])) _
    refine XS.lload X0.here hx rfl (hb hby at_44) rfl ?_
    show Steps p.tables e below (s₁.setTop (mkF m 46 #[.val (.long q1), .second, .val (.long q2), .second, .val (.int p3), .val (.long (q1 &&& (9223372036854775807 : Int64))), .second, .unset, .unset, .val (.int (p3 &&& (3 : Int32))), .unset, .unset, .unset, .unset, .unset, .unset] [(.long (q1 &&& (9223372036854775807 : Int64))), (.long (9223372036854775807 : Int64))])) _
    refine XS.lsub X0.here hx rfl (hb hby at_46) rfl ?_
    show Steps p.tables e below (s₁.setTop (mkF m 47 #[.val (.long q1), .second, .val (.long q2), .second, .val (.int p3), .val (.long (q1 &&& (9223372036854775807 : Int64))), .second, .unset, .unset, .val (.int (p3 &&& (3 : Int32))), .unset, .unset, .unset, .unset, .unset, .unset] [(.long ((9223372036854775807 : Int64) - (q1 &&& (9223372036854775807 : Int64))))])) _
    refine XS.lconst X0.here hx rfl (hb hby at_47) ?_
    show Steps p.tables e below (s₁.setTop (mkF m 48 #[.val (.long q1), .second, .val (.long q2), .second, .val (.int p3), .val (.long (q1 &&& (9223372036854775807 : Int64))), .second, .unset, .unset, .val (.int (p3 &&& (3 : Int32))), .unset, .unset, .unset, .unset, .unset, .unset] [(.long (1 : Int64)), (.long ((9223372036854775807 : Int64) - (q1 &&& (9223372036854775807 : Int64))))])) _
    refine XS.lsub X0.here hx rfl (hb hby at_48) rfl ?_
    show Steps p.tables e below (s₁.setTop (mkF m 49 #[.val (.long q1), .second, .val (.long q2), .second, .val (.int p3), .val (.long (q1 &&& (9223372036854775807 : Int64))), .second, .unset, .unset, .val (.int (p3 &&& (3 : Int32))), .unset, .unset, .unset, .unset, .unset, .unset] [(.long (((9223372036854775807 : Int64) - (q1 &&& (9223372036854775807 : Int64))) - (1 : Int64)))])) _
    refine XS.lloadN X0.here hx rfl (hb hby at_49) rfl ?_
    show Steps p.tables e below (s₁.setTop (mkF m 50 #[.val (.long q1), .second, .val (.long q2), .second, .val (.int p3), .val (.long (q1 &&& (9223372036854775807 : Int64))), .second, .unset, .unset, .val (.int (p3 &&& (3 : Int32))), .unset, .unset, .unset, .unset, .unset, .unset] [(.long q2), (.long (((9223372036854775807 : Int64) - (q1 &&& (9223372036854775807 : Int64))) - (1 : Int64)))])) _
    refine X0.ldc2Long hx hown (mvT hZ (hw _ (List.mem_of_getElem? (i := 11) rfl))) (g := (mkF m 50 #[.val (.long q1), .second, .val (.long q2), .second, .val (.int p3), .val (.long (q1 &&& (9223372036854775807 : Int64))), .second, .unset, .unset, .val (.int (p3 &&& (3 : Int32))), .unset, .unset, .unset, .unset, .unset, .unset] [(.long q2), (.long (((9223372036854775807 : Int64) - (q1 &&& (9223372036854775807 : Int64))) - (1 : Int64)))])) rfl (hb hby at_50) _ ?_
    show Steps p.tables e below (s₁.setTop (mkF m 53 #[.val (.long q1), .second, .val (.long q2), .second, .val (.int p3), .val (.long (q1 &&& (9223372036854775807 : Int64))), .second, .unset, .unset, .val (.int (p3 &&& (3 : Int32))), .unset, .unset, .unset, .unset, .unset, .unset] [(.long (3 : Int64)), (.long q2), (.long (((9223372036854775807 : Int64) - (q1 &&& (9223372036854775807 : Int64))) - (1 : Int64)))])) _
    refine XS.land X0.here hx rfl (hb hby at_53) rfl ?_
    show Steps p.tables e below (s₁.setTop (mkF m 54 #[.val (.long q1), .second, .val (.long q2), .second, .val (.int p3), .val (.long (q1 &&& (9223372036854775807 : Int64))), .second, .unset, .unset, .val (.int (p3 &&& (3 : Int32))), .unset, .unset, .unset, .unset, .unset, .unset] [(.long (q2 &&& (3 : Int64))), (.long (((9223372036854775807 : Int64) - (q1 &&& (9223372036854775807 : Int64))) - (1 : Int64)))])) _
    refine XS.ladd X0.here hx rfl (hb hby at_54) rfl ?_
    show Steps p.tables e below (s₁.setTop (mkF m 55 #[.val (.long q1), .second, .val (.long q2), .second, .val (.int p3), .val (.long (q1 &&& (9223372036854775807 : Int64))), .second, .unset, .unset, .val (.int (p3 &&& (3 : Int32))), .unset, .unset, .unset, .unset, .unset, .unset] [(.long ((((9223372036854775807 : Int64) - (q1 &&& (9223372036854775807 : Int64))) - (1 : Int64)) + (q2 &&& (3 : Int64))))])) _
    refine X0.ldc2Long hx hown (mvT hZ (hw _ (List.mem_of_getElem? (i := 0) rfl))) (g := (mkF m 55 #[.val (.long q1), .second, .val (.long q2), .second, .val (.int p3), .val (.long (q1 &&& (9223372036854775807 : Int64))), .second, .unset, .unset, .val (.int (p3 &&& (3 : Int32))), .unset, .unset, .unset, .unset, .unset, .unset] [(.long ((((9223372036854775807 : Int64) - (q1 &&& (9223372036854775807 : Int64))) - (1 : Int64)) + (q2 &&& (3 : Int64))))])) rfl (hb hby at_55) _ ?_
    show Steps p.tables e below (s₁.setTop (mkF m 58 #[.val (.long q1), .second, .val (.long q2), .second, .val (.int p3), .val (.long (q1 &&& (9223372036854775807 : Int64))), .second, .unset, .unset, .val (.int (p3 &&& (3 : Int32))), .unset, .unset, .unset, .unset, .unset, .unset] [(.long (9223372036854775807 : Int64)), (.long ((((9223372036854775807 : Int64) - (q1 &&& (9223372036854775807 : Int64))) - (1 : Int64)) + (q2 &&& (3 : Int64))))])) _
    refine XS.land X0.here hx rfl (hb hby at_58) rfl ?_
    show Steps p.tables e below (s₁.setTop (mkF m 59 #[.val (.long q1), .second, .val (.long q2), .second, .val (.int p3), .val (.long (q1 &&& (9223372036854775807 : Int64))), .second, .unset, .unset, .val (.int (p3 &&& (3 : Int32))), .unset, .unset, .unset, .unset, .unset, .unset] [(.long (((((9223372036854775807 : Int64) - (q1 &&& (9223372036854775807 : Int64))) - (1 : Int64)) + (q2 &&& (3 : Int64))) &&& (9223372036854775807 : Int64)))])) _
    refine XS.lstore X0.here hx rfl (hb hby at_59) rfl (l' := #[.val (.long q1), .second, .val (.long q2), .second, .val (.int p3), .val (.long (q1 &&& (9223372036854775807 : Int64))), .second, .val (.long (((((9223372036854775807 : Int64) - (q1 &&& (9223372036854775807 : Int64))) - (1 : Int64)) + (q2 &&& (3 : Int64))) &&& (9223372036854775807 : Int64))), .second, .val (.int (p3 &&& (3 : Int32))), .unset, .unset, .unset, .unset, .unset, .unset]) rfl ?_
    show Steps p.tables e below (s₁.setTop (mkF m 61 #[.val (.long q1), .second, .val (.long q2), .second, .val (.int p3), .val (.long (q1 &&& (9223372036854775807 : Int64))), .second, .val (.long (((((9223372036854775807 : Int64) - (q1 &&& (9223372036854775807 : Int64))) - (1 : Int64)) + (q2 &&& (3 : Int64))) &&& (9223372036854775807 : Int64))), .second, .val (.int (p3 &&& (3 : Int32))), .unset, .unset, .unset, .unset, .unset, .unset] [])) _
    refine XS.goto X0.here hx rfl (pc0 := 61) (pc' := 105) rfl (hb hby at_61) (by decide) (by decide) ?_
    show Steps p.tables e below (s₁.setTop (mkF m 105 #[.val (.long q1), .second, .val (.long q2), .second, .val (.int p3), .val (.long (q1 &&& (9223372036854775807 : Int64))), .second, .val (.long (((((9223372036854775807 : Int64) - (q1 &&& (9223372036854775807 : Int64))) - (1 : Int64)) + (q2 &&& (3 : Int64))) &&& (9223372036854775807 : Int64))), .second, .val (.int (p3 &&& (3 : Int32))), .unset, .unset, .unset, .unset, .unset, .unset] [])) _
    refine XS.lload X0.here hx rfl (hb hby at_105) rfl ?_
    show Steps p.tables e below (s₁.setTop (mkF m 107 #[.val (.long q1), .second, .val (.long q2), .second, .val (.int p3), .val (.long (q1 &&& (9223372036854775807 : Int64))), .second, .val (.long (((((9223372036854775807 : Int64) - (q1 &&& (9223372036854775807 : Int64))) - (1 : Int64)) + (q2 &&& (3 : Int64))) &&& (9223372036854775807 : Int64))), .second, .val (.int (p3 &&& (3 : Int32))), .unset, .unset, .unset, .unset, .unset, .unset] [(.long (q1 &&& (9223372036854775807 : Int64)))])) _
    refine XS.lload X0.here hx rfl (hb hby at_107) rfl ?_
    show Steps p.tables e below (s₁.setTop (mkF m 109 #[.val (.long q1), .second, .val (.long q2), .second, .val (.int p3), .val (.long (q1 &&& (9223372036854775807 : Int64))), .second, .val (.long (((((9223372036854775807 : Int64) - (q1 &&& (9223372036854775807 : Int64))) - (1 : Int64)) + (q2 &&& (3 : Int64))) &&& (9223372036854775807 : Int64))), .second, .val (.int (p3 &&& (3 : Int32))), .unset, .unset, .unset, .unset, .unset, .unset] [(.long (((((9223372036854775807 : Int64) - (q1 &&& (9223372036854775807 : Int64))) - (1 : Int64)) + (q2 &&& (3 : Int64))) &&& (9223372036854775807 : Int64))), (.long (q1 &&& (9223372036854775807 : Int64)))])) _
    refine st4 _ ?_
    show Steps p.tables e below (T4.setTop (mkF m 112 #[.val (.long q1), .second, .val (.long q2), .second, .val (.int p3), .val (.long (q1 &&& (9223372036854775807 : Int64))), .second, .val (.long (((((9223372036854775807 : Int64) - (q1 &&& (9223372036854775807 : Int64))) - (1 : Int64)) + (q2 &&& (3 : Int64))) &&& (9223372036854775807 : Int64))), .second, .val (.int (p3 &&& (3 : Int32))), .unset, .unset, .unset, .unset, .unset, .unset] [(.long (adF (q1 &&& (9223372036854775807 : Int64)) (((((9223372036854775807 : Int64) - (q1 &&& (9223372036854775807 : Int64))) - (1 : Int64)) + (q2 &&& (3 : Int64))) &&& (9223372036854775807 : Int64))))])) _
    refine XS.lstore X4.here hx rfl (hb hby at_112) rfl (l' := #[.val (.long q1), .second, .val (.long q2), .second, .val (.int p3), .val (.long (q1 &&& (9223372036854775807 : Int64))), .second, .val (.long (((((9223372036854775807 : Int64) - (q1 &&& (9223372036854775807 : Int64))) - (1 : Int64)) + (q2 &&& (3 : Int64))) &&& (9223372036854775807 : Int64))), .second, .val (.int (p3 &&& (3 : Int32))), .val (.long (adF (q1 &&& (9223372036854775807 : Int64)) (((((9223372036854775807 : Int64) - (q1 &&& (9223372036854775807 : Int64))) - (1 : Int64)) + (q2 &&& (3 : Int64))) &&& (9223372036854775807 : Int64)))), .second, .unset, .unset, .unset, .unset]) rfl ?_
    show Steps p.tables e below (T4.setTop (mkF m 114 #[.val (.long q1), .second, .val (.long q2), .second, .val (.int p3), .val (.long (q1 &&& (9223372036854775807 : Int64))), .second, .val (.long (((((9223372036854775807 : Int64) - (q1 &&& (9223372036854775807 : Int64))) - (1 : Int64)) + (q2 &&& (3 : Int64))) &&& (9223372036854775807 : Int64))), .second, .val (.int (p3 &&& (3 : Int32))), .val (.long (adF (q1 &&& (9223372036854775807 : Int64)) (((((9223372036854775807 : Int64) - (q1 &&& (9223372036854775807 : Int64))) - (1 : Int64)) + (q2 &&& (3 : Int64))) &&& (9223372036854775807 : Int64)))), .second, .unset, .unset, .unset, .unset] [])) _
    refine XS.lload X4.here hx rfl (hb hby at_114) rfl ?_
    show Steps p.tables e below (T4.setTop (mkF m 116 #[.val (.long q1), .second, .val (.long q2), .second, .val (.int p3), .val (.long (q1 &&& (9223372036854775807 : Int64))), .second, .val (.long (((((9223372036854775807 : Int64) - (q1 &&& (9223372036854775807 : Int64))) - (1 : Int64)) + (q2 &&& (3 : Int64))) &&& (9223372036854775807 : Int64))), .second, .val (.int (p3 &&& (3 : Int32))), .val (.long (adF (q1 &&& (9223372036854775807 : Int64)) (((((9223372036854775807 : Int64) - (q1 &&& (9223372036854775807 : Int64))) - (1 : Int64)) + (q2 &&& (3 : Int64))) &&& (9223372036854775807 : Int64)))), .second, .unset, .unset, .unset, .unset] [(.long (((((9223372036854775807 : Int64) - (q1 &&& (9223372036854775807 : Int64))) - (1 : Int64)) + (q2 &&& (3 : Int64))) &&& (9223372036854775807 : Int64)))])) _
    refine XS.lload X4.here hx rfl (hb hby at_116) rfl ?_
    show Steps p.tables e below (T4.setTop (mkF m 118 #[.val (.long q1), .second, .val (.long q2), .second, .val (.int p3), .val (.long (q1 &&& (9223372036854775807 : Int64))), .second, .val (.long (((((9223372036854775807 : Int64) - (q1 &&& (9223372036854775807 : Int64))) - (1 : Int64)) + (q2 &&& (3 : Int64))) &&& (9223372036854775807 : Int64))), .second, .val (.int (p3 &&& (3 : Int32))), .val (.long (adF (q1 &&& (9223372036854775807 : Int64)) (((((9223372036854775807 : Int64) - (q1 &&& (9223372036854775807 : Int64))) - (1 : Int64)) + (q2 &&& (3 : Int64))) &&& (9223372036854775807 : Int64)))), .second, .unset, .unset, .unset, .unset] [(.long (q1 &&& (9223372036854775807 : Int64))), (.long (((((9223372036854775807 : Int64) - (q1 &&& (9223372036854775807 : Int64))) - (1 : Int64)) + (q2 &&& (3 : Int64))) &&& (9223372036854775807 : Int64)))])) _
    refine st5 _ ?_
    show Steps p.tables e below (T5.setTop (mkF m 121 #[.val (.long q1), .second, .val (.long q2), .second, .val (.int p3), .val (.long (q1 &&& (9223372036854775807 : Int64))), .second, .val (.long (((((9223372036854775807 : Int64) - (q1 &&& (9223372036854775807 : Int64))) - (1 : Int64)) + (q2 &&& (3 : Int64))) &&& (9223372036854775807 : Int64))), .second, .val (.int (p3 &&& (3 : Int32))), .val (.long (adF (q1 &&& (9223372036854775807 : Int64)) (((((9223372036854775807 : Int64) - (q1 &&& (9223372036854775807 : Int64))) - (1 : Int64)) + (q2 &&& (3 : Int64))) &&& (9223372036854775807 : Int64)))), .second, .unset, .unset, .unset, .unset] [(.long (adF (((((9223372036854775807 : Int64) - (q1 &&& (9223372036854775807 : Int64))) - (1 : Int64)) + (q2 &&& (3 : Int64))) &&& (9223372036854775807 : Int64)) (q1 &&& (9223372036854775807 : Int64))))])) _
    refine XS.lstore X5.here hx rfl (hb hby at_121) rfl (l' := #[.val (.long q1), .second, .val (.long q2), .second, .val (.int p3), .val (.long (q1 &&& (9223372036854775807 : Int64))), .second, .val (.long (((((9223372036854775807 : Int64) - (q1 &&& (9223372036854775807 : Int64))) - (1 : Int64)) + (q2 &&& (3 : Int64))) &&& (9223372036854775807 : Int64))), .second, .val (.int (p3 &&& (3 : Int32))), .val (.long (adF (q1 &&& (9223372036854775807 : Int64)) (((((9223372036854775807 : Int64) - (q1 &&& (9223372036854775807 : Int64))) - (1 : Int64)) + (q2 &&& (3 : Int64))) &&& (9223372036854775807 : Int64)))), .second, .val (.long (adF (((((9223372036854775807 : Int64) - (q1 &&& (9223372036854775807 : Int64))) - (1 : Int64)) + (q2 &&& (3 : Int64))) &&& (9223372036854775807 : Int64)) (q1 &&& (9223372036854775807 : Int64)))), .second, .unset, .unset]) rfl ?_
    show Steps p.tables e below (T5.setTop (mkF m 123 #[.val (.long q1), .second, .val (.long q2), .second, .val (.int p3), .val (.long (q1 &&& (9223372036854775807 : Int64))), .second, .val (.long (((((9223372036854775807 : Int64) - (q1 &&& (9223372036854775807 : Int64))) - (1 : Int64)) + (q2 &&& (3 : Int64))) &&& (9223372036854775807 : Int64))), .second, .val (.int (p3 &&& (3 : Int32))), .val (.long (adF (q1 &&& (9223372036854775807 : Int64)) (((((9223372036854775807 : Int64) - (q1 &&& (9223372036854775807 : Int64))) - (1 : Int64)) + (q2 &&& (3 : Int64))) &&& (9223372036854775807 : Int64)))), .second, .val (.long (adF (((((9223372036854775807 : Int64) - (q1 &&& (9223372036854775807 : Int64))) - (1 : Int64)) + (q2 &&& (3 : Int64))) &&& (9223372036854775807 : Int64)) (q1 &&& (9223372036854775807 : Int64)))), .second, .unset, .unset] [])) _
    refine XS.lload X5.here hx rfl (hb hby at_123) rfl ?_
    show Steps p.tables e below (T5.setTop (mkF m 125 #[.val (.long q1), .second, .val (.long q2), .second, .val (.int p3), .val (.long (q1 &&& (9223372036854775807 : Int64))), .second, .val (.long (((((9223372036854775807 : Int64) - (q1 &&& (9223372036854775807 : Int64))) - (1 : Int64)) + (q2 &&& (3 : Int64))) &&& (9223372036854775807 : Int64))), .second, .val (.int (p3 &&& (3 : Int32))), .val (.long (adF (q1 &&& (9223372036854775807 : Int64)) (((((9223372036854775807 : Int64) - (q1 &&& (9223372036854775807 : Int64))) - (1 : Int64)) + (q2 &&& (3 : Int64))) &&& (9223372036854775807 : Int64)))), .second, .val (.long (adF (((((9223372036854775807 : Int64) - (q1 &&& (9223372036854775807 : Int64))) - (1 : Int64)) + (q2 &&& (3 : Int64))) &&& (9223372036854775807 : Int64)) (q1 &&& (9223372036854775807 : Int64)))), .second, .unset, .unset] [(.long (q1 &&& (9223372036854775807 : Int64)))])) _
    refine XS.lload X5.here hx rfl (hb hby at_125) rfl ?_
    show Steps p.tables e below (T5.setTop (mkF m 127 #[.val (.long q1), .second, .val (.long q2), .second, .val (.int p3), .val (.long (q1 &&& (9223372036854775807 : Int64))), .second, .val (.long (((((9223372036854775807 : Int64) - (q1 &&& (9223372036854775807 : Int64))) - (1 : Int64)) + (q2 &&& (3 : Int64))) &&& (9223372036854775807 : Int64))), .second, .val (.int (p3 &&& (3 : Int32))), .val (.long (adF (q1 &&& (9223372036854775807 : Int64)) (((((9223372036854775807 : Int64) - (q1 &&& (9223372036854775807 : Int64))) - (1 : Int64)) + (q2 &&& (3 : Int64))) &&& (9223372036854775807 : Int64)))), .second, .val (.long (adF (((((9223372036854775807 : Int64) - (q1 &&& (9223372036854775807 : Int64))) - (1 : Int64)) + (q2 &&& (3 : Int64))) &&& (9223372036854775807 : Int64)) (q1 &&& (9223372036854775807 : Int64)))), .second, .unset, .unset] [(.long (((((9223372036854775807 : Int64) - (q1 &&& (9223372036854775807 : Int64))) - (1 : Int64)) + (q2 &&& (3 : Int64))) &&& (9223372036854775807 : Int64))), (.long (q1 &&& (9223372036854775807 : Int64)))])) _
    refine st6 _ ?_
    show Steps p.tables e below (T6.setTop (mkF m 130 #[.val (.long q1), .second, .val (.long q2), .second, .val (.int p3), .val (.long (q1 &&& (9223372036854775807 : Int64))), .second, .val (.long (((((9223372036854775807 : Int64) - (q1 &&& (9223372036854775807 : Int64))) - (1 : Int64)) + (q2 &&& (3 : Int64))) &&& (9223372036854775807 : Int64))), .second, .val (.int (p3 &&& (3 : Int32))), .val (.long (adF (q1 &&& (9223372036854775807 : Int64)) (((((9223372036854775807 : Int64) - (q1 &&& (9223372036854775807 : Int64))) - (1 : Int64)) + (q2 &&& (3 : Int64))) &&& (9223372036854775807 : Int64)))), .second, .val (.long (adF (((((9223372036854775807 : Int64) - (q1 &&& (9223372036854775807 : Int64))) - (1 : Int64)) + (q2 &&& (3 : Int64))) &&& (9223372036854775807 : Int64)) (q1 &&& (9223372036854775807 : Int64)))), .second, .unset, .unset] [(.long (rfF (q1 &&& (9223372036854775807 : Int64)) (((((9223372036854775807 : Int64) - (q1 &&& (9223372036854775807 : Int64))) - (1 : Int64)) + (q2 &&& (3 : Int64))) &&& (9223372036854775807 : Int64))))])) _
    refine XS.lstore X6.here hx rfl (hb hby at_130) rfl (l' := #[.val (.long q1), .second, .val (.long q2), .second, .val (.int p3), .val (.long (q1 &&& (9223372036854775807 : Int64))), .second, .val (.long (((((9223372036854775807 : Int64) - (q1 &&& (9223372036854775807 : Int64))) - (1 : Int64)) + (q2 &&& (3 : Int64))) &&& (9223372036854775807 : Int64))), .second, .val (.int (p3 &&& (3 : Int32))), .val (.long (adF (q1 &&& (9223372036854775807 : Int64)) (((((9223372036854775807 : Int64) - (q1 &&& (9223372036854775807 : Int64))) - (1 : Int64)) + (q2 &&& (3 : Int64))) &&& (9223372036854775807 : Int64)))), .second, .val (.long (adF (((((9223372036854775807 : Int64) - (q1 &&& (9223372036854775807 : Int64))) - (1 : Int64)) + (q2 &&& (3 : Int64))) &&& (9223372036854775807 : Int64)) (q1 &&& (9223372036854775807 : Int64)))), .second, .val (.long (rfF (q1 &&& (9223372036854775807 : Int64)) (((((9223372036854775807 : Int64) - (q1 &&& (9223372036854775807 : Int64))) - (1 : Int64)) + (q2 &&& (3 : Int64))) &&& (9223372036854775807 : Int64)))), .second]) rfl ?_
    show Steps p.tables e below (T6.setTop (mkF m 132 #[.val (.long q1), .second, .val (.long q2), .second, .val (.int p3), .val (.long (q1 &&& (9223372036854775807 : Int64))), .second, .val (.long (((((9223372036854775807 : Int64) - (q1 &&& (9223372036854775807 : Int64))) - (1 : Int64)) + (q2 &&& (3 : Int64))) &&& (9223372036854775807 : Int64))), .second, .val (.int (p3 &&& (3 : Int32))), .val (.long (adF (q1 &&& (9223372036854775807 : Int64)) (((((9223372036854775807 : Int64) - (q1 &&& (9223372036854775807 : Int64))) - (1 : Int64)) + (q2 &&& (3 : Int64))) &&& (9223372036854775807 : Int64)))), .second, .val (.long (adF (((((9223372036854775807 : Int64) - (q1 &&& (9223372036854775807 : Int64))) - (1 : Int64)) + (q2 &&& (3 : Int64))) &&& (9223372036854775807 : Int64)) (q1 &&& (9223372036854775807 : Int64)))), .second, .val (.long (rfF (q1 &&& (9223372036854775807 : Int64)) (((((9223372036854775807 : Int64) - (q1 &&& (9223372036854775807 : Int64))) - (1 : Int64)) + (q2 &&& (3 : Int64))) &&& (9223372036854775807 : Int64)))), .second] [])) _
    refine XS.lload X6.here hx rfl (hb hby at_132) rfl ?_
    show Steps p.tables e below (T6.setTop (mkF m 134 #[.val (.long q1), .second, .val (.long q2), .second, .val (.int p3), .val (.long (q1 &&& (9223372036854775807 : Int64))), .second, .val (.long (((((9223372036854775807 : Int64) - (q1 &&& (9223372036854775807 : Int64))) - (1 : Int64)) + (q2 &&& (3 : Int64))) &&& (9223372036854775807 : Int64))), .second, .val (.int (p3 &&& (3 : Int32))), .val (.long (adF (q1 &&& (9223372036854775807 : Int64)) (((((9223372036854775807 : Int64) - (q1 &&& (9223372036854775807 : Int64))) - (1 : Int64)) + (q2 &&& (3 : Int64))) &&& (9223372036854775807 : Int64)))), .second, .val (.long (adF (((((9223372036854775807 : Int64) - (q1 &&& (9223372036854775807 : Int64))) - (1 : Int64)) + (q2 &&& (3 : Int64))) &&& (9223372036854775807 : Int64)) (q1 &&& (9223372036854775807 : Int64)))), .second, .val (.long (rfF (q1 &&& (9223372036854775807 : Int64)) (((((9223372036854775807 : Int64) - (q1 &&& (9223372036854775807 : Int64))) - (1 : Int64)) + (q2 &&& (3 : Int64))) &&& (9223372036854775807 : Int64)))), .second] [(.long (adF (q1 &&& (9223372036854775807 : Int64)) (((((9223372036854775807 : Int64) - (q1 &&& (9223372036854775807 : Int64))) - (1 : Int64)) + (q2 &&& (3 : Int64))) &&& (9223372036854775807 : Int64))))])) _
    refine XS.lload X6.here hx rfl (hb hby at_134) rfl ?_
    show Steps p.tables e below (T6.setTop (mkF m 136 #[.val (.long q1), .second, .val (.long q2), .second, .val (.int p3), .val (.long (q1 &&& (9223372036854775807 : Int64))), .second, .val (.long (((((9223372036854775807 : Int64) - (q1 &&& (9223372036854775807 : Int64))) - (1 : Int64)) + (q2 &&& (3 : Int64))) &&& (9223372036854775807 : Int64))), .second, .val (.int (p3 &&& (3 : Int32))), .val (.long (adF (q1 &&& (9223372036854775807 : Int64)) (((((9223372036854775807 : Int64) - (q1 &&& (9223372036854775807 : Int64))) - (1 : Int64)) + (q2 &&& (3 : Int64))) &&& (9223372036854775807 : Int64)))), .second, .val (.long (adF (((((9223372036854775807 : Int64) - (q1 &&& (9223372036854775807 : Int64))) - (1 : Int64)) + (q2 &&& (3 : Int64))) &&& (9223372036854775807 : Int64)) (q1 &&& (9223372036854775807 : Int64)))), .second, .val (.long (rfF (q1 &&& (9223372036854775807 : Int64)) (((((9223372036854775807 : Int64) - (q1 &&& (9223372036854775807 : Int64))) - (1 : Int64)) + (q2 &&& (3 : Int64))) &&& (9223372036854775807 : Int64)))), .second] [(.long (rfF (q1 &&& (9223372036854775807 : Int64)) (((((9223372036854775807 : Int64) - (q1 &&& (9223372036854775807 : Int64))) - (1 : Int64)) + (q2 &&& (3 : Int64))) &&& (9223372036854775807 : Int64)))), (.long (adF (q1 &&& (9223372036854775807 : Int64)) (((((9223372036854775807 : Int64) - (q1 &&& (9223372036854775807 : Int64))) - (1 : Int64)) + (q2 &&& (3 : Int64))) &&& (9223372036854775807 : Int64))))])) _
    refine XS.lcmp X6.here hx rfl (hb hby at_136) rfl ?_
    show Steps p.tables e below (T6.setTop (mkF m 137 #[.val (.long q1), .second, .val (.long q2), .second, .val (.int p3), .val (.long (q1 &&& (9223372036854775807 : Int64))), .second, .val (.long (((((9223372036854775807 : Int64) - (q1 &&& (9223372036854775807 : Int64))) - (1 : Int64)) + (q2 &&& (3 : Int64))) &&& (9223372036854775807 : Int64))), .second, .val (.int (p3 &&& (3 : Int32))), .val (.long (adF (q1 &&& (9223372036854775807 : Int64)) (((((9223372036854775807 : Int64) - (q1 &&& (9223372036854775807 : Int64))) - (1 : Int64)) + (q2 &&& (3 : Int64))) &&& (9223372036854775807 : Int64)))), .second, .val (.long (adF (((((9223372036854775807 : Int64) - (q1 &&& (9223372036854775807 : Int64))) - (1 : Int64)) + (q2 &&& (3 : Int64))) &&& (9223372036854775807 : Int64)) (q1 &&& (9223372036854775807 : Int64)))), .second, .val (.long (rfF (q1 &&& (9223372036854775807 : Int64)) (((((9223372036854775807 : Int64) - (q1 &&& (9223372036854775807 : Int64))) - (1 : Int64)) + (q2 &&& (3 : Int64))) &&& (9223372036854775807 : Int64)))), .second] [(.int (lcmpW (adF (q1 &&& (9223372036854775807 : Int64)) (((((9223372036854775807 : Int64) - (q1 &&& (9223372036854775807 : Int64))) - (1 : Int64)) + (q2 &&& (3 : Int64))) &&& (9223372036854775807 : Int64))) (rfF (q1 &&& (9223372036854775807 : Int64)) (((((9223372036854775807 : Int64) - (q1 &&& (9223372036854775807 : Int64))) - (1 : Int64)) + (q2 &&& (3 : Int64))) &&& (9223372036854775807 : Int64)))))])) _
    refine XS.ifNo X6.here hx rfl (hb hby at_137) rfl ((if0 _ _).trans (teq ((lw_eq _ _).mpr (own_add (q1 &&& (9223372036854775807 : Int64)) (((((9223372036854775807 : Int64) - (q1 &&& (9223372036854775807 : Int64))) - (1 : Int64)) + (q2 &&& (3 : Int64))) &&& (9223372036854775807 : Int64)) (own_msk q1) (own_msk _)) : (lcmpW (adF (q1 &&& (9223372036854775807 : Int64)) (((((9223372036854775807 : Int64) - (q1 &&& (9223372036854775807 : Int64))) - (1 : Int64)) + (q2 &&& (3 : Int64))) &&& (9223372036854775807 : Int64))) (rfF (q1 &&& (9223372036854775807 : Int64)) (((((9223372036854775807 : Int64) - (q1 &&& (9223372036854775807 : Int64))) - (1 : Int64)) + (q2 &&& (3 : Int64))) &&& (9223372036854775807 : Int64)))) = (0 : Int32))).2) ?_
    show Steps p.tables e below (T6.setTop (mkF m 140 #[.val (.long q1), .second, .val (.long q2), .second, .val (.int p3), .val (.long (q1 &&& (9223372036854775807 : Int64))), .second, .val (.long (((((9223372036854775807 : Int64) - (q1 &&& (9223372036854775807 : Int64))) - (1 : Int64)) + (q2 &&& (3 : Int64))) &&& (9223372036854775807 : Int64))), .second, .val (.int (p3 &&& (3 : Int32))), .val (.long (adF (q1 &&& (9223372036854775807 : Int64)) (((((9223372036854775807 : Int64) - (q1 &&& (9223372036854775807 : Int64))) - (1 : Int64)) + (q2 &&& (3 : Int64))) &&& (9223372036854775807 : Int64)))), .second, .val (.long (adF (((((9223372036854775807 : Int64) - (q1 &&& (9223372036854775807 : Int64))) - (1 : Int64)) + (q2 &&& (3 : Int64))) &&& (9223372036854775807 : Int64)) (q1 &&& (9223372036854775807 : Int64)))), .second, .val (.long (rfF (q1 &&& (9223372036854775807 : Int64)) (((((9223372036854775807 : Int64) - (q1 &&& (9223372036854775807 : Int64))) - (1 : Int64)) + (q2 &&& (3 : Int64))) &&& (9223372036854775807 : Int64)))), .second] [])) _
    refine XS.lload X6.here hx rfl (hb hby at_140) rfl ?_
    show Steps p.tables e below (T6.setTop (mkF m 142 #[.val (.long q1), .second, .val (.long q2), .second, .val (.int p3), .val (.long (q1 &&& (9223372036854775807 : Int64))), .second, .val (.long (((((9223372036854775807 : Int64) - (q1 &&& (9223372036854775807 : Int64))) - (1 : Int64)) + (q2 &&& (3 : Int64))) &&& (9223372036854775807 : Int64))), .second, .val (.int (p3 &&& (3 : Int32))), .val (.long (adF (q1 &&& (9223372036854775807 : Int64)) (((((9223372036854775807 : Int64) - (q1 &&& (9223372036854775807 : Int64))) - (1 : Int64)) + (q2 &&& (3 : Int64))) &&& (9223372036854775807 : Int64)))), .second, .val (.long (adF (((((9223372036854775807 : Int64) - (q1 &&& (9223372036854775807 : Int64))) - (1 : Int64)) + (q2 &&& (3 : Int64))) &&& (9223372036854775807 : Int64)) (q1 &&& (9223372036854775807 : Int64)))), .second, .val (.long (rfF (q1 &&& (9223372036854775807 : Int64)) (((((9223372036854775807 : Int64) - (q1 &&& (9223372036854775807 : Int64))) - (1 : Int64)) + (q2 &&& (3 : Int64))) &&& (9223372036854775807 : Int64)))), .second] [(.long (adF (((((9223372036854775807 : Int64) - (q1 &&& (9223372036854775807 : Int64))) - (1 : Int64)) + (q2 &&& (3 : Int64))) &&& (9223372036854775807 : Int64)) (q1 &&& (9223372036854775807 : Int64))))])) _
    refine XS.lload X6.here hx rfl (hb hby at_142) rfl ?_
    show Steps p.tables e below (T6.setTop (mkF m 144 #[.val (.long q1), .second, .val (.long q2), .second, .val (.int p3), .val (.long (q1 &&& (9223372036854775807 : Int64))), .second, .val (.long (((((9223372036854775807 : Int64) - (q1 &&& (9223372036854775807 : Int64))) - (1 : Int64)) + (q2 &&& (3 : Int64))) &&& (9223372036854775807 : Int64))), .second, .val (.int (p3 &&& (3 : Int32))), .val (.long (adF (q1 &&& (9223372036854775807 : Int64)) (((((9223372036854775807 : Int64) - (q1 &&& (9223372036854775807 : Int64))) - (1 : Int64)) + (q2 &&& (3 : Int64))) &&& (9223372036854775807 : Int64)))), .second, .val (.long (adF (((((9223372036854775807 : Int64) - (q1 &&& (9223372036854775807 : Int64))) - (1 : Int64)) + (q2 &&& (3 : Int64))) &&& (9223372036854775807 : Int64)) (q1 &&& (9223372036854775807 : Int64)))), .second, .val (.long (rfF (q1 &&& (9223372036854775807 : Int64)) (((((9223372036854775807 : Int64) - (q1 &&& (9223372036854775807 : Int64))) - (1 : Int64)) + (q2 &&& (3 : Int64))) &&& (9223372036854775807 : Int64)))), .second] [(.long (rfF (q1 &&& (9223372036854775807 : Int64)) (((((9223372036854775807 : Int64) - (q1 &&& (9223372036854775807 : Int64))) - (1 : Int64)) + (q2 &&& (3 : Int64))) &&& (9223372036854775807 : Int64)))), (.long (adF (((((9223372036854775807 : Int64) - (q1 &&& (9223372036854775807 : Int64))) - (1 : Int64)) + (q2 &&& (3 : Int64))) &&& (9223372036854775807 : Int64)) (q1 &&& (9223372036854775807 : Int64))))])) _
    refine XS.lcmp X6.here hx rfl (hb hby at_144) rfl ?_
    show Steps p.tables e below (T6.setTop (mkF m 145 #[.val (.long q1), .second, .val (.long q2), .second, .val (.int p3), .val (.long (q1 &&& (9223372036854775807 : Int64))), .second, .val (.long (((((9223372036854775807 : Int64) - (q1 &&& (9223372036854775807 : Int64))) - (1 : Int64)) + (q2 &&& (3 : Int64))) &&& (9223372036854775807 : Int64))), .second, .val (.int (p3 &&& (3 : Int32))), .val (.long (adF (q1 &&& (9223372036854775807 : Int64)) (((((9223372036854775807 : Int64) - (q1 &&& (9223372036854775807 : Int64))) - (1 : Int64)) + (q2 &&& (3 : Int64))) &&& (9223372036854775807 : Int64)))), .second, .val (.long (adF (((((9223372036854775807 : Int64) - (q1 &&& (9223372036854775807 : Int64))) - (1 : Int64)) + (q2 &&& (3 : Int64))) &&& (9223372036854775807 : Int64)) (q1 &&& (9223372036854775807 : Int64)))), .second, .val (.long (rfF (q1 &&& (9223372036854775807 : Int64)) (((((9223372036854775807 : Int64) - (q1 &&& (9223372036854775807 : Int64))) - (1 : Int64)) + (q2 &&& (3 : Int64))) &&& (9223372036854775807 : Int64)))), .second] [(.int (lcmpW (adF (((((9223372036854775807 : Int64) - (q1 &&& (9223372036854775807 : Int64))) - (1 : Int64)) + (q2 &&& (3 : Int64))) &&& (9223372036854775807 : Int64)) (q1 &&& (9223372036854775807 : Int64))) (rfF (q1 &&& (9223372036854775807 : Int64)) (((((9223372036854775807 : Int64) - (q1 &&& (9223372036854775807 : Int64))) - (1 : Int64)) + (q2 &&& (3 : Int64))) &&& (9223372036854775807 : Int64)))))])) _
    refine XS.ifNo X6.here hx rfl (hb hby at_145) rfl ((if0 _ _).trans (teq ((lw_eq _ _).mpr (own_add' (q1 &&& (9223372036854775807 : Int64)) (((((9223372036854775807 : Int64) - (q1 &&& (9223372036854775807 : Int64))) - (1 : Int64)) + (q2 &&& (3 : Int64))) &&& (9223372036854775807 : Int64)) (own_msk q1) (own_msk _)) : (lcmpW (adF (((((9223372036854775807 : Int64) - (q1 &&& (9223372036854775807 : Int64))) - (1 : Int64)) + (q2 &&& (3 : Int64))) &&& (9223372036854775807 : Int64)) (q1 &&& (9223372036854775807 : Int64))) (rfF (q1 &&& (9223372036854775807 : Int64)) (((((9223372036854775807 : Int64) - (q1 &&& (9223372036854775807 : Int64))) - (1 : Int64)) + (q2 &&& (3 : Int64))) &&& (9223372036854775807 : Int64)))) = (0 : Int32))).2) ?_
    show Steps p.tables e below (T6.setTop (mkF m 148 #[.val (.long q1), .second, .val (.long q2), .second, .val (.int p3), .val (.long (q1 &&& (9223372036854775807 : Int64))), .second, .val (.long (((((9223372036854775807 : Int64) - (q1 &&& (9223372036854775807 : Int64))) - (1 : Int64)) + (q2 &&& (3 : Int64))) &&& (9223372036854775807 : Int64))), .second, .val (.int (p3 &&& (3 : Int32))), .val (.long (adF (q1 &&& (9223372036854775807 : Int64)) (((((9223372036854775807 : Int64) - (q1 &&& (9223372036854775807 : Int64))) - (1 : Int64)) + (q2 &&& (3 : Int64))) &&& (9223372036854775807 : Int64)))), .second, .val (.long (adF (((((9223372036854775807 : Int64) - (q1 &&& (9223372036854775807 : Int64))) - (1 : Int64)) + (q2 &&& (3 : Int64))) &&& (9223372036854775807 : Int64)) (q1 &&& (9223372036854775807 : Int64)))), .second, .val (.long (rfF (q1 &&& (9223372036854775807 : Int64)) (((((9223372036854775807 : Int64) - (q1 &&& (9223372036854775807 : Int64))) - (1 : Int64)) + (q2 &&& (3 : Int64))) &&& (9223372036854775807 : Int64)))), .second] [])) _
    refine XS.iconst X6.here hx rfl (hb hby at_148) ?_
    show Steps p.tables e below (T6.setTop (mkF m 149 #[.val (.long q1), .second, .val (.long q2), .second, .val (.int p3), .val (.long (q1 &&& (9223372036854775807 : Int64))), .second, .val (.long (((((9223372036854775807 : Int64) - (q1 &&& (9223372036854775807 : Int64))) - (1 : Int64)) + (q2 &&& (3 : Int64))) &&& (9223372036854775807 : Int64))), .second, .val (.int (p3 &&& (3 : Int32))), .val (.long (adF (q1 &&& (9223372036854775807 : Int64)) (((((9223372036854775807 : Int64) - (q1 &&& (9223372036854775807 : Int64))) - (1 : Int64)) + (q2 &&& (3 : Int64))) &&& (9223372036854775807 : Int64)))), .second, .val (.long (adF (((((9223372036854775807 : Int64) - (q1 &&& (9223372036854775807 : Int64))) - (1 : Int64)) + (q2 &&& (3 : Int64))) &&& (9223372036854775807 : Int64)) (q1 &&& (9223372036854775807 : Int64)))), .second, .val (.long (rfF (q1 &&& (9223372036854775807 : Int64)) (((((9223372036854775807 : Int64) - (q1 &&& (9223372036854775807 : Int64))) - (1 : Int64)) + (q2 &&& (3 : Int64))) &&& (9223372036854775807 : Int64)))), .second] [(.int (1 : Int32))])) _
    refine XS.goto X6.here hx rfl (pc0 := 149) (pc' := 153) rfl (hb hby at_149) (by decide) (by decide) ?_
    show Steps p.tables e below (T6.setTop (mkF m 153 #[.val (.long q1), .second, .val (.long q2), .second, .val (.int p3), .val (.long (q1 &&& (9223372036854775807 : Int64))), .second, .val (.long (((((9223372036854775807 : Int64) - (q1 &&& (9223372036854775807 : Int64))) - (1 : Int64)) + (q2 &&& (3 : Int64))) &&& (9223372036854775807 : Int64))), .second, .val (.int (p3 &&& (3 : Int32))), .val (.long (adF (q1 &&& (9223372036854775807 : Int64)) (((((9223372036854775807 : Int64) - (q1 &&& (9223372036854775807 : Int64))) - (1 : Int64)) + (q2 &&& (3 : Int64))) &&& (9223372036854775807 : Int64)))), .second, .val (.long (adF (((((9223372036854775807 : Int64) - (q1 &&& (9223372036854775807 : Int64))) - (1 : Int64)) + (q2 &&& (3 : Int64))) &&& (9223372036854775807 : Int64)) (q1 &&& (9223372036854775807 : Int64)))), .second, .val (.long (rfF (q1 &&& (9223372036854775807 : Int64)) (((((9223372036854775807 : Int64) - (q1 &&& (9223372036854775807 : Int64))) - (1 : Int64)) + (q2 &&& (3 : Int64))) &&& (9223372036854775807 : Int64)))), .second] [(.int (1 : Int32))])) _
    exact retN X6 hx (t := .boolean) Bd.returns (by simp) (hb hby at_153) hr
  · show Q0 Z q1 q2 p3 h0 n0 _ T6.heap _
    exact ⟨rfl, N6⟩
set_option maxRecDepth 65536 in
set_option maxHeartbeats 40000000 in
theorem rm0_ttfff (l : Launch) (Z : State) (a0 : Array Value) (hw : ∀ d ∈ tables_1, d.before a0 Z = true) (ws : List Jvm.Cond) (q1 : Int64) (q2 : Int64) (p3 : Int32) (h0 : Heap) (n0 : Nat) (Z0 : n0 ≤ h0.size) (hc8 : ¬ ((p3 &&& (3 : Int32)) = (0 : Int32))) (hc31 : ¬ ((p3 &&& (3 : Int32)) = (1 : Int32))) (hc67 : (p3 &&& (3 : Int32)) = (2 : Int32)) :
    MetFree l x (head1 (Jvm.Cond.code x code maxLocals ret :: ws) room_1) (fun a U => a = #[(.long q1), (.long q2), (.int p3)] ∧ Z.Warmed39 U.vm ∧ U.heap = h0) (fun _ _ _ _ _ => True) (fun _ U o U' => ∃ v L, o = .returned v ∧ Q0 Z q1 q2 p3 h0 n0 v U'.heap L ∧ FrameEnd U o U' L room_1.cells room_1.slots) := by
  refine MetFree.of_bodySF (plainFor_of_name pn_0) hisR ?_
  intro p e s m args below meth c s₁ Bd hml0 hP hK
  obtain ⟨rfl, hZ, hh⟩ := hP
  have hx := Bd.exec
  have hby := Bd.bytes
  have hml : c.maxLocals = 16 := hml0
  have hown : s.vm.findClass "com/example/sluice/sluice/internal/DemandAddPinLaw" = some m.cls := findClass_of_methodNamed Bd.named
  have hnm := (name_of_methodNamed Bd.named Bd.method).1
  have X0 : Stand p l e room_1 s m #[(.long q1), (.long q2), (.int p3)] below meth c s₁ [] 0 0 := Stand.of_body Bd
  have e0 : s₁.heap = h0 := by rw [← hh, Bd.state]; rfl
  have N0 := Fr.nil n0
  have pre0 : ∀ t, Steps p.tables e below (s₁.setTop (mkF m 0 #[.val (.long q1), .second, .val (.long q2), .second, .val (.int p3), .unset, .unset, .unset, .unset, .unset, .unset, .unset, .unset, .unset, .unset, .unset] [])) t → Steps p.tables e below (s₁.setTop (entryFrame m #[(.long q1), (.long q2), (.int p3)] maxLocals)) t := fun t k => castTop (ef_0 m q1 q2 p3) k
  -- 3. LAWS
  -- pc 109: com/example/sluice/sluice/internal/Demand.add by its contract rm1
  obtain ⟨_, _, ⟨T4, L4, k4, n4⟩, -, X4, ⟨Lc4, hQ4, l4, y4, z4⟩, st4⟩ := Jvm.LawKit.callS X0 hx (y := (⟨"com/example/sluice/sluice/internal/Demand", "add", "(JJ)J"⟩ : MethodName)) hown (mvT hZ (hw _ (List.mem_of_getElem? (i := 1) rfl))) (mvT hZ (hw _ (List.mem_of_getElem? (i := 2) rfl))) (mvT hZ (hw _ (List.mem_of_getElem? (i := 3) rfl))) (mvT hZ (hw _ (List.mem_of_getElem? (i := 4) rfl))) (by decide) (backOf (W := 0) (rm1 l Z a0 hw [] (q1 &&& (255 : Int64)) (q2 &&& (255 : Int64)) h0 n0 Z0) hZ (hw _ (List.mem_of_getElem? (i := 4) rfl)) (hw _ (List.mem_of_getElem? (i := 3) rfl)) (by decide) (by decide)) (g := (mkF m 109 #[.val (.long q1), .second, .val (.long q2), .second, .val (.int p3), .val (.long (q1 &&& (255 : Int64))), .second, .val (.long (q2 &&& (255 : Int64))), .second, .val (.int (p3 &&& (3 : Int32))), .unset, .unset, .unset, .unset, .unset, .unset] [(.long (q2 &&& (255 : Int64))), (.long (q1 &&& (255 : Int64)))])) rfl (by rw [hml]; rfl) (argsL := [(.long (q1 &&& (255 : Int64))), (.long (q2 &&& (255 : Int64)))]) (rest := []) (lenOf pd_0_0 rfl) rfl (by show 2 * 0 + _ ≤ _; exact Nat.le_of_eq rfl) (hb hby at_109) (fun _ _ => ⟨rfl, e0, (by decide : 0 + 0 ≤ _), (by decide : 0 + 0 ≤ _)⟩)
  dsimp only [Pt.U, Pt.locs, Pt.cells, Pt.slots] at X4 l4 y4 z4 st4 hQ4
  subst l4 y4 z4
  obtain ⟨rfl, N4q, eq4⟩ := hQ4      -- what it returned, that it wrote nothing old, and the rest of your Q1
  have N4 := Fr.app N0 N4q
  -- pc 118: com/example/sluice/sluice/internal/Demand.add by its contract rm1
  obtain ⟨_, _, ⟨T5, L5, k5, n5⟩, -, X5, ⟨Lc5, hQ5, l5, y5, z5⟩, st5⟩ := Jvm.LawKit.callS X4 hx (y := (⟨"com/example/sluice/sluice/internal/Demand", "add", "(JJ)J"⟩ : MethodName)) hown (mvT hZ (hw _ (List.mem_of_getElem? (i := 1) rfl))) (mvT hZ (hw _ (List.mem_of_getElem? (i := 2) rfl))) (mvT hZ (hw _ (List.mem_of_getElem? (i := 3) rfl))) (mvT hZ (hw _ (List.mem_of_getElem? (i := 4) rfl))) (by decide) (backOf (W := 0) (rm1 l Z a0 hw [] (q2 &&& (255 : Int64)) (q1 &&& (255 : Int64)) T4.heap n0 (by rw [eq4]; exact Z0)) hZ (hw _ (List.mem_of_getElem? (i := 4) rfl)) (hw _ (List.mem_of_getElem? (i := 3) rfl)) (by decide) (by decide)) (g := (mkF m 118 #[.val (.long q1), .second, .val (.long q2), .second, .val (.int p3), .val (.long (q1 &&& (255 : Int64))), .second, .val (.long (q2 &&& (255 : Int64))), .second, .val (.int (p3 &&& (3 : Int32))), .val (.long (adF (q1 &&& (255 : Int64)) (q2 &&& (255 : Int64)))), .second, .unset, .unset, .unset, .unset] [(.long (q1 &&& (255 : Int64))), (.long (q2 &&& (255 : Int64)))])) rfl (by rw [hml]; rfl) (argsL := [(.long (q2 &&& (255 : Int64))), (.long (q1 &&& (255 : Int64)))]) (rest := []) (lenOf pd_0_0 rfl) rfl (by show 2 * 0 + _ ≤ _; exact Nat.le_of_eq rfl) (hb hby at_118) (fun _ _ => ⟨rfl, rfl, (by decide : 0 + 0 ≤ _), (by decide : 0 + 0 ≤ _)⟩)
  dsimp only [Pt.U, Pt.locs, Pt.cells, Pt.slots] at X5 l5 y5 z5 st5 hQ5
  subst l5 y5 z5
  obtain ⟨rfl, N5q, eq5⟩ := hQ5      -- what it returned, that it wrote nothing old, and the rest of your Q1
  have N5 := Fr.app N4 N5q
  -- pc 127: com/example/sluice/sluice/internal/DemandAddPinLaw.reference by its contract rm2
  obtain ⟨_, _, ⟨T6, L6, k6, n6⟩, -, X6, ⟨Lc6, hQ6, l6, y6, z6⟩, st6⟩ := Jvm.LawKit.callS X5 hx (y := (⟨"com/example/sluice/sluice/internal/DemandAddPinLaw", "reference", "(JJ)J"⟩ : MethodName)) hown (mvT hZ (hw _ (List.mem_of_getElem? (i := 5) rfl))) (mvT hZ (hw _ (List.mem_of_getElem? (i := 6) rfl))) (mvT hZ (hw _ (List.mem_of_getElem? (i := 7) rfl))) (mvT hZ (hw _ (List.mem_of_getElem? (i := 8) rfl))) (by decide) (backOf (W := 0) (rm2 l Z a0 hw [] (q1 &&& (255 : Int64)) (q2 &&& (255 : Int64)) T5.heap n0 (by rw [eq5, eq4]; exact Z0)) hZ (hw _ (List.mem_of_getElem? (i := 8) rfl)) (hw _ (List.mem_of_getElem? (i := 7) rfl)) (by decide) (by decide)) (g := (mkF m 127 #[.val (.long q1), .second, .val (.long q2), .second, .val (.int p3), .val (.long (q1 &&& (255 : Int64))), .second, .val (.long (q2 &&& (255 : Int64))), .second, .val (.int (p3 &&& (3 : Int32))), .val (.long (adF (q1 &&& (255 : Int64)) (q2 &&& (255 : Int64)))), .second, .val (.long (adF (q2 &&& (255 : Int64)) (q1 &&& (255 : Int64)))), .second, .unset, .unset] [(.long (q2 &&& (255 : Int64))), (.long (q1 &&& (255 : Int64)))])) rfl (by rw [hml]; rfl) (argsL := [(.long (q1 &&& (255 : Int64))), (.long (q2 &&& (255 : Int64)))]) (rest := []) (lenOf pd_0_0 rfl) rfl (by show 2 * 0 + _ ≤ _; exact Nat.le_of_eq rfl) (hb hby at_127) (fun _ _ => ⟨rfl, rfl, (by decide : 0 + 0 ≤ _), (by decide : 0 + 0 ≤ _)⟩)
  dsimp only [Pt.U, Pt.locs, Pt.cells, Pt.slots] at X6 l6 y6 z6 st6 hQ6
  subst l6 y6 z6
  obtain ⟨rfl, N6q, eq6⟩ := hQ6      -- what it returned, that it wrote nothing old, and the rest of your Q2
  have N6 := Fr.app N5 N6q
  obtain ⟨fs, hr, hrun, hended, hW, hsame⟩ := X6.leave (v := some (.int (1 : Int32))) (fun h => by rw [Bd.returns] at h; cases h)
  refine ⟨_, _, pre0 _ ?_, hrun, hended, _, _, rfl, ?_, ⟨_, rfl⟩, hW, hsame.mono (by decide) (by decide)⟩
  -- 4. STEPS
  · show Steps p.tables e below (s₁.setTop (mkF m 0 #[.val (.long q1), .second, .val (.long q2), .second, .val (.int p3), .unset, .unset, .unset, .unset, .unset, .unset, .unset, .unset, .unset, .unset, .unset] [])) _
    refine XS.iload X0.here hx rfl (hb hby at_0) rfl ?_
    show Steps p.tables e below (s₁.setTop (mkF m 2 #[.val (.long q1), .second, .val (.long q2), .second, .val (.int p3), .unset, .unset, .unset, .unset, .unset, .unset, .unset, .unset, .unset, .unset, .unset] [(.int p3)])) _
    refine XS.iconst X0.here hx rfl (hb hby at_2) ?_
    show Steps p.tables e below (s₁.setTop (mkF m 3 #[.val (.long q1), .second, .val (.long q2), .second, .val (.int p3), .unset, .unset, .unset, .unset, .unset, .unset, .unset, .unset, .unset, .unset, .unset] [(.int (3 : Int32)), (.int p3)])) _
    refine XS.iand X0.here hx rfl (hb hby at_3) rfl ?_
    show Steps p.tables e below (s₁.setTop (mkF m 4 #[.val (.long q1), .second, .val (.long q2), .second, .val (.int p3), .unset, .unset, .unset, .unset, .unset, .unset, .unset, .unset, .unset, .unset, .unset] [(.int (p3 &&& (3 : Int32)))])) _
    refine XS.istore X0.here hx rfl (hb hby at_4) rfl (l' := #[.val (.long q1), .second, .val (.long q2), .second, .val (.int p3), .unset, .unset, .unset, .unset, .val (.int (p3 &&& (3 : Int32))), .unset, .unset, .unset, .unset, .unset, .unset]) rfl ?_
    show Steps p.tables e below (s₁.setTop (mkF m 6 #[.val (.long q1), .second, .val (.long q2), .second, .val (.int p3), .unset, .unset, .unset, .unset, .val (.int (p3 &&& (3 : Int32))), .unset, .unset, .unset, .unset, .unset, .unset] [])) _
    refine XS.iload X0.here hx rfl (hb hby at_6) rfl ?_
    show Steps p.tables e below (s₁.setTop (mkF m 8 #[.val (.long q1), .second, .val (.long q2), .second, .val (.int p3), .unset, .unset, .unset, .unset, .val (.int (p3 &&& (3 : Int32))), .unset, .unset, .unset, .unset, .unset, .unset] [(.int (p3 &&& (3 : Int32)))])) _
    refine XS.ifYes X0.here hx rfl (pc0 := 8) (pc' := 28) rfl (hb hby at_8) rfl ((if0 _ _).trans (feq hc8).2) (by decide) (by decide) ?_
    show Steps p.tables e below (s₁.setTop (mkF m 28 #[.val (.long q1), .second, .val (.long q2), .second, .val (.int p3), .unset, .unset, .unset, .unset, .val (.int (p3 &&& (3 : Int32))), .unset, .unset, .unset, .unset, .unset, .unset] [])) _
    refine XS.iload X0.here hx rfl (hb hby at_28) rfl ?_
    show Steps p.tables e below (s₁.setTop (mkF m 30 #[.val (.long q1), .second, .val (.long q2), .second, .val (.int p3), .unset, .unset, .unset, .unset, .val (.int (p3 &&& (3 : Int32))), .unset, .unset, .unset, .unset, .unset, .unset] [(.int (p3 &&& (3 : Int32)))])) _
    refine XS.iconst X0.here hx rfl (hb hby at_30) ?_
    show Steps p.tables e below (s₁.setTop (mkF m 31 #[.val (.long q1), .second, .val (.long q2), .second, .val (.int p3), .unset, .unset, .unset, .unset, .val (.int (p3 &&& (3 : Int32))), .unset, .unset, .unset, .unset, .unset, .unset] [(.int (1 : Int32)), (.int (p3 &&& (3 : Int32)))])) _
    refine XS.icmpYes X0.here hx rfl (pc0 := 31) (pc' := 64) rfl (hb hby at_31) rfl (feq hc31).2 (by decide) (by decide) ?_
    show Steps p.tables e below (s₁.setTop (mkF m 64 #[.val (.long q1), .second, .val (.long q2), .second, .val (.int p3), .unset, .unset, .unset, .unset, .val (.int (p3 &&& (3 : Int32))), .unset, .unset, .unset, .unset, .unset, .unset] [])) _
    refine XS.iload X0.here hx rfl (hb hby at_64) rfl ?_
    show Steps p.tables e below (s₁.setTop (mkF m 66 #[.val (.long q1), .second, .val (.long q2), .second, .val (.int p3), .unset, .unset, .unset, .unset, .val (.int (p3 &&& (3 : Int32))), .unset, .unset, .unset, .unset, .unset, .unset] [(.int (p3 &&& (3 : Int32)))])) _
    refine XS.iconst X0.here hx rfl (hb hby at_66) ?_
    show Steps p.tables e below (s₁.setTop (mkF m 67 #[.val (.long q1), .second, .val (.long q2), .second, .val (.int p3), .unset, .unset, .unset, .unset, .val (.int (p3 &&& (3 : Int32))), .unset, .unset, .unset, .unset, .unset, .unset] [(.int (2 : Int32)), (.int (p3 &&& (3 : Int32)))])) _
    refine XS.icmpNo X0.here hx rfl (hb hby at_67) rfl (teq hc67).2 ?_
    show Steps p.tables e below (s₁.setTop (mkF m 70 #[.val (.long q1), .second, .val (.long q2), .second, .val (.int p3), .unset, .unset, .unset, .unset, .val (.int (p3 &&& (3 : Int32))), .unset, .unset, .unset, .unset, .unset, .unset] [])) _
    refine XS.lloadN X0.here hx rfl (hb hby at_70) rfl ?_
    show Steps p.tables e below (s₁.setTop (mkF m 71 #[.val (.long q1), .second, .val (.long q2), .second, .val (.int p3), .unset, .unset, .unset, .unset, .val (.int (p3 &&& (3 : Int32))), .unset, .unset, .unset, .unset, .unset, .unset] [(.long q1)])) _
    refine X0.ldc2Long hx hown (mvT hZ (hw _ (List.mem_of_getElem? (i := 9) rfl))) (g := (mkF m 71 #[.val (.long q1), .second, .val (.long q2), .second, .val (.int p3), .unset, .unset, .unset, .unset, .val (.int (p3 &&& (3 : Int32))), .unset, .unset, .unset, .unset, .unset, .unset] [(.long q1)])) rfl (hb hby at_71) _ ?_
    show Steps p.tables e below (s₁.setTop (mkF m 74 #[.val (.long q1), .second, .val (.long q2), .second, .val (.int p3), .unset, .unset, .unset, .unset, .val (.int (p3 &&& (3 : Int32))), .unset, .unset, .unset, .unset, .unset, .unset] [(.long (255 : Int64)), (.long q1)])) _
    refine XS.land X0.here hx rfl (hb hby at_74) rfl ?_
    show Steps p.tables e below (s₁.setTop (mkF m 75 #[.val (.long q1), .second, .val (.long q2), .second, .val (.int p3), .unset, .unset, .unset, .unset, .val (.int (p3 &&& (3 : Int32))), .unset, .unset, .unset, .unset, .unset, .unset] [(.long (q1 &&& (255 : Int64)))])) _
    refine XS.lstore X0.here hx rfl (hb hby at_75) rfl (l' := #[.val (.long q1), .second, .val (.long q2), .second, .val (.int p3), .val (.long (q1 &&& (255 : Int64))), .second, .unset, .unset, .val (.int (p3 &&& (3 : Int32))), .unset, .unset, .unset, .unset, .unset, .unset]) rfl ?_
    show Steps p.tables e below (s₁.setTop (mkF m 77 #[.val (.long q1), .second, .val (.long q2), .second, .val (.int p3), .val (.long (q1 &&& (255 : Int64))), .second, .unset, .unset, .val (.int (p3 &&& (3 : Int32))), .unset, .unset, .unset, .unset, .unset, .unset] [])) _
    refine XS.lloadN X0.here hx rfl (hb hby at_77) rfl ?_
    show Steps p.tables e below (s₁.setTop (mkF m 78 #[.val (.long q1), .second, .val (.long q2), .second, .val (.int p3), .val (.long (q1 &&& (255 : Int64))), .second, .unset, .unset, .val (.int (p3 &&& (3 : Int32))), .unset, .unset, .unset, .unset, .unset, .unset] [(.long q2)])) _
    refine X0.ldc2Long hx hown (mvT hZ (hw _ (List.mem_of_getElem? (i := 9) rfl))) (g := (mkF m 78 #[.val (.long q1), .second, .val (.long q2), .second, .val (.int p3), .val (.long (q1 &&& (255 : Int64))), .second, .unset, .unset, .val (.int (p3 &&& (3 : Int32))), .unset, .unset, .unset, .unset, .unset, .unset] [(.long q2)])) rfl (hb hby at_78) _ ?_
    show Steps p.tables e below (s₁.setTop (mkF m 81 #[.val (.long q1), .second, .val (.long q2), .second, .val (.int p3), .val (.long (q1 &&& (255 : Int64))), .second, .unset, .unset, .val (.int (p3 &&& (3 : Int32))), .unset, .unset, .unset, .unset, .unset, .unset] [(.long (255 : Int64)), (.long q2)])) _
    refine XS.land X0.here hx rfl (hb hby at_81) rfl ?_
    show Steps p.tables e below (s₁.setTop (mkF m 82 #[.val (.long q1), .second, .val (.long q2), .second, .val (.int p3), .val (.long (q1 &&& (255 : Int64))), .second, .unset, .unset, .val (.int (p3 &&& (3 : Int32))), .unset, .unset, .unset, .unset, .unset, .unset] [(.long (q2 &&& (255 : Int64)))])) _
    refine XS.lstore X0.here hx rfl (hb hby at_82) rfl (l' := #[.val (.long q1), .second, .val (.long q2), .second, .val (.int p3), .val (.long (q1 &&& (255 : Int64))), .second, .val (.long (q2 &&& (255 : Int64))), .second, .val (.int (p3 &&& (3 : Int32))), .unset, .unset, .unset, .unset, .unset, .unset]) rfl ?_
    show Steps p.tables e below (s₁.setTop (mkF m 84 #[.val (.long q1), .second, .val (.long q2), .second, .val (.int p3), .val (.long (q1 &&& (255 : Int64))), .second, .val (.long (q2 &&& (255 : Int64))), .second, .val (.int (p3 &&& (3 : Int32))), .unset, .unset, .unset, .unset, .unset, .unset] [])) _
    refine XS.goto X0.here hx rfl (pc0 := 84) (pc' := 105) rfl (hb hby at_84) (by decide) (by decide) ?_
    show Steps p.tables e below (s₁.setTop (mkF m 105 #[.val (.long q1), .second, .val (.long q2), .second, .val (.int p3), .val (.long (q1 &&& (255 : Int64))), .second, .val (.long (q2 &&& (255 : Int64))), .second, .val (.int (p3 &&& (3 : Int32))), .unset, .unset, .unset, .unset, .unset, .unset] [])) _
    refine XS.lload X0.here hx rfl (hb hby at_105) rfl ?_
    show Steps p.tables e below (s₁.setTop (mkF m 107 #[.val (.long q1), .second, .val (.long q2), .second, .val (.int p3), .val (.long (q1 &&& (255 : Int64))), .second, .val (.long (q2 &&& (255 : Int64))), .second, .val (.int (p3 &&& (3 : Int32))), .unset, .unset, .unset, .unset, .unset, .unset] [(.long (q1 &&& (255 : Int64)))])) _
    refine XS.lload X0.here hx rfl (hb hby at_107) rfl ?_
    show Steps p.tables e below (s₁.setTop (mkF m 109 #[.val (.long q1), .second, .val (.long q2), .second, .val (.int p3), .val (.long (q1 &&& (255 : Int64))), .second, .val (.long (q2 &&& (255 : Int64))), .second, .val (.int (p3 &&& (3 : Int32))), .unset, .unset, .unset, .unset, .unset, .unset] [(.long (q2 &&& (255 : Int64))), (.long (q1 &&& (255 : Int64)))])) _
    refine st4 _ ?_
    show Steps p.tables e below (T4.setTop (mkF m 112 #[.val (.long q1), .second, .val (.long q2), .second, .val (.int p3), .val (.long (q1 &&& (255 : Int64))), .second, .val (.long (q2 &&& (255 : Int64))), .second, .val (.int (p3 &&& (3 : Int32))), .unset, .unset, .unset, .unset, .unset, .unset] [(.long (adF (q1 &&& (255 : Int64)) (q2 &&& (255 : Int64))))])) _
    refine XS.lstore X4.here hx rfl (hb hby at_112) rfl (l' := #[.val (.long q1), .second, .val (.long q2), .second, .val (.int p3), .val (.long (q1 &&& (255 : Int64))), .second, .val (.long (q2 &&& (255 : Int64))), .second, .val (.int (p3 &&& (3 : Int32))), .val (.long (adF (q1 &&& (255 : Int64)) (q2 &&& (255 : Int64)))), .second, .unset, .unset, .unset, .unset]) rfl ?_
    show Steps p.tables e below (T4.setTop (mkF m 114 #[.val (.long q1), .second, .val (.long q2), .second, .val (.int p3), .val (.long (q1 &&& (255 : Int64))), .second, .val (.long (q2 &&& (255 : Int64))), .second, .val (.int (p3 &&& (3 : Int32))), .val (.long (adF (q1 &&& (255 : Int64)) (q2 &&& (255 : Int64)))), .second, .unset, .unset, .unset, .unset] [])) _
    refine XS.lload X4.here hx rfl (hb hby at_114) rfl ?_
    show Steps p.tables e below (T4.setTop (mkF m 116 #[.val (.long q1), .second, .val (.long q2), .second, .val (.int p3), .val (.long (q1 &&& (255 : Int64))), .second, .val (.long (q2 &&& (255 : Int64))), .second, .val (.int (p3 &&& (3 : Int32))), .val (.long (adF (q1 &&& (255 : Int64)) (q2 &&& (255 : Int64)))), .second, .unset, .unset, .unset, .unset] [(.long (q2 &&& (255 : Int64)))])) _
    refine XS.lload X4.here hx rfl (hb hby at_116) rfl ?_
    show Steps p.tables e below (T4.setTop (mkF m 118 #[.val (.long q1), .second, .val (.long q2), .second, .val (.int p3), .val (.long (q1 &&& (255 : Int64))), .second, .val (.long (q2 &&& (255 : Int64))), .second, .val (.int (p3 &&& (3 : Int32))), .val (.long (adF (q1 &&& (255 : Int64)) (q2 &&& (255 : Int64)))), .second, .unset, .unset, .unset, .unset] [(.long (q1 &&& (255 : Int64))), (.long (q2 &&& (255 : Int64)))])) _
    refine st5 _ ?_
    show Steps p.tables e below (T5.setTop (mkF m 121 #[.val (.long q1), .second, .val (.long q2), .second, .val (.int p3), .val (.long (q1 &&& (255 : Int64))), .second, .val (.long (q2 &&& (255 : Int64))), .second, .val (.int (p3 &&& (3 : Int32))), .val (.long (adF (q1 &&& (255 : Int64)) (q2 &&& (255 : Int64)))), .second, .unset, .unset, .unset, .unset] [(.long (adF (q2 &&& (255 : Int64)) (q1 &&& (255 : Int64))))])) _
    refine XS.lstore X5.here hx rfl (hb hby at_121) rfl (l' := #[.val (.long q1), .second, .val (.long q2), .second, .val (.int p3), .val (.long (q1 &&& (255 : Int64))), .second, .val (.long (q2 &&& (255 : Int64))), .second, .val (.int (p3 &&& (3 : Int32))), .val (.long (adF (q1 &&& (255 : Int64)) (q2 &&& (255 : Int64)))), .second, .val (.long (adF (q2 &&& (255 : Int64)) (q1 &&& (255 : Int64)))), .second, .unset, .unset]) rfl ?_
    show Steps p.tables e below (T5.setTop (mkF m 123 #[.val (.long q1), .second, .val (.long q2), .second, .val (.int p3), .val (.long (q1 &&& (255 : Int64))), .second, .val (.long (q2 &&& (255 : Int64))), .second, .val (.int (p3 &&& (3 : Int32))), .val (.long (adF (q1 &&& (255 : Int64)) (q2 &&& (255 : Int64)))), .second, .val (.long (adF (q2 &&& (255 : Int64)) (q1 &&& (255 : Int64)))), .second, .unset, .unset] [])) _
    refine XS.lload X5.here hx rfl (hb hby at_123) rfl ?_
    show Steps p.tables e below (T5.setTop (mkF m 125 #[.val (.long q1), .second, .val (.long q2), .second, .val (.int p3), .val (.long (q1 &&& (255 : Int64))), .second, .val (.long (q2 &&& (255 : Int64))), .second, .val (.int (p3 &&& (3 : Int32))), .val (.long (adF (q1 &&& (255 : Int64)) (q2 &&& (255 : Int64)))), .second, .val (.long (adF (q2 &&& (255 : Int64)) (q1 &&& (255 : Int64)))), .second, .unset, .unset] [(.long (q1 &&& (255 : Int64)))])) _
    refine XS.lload X5.here hx rfl (hb hby at_125) rfl ?_
    show Steps p.tables e below (T5.setTop (mkF m 127 #[.val (.long q1), .second, .val (.long q2), .second, .val (.int p3), .val (.long (q1 &&& (255 : Int64))), .second, .val (.long (q2 &&& (255 : Int64))), .second, .val (.int (p3 &&& (3 : Int32))), .val (.long (adF (q1 &&& (255 : Int64)) (q2 &&& (255 : Int64)))), .second, .val (.long (adF (q2 &&& (255 : Int64)) (q1 &&& (255 : Int64)))), .second, .unset, .unset] [(.long (q2 &&& (255 : Int64))), (.long (q1 &&& (255 : Int64)))])) _
    refine st6 _ ?_
    show Steps p.tables e below (T6.setTop (mkF m 130 #[.val (.long q1), .second, .val (.long q2), .second, .val (.int p3), .val (.long (q1 &&& (255 : Int64))), .second, .val (.long (q2 &&& (255 : Int64))), .second, .val (.int (p3 &&& (3 : Int32))), .val (.long (adF (q1 &&& (255 : Int64)) (q2 &&& (255 : Int64)))), .second, .val (.long (adF (q2 &&& (255 : Int64)) (q1 &&& (255 : Int64)))), .second, .unset, .unset] [(.long (rfF (q1 &&& (255 : Int64)) (q2 &&& (255 : Int64))))])) _
    refine XS.lstore X6.here hx rfl (hb hby at_130) rfl (l' := #[.val (.long q1), .second, .val (.long q2), .second, .val (.int p3), .val (.long (q1 &&& (255 : Int64))), .second, .val (.long (q2 &&& (255 : Int64))), .second, .val (.int (p3 &&& (3 : Int32))), .val (.long (adF (q1 &&& (255 : Int64)) (q2 &&& (255 : Int64)))), .second, .val (.long (adF (q2 &&& (255 : Int64)) (q1 &&& (255 : Int64)))), .second, .val (.long (rfF (q1 &&& (255 : Int64)) (q2 &&& (255 : Int64)))), .second]) rfl ?_
    show Steps p.tables e below (T6.setTop (mkF m 132 #[.val (.long q1), .second, .val (.long q2), .second, .val (.int p3), .val (.long (q1 &&& (255 : Int64))), .second, .val (.long (q2 &&& (255 : Int64))), .second, .val (.int (p3 &&& (3 : Int32))), .val (.long (adF (q1 &&& (255 : Int64)) (q2 &&& (255 : Int64)))), .second, .val (.long (adF (q2 &&& (255 : Int64)) (q1 &&& (255 : Int64)))), .second, .val (.long (rfF (q1 &&& (255 : Int64)) (q2 &&& (255 : Int64)))), .second] [])) _
    refine XS.lload X6.here hx rfl (hb hby at_132) rfl ?_
    show Steps p.tables e below (T6.setTop (mkF m 134 #[.val (.long q1), .second, .val (.long q2), .second, .val (.int p3), .val (.long (q1 &&& (255 : Int64))), .second, .val (.long (q2 &&& (255 : Int64))), .second, .val (.int (p3 &&& (3 : Int32))), .val (.long (adF (q1 &&& (255 : Int64)) (q2 &&& (255 : Int64)))), .second, .val (.long (adF (q2 &&& (255 : Int64)) (q1 &&& (255 : Int64)))), .second, .val (.long (rfF (q1 &&& (255 : Int64)) (q2 &&& (255 : Int64)))), .second] [(.long (adF (q1 &&& (255 : Int64)) (q2 &&& (255 : Int64))))])) _
    refine XS.lload X6.here hx rfl (hb hby at_134) rfl ?_
    show Steps p.tables e below (T6.setTop (mkF m 136 #[.val (.long q1), .second, .val (.long q2), .second, .val (.int p3), .val (.long (q1 &&& (255 : Int64))), .second, .val (.long (q2 &&& (255 : Int64))), .second, .val (.int (p3 &&& (3 : Int32))), .val (.long (adF (q1 &&& (255 : Int64)) (q2 &&& (255 : Int64)))), .second, .val (.long (adF (q2 &&& (255 : Int64)) (q1 &&& (255 : Int64)))), .second, .val (.long (rfF (q1 &&& (255 : Int64)) (q2 &&& (255 : Int64)))), .second] [(.long (rfF (q1 &&& (255 : Int64)) (q2 &&& (255 : Int64)))), (.long (adF (q1 &&& (255 : Int64)) (q2 &&& (255 : Int64))))])) _
    refine XS.lcmp X6.here hx rfl (hb hby at_136) rfl ?_
    show Steps p.tables e below (T6.setTop (mkF m 137 #[.val (.long q1), .second, .val (.long q2), .second, .val (.int p3), .val (.long (q1 &&& (255 : Int64))), .second, .val (.long (q2 &&& (255 : Int64))), .second, .val (.int (p3 &&& (3 : Int32))), .val (.long (adF (q1 &&& (255 : Int64)) (q2 &&& (255 : Int64)))), .second, .val (.long (adF (q2 &&& (255 : Int64)) (q1 &&& (255 : Int64)))), .second, .val (.long (rfF (q1 &&& (255 : Int64)) (q2 &&& (255 : Int64)))), .second] [(.int (lcmpW (adF (q1 &&& (255 : Int64)) (q2 &&& (255 : Int64))) (rfF (q1 &&& (255 : Int64)) (q2 &&& (255 : Int64)))))])) _
    refine XS.ifNo X6.here hx rfl (hb hby at_137) rfl ((if0 _ _).trans (teq ((lw_eq _ _).mpr (own_add (q1 &&& (255 : Int64)) (q2 &&& (255 : Int64)) ((own_byte q1).1) ((own_byte q2).1)) : (lcmpW (adF (q1 &&& (255 : Int64)) (q2 &&& (255 : Int64))) (rfF (q1 &&& (255 : Int64)) (q2 &&& (255 : Int64)))) = (0 : Int32))).2) ?_
    show Steps p.tables e below (T6.setTop (mkF m 140 #[.val (.long q1), .second, .val (.long q2), .second, .val (.int p3), .val (.long (q1 &&& (255 : Int64))), .second, .val (.long (q2 &&& (255 : Int64))), .second, .val (.int (p3 &&& (3 : Int32))), .val (.long (adF (q1 &&& (255 : Int64)) (q2 &&& (255 : Int64)))), .second, .val (.long (adF (q2 &&& (255 : Int64)) (q1 &&& (255 : Int64)))), .second, .val (.long (rfF (q1 &&& (255 : Int64)) (q2 &&& (255 : Int64)))), .second] [])) _
    refine XS.lload X6.here hx rfl (hb hby at_140) rfl ?_
    show Steps p.tables e below (T6.setTop (mkF m 142 #[.val (.long q1), .second, .val (.long q2), .second, .val (.int p3), .val (.long (q1 &&& (255 : Int64))), .second, .val (.long (q2 &&& (255 : Int64))), .second, .val (.int (p3 &&& (3 : Int32))), .val (.long (adF (q1 &&& (255 : Int64)) (q2 &&& (255 : Int64)))), .second, .val (.long (adF (q2 &&& (255 : Int64)) (q1 &&& (255 : Int64)))), .second, .val (.long (rfF (q1 &&& (255 : Int64)) (q2 &&& (255 : Int64)))), .second] [(.long (adF (q2 &&& (255 : Int64)) (q1 &&& (255 : Int64))))])) _
    refine XS.lload X6.here hx rfl (hb hby at_142) rfl ?_
    show Steps p.tables e below (T6.setTop (mkF m 144 #[.val (.long q1), .second, .val (.long q2), .second, .val (.int p3), .val (.long (q1 &&& (255 : Int64))), .second, .val (.long (q2 &&& (255 : Int64))), .second, .val (.int (p3 &&& (3 : Int32))), .val (.long (adF (q1 &&& (255 : Int64)) (q2 &&& (255 : Int64)))), .second, .val (.long (adF (q2 &&& (255 : Int64)) (q1 &&& (255 : Int64)))), .second, .val (.long (rfF (q1 &&& (255 : Int64)) (q2 &&& (255 : Int64)))), .second] [(.long (rfF (q1 &&& (255 : Int64)) (q2 &&& (255 : Int64)))), (.long (adF (q2 &&& (255 : Int64)) (q1 &&& (255 : Int64))))])) _
    refine XS.lcmp X6.here hx rfl (hb hby at_144) rfl ?_
    show Steps p.tables e below (T6.setTop (mkF m 145 #[.val (.long q1), .second, .val (.long q2), .second, .val (.int p3), .val (.long (q1 &&& (255 : Int64))), .second, .val (.long (q2 &&& (255 : Int64))), .second, .val (.int (p3 &&& (3 : Int32))), .val (.long (adF (q1 &&& (255 : Int64)) (q2 &&& (255 : Int64)))), .second, .val (.long (adF (q2 &&& (255 : Int64)) (q1 &&& (255 : Int64)))), .second, .val (.long (rfF (q1 &&& (255 : Int64)) (q2 &&& (255 : Int64)))), .second] [(.int (lcmpW (adF (q2 &&& (255 : Int64)) (q1 &&& (255 : Int64))) (rfF (q1 &&& (255 : Int64)) (q2 &&& (255 : Int64)))))])) _
    refine XS.ifNo X6.here hx rfl (hb hby at_145) rfl ((if0 _ _).trans (teq ((lw_eq _ _).mpr (own_add' (q1 &&& (255 : Int64)) (q2 &&& (255 : Int64)) ((own_byte q1).1) ((own_byte q2).1)) : (lcmpW (adF (q2 &&& (255 : Int64)) (q1 &&& (255 : Int64))) (rfF (q1 &&& (255 : Int64)) (q2 &&& (255 : Int64)))) = (0 : Int32))).2) ?_
    show Steps p.tables e below (T6.setTop (mkF m 148 #[.val (.long q1), .second, .val (.long q2), .second, .val (.int p3), .val (.long (q1 &&& (255 : Int64))), .second, .val (.long (q2 &&& (255 : Int64))), .second, .val (.int (p3 &&& (3 : Int32))), .val (.long (adF (q1 &&& (255 : Int64)) (q2 &&& (255 : Int64)))), .second, .val (.long (adF (q2 &&& (255 : Int64)) (q1 &&& (255 : Int64)))), .second, .val (.long (rfF (q1 &&& (255 : Int64)) (q2 &&& (255 : Int64)))), .second] [])) _
    refine XS.iconst X6.here hx rfl (hb hby at_148) ?_
    show Steps p.tables e below (T6.setTop (mkF m 149 #[.val (.long q1), .second, .val (.long q2), .second, .val (.int p3), .val (.long (q1 &&& (255 : Int64))), .second, .val (.long (q2 &&& (255 : Int64))), .second, .val (.int (p3 &&& (3 : Int32))), .val (.long (adF (q1 &&& (255 : Int64)) (q2 &&& (255 : Int64)))), .second, .val (.long (adF (q2 &&& (255 : Int64)) (q1 &&& (255 : Int64)))), .second, .val (.long (rfF (q1 &&& (255 : Int64)) (q2 &&& (255 : Int64)))), .second] [(.int (1 : Int32))])) _
    refine XS.goto X6.here hx rfl (pc0 := 149) (pc' := 153) rfl (hb hby at_149) (by decide) (by decide) ?_
    show Steps p.tables e below (T6.setTop (mkF m 153 #[.val (.long q1), .second, .val (.long q2), .second, .val (.int p3), .val (.long (q1 &&& (255 : Int64))), .second, .val (.long (q2 &&& (255 : Int64))), .second, .val (.int (p3 &&& (3 : Int32))), .val (.long (adF (q1 &&& (255 : Int64)) (q2 &&& (255 : Int64)))), .second, .val (.long (adF (q2 &&& (255 : Int64)) (q1 &&& (255 : Int64)))), .second, .val (.long (rfF (q1 &&& (255 : Int64)) (q2 &&& (255 : Int64)))), .second] [(.int (1 : Int32))])) _
    exact retN X6 hx (t := .boolean) Bd.returns (by simp) (hb hby at_153) hr
  · show Q0 Z q1 q2 p3 h0 n0 _ T6.heap _
    exact ⟨rfl, N6⟩
set_option maxRecDepth 65536 in
set_option maxHeartbeats 40000000 in
theorem rm0_tttff (l : Launch) (Z : State) (a0 : Array Value) (hw : ∀ d ∈ tables_1, d.before a0 Z = true) (ws : List Jvm.Cond) (q1 : Int64) (q2 : Int64) (p3 : Int32) (h0 : Heap) (n0 : Nat) (Z0 : n0 ≤ h0.size) (hc8 : ¬ ((p3 &&& (3 : Int32)) = (0 : Int32))) (hc31 : ¬ ((p3 &&& (3 : Int32)) = (1 : Int32))) (hc67 : ¬ ((p3 &&& (3 : Int32)) = (2 : Int32))) :
    MetFree l x (head1 (Jvm.Cond.code x code maxLocals ret :: ws) room_1) (fun a U => a = #[(.long q1), (.long q2), (.int p3)] ∧ Z.Warmed39 U.vm ∧ U.heap = h0) (fun _ _ _ _ _ => True) (fun _ U o U' => ∃ v L, o = .returned v ∧ Q0 Z q1 q2 p3 h0 n0 v U'.heap L ∧ FrameEnd U o U' L room_1.cells room_1.slots) := by
  refine MetFree.of_bodySF (plainFor_of_name pn_0) hisR ?_
  intro p e s m args below meth c s₁ Bd hml0 hP hK
  obtain ⟨rfl, hZ, hh⟩ := hP
  have hx := Bd.exec
  have hby := Bd.bytes
  have hml : c.maxLocals = 16 := hml0
  have hown : s.vm.findClass "com/example/sluice/sluice/internal/DemandAddPinLaw" = some m.cls := findClass_of_methodNamed Bd.named
  have hnm := (name_of_methodNamed Bd.named Bd.method).1
  have X0 : Stand p l e room_1 s m #[(.long q1), (.long q2), (.int p3)] below meth c s₁ [] 0 0 := Stand.of_body Bd
  have e0 : s₁.heap = h0 := by rw [← hh, Bd.state]; rfl
  have N0 := Fr.nil n0
  have pre0 : ∀ t, Steps p.tables e below (s₁.setTop (mkF m 0 #[.val (.long q1), .second, .val (.long q2), .second, .val (.int p3), .unset, .unset, .unset, .unset, .unset, .unset, .unset, .unset, .unset, .unset, .unset] [])) t → Steps p.tables e below (s₁.setTop (entryFrame m #[(.long q1), (.long q2), (.int p3)] maxLocals)) t := fun t k => castTop (ef_0 m q1 q2 p3) k
  -- 3. LAWS
  -- pc 109: com/example/sluice/sluice/internal/Demand.add by its contract rm1
  obtain ⟨_, _, ⟨T4, L4, k4, n4⟩, -, X4, ⟨Lc4, hQ4, l4, y4, z4⟩, st4⟩ := Jvm.LawKit.callS X0 hx (y := (⟨"com/example/sluice/sluice/internal/Demand", "add", "(JJ)J"⟩ : MethodName)) hown (mvT hZ (hw _ (List.mem_of_getElem? (i := 1) rfl))) (mvT hZ (hw _ (List.mem_of_getElem? (i := 2) rfl))) (mvT hZ (hw _ (List.mem_of_getElem? (i := 3) rfl))) (mvT hZ (hw _ (List.mem_of_getElem? (i := 4) rfl))) (by decide) (backOf (W := 0) (rm1 l Z a0 hw [] ((9223372036854775807 : Int64) - (q1 &&& (255 : Int64))) (q2 &&& (255 : Int64)) h0 n0 Z0) hZ (hw _ (List.mem_of_getElem? (i := 4) rfl)) (hw _ (List.mem_of_getElem? (i := 3) rfl)) (by decide) (by decide)) (g := (mkF m 109 #[.val (.long q1), .second, .val (.long q2), .second, .val (.int p3), .val (.long ((9223372036854775807 : Int64) - (q1 &&& (255 : Int64)))), .second, .val (.long (q2 &&& (255 : Int64))), .second, .val (.int (p3 &&& (3 : Int32))), .unset, .unset, .unset, .unset, .unset, .unset] [(.long (q2 &&& (255 : Int64))), (.long ((9223372036854775807 : Int64) - (q1 &&& (255 : Int64))))])) rfl (by rw [hml]; rfl) (argsL := [(.long ((9223372036854775807 : Int64) - (q1 &&& (255 : Int64)))), (.long (q2 &&& (255 : Int64)))]) (rest := []) (lenOf pd_0_0 rfl) rfl (by show 2 * 0 + _ ≤ _; exact Nat.le_of_eq rfl) (hb hby at_109) (fun _ _ => ⟨rfl, e0, (by decide : 0 + 0 ≤ _), (by decide : 0 + 0 ≤ _)⟩)
  dsimp only [Pt.U, Pt.locs, Pt.cells, Pt.slots] at X4 l4 y4 z4 st4 hQ4
  subst l4 y4 z4
  obtain ⟨rfl, N4q, eq4⟩ := hQ4      -- what it returned, that it wrote nothing old, and the rest of your Q1
  have N4 := Fr.app N0 N4q
  -- pc 118: com/example/sluice/sluice/internal/Demand.add by its contract rm1
  obtain ⟨_, _, ⟨T5, L5, k5, n5⟩, -, X5, ⟨Lc5, hQ5, l5, y5, z5⟩, st5⟩ := Jvm.LawKit.callS X4 hx (y := (⟨"com/example/sluice/sluice/internal/Demand", "add", "(JJ)J"⟩ : MethodName)) hown (mvT hZ (hw _ (List.mem_of_getElem? (i := 1) rfl))) (mvT hZ (hw _ (List.mem_of_getElem? (i := 2) rfl))) (mvT hZ (hw _ (List.mem_of_getElem? (i := 3) rfl))) (mvT hZ (hw _ (List.mem_of_getElem? (i := 4) rfl))) (by decide) (backOf (W := 0) (rm1 l Z a0 hw [] (q2 &&& (255 : Int64)) ((9223372036854775807 : Int64) - (q1 &&& (255 : Int64))) T4.heap n0 (by rw [eq4]; exact Z0)) hZ (hw _ (List.mem_of_getElem? (i := 4) rfl)) (hw _ (List.mem_of_getElem? (i := 3) rfl)) (by decide) (by decide)) (g := (mkF m 118 #[.val (.long q1), .second, .val (.long q2), .second, .val (.int p3), .val (.long ((9223372036854775807 : Int64) - (q1 &&& (255 : Int64)))), .second, .val (.long (q2 &&& (255 : Int64))), .second, .val (.int (p3 &&& (3 : Int32))), .val (.long (adF ((9223372036854775807 : Int64) - (q1 &&& (255 : Int64))) (q2 &&& (255 : Int64)))), .second, .unset, .unset, .unset, .unset] [(.long ((9223372036854775807 : Int64) - (q1 &&& (255 : Int64)))), (.long (q2 &&& (255 : Int64)))])) rfl (by rw [hml]; rfl) (argsL := [(.long (q2 &&& (255 : Int64))), (.long ((9223372036854775807 : Int64) - (q1 &&& (255 : Int64))))]) (rest := []) (lenOf pd_0_0 rfl) rfl (by show 2 * 0 + _ ≤ _; exact Nat.le_of_eq rfl) (hb hby at_118) (fun _ _ => ⟨rfl, rfl, (by decide : 0 + 0 ≤ _), (by decide : 0 + 0 ≤ _)⟩)
  dsimp only [Pt.U, Pt.locs, Pt.cells, Pt.slots] at X5 l5 y5 z5 st5 hQ5
  subst l5 y5 z5
  obtain ⟨rfl, N5q, eq5⟩ := hQ5      -- what it returned, that it wrote nothing old, and the rest of your Q1
  have N5 := Fr.app N4 N5q
  -- pc 127: com/example/sluice/sluice/internal/DemandAddPinLaw.reference by its contract rm2
  obtain ⟨_, _, ⟨T6, L6, k6, n6⟩, -, X6, ⟨Lc6, hQ6, l6, y6, z6⟩, st6⟩ := Jvm.LawKit.callS X5 hx (y := (⟨"com/example/sluice/sluice/internal/DemandAddPinLaw", "reference", "(JJ)J"⟩ : MethodName)) hown (mvT hZ (hw _ (List.mem_of_getElem? (i := 5) rfl))) (mvT hZ (hw _ (List.mem_of_getElem? (i := 6) rfl))) (mvT hZ (hw _ (List.mem_of_getElem? (i := 7) rfl))) (mvT hZ (hw _ (List.mem_of_getElem? (i := 8) rfl))) (by decide) (backOf (W := 0) (rm2 l Z a0 hw [] ((9223372036854775807 : Int64) - (q1 &&& (255 : Int64))) (q2 &&& (255 : Int64)) T5.heap n0 (by rw [eq5, eq4]; exact Z0)) hZ (hw _ (List.mem_of_getElem? (i := 8) rfl)) (hw _ (List.mem_of_getElem? (i := 7) rfl)) (by decide) (by decide)) (g := (mkF m 127 #[.val (.long q1), .second, .val (.long q2), .second, .val (.int p3), .val (.long ((9223372036854775807 : Int64) - (q1 &&& (255 : Int64)))), .second, .val (.long (q2 &&& (255 : Int64))), .second, .val (.int (p3 &&& (3 : Int32))), .val (.long (adF ((9223372036854775807 : Int64) - (q1 &&& (255 : Int64))) (q2 &&& (255 : Int64)))), .second, .val (.long (adF (q2 &&& (255 : Int64)) ((9223372036854775807 : Int64) - (q1 &&& (255 : Int64))))), .second, .unset, .unset] [(.long (q2 &&& (255 : Int64))), (.long ((9223372036854775807 : Int64) - (q1 &&& (255 : Int64))))])) rfl (by rw [hml]; rfl) (argsL := [(.long ((9223372036854775807 : Int64) - (q1 &&& (255 : Int64)))), (.long (q2 &&& (255 : Int64)))]) (rest := []) (lenOf pd_0_0 rfl) rfl (by show 2 * 0 + _ ≤ _; exact Nat.le_of_eq rfl) (hb hby at_127) (fun _ _ => ⟨rfl, rfl, (by decide : 0 + 0 ≤ _), (by decide : 0 + 0 ≤ _)⟩)
  dsimp only [Pt.U, Pt.locs, Pt.cells, Pt.slots] at X6 l6 y6 z6 st6 hQ6
  subst l6 y6 z6
  obtain ⟨rfl, N6q, eq6⟩ := hQ6      -- what it returned, that it wrote nothing old, and the rest of your Q2
  have N6 := Fr.app N5 N6q
  obtain ⟨fs, hr, hrun, hended, hW, hsame⟩ := X6.leave (v := some (.int (1 : Int32))) (fun h => by rw [Bd.returns] at h; cases h)
  refine ⟨_, _, pre0 _ ?_, hrun, hended, _, _, rfl, ?_, ⟨_, rfl⟩, hW, hsame.mono (by decide) (by decide)⟩
  -- 4. STEPS
  · show Steps p.tables e below (s₁.setTop (mkF m 0 #[.val (.long q1), .second, .val (.long q2), .second, .val (.int p3), .unset, .unset, .unset, .unset, .unset, .unset, .unset, .unset, .unset, .unset, .unset] [])) _
    refine XS.iload X0.here hx rfl (hb hby at_0) rfl ?_
    show Steps p.tables e below (s₁.setTop (mkF m 2 #[.val (.long q1), .second, .val (.long q2), .second, .val (.int p3), .unset, .unset, .unset, .unset, .unset, .unset, .unset, .unset, .unset, .unset, .unset] [(.int p3)])) _
    refine XS.iconst X0.here hx rfl (hb hby at_2) ?_
    show Steps p.tables e below (s₁.setTop (mkF m 3 #[.val (.long q1), .second, .val (.long q2), .second, .val (.int p3), .unset, .unset, .unset, .unset, .unset, .unset, .unset, .unset, .unset, .unset, .unset] [(.int (3 : Int32)), (.int p3)])) _
    refine XS.iand X0.here hx rfl (hb hby at_3) rfl ?_
    show Steps p.tables e below (s₁.setTop (mkF m 4 #[.val (.long q1), .second, .val (.long q2), .second, .val (.int p3), .unset, .unset, .unset, .unset, .unset, .unset, .unset, .unset, .unset, .unset, .unset] [(.int (p3 &&& (3 : Int32)))])) _
    refine XS.istore X0.here hx rfl (hb hby at_4) rfl (l' := #[.val (.long q1), .second, .val (.long q2), .second, .val (.int p3), .unset, .unset, .unset, .unset, .val (.int (p3 &&& (3 : Int32))), .unset, .unset, .unset, .unset, .unset, .unset]) rfl ?_
    show Steps p.tables e below (s₁.setTop (mkF m 6 #[.val (.long q1), .second, .val (.long q2), .second, .val (.int p3), .unset, .unset, .unset, .unset, .val (.int (p3 &&& (3 : Int32))), .unset, .unset, .unset, .unset, .unset, .unset] [])) _
    refine XS.iload X0.here hx rfl (hb hby at_6) rfl ?_
    show Steps p.tables e below (s₁.setTop (mkF m 8 #[.val (.long q1), .second, .val (.long q2), .second, .val (.int p3), .unset, .unset, .unset, .unset, .val (.int (p3 &&& (3 : Int32))), .unset, .unset, .unset, .unset, .unset, .unset] [(.int (p3 &&& (3 : Int32)))])) _
    refine XS.ifYes X0.here hx rfl (pc0 := 8) (pc' := 28) rfl (hb hby at_8) rfl ((if0 _ _).trans (feq hc8).2) (by decide) (by decide) ?_
    show Steps p.tables e below (s₁.setTop (mkF m 28 #[.val (.long q1), .second, .val (.long q2), .second, .val (.int p3), .unset, .unset, .unset, .unset, .val (.int (p3 &&& (3 : Int32))), .unset, .unset, .unset, .unset, .unset, .unset] [])) _
    refine XS.iload X0.here hx rfl (hb hby at_28) rfl ?_
    show Steps p.tables e below (s₁.setTop (mkF m 30 #[.val (.long q1), .second, .val (.long q2), .second, .val (.int p3), .unset, .unset, .unset, .unset, .val (.int (p3 &&& (3 : Int32))), .unset, .unset, .unset, .unset, .unset, .unset] [(.int (p3 &&& (3 : Int32)))])) _
    refine XS.iconst X0.here hx rfl (hb hby at_30) ?_
    show Steps p.tables e below (s₁.setTop (mkF m 31 #[.val (.long q1), .second, .val (.long q2), .second, .val (.int p3), .unset, .unset, .unset, .unset, .val (.int (p3 &&& (3 : Int32))), .unset, .unset, .unset, .unset, .unset, .unset] [(.int (1 : Int32)), (.int (p3 &&& (3 : Int32)))])) _
    refine XS.icmpYes X0.here hx rfl (pc0 := 31) (pc' := 64) rfl (hb hby at_31) rfl (feq hc31).2 (by decide) (by decide) ?_
    show Steps p.tables e below (s₁.setTop (mkF m 64 #[.val (.long q1), .second, .val (.long q2), .second, .val (.int p3), .unset, .unset, .unset, .unset, .val (.int (p3 &&& (3 : Int32))), .unset, .unset, .unset, .unset, .unset, .unset] [])) _
    refine XS.iload X0.here hx rfl (hb hby at_64) rfl ?_
    show Steps p.tables e below (s₁.setTop (mkF m 66 #[.val (.long q1), .second, .val (.long q2), .second, .val (.int p3), .unset, .unset, .unset, .unset, .val (.int (p3 &&& (3 : Int32))), .unset, .unset, .unset, .unset, .unset, .unset] [(.int (p3 &&& (3 : Int32)))])) _
    refine XS.iconst X0.here hx rfl (hb hby at_66) ?_
    show Steps p.tables e below (s₁.setTop (mkF m 67 #[.val (.long q1), .second, .val (.long q2), .second, .val (.int p3), .unset, .unset, .unset, .unset, .val (.int (p3 &&& (3 : Int32))), .unset, .unset, .unset, .unset, .unset, .unset] [(.int (2 : Int32)), (.int (p3 &&& (3 : Int32)))])) _
    refine XS.icmpYes X0.here hx rfl (pc0 := 67) (pc' := 87) rfl (hb hby at_67) rfl (feq hc67).2 (by decide) (by decide) ?_
    show Steps p.tables e below (s₁.setTop (mkF m 87 #[.val (.long q1), .second, .val (.long q2), .second, .val (.int p3), .unset, .unset, .unset, .unset, .val (.int (p3 &&& (3 : Int32))), .unset, .unset, .unset, .unset, .unset, .unset] [])) _
    refine X0.ldc2Long hx hown (mvT hZ (hw _ (List.mem_of_getElem? (i := 0) rfl))) (g := (mkF m 87 #[.val (.long q1), .second, .val (.long q2), .second, .val (.int p3), .unset, .unset, .unset, .unset, .val (.int (p3 &&& (3 : Int32))), .unset, .unset, .unset, .unset, .unset, .unset] [])) rfl (hb hby at_87) _ ?_
    show Steps p.tables e below (s₁.setTop (mkF m 90 #[.val (.long q1), .second, .val (.long q2), .second, .val (.int p3), .unset, .unset, .unset, .unset, .val (.int (p3 &&& (3 : Int32))), .unset, .unset, .unset, .unset, .unset, .unset] [(.long (9223372036854775807 : Int64))])) _
    refine XS.lloadN X0.here hx rfl (hb hby at_90) rfl ?_
    show Steps p.tables e below (s₁.setTop (mkF m 91 #[.val (.long q1), .second, .val (.long q2), .second, .val (.int p3), .unset, .unset, .unset, .unset, .val (.int (p3 &&& (3 : Int32))), .unset, .unset, .unset, .unset, .unset, .unset] [(.long q1), (.long (9223372036854775807 : Int64))])) _
    refine X0.ldc2Long hx hown (mvT hZ (hw _ (List.mem_of_getElem? (i := 9) rfl))) (g := (mkF m 91 #[.val (.long q1), .second, .val (.long q2), .second, .val (.int p3), .unset, .unset, .unset, .unset, .val (.int (p3 &&& (3 : Int32))), .unset, .unset, .unset, .unset, .unset, .unset] [(.long q1), (.long (9223372036854775807 : Int64))])) rfl (hb hby at_91) _ ?_
    show Steps p.tables e below (s₁.setTop (mkF m 94 #[.val (.long q1), .second, .val (.long q2), .second, .val (.int p3), .unset, .unset, .unset, .unset, .val (.int (p3 &&& (3 : Int32))), .unset, .unset, .unset, .unset, .unset, .unset] [(.long (255 : Int64)), (.long q1), (.long (9223372036854775807 : Int64))])) _
    refine XS.land X0.here hx rfl (hb hby at_94) rfl ?_
    show Steps p.tables e below (s₁.setTop (mkF m 95 #[.val (.long q1), .second, .val (.long q2), .second, .val (.int p3), .unset, .unset, .unset, .unset, .val (.int (p3 &&& (3 : Int32))), .unset, .unset, .unset, .unset, .unset, .unset] [(.long (q1 &&& (255 : Int64))), (.long (9223372036854775807 : Int64))])) _
    refine XS.lsub X0.here hx rfl (hb hby at_95) rfl ?_
    show Steps p.tables e below (s₁.setTop (mkF m 96 #[.val (.long q1), .second, .val (.long q2), .second, .val (.int p3), .unset, .unset, .unset, .unset, .val (.int (p3 &&& (3 : Int32))), .unset, .unset, .unset, .unset, .unset, .unset] [(.long ((9223372036854775807 : Int64) - (q1 &&& (255 : Int64))))])) _
    refine XS.lstore X0.here hx rfl (hb hby at_96) rfl (l' := #[.val (.long q1), .second, .val (.long q2), .second, .val (.int p3), .val (.long ((9223372036854775807 : Int64) - (q1 &&& (255 : Int64)))), .second, .unset, .unset, .val (.int (p3 &&& (3 : Int32))), .unset, .unset, .unset, .unset, .unset, .unset]) rfl ?_
    show Steps p.tables e below (s₁.setTop (mkF m 98 #[.val (.long q1), .second, .val (.long q2), .second, .val (.int p3), .val (.long ((9223372036854775807 : Int64) - (q1 &&& (255 : Int64)))), .second, .unset, .unset, .val (.int (p3 &&& (3 : Int32))), .unset, .unset, .unset, .unset, .unset, .unset] [])) _
    refine XS.lloadN X0.here hx rfl (hb hby at_98) rfl ?_
    show Steps p.tables e below (s₁.setTop (mkF m 99 #[.val (.long q1), .second, .val (.long q2), .second, .val (.int p3), .val (.long ((9223372036854775807 : Int64) - (q1 &&& (255 : Int64)))), .second, .unset, .unset, .val (.int (p3 &&& (3 : Int32))), .unset, .unset, .unset, .unset, .unset, .unset] [(.long q2)])) _
    refine X0.ldc2Long hx hown (mvT hZ (hw _ (List.mem_of_getElem? (i := 9) rfl))) (g := (mkF m 99 #[.val (.long q1), .second, .val (.long q2), .second, .val (.int p3), .val (.long ((9223372036854775807 : Int64) - (q1 &&& (255 : Int64)))), .second, .unset, .unset, .val (.int (p3 &&& (3 : Int32))), .unset, .unset, .unset, .unset, .unset, .unset] [(.long q2)])) rfl (hb hby at_99) _ ?_
    show Steps p.tables e below (s₁.setTop (mkF m 102 #[.val (.long q1), .second, .val (.long q2), .second, .val (.int p3), .val (.long ((9223372036854775807 : Int64) - (q1 &&& (255 : Int64)))), .second, .unset, .unset, .val (.int (p3 &&& (3 : Int32))), .unset, .unset, .unset, .unset, .unset, .unset] [(.long (255 : Int64)), (.long q2)])) _
    refine XS.land X0.here hx rfl (hb hby at_102) rfl ?_
    show Steps p.tables e below (s₁.setTop (mkF m 103 #[.val (.long q1), .second, .val (.long q2), .second, .val (.int p3), .val (.long ((9223372036854775807 : Int64) - (q1 &&& (255 : Int64)))), .second, .unset, .unset, .val (.int (p3 &&& (3 : Int32))), .unset, .unset, .unset, .unset, .unset, .unset] [(.long (q2 &&& (255 : Int64)))])) _
    refine XS.lstore X0.here hx rfl (hb hby at_103) rfl (l' := #[.val (.long q1), .second, .val (.long q2), .second, .val (.int p3), .val (.long ((9223372036854775807 : Int64) - (q1 &&& (255 : Int64)))), .second, .val (.long (q2 &&& (255 : Int64))), .second, .val (.int (p3 &&& (3 : Int32))), .unset, .unset, .unset, .unset, .unset, .unset]) rfl ?_
    show Steps p.tables e below (s₁.setTop (mkF m 105 #[.val (.long q1), .second, .val (.long q2), .second, .val (.int p3), .val (.long ((9223372036854775807 : Int64) - (q1 &&& (255 : Int64)))), .second, .val (.long (q2 &&& (255 : Int64))), .second, .val (.int (p3 &&& (3 : Int32))), .unset, .unset, .unset, .unset, .unset, .unset] [])) _
    refine XS.lload X0.here hx rfl (hb hby at_105) rfl ?_
    show Steps p.tables e below (s₁.setTop (mkF m 107 #[.val (.long q1), .second, .val (.long q2), .second, .val (.int p3), .val (.long ((9223372036854775807 : Int64) - (q1 &&& (255 : Int64)))), .second, .val (.long (q2 &&& (255 : Int64))), .second, .val (.int (p3 &&& (3 : Int32))), .unset, .unset, .unset, .unset, .unset, .unset] [(.long ((9223372036854775807 : Int64) - (q1 &&& (255 : Int64))))])) _
    refine XS.lload X0.here hx rfl (hb hby at_107) rfl ?_
    show Steps p.tables e below (s₁.setTop (mkF m 109 #[.val (.long q1), .second, .val (.long q2), .second, .val (.int p3), .val (.long ((9223372036854775807 : Int64) - (q1 &&& (255 : Int64)))), .second, .val (.long (q2 &&& (255 : Int64))), .second, .val (.int (p3 &&& (3 : Int32))), .unset, .unset, .unset, .unset, .unset, .unset] [(.long (q2 &&& (255 : Int64))), (.long ((9223372036854775807 : Int64) - (q1 &&& (255 : Int64))))])) _
    refine st4 _ ?_
    show Steps p.tables e below (T4.setTop (mkF m 112 #[.val (.long q1), .second, .val (.long q2), .second, .val (.int p3), .val (.long ((9223372036854775807 : Int64) - (q1 &&& (255 : Int64)))), .second, .val (.long (q2 &&& (255 : Int64))), .second, .val (.int (p3 &&& (3 : Int32))), .unset, .unset, .unset, .unset, .unset, .unset] [(.long (adF ((9223372036854775807 : Int64) - (q1 &&& (255 : Int64))) (q2 &&& (255 : Int64))))])) _
    refine XS.lstore X4.here hx rfl (hb hby at_112) rfl (l' := #[.val (.long q1), .second, .val (.long q2), .second, .val (.int p3), .val (.long ((9223372036854775807 : Int64) - (q1 &&& (255 : Int64)))), .second, .val (.long (q2 &&& (255 : Int64))), .second, .val (.int (p3 &&& (3 : Int32))), .val (.long (adF ((9223372036854775807 : Int64) - (q1 &&& (255 : Int64))) (q2 &&& (255 : Int64)))), .second, .unset, .unset, .unset, .unset]) rfl ?_
    show Steps p.tables e below (T4.setTop (mkF m 114 #[.val (.long q1), .second, .val (.long q2), .second, .val (.int p3), .val (.long ((9223372036854775807 : Int64) - (q1 &&& (255 : Int64)))), .second, .val (.long (q2 &&& (255 : Int64))), .second, .val (.int (p3 &&& (3 : Int32))), .val (.long (adF ((9223372036854775807 : Int64) - (q1 &&& (255 : Int64))) (q2 &&& (255 : Int64)))), .second, .unset, .unset, .unset, .unset] [])) _
    refine XS.lload X4.here hx rfl (hb hby at_114) rfl ?_
    show Steps p.tables e below (T4.setTop (mkF m 116 #[.val (.long q1), .second, .val (.long q2), .second, .val (.int p3), .val (.long ((9223372036854775807 : Int64) - (q1 &&& (255 : Int64)))), .second, .val (.long (q2 &&& (255 : Int64))), .second, .val (.int (p3 &&& (3 : Int32))), .val (.long (adF ((9223372036854775807 : Int64) - (q1 &&& (255 : Int64))) (q2 &&& (255 : Int64)))), .second, .unset, .unset, .unset, .unset] [(.long (q2 &&& (255 : Int64)))])) _
    refine XS.lload X4.here hx rfl (hb hby at_116) rfl ?_
    show Steps p.tables e below (T4.setTop (mkF m 118 #[.val (.long q1), .second, .val (.long q2), .second, .val (.int p3), .val (.long ((9223372036854775807 : Int64) - (q1 &&& (255 : Int64)))), .second, .val (.long (q2 &&& (255 : Int64))), .second, .val (.int (p3 &&& (3 : Int32))), .val (.long (adF ((9223372036854775807 : Int64) - (q1 &&& (255 : Int64))) (q2 &&& (255 : Int64)))), .second, .unset, .unset, .unset, .unset] [(.long ((9223372036854775807 : Int64) - (q1 &&& (255 : Int64)))), (.long (q2 &&& (255 : Int64)))])) _
    refine st5 _ ?_
    show Steps p.tables e below (T5.setTop (mkF m 121 #[.val (.long q1), .second, .val (.long q2), .second, .val (.int p3), .val (.long ((9223372036854775807 : Int64) - (q1 &&& (255 : Int64)))), .second, .val (.long (q2 &&& (255 : Int64))), .second, .val (.int (p3 &&& (3 : Int32))), .val (.long (adF ((9223372036854775807 : Int64) - (q1 &&& (255 : Int64))) (q2 &&& (255 : Int64)))), .second, .unset, .unset, .unset, .unset] [(.long (adF (q2 &&& (255 : Int64)) ((9223372036854775807 : Int64) - (q1 &&& (255 : Int64)))))])) _
    refine XS.lstore X5.here hx rfl (hb hby at_121) rfl (l' := #[.val (.long q1), .second, .val (.long q2), .second, .val (.int p3), .val (.long ((9223372036854775807 : Int64) - (q1 &&& (255 : Int64)))), .second, .val (.long (q2 &&& (255 : Int64))), .second, .val (.int (p3 &&& (3 : Int32))), .val (.long (adF ((9223372036854775807 : Int64) - (q1 &&& (255 : Int64))) (q2 &&& (255 : Int64)))), .second, .val (.long (adF (q2 &&& (255 : Int64)) ((9223372036854775807 : Int64) - (q1 &&& (255 : Int64))))), .second, .unset, .unset]) rfl ?_
    show Steps p.tables e below (T5.setTop (mkF m 123 #[.val (.long q1), .second, .val (.long q2), .second, .val (.int p3), .val (.long ((9223372036854775807 : Int64) - (q1 &&& (255 : Int64)))), .second, .val (.long (q2 &&& (255 : Int64))), .second, .val (.int (p3 &&& (3 : Int32))), .val (.long (adF ((9223372036854775807 : Int64) - (q1 &&& (255 : Int64))) (q2 &&& (255 : Int64)))), .second, .val (.long (adF (q2 &&& (255 : Int64)) ((9223372036854775807 : Int64) - (q1 &&& (255 : Int64))))), .second, .unset, .unset] [])) _
    refine XS.lload X5.here hx rfl (hb hby at_123) rfl ?_
    show Steps p.tables e below (T5.setTop (mkF m 125 #[.val (.long q1), .second, .val (.long q2), .second, .val (.int p3), .val (.long ((9223372036854775807 : Int64) - (q1 &&& (255 : Int64)))), .second, .val (.long (q2 &&& (255 : Int64))), .second, .val (.int (p3 &&& (3 : Int32))), .val (.long (adF ((9223372036854775807 : Int64) - (q1 &&& (255 : Int64))) (q2 &&& (255 : Int64)))), .second, .val (.long (adF (q2 &&& (255 : Int64)) ((9223372036854775807 : Int64) - (q1 &&& (255 : Int64))))), .second, .unset, .unset] [(.long ((9223372036854775807 : Int64) - (q1 &&& (255 : Int64))))])) _
    refine XS.lload X5.here hx rfl (hb hby at_125) rfl ?_
    show Steps p.tables e below (T5.setTop (mkF m 127 #[.val (.long q1), .second, .val (.long q2), .second, .val (.int p3), .val (.long ((9223372036854775807 : Int64) - (q1 &&& (255 : Int64)))), .second, .val (.long (q2 &&& (255 : Int64))), .second, .val (.int (p3 &&& (3 : Int32))), .val (.long (adF ((9223372036854775807 : Int64) - (q1 &&& (255 : Int64))) (q2 &&& (255 : Int64)))), .second, .val (.long (adF (q2 &&& (255 : Int64)) ((9223372036854775807 : Int64) - (q1 &&& (255 : Int64))))), .second, .unset, .unset] [(.long (q2 &&& (255 : Int64))), (.long ((9223372036854775807 : Int64) - (q1 &&& (255 : Int64))))])) _
    refine st6 _ ?_
    show Steps p.tables e below (T6.setTop (mkF m 130 #[.val (.long q1), .second, .val (.long q2), .second, .val (.int p3), .val (.long ((9223372036854775807 : Int64) - (q1 &&& (255 : Int64)))), .second, .val (.long (q2 &&& (255 : Int64))), .second, .val (.int (p3 &&& (3 : Int32))), .val (.long (adF ((9223372036854775807 : Int64) - (q1 &&& (255 : Int64))) (q2 &&& (255 : Int64)))), .second, .val (.long (adF (q2 &&& (255 : Int64)) ((9223372036854775807 : Int64) - (q1 &&& (255 : Int64))))), .second, .unset, .unset] [(.long (rfF ((9223372036854775807 : Int64) - (q1 &&& (255 : Int64))) (q2 &&& (255 : Int64))))])) _
    refine XS.lstore X6.here hx rfl (hb hby at_130) rfl (l' := #[.val (.long q1), .second, .val (.long q2), .second, .val (.int p3), .val (.long ((9223372036854775807 : Int64) - (q1 &&& (255 : Int64)))), .second, .val (.long (q2 &&& (255 : Int64))), .second, .val (.int (p3 &&& (3 : Int32))), .val (.long (adF ((9223372036854775807 : Int64) - (q1 &&& (255 : Int64))) (q2 &&& (255 : Int64)))), .second, .val (.long (adF (q2 &&& (255 : Int64)) ((9223372036854775807 : Int64) - (q1 &&& (255 : Int64))))), .second, .val (.long (rfF ((9223372036854775807 : Int64) - (q1 &&& (255 : Int64))) (q2 &&& (255 : Int64)))), .second]) rfl ?_
    show Steps p.tables e below (T6.setTop (mkF m 132 #[.val (.long q1), .second, .val (.long q2), .second, .val (.int p3), .val (.long ((9223372036854775807 : Int64) - (q1 &&& (255 : Int64)))), .second, .val (.long (q2 &&& (255 : Int64))), .second, .val (.int (p3 &&& (3 : Int32))), .val (.long (adF ((9223372036854775807 : Int64) - (q1 &&& (255 : Int64))) (q2 &&& (255 : Int64)))), .second, .val (.long (adF (q2 &&& (255 : Int64)) ((9223372036854775807 : Int64) - (q1 &&& (255 : Int64))))), .second, .val (.long (rfF ((9223372036854775807 : Int64) - (q1 &&& (255 : Int64))) (q2 &&& (255 : Int64)))), .second] [])) _
    refine XS.lload X6.here hx rfl (hb hby at_132) rfl ?_
    show Steps p.tables e below (T6.setTop (mkF m 134 #[.val (.long q1), .second, .val (.long q2), .second, .val (.int p3), .val (.long ((9223372036854775807 : Int64) - (q1 &&& (255 : Int64)))), .second, .val (.long (q2 &&& (255 : Int64))), .second, .val (.int (p3 &&& (3 : Int32))), .val (.long (adF ((9223372036854775807 : Int64) - (q1 &&& (255 : Int64))) (q2 &&& (255 : Int64)))), .second, .val (.long (adF (q2 &&& (255 : Int64)) ((9223372036854775807 : Int64) - (q1 &&& (255 : Int64))))), .second, .val (.long (rfF ((9223372036854775807 : Int64) - (q1 &&& (255 : Int64))) (q2 &&& (255 : Int64)))), .second] [(.long (adF ((9223372036854775807 : Int64) - (q1 &&& (255 : Int64))) (q2 &&& (255 : Int64))))])) _
    refine XS.lload X6.here hx rfl (hb hby at_134) rfl ?_
    show Steps p.tables e below (T6.setTop (mkF m 136 #[.val (.long q1), .second, .val (.long q2), .second, .val (.int p3), .val (.long ((9223372036854775807 : Int64) - (q1 &&& (255 : Int64)))), .second, .val (.long (q2 &&& (255 : Int64))), .second, .val (.int (p3 &&& (3 : Int32))), .val (.long (adF ((9223372036854775807 : Int64) - (q1 &&& (255 : Int64))) (q2 &&& (255 : Int64)))), .second, .val (.long (adF (q2 &&& (255 : Int64)) ((9223372036854775807 : Int64) - (q1 &&& (255 : Int64))))), .second, .val (.long (rfF ((9223372036854775807 : Int64) - (q1 &&& (255 : Int64))) (q2 &&& (255 : Int64)))), .second] [(.long (rfF ((9223372036854775807 : Int64) - (q1 &&& (255 : Int64))) (q2 &&& (255 : Int64)))), (.long (adF ((9223372036854775807 : Int64) - (q1 &&& (255 : Int64))) (q2 &&& (255 : Int64))))])) _
    refine XS.lcmp X6.here hx rfl (hb hby at_136) rfl ?_
    show Steps p.tables e below (T6.setTop (mkF m 137 #[.val (.long q1), .second, .val (.long q2), .second, .val (.int p3), .val (.long ((9223372036854775807 : Int64) - (q1 &&& (255 : Int64)))), .second, .val (.long (q2 &&& (255 : Int64))), .second, .val (.int (p3 &&& (3 : Int32))), .val (.long (adF ((9223372036854775807 : Int64) - (q1 &&& (255 : Int64))) (q2 &&& (255 : Int64)))), .second, .val (.long (adF (q2 &&& (255 : Int64)) ((9223372036854775807 : Int64) - (q1 &&& (255 : Int64))))), .second, .val (.long (rfF ((9223372036854775807 : Int64) - (q1 &&& (255 : Int64))) (q2 &&& (255 : Int64)))), .second] [(.int (lcmpW (adF ((9223372036854775807 : Int64) - (q1 &&& (255 : Int64))) (q2 &&& (255 : Int64))) (rfF ((9223372036854775807 : Int64) - (q1 &&& (255 : Int64))) (q2 &&& (255 : Int64)))))])) _
    refine XS.ifNo X6.here hx rfl (hb hby at_137) rfl ((if0 _ _).trans (teq ((lw_eq _ _).mpr (own_add ((9223372036854775807 : Int64) - (q1 &&& (255 : Int64))) (q2 &&& (255 : Int64)) (own_top q1) ((own_byte q2).1)) : (lcmpW (adF ((9223372036854775807 : Int64) - (q1 &&& (255 : Int64))) (q2 &&& (255 : Int64))) (rfF ((9223372036854775807 : Int64) - (q1 &&& (255 : Int64))) (q2 &&& (255 : Int64)))) = (0 : Int32))).2) ?_
    show Steps p.tables e below (T6.setTop (mkF m 140 #[.val (.long q1), .second, .val (.long q2), .second, .val (.int p3), .val (.long ((9223372036854775807 : Int64) - (q1 &&& (255 : Int64)))), .second, .val (.long (q2 &&& (255 : Int64))), .second, .val (.int (p3 &&& (3 : Int32))), .val (.long (adF ((9223372036854775807 : Int64) - (q1 &&& (255 : Int64))) (q2 &&& (255 : Int64)))), .second, .val (.long (adF (q2 &&& (255 : Int64)) ((9223372036854775807 : Int64) - (q1 &&& (255 : Int64))))), .second, .val (.long (rfF ((9223372036854775807 : Int64) - (q1 &&& (255 : Int64))) (q2 &&& (255 : Int64)))), .second] [])) _
    refine XS.lload X6.here hx rfl (hb hby at_140) rfl ?_
    show Steps p.tables e below (T6.setTop (mkF m 142 #[.val (.long q1), .second, .val (.long q2), .second, .val (.int p3), .val (.long ((9223372036854775807 : Int64) - (q1 &&& (255 : Int64)))), .second, .val (.long (q2 &&& (255 : Int64))), .second, .val (.int (p3 &&& (3 : Int32))), .val (.long (adF ((9223372036854775807 : Int64) - (q1 &&& (255 : Int64))) (q2 &&& (255 : Int64)))), .second, .val (.long (adF (q2 &&& (255 : Int64)) ((9223372036854775807 : Int64) - (q1 &&& (255 : Int64))))), .second, .val (.long (rfF ((9223372036854775807 : Int64) - (q1 &&& (255 : Int64))) (q2 &&& (255 : Int64)))), .second] [(.long (adF (q2 &&& (255 : Int64)) ((9223372036854775807 : Int64) - (q1 &&& (255 : Int64)))))])) _
    refine XS.lload X6.here hx rfl (hb hby at_142) rfl ?_
    show Steps p.tables e below (T6.setTop (mkF m 144 #[.val (.long q1), .second, .val (.long q2), .second, .val (.int p3), .val (.long ((9223372036854775807 : Int64) - (q1 &&& (255 : Int64)))), .second, .val (.long (q2 &&& (255 : Int64))), .second, .val (.int (p3 &&& (3 : Int32))), .val (.long (adF ((9223372036854775807 : Int64) - (q1 &&& (255 : Int64))) (q2 &&& (255 : Int64)))), .second, .val (.long (adF (q2 &&& (255 : Int64)) ((9223372036854775807 : Int64) - (q1 &&& (255 : Int64))))), .second, .val (.long (rfF ((9223372036854775807 : Int64) - (q1 &&& (255 : Int64))) (q2 &&& (255 : Int64)))), .second] [(.long (rfF ((9223372036854775807 : Int64) - (q1 &&& (255 : Int64))) (q2 &&& (255 : Int64)))), (.long (adF (q2 &&& (255 : Int64)) ((9223372036854775807 : Int64) - (q1 &&& (255 : Int64)))))])) _
    refine XS.lcmp X6.here hx rfl (hb hby at_144) rfl ?_
    show Steps p.tables e below (T6.setTop (mkF m 145 #[.val (.long q1), .second, .val (.long q2), .second, .val (.int p3), .val (.long ((9223372036854775807 : Int64) - (q1 &&& (255 : Int64)))), .second, .val (.long (q2 &&& (255 : Int64))), .second, .val (.int (p3 &&& (3 : Int32))), .val (.long (adF ((9223372036854775807 : Int64) - (q1 &&& (255 : Int64))) (q2 &&& (255 : Int64)))), .second, .val (.long (adF (q2 &&& (255 : Int64)) ((9223372036854775807 : Int64) - (q1 &&& (255 : Int64))))), .second, .val (.long (rfF ((9223372036854775807 : Int64) - (q1 &&& (255 : Int64))) (q2 &&& (255 : Int64)))), .second] [(.int (lcmpW (adF (q2 &&& (255 : Int64)) ((9223372036854775807 : Int64) - (q1 &&& (255 : Int64)))) (rfF ((9223372036854775807 : Int64) - (q1 &&& (255 : Int64))) (q2 &&& (255 : Int64)))))])) _
    refine XS.ifNo X6.here hx rfl (hb hby at_145) rfl ((if0 _ _).trans (teq ((lw_eq _ _).mpr (own_add' ((9223372036854775807 : Int64) - (q1 &&& (255 : Int64))) (q2 &&& (255 : Int64)) (own_top q1) ((own_byte q2).1)) : (lcmpW (adF (q2 &&& (255 : Int64)) ((9223372036854775807 : Int64) - (q1 &&& (255 : Int64)))) (rfF ((9223372036854775807 : Int64) - (q1 &&& (255 : Int64))) (q2 &&& (255 : Int64)))) = (0 : Int32))).2) ?_
    show Steps p.tables e below (T6.setTop (mkF m 148 #[.val (.long q1), .second, .val (.long q2), .second, .val (.int p3), .val (.long ((9223372036854775807 : Int64) - (q1 &&& (255 : Int64)))), .second, .val (.long (q2 &&& (255 : Int64))), .second, .val (.int (p3 &&& (3 : Int32))), .val (.long (adF ((9223372036854775807 : Int64) - (q1 &&& (255 : Int64))) (q2 &&& (255 : Int64)))), .second, .val (.long (adF (q2 &&& (255 : Int64)) ((9223372036854775807 : Int64) - (q1 &&& (255 : Int64))))), .second, .val (.long (rfF ((9223372036854775807 : Int64) - (q1 &&& (255 : Int64))) (q2 &&& (255 : Int64)))), .second] [])) _
    refine XS.iconst X6.here hx rfl (hb hby at_148) ?_
    show Steps p.tables e below (T6.setTop (mkF m 149 #[.val (.long q1), .second, .val (.long q2), .second, .val (.int p3), .val (.long ((9223372036854775807 : Int64) - (q1 &&& (255 : Int64)))), .second, .val (.long (q2 &&& (255 : Int64))), .second, .val (.int (p3 &&& (3 : Int32))), .val (.long (adF ((9223372036854775807 : Int64) - (q1 &&& (255 : Int64))) (q2 &&& (255 : Int64)))), .second, .val (.long (adF (q2 &&& (255 : Int64)) ((9223372036854775807 : Int64) - (q1 &&& (255 : Int64))))), .second, .val (.long (rfF ((9223372036854775807 : Int64) - (q1 &&& (255 : Int64))) (q2 &&& (255 : Int64)))), .second] [(.int (1 : Int32))])) _
    refine XS.goto X6.here hx rfl (pc0 := 149) (pc' := 153) rfl (hb hby at_149) (by decide) (by decide) ?_
    show Steps p.tables e below (T6.setTop (mkF m 153 #[.val (.long q1), .second, .val (.long q2), .second, .val (.int p3), .val (.long ((9223372036854775807 : Int64) - (q1 &&& (255 : Int64)))), .second, .val (.long (q2 &&& (255 : Int64))), .second, .val (.int (p3 &&& (3 : Int32))), .val (.long (adF ((9223372036854775807 : Int64) - (q1 &&& (255 : Int64))) (q2 &&& (255 : Int64)))), .second, .val (.long (adF (q2 &&& (255 : Int64)) ((9223372036854775807 : Int64) - (q1 &&& (255 : Int64))))), .second, .val (.long (rfF ((9223372036854775807 : Int64) - (q1 &&& (255 : Int64))) (q2 &&& (255 : Int64)))), .second] [(.int (1 : Int32))])) _
    exact retN X6 hx (t := .boolean) Bd.returns (by simp) (hb hby at_153) hr
  · show Q0 Z q1 q2 p3 h0 n0 _ T6.heap _
    exact ⟨rfl, N6⟩
theorem rm0 (l : Launch) (Z : State) (a0 : Array Value) (hw : ∀ d ∈ tables_1, d.before a0 Z = true) (ws : List Jvm.Cond) (q1 : Int64) (q2 : Int64) (p3 : Int32) (h0 : Heap) (n0 : Nat) (Z0 : n0 ≤ h0.size) :
    MetFree l x (head1 (Jvm.Cond.code x code maxLocals ret :: ws) room_1) (fun a U => a = #[(.long q1), (.long q2), (.int p3)] ∧ Z.Warmed39 U.vm ∧ U.heap = h0) (fun _ _ _ _ _ => True) (fun _ U o U' => ∃ v L, o = .returned v ∧ Q0 Z q1 q2 p3 h0 n0 v U'.heap L ∧ FrameEnd U o U' L room_1.cells room_1.slots) := by
  by_cases h1 : (p3 &&& (3 : Int32)) = (0 : Int32)
  · exact rm0_fff l Z a0 hw ws q1 q2 p3 h0 n0 Z0 h1
  by_cases h2 : (p3 &&& (3 : Int32)) = (1 : Int32)
  · exact rm0_tfff l Z a0 hw ws q1 q2 p3 h0 n0 Z0 h1 h2
  by_cases h3 : (p3 &&& (3 : Int32)) = (2 : Int32)
  · exact rm0_ttfff l Z a0 hw ws q1 q2 p3 h0 n0 Z0 h1 h2 h3
  · exact rm0_tttff l Z a0 hw ws q1 q2 p3 h0 n0 Z0 h1 h2 h3
set_option maxRecDepth 65536 in
set_option maxHeartbeats 40000000 in
theorem comes_1 {Post : Tables → Env → Array Value → State → Outcome → State → Prop} (hpost : ∀ tb e args s v u, (limb_1_1.after args s (.returned v) u = true ∧ limb_1_2.after args s (.returned v) u = true ∧ True) → FrameEnd s (.returned v) u (Jvm.fieldLocs frame_1_writes args s ++ Jvm.arrayLocs frame_1_arrays args s ++ Jvm.staticLocs frame_1_statics s) 0 0 → Post tb e args s (.returned v) u) :
    ArmFor flags0 classFile x code maxLocals ret World_1 tables_1 room_1 Calls_1 rest_1 Pre_1 Post := by
  intro l hfl _ _ p e ha hc hk s m args below hf hA hF happ hP
  obtain ⟨hcalls, hrest, hpre⟩ := hP
  obtain ⟨-, -, -, hnamed, -, -, -, hat⟩ := (Spec.applies_iff hf).mp happ
  obtain ⟨hg, hn⟩ := and_e (Cond.before_iff.mp (show (Jvm.Cond.and given_1 narrow_1).before args s = true from hpre))
  obtain ⟨g7, g8⟩ := and_e hg
  obtain ⟨g9, g10⟩ := and_e g8
  obtain ⟨g11, g12⟩ := and_e g10
  obtain ⟨w0, w1, w2, rfl⟩ : ∃ w0 w1 w2 : Value, args = #[w0, w1, w2] := by
    have hs : args.size = 3 := by simpa [Cond.value, given_1] using g7
    obtain ⟨L⟩ := args
    match L, hs with
    | [w0, w1, w2], _ => exact ⟨w0, w1, w2, rfl⟩
  have hw := fun d (hd : d ∈ tables_1) => atoms_spec (ws := Jvm.Cond.code x code maxLocals ret :: tables_1) hat d (List.mem_cons_of_mem _ hd)
  have hfit : Fit s := fun {y c} hc i hi => by
    obtain ⟨ha, rfl⟩ := Array.getElem?_eq_some_iff.mp hc
    have q := List.all_eq_true.mp ((Array.all_eq_true_iff_forall_mem.mp hF) _ (Array.getElem_mem ha)) i (List.mem_range.mpr hi)
    simpa [Array.getElem?_eq_getElem hi] using q
  obtain ⟨i0, ei0⟩ := isL_v g9
  obtain rfl : w0 = (.long i0) := Option.some.inj ei0
  obtain ⟨i1, ei1⟩ := isL_v g11
  obtain rfl : w1 = (.long i1) := Option.some.inj ei1
  obtain ⟨i2, ei2⟩ := is_v g12
  obtain rfl : w2 = (.int i2) := Option.some.inj ei2
  obtain ⟨n, o, h1, h2, h3, _, L, rfl, ⟨rfl, N⟩, hq⟩ := rm0 l s _ hw tables_1 i0 i1 i2 s.heap s.heap.size (Nat.le_refl _)  p e ha hc hk s m _ below hf ((Spec.applies_iff_loose hf).mp happ).1 ⟨rfl, State.Warmed39.refl s, rfl⟩ trivial
  refine ⟨n, _, h1, h2, h3, hpost _ _ _ _ _ _ ⟨Cond.after_iff.mpr rfl, Cond.after_iff.mpr (eq_i res_at (Term.int_eval (1)) rfl), trivial⟩ ⟨hq.1, hq.2.1, (hq.2.2.sift fun y hy => Or.inr (N y hy)).mono (by decide) (by decide)⟩⟩
theorem main_1_1 : Claimed_1_1 := comes_1 fun _ _ _ _ _ _ h hF => ⟨h.1, hF⟩
theorem main_1_2 : Claimed_1_2 := comes_1 fun _ _ _ _ _ _ h hF => ⟨h.2.1, hF⟩
end Jvm.Pilot.@@N@@
namespace Jvm.Pilot.@@N@@
open Jvm Jvm.ClassFile Sem Op Lib Jvm.Free Jvm.Stand Jvm.Pilot.@@N@@.Jvm.D
/-! MADE BY PROGRAM (witnessworld.py) out of the Statement's table words and the real class files: 7 classes; the members and pool entries that the words name. The judged class is class 1, her method 2. -/
namespace start1
open Jvm.ClassFile
def u (s : String) : CpInfo := .utf8 (stringToUtf16 s)
/-- a pool by its gaps: so many unusable entries, then the entry; so many at the end -/
def gap : Nat → List CpInfo → List CpInfo
  | 0, r => r
  | n + 1, r => .unusable :: gap n r
def poolList (es : List (Nat × CpInfo)) (last : Nat) : List CpInfo := es.foldr (fun e r => gap e.1 (e.2 :: r)) (gap last [])
def pool (es : List (Nat × CpInfo)) (last : Nat) : Array CpInfo := ⟨poolList es last⟩
def fileOf (pool : Array CpInfo) (this : Nat) (attrs : Array Attribute := #[]) (ms : Array MethodInfo := #[]) (fl : Nat := 33) (sup : Nat := 0) (ifs : Array Nat := #[]) (fds : Array FieldInfo := #[]) : ClassFile where
  minorVersion := 0
  majorVersion := 65
  constantPool := pool
  accessFlags := fl
  thisClass := this
  superClass := sup
  interfaces := ifs
  fields := fds
  methods := ms
  attributes := attrs
def plain (name : String) (sup : Option ClassId) : Class where
  name := name
  kind := .ordinary
  loader := none
  accessFlags := 33
  super := sup
  interfaces := #[]
  cf := none
  fields := #[]
  methods := #[]
  instanceTypes := #[]
  staticTypes := #[]
  resolved := #[]
  callSites := []
  init := .initialized
  statics := none
  mirror := none

def pool0 : Array CpInfo := pool [(5, u "<init>"), (0, u "()V"), (1, .class_ 10), (1, u "java/lang/Object")] 113

def k0m0 : Method := { name := "<init>", desc := "()V", sig := { parameters := [], returnType := none }, accessFlags := 1, code := none }
/-- java/lang/Object -/
def k0 : Class := { plain "java/lang/Object" none with
  accessFlags := 33
  interfaces := #[]
  cf := some (fileOf pool0 8 #[] #[{ accessFlags := 1, nameIndex := 5, descriptorIndex := 6, attributes := #[] }] 33 0 #[] #[])
  fields := #[]
  methods := #[k0m0]
  instanceTypes := #[]
  staticTypes := #[]
  resolved := Array.replicate 124 none
  statics := none }

def pool1 : Array CpInfo := pool [(2, .class_ 4), (1, u "java/lang/Object"), (0, u "<init>"), (0, u "()V"), (2, .long 9223372036854775807), (1, .long 3), (1, .long 255), (1, .methodref 16 17), (0, .class_ 18), (0, .nameAndType 19 20), (0, u "com/example/sluice/sluice/internal/Demand"), (0, u "add"), (0, u "(JJ)J"), (0, .methodref 22 23), (0, .class_ 24), (0, .nameAndType 25 20), (0, u "com/example/sluice/sluice/internal/DemandAddPinLaw"), (0, u "reference"), (3, u "law"), (0, u "(JJI)Z")] 2

def k1m0 : Method := { name := "<init>", desc := "()V", sig := { parameters := [], returnType := none }, accessFlags := 1, code := none }
def k1c1 : Code := { maxStack := 6, maxLocals := 4, code := method_2_code, exceptionTable := #[], attributes := #[] }
def k1m1 : Method := { name := "reference", desc := "(JJ)J", sig := { parameters := [.long, .long], returnType := some .long }, accessFlags := 10, code := some k1c1 }
def k1c2 : Code := { maxStack := 6, maxLocals := 16, code := code, exceptionTable := #[], attributes := #[] }
def k1m2 : Method := { name := "law", desc := "(JJI)Z", sig := { parameters := [.long, .long, .int], returnType := some .boolean }, accessFlags := 9, code := some k1c2 }
/-- com/example/sluice/sluice/internal/DemandAddPinLaw -/
def k1 : Class := { plain "com/example/sluice/sluice/internal/DemandAddPinLaw" (some 0) with
  accessFlags := 49
  interfaces := #[]
  cf := some (fileOf pool1 22 #[] #[{ accessFlags := 1, nameIndex := 5, descriptorIndex := 6, attributes := #[] }, { accessFlags := 10, nameIndex := 25, descriptorIndex := 20, attributes := #[] }, { accessFlags := 9, nameIndex := 29, descriptorIndex := 30, attributes := #[] }] 49 2 #[] #[])
  fields := #[]
  methods := #[k1m0, k1m1, k1m2]
  instanceTypes := #[]
  staticTypes := #[]
  resolved := Array.replicate 33 none
  statics := none }

def pool2 : Array CpInfo := pool [(4, .class_ 6), (1, u "java/lang/Object"), (0, u "<init>"), (0, u "()V"), (0, .class_ 10), (0, u "com/example/sluice/sluice/internal/Demand"), (0, .long 9223372036854775807), (25, u "add"), (0, u "(JJ)J"), (7, u "UNBOUNDED"), (0, u "J")] 36

def k2m0 : Method := { name := "<init>", desc := "()V", sig := { parameters := [], returnType := none }, accessFlags := 2, code := none }
def k2c1 : Code := { maxStack := 4, maxLocals := 6, code := prog_6_method_2_code, exceptionTable := #[], attributes := #[] }
def k2m1 : Method := { name := "add", desc := "(JJ)J", sig := { parameters := [.long, .long], returnType := some .long }, accessFlags := 9, code := some k2c1 }
/-- com/example/sluice/sluice/internal/Demand -/
def k2 : Class := { plain "com/example/sluice/sluice/internal/Demand" (some 0) with
  accessFlags := 49
  interfaces := #[]
  cf := some (fileOf pool2 9 #[] #[{ accessFlags := 2, nameIndex := 7, descriptorIndex := 8, attributes := #[] }, { accessFlags := 9, nameIndex := 37, descriptorIndex := 38, attributes := #[] }] 49 4 #[] #[{ accessFlags := 25, nameIndex := 46, descriptorIndex := 47, attributes := #[] }])
  fields := #[{ name := "UNBOUNDED", type := .long, accessFlags := 25, slot := 0, constantValue := 0 }]
  methods := #[k2m0, k2m1]
  instanceTypes := #[]
  staticTypes := #[.long]
  resolved := Array.replicate 84 none
  statics := none }

def pool3 : Array CpInfo := pool [(1, u "java/lang/Cloneable"), (0, .class_ 1), (0, u "java/lang/Object"), (0, .class_ 3)] 3

/-- java/lang/Cloneable -/
def k3 : Class := { plain "java/lang/Cloneable" (some 0) with
  accessFlags := 1537
  interfaces := #[]
  cf := some (fileOf pool3 2 #[] #[] 1537 4 #[] #[])
  fields := #[]
  methods := #[]
  instanceTypes := #[]
  staticTypes := #[]
  resolved := Array.replicate 8 none
  statics := none }

def pool4 : Array CpInfo := pool [(1, u "java/io/Serializable"), (0, .class_ 1), (0, u "java/lang/Object"), (0, .class_ 3)] 3

/-- java/io/Serializable -/
def k4 : Class := { plain "java/io/Serializable" (some 0) with
  accessFlags := 1537
  interfaces := #[]
  cf := some (fileOf pool4 2 #[] #[] 1537 4 #[] #[])
  fields := #[]
  methods := #[]
  instanceTypes := #[]
  staticTypes := #[]
  resolved := Array.replicate 8 none
  statics := none }

/-- the primitive byte -/
def k5 : Class := { plain "byte" none with kind := .primitive 'B', accessFlags := 0x411 }
/-- [B -/
def k6 : Class := { plain "[B" (some 0) with kind := .array 5 .byte, interfaces := #[3, 4], accessFlags := 1041 }

def heap : Heap := #[]
def classes : Array Class := #[k0, k1, k2, k3, k4, k5, k6]
def interned : List (Array UInt16 × Addr) := []
def slotsUsed : Nat := 0
def theMethod : MethodId := ⟨1, 2⟩
def args0 : Array Value := #[.long 5, .long 7, .int 1]
def aboutOver (below : List Frame) : State where
  vm := { classes := classes, interned := interned.toArray }
  heap := heap
  slotsUsed := slotsUsed
  threads := #[{ frames := .invoking theMethod args0 :: below }]
def below0 : List Frame := [.native { method := ⟨0, 0⟩, args := #[] }]
def about1 : State := aboutOver below0
def p0 : Program := .bare "" "" ""
def e0 : Env := launch0.env 0 0 0
theorem w_frames : about1.frames = Frame.invoking theMethod args0 :: below0 := rfl
set_option maxRecDepth 65536 in
theorem w_args : argsFit about1.vm theMethod args0 = true := by decide +kernel
set_option maxRecDepth 65536 in
theorem w_heap : heapFits about1 = true := by decide +kernel
set_option maxRecDepth 65536 in
theorem w_runnable : about1.curStatus? = some .runnable := by decide +kernel
set_option maxRecDepth 65536 in
theorem w_alone : about1.alone = true := by decide +kernel
set_option maxRecDepth 65536 in
theorem w_named : about1.methodNamed? x = some theMethod := by decide +kernel
set_option maxRecDepth 65536 in
theorem w_hears : about1.hears theMethod below0 = true := by decide +kernel
set_option maxRecDepth 65536 in
theorem w_ripe : about1.ripe theMethod args0 below0 = true := by decide +kernel
theorem w_running : about1.status = .running := rfl
set_option maxRecDepth 65536 in
theorem w_room : about1.hasRoom e0.platform room_1 = true :=
  launch0.hasRoom_least _ room_1 (by decide +kernel) (by decide +kernel) (by decide +kernel) (by decide +kernel) (by decide +kernel) (by decide +kernel)
theorem allAtoms_all (ts : List Jvm.Cond) (a : Array Jvm.Value) (st : Jvm.State) : (allAtoms ts).before a st = ts.all (fun c => c.before a st) := by
  induction ts with
  | nil => rfl
  | cons c t ih =>
    show (Jvm.Cond.and c (allAtoms t)).before a st = _
    rw [Jvm.Cond.before_and, ih, List.all_cons]
def words1 : List Jvm.Cond := Jvm.Cond.code x code maxLocals ret :: tables_1
/-- a 'code' word, met by the world's own term for the bytes: nothing is compared byte by byte -/
theorem code_word {y : MethodName} {bytes : ByteArray} {mx : Nat} {rt : Option FieldType} {a : Array Value} {s : State} {m : MethodId} {meth : Method} {c : Code} (h1 : s.methodNamed? y = some m) (h2 : s.vm.method? m = some meth) (h3 : meth.code = some c) (h4 : c.code = bytes)
    (h5 : (c.maxLocals == mx && c.exceptionTable.isEmpty && decide (c.maxStack ≤ mostOperands) && decide (meth.sig.returnType = rt) && !meth.locks && decide (parseMethodDescriptor y.desc = some meth.sig)) = true) : (Jvm.Cond.code y bytes mx rt).before a s = true := by
  simp only [Bool.and_eq_true, beq_iff_eq, Bool.not_eq_true', decide_eq_true_eq] at h5
  obtain ⟨⟨⟨⟨⟨g1, g2⟩, g3⟩, g4⟩, g5⟩, g6⟩ := h5
  simp [Cond.before, Cond.holds, Cond.value, h1, h2, h3, h4, g1, g2, g3, g4, g5, g6]
def isCode : Jvm.Cond → Bool
  | .code _ _ _ _ => true
  | _ => false
theorem all_split {L : List Jvm.Cond} {P : Jvm.Cond → Bool} (h1 : L.all (fun c => isCode c || P c) = true) (h2 : ∀ c ∈ L.filter isCode, P c = true) : L.all P = true := by
  refine List.all_eq_true.mpr fun c hc => ?_
  have h := List.all_eq_true.mp h1 c hc
  rcases Bool.eq_false_or_eq_true (isCode c) with hi | hi
  · exact h2 c (List.mem_filter.mpr ⟨hc, hi⟩)
  · simpa [hi] using h
set_option maxRecDepth 65536 in
theorem w_c0 : (Jvm.Cond.code x code maxLocals ret).before args0 about1 = true := code_word (m := ⟨1, 2⟩) (meth := k1m2) (c := k1c2) (by decide +kernel) rfl rfl rfl (by decide +kernel)
set_option maxRecDepth 65536 in
theorem w_c1 : (Jvm.Cond.code ({ cls := "com/example/sluice/sluice/internal/Demand", name := "add", desc := "(JJ)J" } : Jvm.MethodName) prog_6_method_2_code (6 : Nat) (Option.some Jvm.ClassFile.FieldType.long)).before args0 about1 = true := code_word (m := ⟨2, 1⟩) (meth := k2m1) (c := k2c1) (by decide +kernel) rfl rfl rfl (by decide +kernel)
set_option maxRecDepth 65536 in
theorem w_c2 : (Jvm.Cond.code ({ cls := "com/example/sluice/sluice/internal/DemandAddPinLaw", name := "reference", desc := "(JJ)J" } : Jvm.MethodName) method_2_code (4 : Nat) (Option.some Jvm.ClassFile.FieldType.long)).before args0 about1 = true := code_word (m := ⟨1, 1⟩) (meth := k1m1) (c := k1c1) (by decide +kernel) rfl rfl rfl (by decide +kernel)
def codes1 : List Jvm.Cond := [Jvm.Cond.code x code maxLocals ret, Jvm.Cond.code ({ cls := "com/example/sluice/sluice/internal/Demand", name := "add", desc := "(JJ)J" } : Jvm.MethodName) prog_6_method_2_code (6 : Nat) (Option.some Jvm.ClassFile.FieldType.long), Jvm.Cond.code ({ cls := "com/example/sluice/sluice/internal/DemandAddPinLaw", name := "reference", desc := "(JJ)J" } : Jvm.MethodName) method_2_code (4 : Nat) (Option.some Jvm.ClassFile.FieldType.long)]
set_option maxRecDepth 65536 in
theorem codes_eq : words1.filter isCode = codes1 := rfl
theorem w_codes : ∀ c ∈ words1.filter isCode, c.before args0 about1 = true := by
  rw [codes_eq]
  intro c hc
  simp only [codes1, List.mem_cons, List.not_mem_nil, or_false] at hc
  rcases hc with rfl | rfl | rfl
  · exact w_c0
  · exact w_c1
  · exact w_c2
set_option maxRecDepth 65536 in
theorem w_t1 : words1.all (fun c => isCode c || c.before args0 about1) = true := by decide +kernel
theorem w_tables : (allAtoms (Jvm.Cond.code x code maxLocals ret :: tables_1)).before args0 about1 = true := by
  rw [allAtoms_all]
  show words1.all (fun c => c.before args0 about1) = true
  refine all_split ?_ w_codes
  rw [w_t1]
set_option maxRecDepth 65536 in
theorem w_case : (Jvm.Cond.and given_1 narrow_1).before args0 about1 = true := by decide +kernel
theorem w_applies : (headSpec (Jvm.Cond.code x code maxLocals ret :: tables_1) room_1).applies x e0.platform about1 = true :=
  (Spec.applies_iff w_frames).mpr ⟨w_running, w_runnable, w_alone, w_named, w_hears, w_ripe, w_room, w_tables⟩
theorem atStart : AtStart classFile x code maxLocals ret World_1 tables_1 room_1 Calls_1 rest_1 Pre_1 launch0 p0 e0 about1 theMethod args0 below0 :=
  ⟨lists_1, trivial, launch0.admits_env _ _ _, launch0.least_env, fairChoices_fair.cas, fairChoices_fair.clock, w_frames, w_args, w_heap, w_applies, trivial, trivial, w_case⟩
end start1
theorem witness_1 : WitnessClaimed_1 := ⟨start1.p0, start1.e0, start1.about1, start1.theMethod, start1.args0, start1.below0, start1.atStart⟩
end Jvm.Pilot.@@N@@
