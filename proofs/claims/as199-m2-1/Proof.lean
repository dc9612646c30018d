import JvmDerived
import JvmDerived.Pilot.@@N@@Statement
import JvmDerived.Pilot.@@N@@Code
set_option linter.unusedVariables false
set_option linter.unusedSimpArgs false
namespace Jvm.RoadKit
open Sem ClassFile Op Lib Jvm.Stand Jvm.Free Jvm.LawKit
section New
variable {p : Program} {l : Launch} {e : Env} {R : Room} {s : State} {m : MethodId} {args : Array Value} {below : List Frame} {meth : Method} {c : Code} {T : State} {locs : List Loc} {cells slots : Nat}
theorem retI (X : Stand p l e R s m args below meth c T locs cells slots) (hx : p.tables.exec = Jvm.exec) {pc : Nat} {Ls : Array Slot} {z : Int32} {rest : List Value} (hret : meth.sig.returnType = some .int) (hd : decode c.code pc = .ok (.ireturn, 1)) {fs : List Frame}
    (hl : ∀ (f : JFrame) (acts : List Action), f.method = m → f.locked = none → f.entered = [] → (doReturn e (T.setTop f) acts (some (.int z))).1 = T.setFrames fs) : Steps p.tables e below (T.setTop (mkF m pc Ls (.int z :: rest))) (T.setFrames fs) := by
  have hm' : T.vm.method? m = some meth := X.method'
  have hn : narrow .int (.int z) = .int z := rfl
  show Steps p.tables e below (T.setTop { method := m, pc := pc, locals := Ls, stack := _ :: rest, locked := none }) _
  jvm_step X.here [X.here.top, hx, hd, hm', hret, hn]
  first | (intro acts; rw [hl _ acts rfl rfl rfl]) | rw [hl _ _ rfl rfl rfl]
  exact Steps.refl _
end New
end Jvm.RoadKit
namespace Jvm.Pilot.@@N@@
open Jvm Jvm.ClassFile Sem Op Lib Jvm.Free Jvm.Stand Jvm.LawKit Jvm.RoadKit Bundle Jvm.Pilot.@@N@@.Jvm.D
theorem own_pack {p : Program} {l : Launch} {e : Env} {R : Room} {s : State} {m : MethodId} {args : Array Value} {below : List Frame} {meth : Method} {c : Code} {T : State} {locs : List Loc} {cells slots : Nat} {k : Nat} (X : Stand p l e R s m args below meth c T locs cells slots) (N : Fr k locs) : ∃ L, Stand p l e R s m args below meth c T L cells slots ∧ Fr k L := ⟨locs, X, N⟩
def LN (Z : State) (h : Heap) (a t : Addr) (k : ClassId) (z : Int32) (vs : List Value) (n : Int32) : Prop := Exa Z h a "com/example/crate2/crate2/LineNumbers" ∧ Fld Z h a "com/example/crate2/crate2/LineNumbers" "lines" "[J" (.ref t) ∧ Fld Z h a "com/example/crate2/crate2/LineNumbers" "size" "I" (.int n) ∧ Arv Z h t k .long z vs (.long (0 : Int64)) ∧ a ≠ t
def z16 : List Value := List.replicate 16 (.long (0 : Int64))
def cp16 (vs : List Value) : List Value := ((List.range 16).map fun i => vs.getD i (.long (0 : Int64))) ++ List.replicate 16 (.long (0 : Int64))
theorem d6_0 : decode jdk_29_method_69_code 0 = .ok (.iload_n 0, 1) := by decide +kernel
theorem d6_1 : decode jdk_29_method_69_code 1 = .ok (.iload_n 1, 1) := by decide +kernel
theorem d6_2 : decode jdk_29_method_69_code 2 = .ok (.if_icmp .gt 7, 3) := by decide +kernel
theorem d6_5 : decode jdk_29_method_69_code 5 = .ok (.iload_n 0, 1) := by decide +kernel
theorem d6_6 : decode jdk_29_method_69_code 6 = .ok (.goto 4, 3) := by decide +kernel
theorem d6_10 : decode jdk_29_method_69_code 10 = .ok (.ireturn, 1) := by decide +kernel
theorem ef_6 (m : MethodId) (x0 : Int32) (x1 : Int32) : entryFrame m #[(.int x0), (.int x1)] 2 = mkF m 0 #[.val (.int x0), .val (.int x1)] [] := by first | (simp [entryFrame, mkF, argsToLocals, Value.category]; done) | rfl
def Q6 (Z : State) (p1 : Int32) (p2 : Int32) (h0 : Heap) (n0 : Nat) (v : Option Value) (h : Heap) (L : List Loc) : Prop := v = some (.int p1) ∧ Fr n0 L ∧ h = h0
set_option maxRecDepth 65536 in
set_option maxHeartbeats 40000000 in
theorem rm6 (l : Launch) (Z : State) (a0 : Array Value) (hw : ∀ d ∈ tables_1, d.before a0 Z = true) (ws : List Jvm.Cond) (p1 : Int32) (p2 : Int32) (h0 : Heap) (n0 : Nat) (Z0 : n0 ≤ h0.size) (hc2 : ¬ (p2 < p1)) :
    MetFree l (⟨"java/lang/Math", "min", "(II)I"⟩ : MethodName) (head1 (Jvm.Cond.code (⟨"java/lang/Math", "min", "(II)I"⟩ : MethodName) jdk_29_method_69_code 2 (some .int) :: ws) ({ frames := 0, cells := 0, slots := 0, locals := 0 } : Room)) (fun a U => a = #[(.int p1), (.int p2)] ∧ Z.Warmed39 U.vm ∧ U.heap = h0) (fun _ _ _ _ _ => True) (fun _ U o U' => ∃ v L, o = .returned v ∧ Q6 Z p1 p2 h0 n0 v U'.heap L ∧ FrameEnd U o U' L ({ frames := 0, cells := 0, slots := 0, locals := 0 } : Room).cells ({ frames := 0, cells := 0, slots := 0, locals := 0 } : Room).slots) := by
  refine MetFree.of_bodySF (Jvm.Free.JP.mathPlain rfl (by decide +kernel)) hisR ?_
  intro p e s m args below meth c s₁ Bd hml0 hP hK
  obtain ⟨rfl, hZ, hh⟩ := hP
  have hx := Bd.exec
  have hby := Bd.bytes
  have hml : c.maxLocals = 2 := hml0
  have hown : s.vm.findClass "java/lang/Math" = some m.cls := findClass_of_methodNamed Bd.named
  have hnm := (name_of_methodNamed Bd.named Bd.method).1
  have X0 : Stand p l e ({ frames := 0, cells := 0, slots := 0, locals := 0 } : Room) s m #[(.int p1), (.int p2)] below meth c s₁ [] 0 0 := Stand.of_body Bd
  have e0 : s₁.heap = h0 := by rw [← hh, Bd.state]; rfl
  have N0 := Fr.nil n0
  have pre0 : ∀ t, Steps p.tables e below (s₁.setTop (mkF m 0 #[.val (.int p1), .val (.int p2)] [])) t → Steps p.tables e below (s₁.setTop (entryFrame m #[(.int p1), (.int p2)] 2)) t := fun t k => castTop (ef_6 m p1 p2) k

  obtain ⟨fs, hr, hrun, hended, hW, hsame⟩ := X0.leave (v := some (.int p1)) (fun h => by rw [Bd.returns] at h; cases h)
  refine ⟨_, _, pre0 _ ?_, hrun, hended, _, _, rfl, ?_, ⟨_, rfl⟩, hW, hsame.mono (by decide) (by decide)⟩
  · show Steps p.tables e below (s₁.setTop (mkF m 0 #[.val (.int p1), .val (.int p2)] [])) _
    refine XS.iloadN X0.here hx rfl (hb hby d6_0) rfl ?_
    show Steps p.tables e below (s₁.setTop (mkF m 1 #[.val (.int p1), .val (.int p2)] [(.int p1)])) _
    refine XS.iloadN X0.here hx rfl (hb hby d6_1) rfl ?_
    show Steps p.tables e below (s₁.setTop (mkF m 2 #[.val (.int p1), .val (.int p2)] [(.int p2), (.int p1)])) _
    refine XS.icmpNo X0.here hx rfl (hb hby d6_2) rfl (flt hc2).2.2.1 ?_
    show Steps p.tables e below (s₁.setTop (mkF m 5 #[.val (.int p1), .val (.int p2)] [])) _
    refine XS.iloadN X0.here hx rfl (hb hby d6_5) rfl ?_
    show Steps p.tables e below (s₁.setTop (mkF m 6 #[.val (.int p1), .val (.int p2)] [(.int p1)])) _
    refine XS.goto X0.here hx rfl (pc0 := 6) (pc' := 10) rfl (hb hby d6_6) (by decide) (by decide) ?_
    show Steps p.tables e below (s₁.setTop (mkF m 10 #[.val (.int p1), .val (.int p2)] [(.int p1)])) _
    exact retI X0 hx Bd.returns (hb hby d6_10) hr
  · show Q6 Z p1 p2 h0 n0 _ s₁.heap _
    rw [e0]
    exact ⟨rfl, N0, rfl⟩
def Q1 (Z : State) (a1 : Addr) (u_lines_a1 : Value) (h0 : Heap) (n0 : Nat) (v : Option Value) (h : Heap) (L : List Loc) : Prop := v = none ∧ Fr n0 L ∧ Keep h0 h [a1] ∧ ∃ (t : Addr) (k : ClassId), h0.size ≤ t ∧ LN Z h a1 t k (16 : Int32) z16 (0 : Int32)
theorem d1_0 : decode prog_4_method_1_code 0 = .ok (.aload_n 0, 1) := by decide +kernel
theorem d1_1 : decode prog_4_method_1_code 1 = .ok (.invokespecial 1, 3) := by decide +kernel
theorem d1_4 : decode prog_4_method_1_code 4 = .ok (.aload_n 0, 1) := by decide +kernel
theorem d1_5 : decode prog_4_method_1_code 5 = .ok (.bipush 16, 2) := by decide +kernel
theorem d1_7 : decode prog_4_method_1_code 7 = .ok (.newarray .long, 2) := by decide +kernel
theorem d1_9 : decode prog_4_method_1_code 9 = .ok (.putfield 7, 3) := by decide +kernel
theorem d1_12 : decode prog_4_method_1_code 12 = .ok (.return_, 1) := by decide +kernel
theorem pn_1 : plainName "com/example/crate2/crate2/LineNumbers" = true := by first | (simp [plainName, overriddenIn]; done) | decide +kernel
theorem ef_1 (m : MethodId) (x0 : Addr) : entryFrame m #[(.ref x0)] 1 = mkF m 0 #[.val (.ref x0)] [] := by first | (simp [entryFrame, mkF, argsToLocals, Value.category]; done) | rfl
set_option maxRecDepth 65536 in
set_option maxHeartbeats 40000000 in
theorem rm1 (l : Launch) (Z : State) (a0 : Array Value) (hw : ∀ d ∈ tables_1, d.before a0 Z = true) (ws : List Jvm.Cond) (a1 : Addr) (u_lines_a1 : Value) (h0 : Heap) (n0 : Nat) (Z0 : n0 ≤ h0.size) (E_a1 : Exa Z h0 a1 "com/example/crate2/crate2/LineNumbers") (F_lines_a1 : Fld Z h0 a1 "com/example/crate2/crate2/LineNumbers" "lines" "[J" u_lines_a1) (g_a1 : n0 ≤ a1) (F_size_a1 : Fld Z h0 a1 "com/example/crate2/crate2/LineNumbers" "size" "I" (.int (0 : Int32))) :
    MetFree l (⟨"com/example/crate2/crate2/LineNumbers", "<init>", "()V"⟩ : MethodName) (head1 (Jvm.Cond.code (⟨"com/example/crate2/crate2/LineNumbers", "<init>", "()V"⟩ : MethodName) prog_4_method_1_code 1 none :: ws) ({ frames := 1, cells := 1, slots := 16, locals := 12 } : Room)) (fun a U => a = #[(.ref a1)] ∧ Z.Warmed39 U.vm ∧ U.heap = h0) (fun _ _ _ _ _ => True) (fun _ U o U' => ∃ v L, o = .returned v ∧ Q1 Z a1 u_lines_a1 h0 n0 v U'.heap L ∧ FrameEnd U o U' L ({ frames := 1, cells := 1, slots := 16, locals := 12 } : Room).cells ({ frames := 1, cells := 1, slots := 16, locals := 12 } : Room).slots) := by
  refine MetFree.of_bodySF (plainFor_of_name pn_1) hisR ?_
  intro p e s m args below meth c s₁ Bd hml0 hP hK
  obtain ⟨rfl, hZ, hh⟩ := hP
  have hx := Bd.exec
  have hby := Bd.bytes
  have hml : c.maxLocals = 1 := hml0
  have hown : s.vm.findClass "com/example/crate2/crate2/LineNumbers" = some m.cls := findClass_of_methodNamed Bd.named
  have hnm := (name_of_methodNamed Bd.named Bd.method).1
  have X0 : Stand p l e ({ frames := 1, cells := 1, slots := 16, locals := 12 } : Room) s m #[(.ref a1)] below meth c s₁ [] 0 0 := Stand.of_body Bd
  have e0 : s₁.heap = h0 := by rw [← hh, Bd.state]; rfl
  have N0 := Fr.nil n0
  have pre0 : ∀ t, Steps p.tables e below (s₁.setTop (mkF m 0 #[.val (.ref a1)] [])) t → Steps p.tables e below (s₁.setTop (entryFrame m #[(.ref a1)] 1)) t := fun t k => castTop (ef_1 m a1) k
  obtain ⟨T2, X2, e2, st2⟩ := initO X0 hx hZ hown (hw _ (List.mem_of_getElem? (i := 6) rfl)) (hw _ (List.mem_of_getElem? (i := 7) rfl)) (hw _ (List.mem_of_getElem? (i := 8) rfl)) e0 (g := (mkF m 1 #[.val (.ref a1)] [(.ref a1)])) rfl (by rw [hml]; rfl) rfl (hb hby d1_1) (by decide) (W := 0) (by show 2 * 0 + _ ≤ _; exact Nat.le_of_eq rfl) (by decide)
  obtain ⟨T3, h3, k3, X3, e3, E3, A3, st3⟩ := newP X2 hx hZ (hw _ (List.mem_of_getElem? (i := 9) rfl)) e2 (g := (mkF m 7 #[.val (.ref a1)] [(.int (16 : Int32)), (.ref a1)])) rfl (hb hby d1_7) rfl (by decide) (cap := 16) (by decide) (by decide) (by decide) (by decide)
  obtain ⟨b3, g3⟩ : ∃ z, z = h0.size := ⟨_, rfl⟩
  rw [← g3] at A3 st3
  have V_b3 : Arv Z h3 b3 k3 .long (16 : Int32) [(.long (0 : Int64)), (.long (0 : Int64)), (.long (0 : Int64)), (.long (0 : Int64)), (.long (0 : Int64)), (.long (0 : Int64)), (.long (0 : Int64)), (.long (0 : Int64)), (.long (0 : Int64)), (.long (0 : Int64)), (.long (0 : Int64)), (.long (0 : Int64)), (.long (0 : Int64)), (.long (0 : Int64)), (.long (0 : Int64)), (.long (0 : Int64))] (.long (0 : Int64)) := (Arv.new A3 (by decide)).pad (pad_rep [] (.long (0 : Int64)) 16)
  have g_b3 : n0 ≤ b3 := Nat.le_trans Z0 (Nat.le_of_eq g3.symm)
  have sz_b3 : h0.size ≤ b3 := (Nat.le_trans (Keep.refl h0 [a1]).1 (Nat.le_of_eq g3.symm))
  have K3 : Keep h0 h3 [a1] := (Keep.refl h0 [a1]).ext E3
  obtain ⟨T4, h4, X4, e4, W4, st4⟩ := putF X3 hx hZ hown (host := "") (Or.inl (hw _ (List.mem_of_getElem? (i := 10) rfl))) Via.refl e3 (F_lines_a1.ext E3) (E_a1.ext E3) (Or.inl (hw _ (List.mem_of_getElem? (i := 11) rfl))) (hw _ (List.mem_of_getElem? (i := 1) rfl)) (ty := (.array .long)) (by decide) rfl rfl (g := (mkF m 9 #[.val (.ref a1)] [(.ref b3), (.ref a1)])) rfl rfl (hb hby d1_9)
  have Fw4 := (F_lines_a1.ext E3).same W4
  have K4 : Keep h0 h4 [a1] := K3.wr W4 (Or.inl (List.mem_of_getElem? (i := 0) rfl))
  have N4 := Fr.snoc X4 N0 g_a1
  obtain ⟨fs, hr, hrun, hended, hW, hsame⟩ := X4.leave (v := none) (fun _ => rfl)
  refine ⟨_, _, pre0 _ ?_, hrun, hended, _, _, rfl, ?_, ⟨_, rfl⟩, hW, hsame.mono (by decide) (by decide)⟩
  · show Steps p.tables e below (s₁.setTop (mkF m 0 #[.val (.ref a1)] [])) _
    refine XS.aloadN X0.here hx rfl (hb hby d1_0) rfl rfl ?_
    show Steps p.tables e below (s₁.setTop (mkF m 1 #[.val (.ref a1)] [(.ref a1)])) _
    refine st2 _ ?_
    show Steps p.tables e below (T2.setTop (mkF m 4 #[.val (.ref a1)] [])) _
    refine XS.aloadN X2.here hx rfl (hb hby d1_4) rfl rfl ?_
    show Steps p.tables e below (T2.setTop (mkF m 5 #[.val (.ref a1)] [(.ref a1)])) _
    refine XS.bipush X2.here hx rfl (hb hby d1_5) ?_
    show Steps p.tables e below (T2.setTop (mkF m 7 #[.val (.ref a1)] [(.int (16 : Int32)), (.ref a1)])) _
    refine st3 _ ?_
    show Steps p.tables e below (T3.setTop (mkF m 9 #[.val (.ref a1)] [(.ref b3), (.ref a1)])) _
    refine st4 _ ?_
    show Steps p.tables e below (T4.setTop (mkF m 12 #[.val (.ref a1)] [])) _
    exact X4.returnOut hx Bd.returns (hb hby d1_12) hr
  · show Q1 Z a1 u_lines_a1 h0 n0 _ T4.heap _
    rw [e4]
    have hne : a1 ≠ b3 := Nat.ne_of_lt (Nat.lt_of_lt_of_le E_a1.lt sz_b3)
    exact ⟨rfl, N4, K4, b3, k3, sz_b3, (E_a1.ext E3).wr W4, Fw4, (F_size_a1.ext E3).other W4 (Or.inr (slot_ne (Or.inl (hw _ (List.mem_of_getElem? (i := 18) rfl))) (Or.inl (hw _ (List.mem_of_getElem? (i := 11) rfl))) (by decide) (t := .int) (t' := (.array .long)) (by decide) (by decide))), V_b3.other W4 hne.symm, hne⟩
def Q3t (Z : State) (a1 : Addr) (q2 : Int64) (w3' : Int32) (w5 : Addr) (k : ClassId) (z_w5 : Int32) (vs : List Value) (i : Nat) (h0 : Heap) (n0 : Nat) (v : Option Value) (h : Heap) (L : List Loc) : Prop := v = none ∧ Fr n0 L ∧ Keep h0 h [a1, w5] ∧ LN Z h a1 w5 k z_w5 (vs.set i (.long q2)) w3'
theorem d3_0 : decode prog_4_method_2_code 0 = .ok (.aload_n 0, 1) := by decide +kernel
theorem d3_1 : decode prog_4_method_2_code 1 = .ok (.getfield 13, 3) := by decide +kernel
theorem d3_4 : decode prog_4_method_2_code 4 = .ok (.aload_n 0, 1) := by decide +kernel
theorem d3_5 : decode prog_4_method_2_code 5 = .ok (.getfield 7, 3) := by decide +kernel
theorem d3_8 : decode prog_4_method_2_code 8 = .ok (.arraylength, 1) := by decide +kernel
theorem d3_9 : decode prog_4_method_2_code 9 = .ok (.if_icmp .ne 20, 3) := by decide +kernel
theorem d3_29 : decode prog_4_method_2_code 29 = .ok (.aload_n 0, 1) := by decide +kernel
theorem d3_30 : decode prog_4_method_2_code 30 = .ok (.getfield 7, 3) := by decide +kernel
theorem d3_33 : decode prog_4_method_2_code 33 = .ok (.aload_n 0, 1) := by decide +kernel
theorem d3_34 : decode prog_4_method_2_code 34 = .ok (.dup, 1) := by decide +kernel
theorem d3_35 : decode prog_4_method_2_code 35 = .ok (.getfield 13, 3) := by decide +kernel
theorem d3_38 : decode prog_4_method_2_code 38 = .ok (.dup_x1, 1) := by decide +kernel
theorem d3_39 : decode prog_4_method_2_code 39 = .ok (.iconst 1, 1) := by decide +kernel
theorem d3_40 : decode prog_4_method_2_code 40 = .ok (.iadd, 1) := by decide +kernel
theorem d3_41 : decode prog_4_method_2_code 41 = .ok (.putfield 13, 3) := by decide +kernel
theorem d3_44 : decode prog_4_method_2_code 44 = .ok (.lload_n 1, 1) := by decide +kernel
theorem d3_45 : decode prog_4_method_2_code 45 = .ok (.lastore, 1) := by decide +kernel
theorem d3_46 : decode prog_4_method_2_code 46 = .ok (.return_, 1) := by decide +kernel
theorem pn_3 : plainName "com/example/crate2/crate2/LineNumbers" = true := by first | (simp [plainName, overriddenIn]; done) | decide +kernel
theorem ef_3 (m : MethodId) (x0 : Addr) (x1 : Int64) : entryFrame m #[(.ref x0), (.long x1)] 3 = mkF m 0 #[.val (.ref x0), .val (.long x1), .second] [] := by first | (simp [entryFrame, mkF, argsToLocals, Value.category]; done) | rfl
set_option maxRecDepth 65536 in
set_option maxHeartbeats 40000000 in
theorem rm3t (l : Launch) (Z : State) (a0 : Array Value) (hw : ∀ d ∈ tables_1, d.before a0 Z = true) (ws : List Jvm.Cond) (a1 : Addr) (q2 : Int64) (w3 w3' : Int32) (w5 : Addr) (k : ClassId) (z_w5 : Int32) (vs : List Value) (i : Nat) (h0 : Heap) (n0 : Nat) (Z0 : n0 ≤ h0.size) (B : LN Z h0 a1 w5 k z_w5 vs w3) (g_a1 : n0 ≤ a1) (g_w5 : n0 ≤ w5) (hn : ¬ w3 < 0 ∧ w3 < z_w5) (hc9 : ¬ (w3 = z_w5)) (hi : w3.toNatClampNeg = i) (hl : i < vs.length) (hn' : w3 + 1 = w3') :
    MetFree l (⟨"com/example/crate2/crate2/LineNumbers", "add", "(J)V"⟩ : MethodName) (head1 (Jvm.Cond.code (⟨"com/example/crate2/crate2/LineNumbers", "add", "(J)V"⟩ : MethodName) prog_4_method_2_code 3 none :: ws) ({ frames := 0, cells := 0, slots := 0, locals := 0 } : Room)) (fun a U => a = #[(.ref a1), (.long q2)] ∧ Z.Warmed39 U.vm ∧ U.heap = h0) (fun _ _ _ _ _ => True) (fun _ U o U' => ∃ v L, o = .returned v ∧ Q3t Z a1 q2 w3' w5 k z_w5 vs i h0 n0 v U'.heap L ∧ FrameEnd U o U' L ({ frames := 0, cells := 0, slots := 0, locals := 0 } : Room).cells ({ frames := 0, cells := 0, slots := 0, locals := 0 } : Room).slots) := by
  refine MetFree.of_bodySF (plainFor_of_name pn_3) hisR ?_
  intro p e s m args below meth c s₁ Bd hml0 hP hK
  obtain ⟨rfl, hZ, hh⟩ := hP
  have hx := Bd.exec
  have hby := Bd.bytes
  have hml : c.maxLocals = 3 := hml0
  have hown : s.vm.findClass "com/example/crate2/crate2/LineNumbers" = some m.cls := findClass_of_methodNamed Bd.named
  have hnm := (name_of_methodNamed Bd.named Bd.method).1
  have X0 : Stand p l e ({ frames := 0, cells := 0, slots := 0, locals := 0 } : Room) s m #[(.ref a1), (.long q2)] below meth c s₁ [] 0 0 := Stand.of_body Bd
  have e0 : s₁.heap = h0 := by rw [← hh, Bd.state]; rfl
  have N0 := Fr.nil n0
  obtain ⟨E_a1, F_lines_a1, F_size_a1, V, hne⟩ := B
  obtain ⟨cl_w5, Ar_w5, q_w5, S_w5, N_w5, H_w5, G_w5⟩ := V
  have hin45 : ¬ (w3 < 0 ∨ cl_w5.slots.size ≤ (w3).toNatClampNeg) := inb_of S_w5 hn
  have pre0 : ∀ t, Steps p.tables e below (s₁.setTop (mkF m 0 #[.val (.ref a1), .val (.long q2), .second] [])) t → Steps p.tables e below (s₁.setTop (entryFrame m #[(.ref a1), (.long q2)] 3)) t := fun t k => castTop (ef_3 m a1 q2) k
  obtain ⟨T4, X4, e4, st4⟩ := getF X0 hx hZ hown (host := "") (Or.inl (hw _ (List.mem_of_getElem? (i := 17) rfl))) Via.refl e0 F_size_a1 (g := (mkF m 1 #[.val (.ref a1), .val (.long q2), .second] [(.ref a1)])) rfl rfl (hb hby d3_1)
  obtain ⟨T6, X6, e6, st6⟩ := getF X4 hx hZ hown (host := "") (Or.inl (hw _ (List.mem_of_getElem? (i := 10) rfl))) Via.refl e4 F_lines_a1 (g := (mkF m 5 #[.val (.ref a1), .val (.long q2), .second] [(.ref a1), (.int w3)])) rfl rfl (hb hby d3_5)
  obtain ⟨T7, X7, e7, st7⟩ := getF X6 hx hZ hown (host := "") (Or.inl (hw _ (List.mem_of_getElem? (i := 10) rfl))) Via.refl e6 F_lines_a1 (g := (mkF m 30 #[.val (.ref a1), .val (.long q2), .second] [(.ref a1)])) rfl rfl (hb hby d3_30)
  obtain ⟨T8, X8, e8, st8⟩ := getF X7 hx hZ hown (host := "") (Or.inl (hw _ (List.mem_of_getElem? (i := 17) rfl))) Via.refl e7 F_size_a1 (g := (mkF m 35 #[.val (.ref a1), .val (.long q2), .second] [(.ref a1), (.ref a1), (.ref w5)])) rfl rfl (hb hby d3_35)
  obtain ⟨T9, h9, X9, e9, W9, st9⟩ := putF X8 hx hZ hown (host := "") (Or.inl (hw _ (List.mem_of_getElem? (i := 17) rfl))) Via.refl e8 F_size_a1 E_a1 (Or.inl (hw _ (List.mem_of_getElem? (i := 18) rfl))) (hw _ (List.mem_of_getElem? (i := 1) rfl)) (ty := .int) (by decide) rfl rfl (g := (mkF m 41 #[.val (.ref a1), .val (.long q2), .second] [(.int (w3 + (1 : Int32))), (.ref a1), (.int w3), (.ref w5)])) rfl rfl (hb hby d3_41)
  have Fw9 := F_size_a1.same W9
  have K9 : Keep h0 h9 [a1, w5] := (Keep.refl h0 [a1, w5]).wr W9 (Or.inl (List.mem_of_getElem? (i := 0) rfl))
  have N9 := Fr.snoc X9 N0 g_a1
  obtain ⟨T10, h10, X10, e10, W10, st10⟩ := stJ X9 hx hZ e9 (Ar_w5.other W9 hne.symm) (j := w3) hin45 (g := (mkF m 45 #[.val (.ref a1), .val (.long q2), .second] [(.long q2), (.int w3), (.ref w5)])) rfl rfl (hb hby d3_45)
  have N10 := Fr.snoc X10 N9 g_w5
  have K10 : Keep h0 h10 [a1, w5] := K9.wr W10 (Or.inl (List.mem_of_getElem? (i := 1) rfl))
  obtain ⟨fs, hr, hrun, hended, hW, hsame⟩ := X10.leave (v := none) (fun _ => rfl)
  refine ⟨_, _, pre0 _ ?_, hrun, hended, _, _, rfl, ?_, ⟨_, rfl⟩, hW, hsame.mono (by decide) (by decide)⟩
  · show Steps p.tables e below (s₁.setTop (mkF m 0 #[.val (.ref a1), .val (.long q2), .second] [])) _
    refine XS.aloadN X0.here hx rfl (hb hby d3_0) rfl rfl ?_
    show Steps p.tables e below (s₁.setTop (mkF m 1 #[.val (.ref a1), .val (.long q2), .second] [(.ref a1)])) _
    refine st4 _ ?_
    show Steps p.tables e below (T4.setTop (mkF m 4 #[.val (.ref a1), .val (.long q2), .second] [(.int w3)])) _
    refine XS.aloadN X4.here hx rfl (hb hby d3_4) rfl rfl ?_
    show Steps p.tables e below (T4.setTop (mkF m 5 #[.val (.ref a1), .val (.long q2), .second] [(.ref a1), (.int w3)])) _
    refine st6 _ ?_
    show Steps p.tables e below (T6.setTop (mkF m 8 #[.val (.ref a1), .val (.long q2), .second] [(.ref w5), (.int w3)])) _
    refine X6.arraylength hx (by rw [e6]; exact Ar_w5.1) (State.isArrayOf_alike hZ.alike Ar_w5.2.1) (g := (mkF m 8 #[.val (.ref a1), .val (.long q2), .second] [(.ref w5), (.int w3)])) rfl rfl (hb hby d3_8) _ ?_
    rw [len_of S_w5 N_w5]
    show Steps p.tables e below (T6.setTop (mkF m 9 #[.val (.ref a1), .val (.long q2), .second] [(.int z_w5), (.int w3)])) _
    refine XS.icmpYes X6.here hx rfl (pc0 := 9) (pc' := 29) rfl (hb hby d3_9) rfl (feq hc9).2 (by decide) (by decide) ?_
    show Steps p.tables e below (T6.setTop (mkF m 29 #[.val (.ref a1), .val (.long q2), .second] [])) _
    refine XS.aloadN X6.here hx rfl (hb hby d3_29) rfl rfl ?_
    show Steps p.tables e below (T6.setTop (mkF m 30 #[.val (.ref a1), .val (.long q2), .second] [(.ref a1)])) _
    refine st7 _ ?_
    show Steps p.tables e below (T7.setTop (mkF m 33 #[.val (.ref a1), .val (.long q2), .second] [(.ref w5)])) _
    refine XS.aloadN X7.here hx rfl (hb hby d3_33) rfl rfl ?_
    show Steps p.tables e below (T7.setTop (mkF m 34 #[.val (.ref a1), .val (.long q2), .second] [(.ref a1), (.ref w5)])) _
    refine XS.dup X7.here hx rfl (hb hby d3_34) rfl rfl ?_
    show Steps p.tables e below (T7.setTop (mkF m 35 #[.val (.ref a1), .val (.long q2), .second] [(.ref a1), (.ref a1), (.ref w5)])) _
    refine st8 _ ?_
    show Steps p.tables e below (T8.setTop (mkF m 38 #[.val (.ref a1), .val (.long q2), .second] [(.int w3), (.ref a1), (.ref w5)])) _
    refine XS.dupX1 X8.here hx rfl (hb hby d3_38) rfl rfl rfl ?_
    show Steps p.tables e below (T8.setTop (mkF m 39 #[.val (.ref a1), .val (.long q2), .second] [(.int w3), (.ref a1), (.int w3), (.ref w5)])) _
    refine XS.iconst X8.here hx rfl (hb hby d3_39) ?_
    show Steps p.tables e below (T8.setTop (mkF m 40 #[.val (.ref a1), .val (.long q2), .second] [(.int (1 : Int32)), (.int w3), (.ref a1), (.int w3), (.ref w5)])) _
    refine XS.iadd X8.here hx rfl (hb hby d3_40) rfl ?_
    show Steps p.tables e below (T8.setTop (mkF m 41 #[.val (.ref a1), .val (.long q2), .second] [(.int (w3 + (1 : Int32))), (.ref a1), (.int w3), (.ref w5)])) _
    refine st9 _ ?_
    show Steps p.tables e below (T9.setTop (mkF m 44 #[.val (.ref a1), .val (.long q2), .second] [(.int w3), (.ref w5)])) _
    refine XS.lloadN X9.here hx rfl (hb hby d3_44) rfl ?_
    show Steps p.tables e below (T9.setTop (mkF m 45 #[.val (.ref a1), .val (.long q2), .second] [(.long q2), (.int w3), (.ref w5)])) _
    refine st10 _ ?_
    show Steps p.tables e below (T10.setTop (mkF m 46 #[.val (.ref a1), .val (.long q2), .second] [])) _
    exact X10.returnOut hx Bd.returns (hb hby d3_46) hr
  · show Q3t Z a1 q2 w3' w5 k z_w5 vs i h0 n0 _ T10.heap _
    rw [e10]
    exact ⟨rfl, N10, K10, (E_a1.wr W9).wr W10, (F_lines_a1.other W9 (Or.inr (slot_ne (Or.inl (hw _ (List.mem_of_getElem? (i := 11) rfl))) (Or.inl (hw _ (List.mem_of_getElem? (i := 18) rfl))) (by decide) (t := (.array .long)) (t' := .int) (by decide) (by decide)))).other W10 (Or.inl hne), (by rw [← hn']; exact Fw9.other W10 (Or.inl hne)), Arv.set (Ar_w5.other W9 hne.symm) q_w5 S_w5 N_w5 H_w5 G_w5 rfl W10 i hi hl, hne⟩
def Q4 (Z : State) (w7 : Int64) (h0 : Heap) (n0 : Nat) (v : Option Value) (h : Heap) (L : List Loc) : Prop := v = some (.long w7) ∧ Fr n0 L ∧ h = h0
theorem d4_0 : decode prog_4_method_3_code 0 = .ok (.iload_n 1, 1) := by decide +kernel
theorem d4_1 : decode prog_4_method_3_code 1 = .ok (.ifCond .lt 11, 3) := by decide +kernel
theorem d4_4 : decode prog_4_method_3_code 4 = .ok (.iload_n 1, 1) := by decide +kernel
theorem d4_5 : decode prog_4_method_3_code 5 = .ok (.aload_n 0, 1) := by decide +kernel
theorem d4_6 : decode prog_4_method_3_code 6 = .ok (.getfield 13, 3) := by decide +kernel
theorem d4_9 : decode prog_4_method_3_code 9 = .ok (.if_icmp .lt 12, 3) := by decide +kernel
theorem d4_21 : decode prog_4_method_3_code 21 = .ok (.aload_n 0, 1) := by decide +kernel
theorem d4_22 : decode prog_4_method_3_code 22 = .ok (.getfield 7, 3) := by decide +kernel
theorem d4_25 : decode prog_4_method_3_code 25 = .ok (.iload_n 1, 1) := by decide +kernel
theorem d4_26 : decode prog_4_method_3_code 26 = .ok (.laload, 1) := by decide +kernel
theorem d4_27 : decode prog_4_method_3_code 27 = .ok (.lreturn, 1) := by decide +kernel
theorem pn_4 : plainName "com/example/crate2/crate2/LineNumbers" = true := by first | (simp [plainName, overriddenIn]; done) | decide +kernel
theorem ef_4 (m : MethodId) (x0 : Addr) (x1 : Int32) : entryFrame m #[(.ref x0), (.int x1)] 2 = mkF m 0 #[.val (.ref x0), .val (.int x1)] [] := by first | (simp [entryFrame, mkF, argsToLocals, Value.category]; done) | rfl
set_option maxRecDepth 65536 in
set_option maxHeartbeats 40000000 in
theorem rm4 (l : Launch) (Z : State) (a0 : Array Value) (hw : ∀ d ∈ tables_1, d.before a0 Z = true) (ws : List Jvm.Cond) (a1 : Addr) (p2 : Int32) (w3 : Int32) (w5 : Addr) (w7 : Int64) (k : ClassId) (z : Int32) (vs : List Value) (i : Nat) (h0 : Heap) (n0 : Nat) (Z0 : n0 ≤ h0.size) (B : LN Z h0 a1 w5 k z vs w3) (hn : ¬ p2 < 0 ∧ p2 < z) (hi : p2.toNatClampNeg = i) (hat : vs.getD i (.long (0 : Int64)) = .long w7) (hc1 : ¬ (p2 < (0 : Int32))) (hc9 : p2 < w3) :
    MetFree l (⟨"com/example/crate2/crate2/LineNumbers", "get", "(I)J"⟩ : MethodName) (head1 (Jvm.Cond.code (⟨"com/example/crate2/crate2/LineNumbers", "get", "(I)J"⟩ : MethodName) prog_4_method_3_code 2 (some .long) :: ws) ({ frames := 0, cells := 0, slots := 0, locals := 0 } : Room)) (fun a U => a = #[(.ref a1), (.int p2)] ∧ Z.Warmed39 U.vm ∧ U.heap = h0) (fun _ _ _ _ _ => True) (fun _ U o U' => ∃ v L, o = .returned v ∧ Q4 Z w7 h0 n0 v U'.heap L ∧ FrameEnd U o U' L ({ frames := 0, cells := 0, slots := 0, locals := 0 } : Room).cells ({ frames := 0, cells := 0, slots := 0, locals := 0 } : Room).slots) := by
  refine MetFree.of_bodySF (plainFor_of_name pn_4) hisR ?_
  intro p e s m args below meth c s₁ Bd hml0 hP hK
  obtain ⟨rfl, hZ, hh⟩ := hP
  have hx := Bd.exec
  have hby := Bd.bytes
  have hml : c.maxLocals = 2 := hml0
  have hown : s.vm.findClass "com/example/crate2/crate2/LineNumbers" = some m.cls := findClass_of_methodNamed Bd.named
  have hnm := (name_of_methodNamed Bd.named Bd.method).1
  have X0 : Stand p l e ({ frames := 0, cells := 0, slots := 0, locals := 0 } : Room) s m #[(.ref a1), (.int p2)] below meth c s₁ [] 0 0 := Stand.of_body Bd
  have e0 : s₁.heap = h0 := by rw [← hh, Bd.state]; rfl
  have N0 := Fr.nil n0
  obtain ⟨E_a1, F_lines_a1, F_size_a1, V, hne⟩ := B
  obtain ⟨cl_w5, Ar_w5, q_w5, S_w5, N_w5, H_w5, G_w5⟩ := V
  have hin26 : ¬ (p2 < 0 ∨ cl_w5.slots.size ≤ (p2).toNatClampNeg) := inb_of S_w5 hn
  have hat26 : cl_w5.slots[(p2).toNatClampNeg]? = some (.long w7) := by rw [H_w5 _ (Nat.lt_of_not_le fun z => hin26 (Or.inr z)), hi, hat]
  have pre0 : ∀ t, Steps p.tables e below (s₁.setTop (mkF m 0 #[.val (.ref a1), .val (.int p2)] [])) t → Steps p.tables e below (s₁.setTop (entryFrame m #[(.ref a1), (.int p2)] 2)) t := fun t k => castTop (ef_4 m a1 p2) k
  obtain ⟨T4, X4, e4, st4⟩ := getF X0 hx hZ hown (host := "") (Or.inl (hw _ (List.mem_of_getElem? (i := 17) rfl))) Via.refl e0 F_size_a1 (g := (mkF m 6 #[.val (.ref a1), .val (.int p2)] [(.ref a1), (.int p2)])) rfl rfl (hb hby d4_6)
  obtain ⟨T6, X6, e6, st6⟩ := getF X4 hx hZ hown (host := "") (Or.inl (hw _ (List.mem_of_getElem? (i := 10) rfl))) Via.refl e4 F_lines_a1 (g := (mkF m 22 #[.val (.ref a1), .val (.int p2)] [(.ref a1)])) rfl rfl (hb hby d4_22)
  obtain ⟨fs, hr, hrun, hended, hW, hsame⟩ := X6.leave (v := some (.long w7)) (fun h => by rw [Bd.returns] at h; cases h)
  refine ⟨_, _, pre0 _ ?_, hrun, hended, _, _, rfl, ?_, ⟨_, rfl⟩, hW, hsame.mono (by decide) (by decide)⟩
  · show Steps p.tables e below (s₁.setTop (mkF m 0 #[.val (.ref a1), .val (.int p2)] [])) _
    refine XS.iloadN X0.here hx rfl (hb hby d4_0) rfl ?_
    show Steps p.tables e below (s₁.setTop (mkF m 1 #[.val (.ref a1), .val (.int p2)] [(.int p2)])) _
    refine XS.ifNo X0.here hx rfl (hb hby d4_1) rfl ((if0 _ _).trans (flt hc1).1) ?_
    show Steps p.tables e below (s₁.setTop (mkF m 4 #[.val (.ref a1), .val (.int p2)] [])) _
    refine XS.iloadN X0.here hx rfl (hb hby d4_4) rfl ?_
    show Steps p.tables e below (s₁.setTop (mkF m 5 #[.val (.ref a1), .val (.int p2)] [(.int p2)])) _
    refine XS.aloadN X0.here hx rfl (hb hby d4_5) rfl rfl ?_
    show Steps p.tables e below (s₁.setTop (mkF m 6 #[.val (.ref a1), .val (.int p2)] [(.ref a1), (.int p2)])) _
    refine st4 _ ?_
    show Steps p.tables e below (T4.setTop (mkF m 9 #[.val (.ref a1), .val (.int p2)] [(.int w3), (.int p2)])) _
    refine XS.icmpYes X4.here hx rfl (pc0 := 9) (pc' := 21) rfl (hb hby d4_9) rfl (tlt hc9).1 (by decide) (by decide) ?_
    show Steps p.tables e below (T4.setTop (mkF m 21 #[.val (.ref a1), .val (.int p2)] [])) _
    refine XS.aloadN X4.here hx rfl (hb hby d4_21) rfl rfl ?_
    show Steps p.tables e below (T4.setTop (mkF m 22 #[.val (.ref a1), .val (.int p2)] [(.ref a1)])) _
    refine st6 _ ?_
    show Steps p.tables e below (T6.setTop (mkF m 25 #[.val (.ref a1), .val (.int p2)] [(.ref w5)])) _
    refine XS.iloadN X6.here hx rfl (hb hby d4_25) rfl ?_
    show Steps p.tables e below (T6.setTop (mkF m 26 #[.val (.ref a1), .val (.int p2)] [(.int p2), (.ref w5)])) _
    refine X6.laload hx (j := p2) (v := (.long w7)) (by rw [e6]; exact Ar_w5.1) (State.isArrayOf_alike hZ.alike Ar_w5.2.1) Ar_w5.2.2 hin26 hat26 (g := (mkF m 26 #[.val (.ref a1), .val (.int p2)] [(.int p2), (.ref w5)])) rfl rfl (hb hby d4_26) _ ?_
    show Steps p.tables e below (T6.setTop (mkF m 27 #[.val (.ref a1), .val (.int p2)] [(.long w7)])) _
    jvm_step X6.here [X6.here.top, hx, (hb hby d4_27), X6.method', Bd.returns, narrow]
    first | (intro acts; rw [hr _ acts rfl rfl rfl]) | rw [hr _ _ rfl rfl rfl]
    exact Steps.refl _
  · show Q4 Z w7 h0 n0 _ T6.heap _
    rw [e6]
    exact ⟨rfl, N0, rfl⟩
def Q5 (Z : State) (vs : List Value) (h0 : Heap) (n0 : Nat) (v : Option Value) (h : Heap) (L : List Loc) : Prop := ∃ (b : Addr) (k : ClassId), v = some (.ref b) ∧ Fr n0 L ∧ h0.size ≤ b ∧ Keep h0 h [] ∧ Arv Z h b k .long (32 : Int32) (cp16 vs) (.long (0 : Int64))
theorem d5_0 : decode jdk_65_method_124_code 0 = .ok (.iload_n 1, 1) := by decide +kernel
theorem d5_1 : decode jdk_65_method_124_code 1 = .ok (.aload_n 0, 1) := by decide +kernel
theorem d5_2 : decode jdk_65_method_124_code 2 = .ok (.arraylength, 1) := by decide +kernel
theorem d5_3 : decode jdk_65_method_124_code 3 = .ok (.if_icmp .ne 11, 3) := by decide +kernel
theorem d5_14 : decode jdk_65_method_124_code 14 = .ok (.iload_n 1, 1) := by decide +kernel
theorem d5_15 : decode jdk_65_method_124_code 15 = .ok (.newarray .long, 2) := by decide +kernel
theorem d5_17 : decode jdk_65_method_124_code 17 = .ok (.astore_n 2, 1) := by decide +kernel
theorem d5_18 : decode jdk_65_method_124_code 18 = .ok (.aload_n 0, 1) := by decide +kernel
theorem d5_19 : decode jdk_65_method_124_code 19 = .ok (.iconst 0, 1) := by decide +kernel
theorem d5_20 : decode jdk_65_method_124_code 20 = .ok (.aload_n 2, 1) := by decide +kernel
theorem d5_21 : decode jdk_65_method_124_code 21 = .ok (.iconst 0, 1) := by decide +kernel
theorem d5_22 : decode jdk_65_method_124_code 22 = .ok (.aload_n 0, 1) := by decide +kernel
theorem d5_23 : decode jdk_65_method_124_code 23 = .ok (.arraylength, 1) := by decide +kernel
theorem d5_24 : decode jdk_65_method_124_code 24 = .ok (.iload_n 1, 1) := by decide +kernel
theorem d5_25 : decode jdk_65_method_124_code 25 = .ok (.invokestatic 304, 3) := by decide +kernel
theorem d5_28 : decode jdk_65_method_124_code 28 = .ok (.invokestatic 150, 3) := by decide +kernel
theorem d5_31 : decode jdk_65_method_124_code 31 = .ok (.aload_n 2, 1) := by decide +kernel
theorem d5_32 : decode jdk_65_method_124_code 32 = .ok (.areturn, 1) := by decide +kernel
theorem pn_5 : plainName "java/util/Arrays" = true := by first | (simp [plainName, overriddenIn]; done) | decide +kernel
theorem pd_5_4 : parseMethodDescriptor "(II)I" = some ⟨[.int, .int], some .int⟩ := by decide +kernel
theorem pd_5_5 : parseMethodDescriptor "(Ljava/lang/Object;ILjava/lang/Object;II)V" = some ⟨[(.object "java/lang/Object"), .int, (.object "java/lang/Object"), .int, .int], none⟩ := by decide +kernel
theorem ef_5 (m : MethodId) (x0 : Addr) (x1 : Int32) : entryFrame m #[(.ref x0), (.int x1)] 3 = mkF m 0 #[.val (.ref x0), .val (.int x1), .unset] [] := by first | (simp [entryFrame, mkF, argsToLocals, Value.category]; done) | rfl
set_option maxRecDepth 65536 in
set_option maxHeartbeats 40000000 in
theorem rm5 (l : Launch) (Z : State) (a0 : Array Value) (hw : ∀ d ∈ tables_1, d.before a0 Z = true) (ws : List Jvm.Cond) (a1 : Addr) (p2 : Int32) (k : ClassId) (vs : List Value) (h0 : Heap) (n0 : Nat) (Z0 : n0 ≤ h0.size) (V : Arv Z h0 a1 k .long (16 : Int32) vs (.long (0 : Int64))) (hp2 : p2 = (32 : Int32)) :
    MetFree l (⟨"java/util/Arrays", "copyOf", "([JI)[J"⟩ : MethodName) (head1 (Jvm.Cond.code (⟨"java/util/Arrays", "copyOf", "([JI)[J"⟩ : MethodName) jdk_65_method_124_code 3 (some (.array .long)) :: ws) ({ frames := 1, cells := 1, slots := 32, locals := 40 } : Room)) (fun a U => a = #[(.ref a1), (.int p2)] ∧ Z.Warmed39 U.vm ∧ U.heap = h0) (fun _ _ _ _ _ => True) (fun _ U o U' => ∃ v L, o = .returned v ∧ Q5 Z vs h0 n0 v U'.heap L ∧ FrameEnd U o U' L ({ frames := 1, cells := 1, slots := 32, locals := 40 } : Room).cells ({ frames := 1, cells := 1, slots := 32, locals := 40 } : Room).slots) := by
  subst hp2
  refine MetFree.of_bodySF (plainFor_of_name pn_5) hisR ?_
  intro p e s m args below meth c s₁ Bd hml0 hP hK
  obtain ⟨rfl, hZ, hh⟩ := hP
  have hx := Bd.exec
  have hby := Bd.bytes
  have hml : c.maxLocals = 3 := hml0
  have hown : s.vm.findClass "java/util/Arrays" = some m.cls := findClass_of_methodNamed Bd.named
  have hnm := (name_of_methodNamed Bd.named Bd.method).1
  have X0 : Stand p l e ({ frames := 1, cells := 1, slots := 32, locals := 40 } : Room) s m #[(.ref a1), (.int (32 : Int32))] below meth c s₁ [] 0 0 := Stand.of_body Bd
  have e0 : s₁.heap = h0 := by rw [← hh, Bd.state]; rfl
  have N0 := Fr.nil n0
  have V' := V
  obtain ⟨cl_a1, Ar_a1, q_a1, S_a1, N_a1, H_a1, G_a1⟩ := V
  have hc3 : ¬ ((32 : Int32) = (16 : Int32)) := by decide
  have pre0 : ∀ t, Steps p.tables e below (s₁.setTop (mkF m 0 #[.val (.ref a1), .val (.int (32 : Int32)), .unset] [])) t → Steps p.tables e below (s₁.setTop (entryFrame m #[(.ref a1), (.int (32 : Int32))] 3)) t := fun t k => castTop (ef_5 m a1 (32 : Int32)) k
  obtain ⟨T3, h3, k3, X3, e3, E3, A3, st3⟩ := newP X0 hx hZ (hw _ (List.mem_of_getElem? (i := 9) rfl)) e0 (g := (mkF m 15 #[.val (.ref a1), .val (.int (32 : Int32)), .unset] [(.int (32 : Int32))])) rfl (hb hby d5_15) rfl (by decide) (cap := 32) (by decide) (by decide) (by decide) (by decide)
  obtain ⟨b3, g3⟩ : ∃ z, z = h0.size := ⟨_, rfl⟩
  rw [← g3] at A3 st3
  have V_b3 : Arv Z h3 b3 k3 .long (32 : Int32) (List.replicate 32 (.long (0 : Int64))) (.long (0 : Int64)) := (Arv.new A3 (by decide)).pad (pad_rep [] (.long (0 : Int64)) 32)
  have g_b3 : n0 ≤ b3 := Nat.le_trans Z0 (Nat.le_of_eq g3.symm)
  have sz_b3 : h0.size ≤ b3 := (Nat.le_trans (Keep.refl h0 []).1 (Nat.le_of_eq g3.symm))
  have K3 : Keep h0 h3 [] := (Keep.refl h0 []).ext E3
  have Ar3_a1 := Ar_a1.ext E3
  obtain ⟨_, _, ⟨T4, L4, k4, n4⟩, -, X4, ⟨Lc4, hQ4, l4, y4, z4⟩, st4⟩ := Jvm.LawKit.callS X3 hx (y := (⟨"java/lang/Math", "min", "(II)I"⟩ : MethodName)) hown (mvT hZ (hw _ (List.mem_of_getElem? (i := 42) rfl))) (mvT hZ (hw _ (List.mem_of_getElem? (i := 43) rfl))) (mvT hZ (hw _ (List.mem_of_getElem? (i := 44) rfl))) (mvT hZ (hw _ (List.mem_of_getElem? (i := 45) rfl))) (by decide) (backOf (W := 4) (rm6 l Z a0 hw [] (16 : Int32) (32 : Int32) h3 n0 (Nat.le_trans Z0 E3.1) (by decide)) hZ (hw _ (List.mem_of_getElem? (i := 45) rfl)) (hw _ (List.mem_of_getElem? (i := 44) rfl)) (by decide) (by decide)) (g := (mkF m 25 #[.val (.ref a1), .val (.int (32 : Int32)), .val (.ref b3)] [(.int (32 : Int32)), (.int (16 : Int32)), (.int (0 : Int32)), (.ref b3), (.int (0 : Int32)), (.ref a1)])) rfl (by rw [hml]; rfl) (argsL := [(.int (16 : Int32)), (.int (32 : Int32))]) (rest := [(.int (0 : Int32)), (.ref b3), (.int (0 : Int32)), (.ref a1)]) (lenOf pd_5_4 rfl) rfl (by show 2 * 0 + _ ≤ _; exact Nat.le_of_eq rfl) (hb hby d5_25) (fun _ _ => ⟨rfl, e3, (by decide : 1 + 0 ≤ _), (by decide : 32 + 0 ≤ _)⟩)
  dsimp only [Pt.U, Pt.locs, Pt.cells, Pt.slots] at X4 l4 y4 z4 st4 hQ4
  subst l4 y4 z4
  obtain ⟨rfl, N4q, eq4⟩ := hQ4
  have N4 := Fr.app N0 N4q
  have q0 : (0 : Int32).toNatClampNeg = 0 := by decide
  have q16 : (16 : Int32).toNatClampNeg = 16 := by decide
  have q32 : (32 : Int32).toNatClampNeg = 32 := by decide
  obtain ⟨T5, h5, L5, X5, e5, N5, K5, V5, st5⟩ := cpA X4 hx hZ hown (hw _ (List.mem_of_getElem? (i := 46) rfl)) (hw _ (List.mem_of_getElem? (i := 49) rfl)) (hw _ (List.mem_of_getElem? (i := 47) rfl)) (hw _ (List.mem_of_getElem? (i := 48) rfl)) eq4 (V'.ext E3) V_b3 (sp := (0 : Int32)) (dp := (0 : Int32)) (nn := (16 : Int32)) (Or.inl ⟨rfl, rfl⟩) (by decide) (by decide) (by decide) (by rw [q0, q16]; decide) (by rw [q0, q16, q32]; decide) rfl (by rw [q0, q16]; decide) N4 g_b3 (g := (mkF m 28 #[.val (.ref a1), .val (.int (32 : Int32)), .val (.ref b3)] [(.int (16 : Int32)), (.int (0 : Int32)), (.ref b3), (.int (0 : Int32)), (.ref a1)])) rfl (by rw [hml]; rfl) (rest := []) rfl (hb hby d5_28) (by decide) (W := 0) (by show 2 * 0 + _ ≤ _; exact Nat.le_of_eq rfl) (by decide)
  simp only [q0, q16, Nat.zero_add, List.take_zero, List.nil_append] at V5
  obtain ⟨fs, hr, hrun, hended, hW, hsame⟩ := X5.leave (v := some (.ref b3)) (fun h => by rw [Bd.returns] at h; cases h)
  refine ⟨_, _, pre0 _ ?_, hrun, hended, _, _, rfl, ?_, ⟨_, rfl⟩, hW, hsame.mono (by decide) (by decide)⟩
  · show Steps p.tables e below (s₁.setTop (mkF m 0 #[.val (.ref a1), .val (.int (32 : Int32)), .unset] [])) _
    refine XS.iloadN X0.here hx rfl (hb hby d5_0) rfl ?_
    show Steps p.tables e below (s₁.setTop (mkF m 1 #[.val (.ref a1), .val (.int (32 : Int32)), .unset] [(.int (32 : Int32))])) _
    refine XS.aloadN X0.here hx rfl (hb hby d5_1) rfl rfl ?_
    show Steps p.tables e below (s₁.setTop (mkF m 2 #[.val (.ref a1), .val (.int (32 : Int32)), .unset] [(.ref a1), (.int (32 : Int32))])) _
    refine X0.arraylength hx (by rw [e0]; exact Ar_a1.1) (State.isArrayOf_alike hZ.alike Ar_a1.2.1) (g := (mkF m 2 #[.val (.ref a1), .val (.int (32 : Int32)), .unset] [(.ref a1), (.int (32 : Int32))])) rfl rfl (hb hby d5_2) _ ?_
    rw [len_of S_a1 N_a1]
    show Steps p.tables e below (s₁.setTop (mkF m 3 #[.val (.ref a1), .val (.int (32 : Int32)), .unset] [(.int (16 : Int32)), (.int (32 : Int32))])) _
    refine XS.icmpYes X0.here hx rfl (pc0 := 3) (pc' := 14) rfl (hb hby d5_3) rfl (feq hc3).2 (by decide) (by decide) ?_
    show Steps p.tables e below (s₁.setTop (mkF m 14 #[.val (.ref a1), .val (.int (32 : Int32)), .unset] [])) _
    refine XS.iloadN X0.here hx rfl (hb hby d5_14) rfl ?_
    show Steps p.tables e below (s₁.setTop (mkF m 15 #[.val (.ref a1), .val (.int (32 : Int32)), .unset] [(.int (32 : Int32))])) _
    refine st3 _ ?_
    show Steps p.tables e below (T3.setTop (mkF m 17 #[.val (.ref a1), .val (.int (32 : Int32)), .unset] [(.ref b3)])) _
    refine XS.astoreN X3.here hx rfl (hb hby d5_17) rfl rfl (l' := #[.val (.ref a1), .val (.int (32 : Int32)), .val (.ref b3)]) rfl ?_
    show Steps p.tables e below (T3.setTop (mkF m 18 #[.val (.ref a1), .val (.int (32 : Int32)), .val (.ref b3)] [])) _
    refine XS.aloadN X3.here hx rfl (hb hby d5_18) rfl rfl ?_
    show Steps p.tables e below (T3.setTop (mkF m 19 #[.val (.ref a1), .val (.int (32 : Int32)), .val (.ref b3)] [(.ref a1)])) _
    refine XS.iconst X3.here hx rfl (hb hby d5_19) ?_
    show Steps p.tables e below (T3.setTop (mkF m 20 #[.val (.ref a1), .val (.int (32 : Int32)), .val (.ref b3)] [(.int (0 : Int32)), (.ref a1)])) _
    refine XS.aloadN X3.here hx rfl (hb hby d5_20) rfl rfl ?_
    show Steps p.tables e below (T3.setTop (mkF m 21 #[.val (.ref a1), .val (.int (32 : Int32)), .val (.ref b3)] [(.ref b3), (.int (0 : Int32)), (.ref a1)])) _
    refine XS.iconst X3.here hx rfl (hb hby d5_21) ?_
    show Steps p.tables e below (T3.setTop (mkF m 22 #[.val (.ref a1), .val (.int (32 : Int32)), .val (.ref b3)] [(.int (0 : Int32)), (.ref b3), (.int (0 : Int32)), (.ref a1)])) _
    refine XS.aloadN X3.here hx rfl (hb hby d5_22) rfl rfl ?_
    show Steps p.tables e below (T3.setTop (mkF m 23 #[.val (.ref a1), .val (.int (32 : Int32)), .val (.ref b3)] [(.ref a1), (.int (0 : Int32)), (.ref b3), (.int (0 : Int32)), (.ref a1)])) _
    refine X3.arraylength hx (by rw [e3]; exact Ar3_a1.1) (State.isArrayOf_alike hZ.alike Ar3_a1.2.1) (g := (mkF m 23 #[.val (.ref a1), .val (.int (32 : Int32)), .val (.ref b3)] [(.ref a1), (.int (0 : Int32)), (.ref b3), (.int (0 : Int32)), (.ref a1)])) rfl rfl (hb hby d5_23) _ ?_
    rw [len_of S_a1 N_a1]
    show Steps p.tables e below (T3.setTop (mkF m 24 #[.val (.ref a1), .val (.int (32 : Int32)), .val (.ref b3)] [(.int (16 : Int32)), (.int (0 : Int32)), (.ref b3), (.int (0 : Int32)), (.ref a1)])) _
    refine XS.iloadN X3.here hx rfl (hb hby d5_24) rfl ?_
    show Steps p.tables e below (T3.setTop (mkF m 25 #[.val (.ref a1), .val (.int (32 : Int32)), .val (.ref b3)] [(.int (32 : Int32)), (.int (16 : Int32)), (.int (0 : Int32)), (.ref b3), (.int (0 : Int32)), (.ref a1)])) _
    refine st4 _ ?_
    show Steps p.tables e below (T4.setTop (mkF m 28 #[.val (.ref a1), .val (.int (32 : Int32)), .val (.ref b3)] [(.int (16 : Int32)), (.int (0 : Int32)), (.ref b3), (.int (0 : Int32)), (.ref a1)])) _
    refine st5 _ ?_
    show Steps p.tables e below (T5.setTop (mkF m 31 #[.val (.ref a1), .val (.int (32 : Int32)), .val (.ref b3)] [])) _
    refine XS.aloadN X5.here hx rfl (hb hby d5_31) rfl rfl ?_
    show Steps p.tables e below (T5.setTop (mkF m 32 #[.val (.ref a1), .val (.int (32 : Int32)), .val (.ref b3)] [(.ref b3)])) _
    jvm_step X5.here [X5.here.top, hx, (hb hby d5_32), X5.method', Bd.returns, Value.isRef, FieldType.isReference]
    first | (intro acts; rw [hr _ acts rfl rfl rfl]) | rw [hr _ _ rfl rfl rfl]
    exact Steps.refl _
  · show Q5 Z vs h0 n0 _ T5.heap _
    rw [e5]
    exact ⟨b3, k3, rfl, N5, sz_b3, K3.trans K5 (fun x hx => Or.inr (by cases List.mem_singleton.mp hx; exact sz_b3)), V5⟩
def Q3f (Z : State) (a1 : Addr) (q2 : Int64) (vs : List Value) (h0 : Heap) (n0 : Nat) (v : Option Value) (h : Heap) (L : List Loc) : Prop := v = none ∧ Fr n0 L ∧ ∃ (b : Addr) (k : ClassId), h0.size ≤ b ∧ Keep h0 h [a1] ∧ LN Z h a1 b k (32 : Int32) ((cp16 vs).set 16 (.long q2)) (17 : Int32)
theorem d3_12 : decode prog_4_method_2_code 12 = .ok (.aload_n 0, 1) := by decide +kernel
theorem d3_13 : decode prog_4_method_2_code 13 = .ok (.aload_n 0, 1) := by decide +kernel
theorem d3_14 : decode prog_4_method_2_code 14 = .ok (.getfield 7, 3) := by decide +kernel
theorem d3_17 : decode prog_4_method_2_code 17 = .ok (.iconst 2, 1) := by decide +kernel
theorem d3_18 : decode prog_4_method_2_code 18 = .ok (.aload_n 0, 1) := by decide +kernel
theorem d3_19 : decode prog_4_method_2_code 19 = .ok (.getfield 13, 3) := by decide +kernel
theorem d3_22 : decode prog_4_method_2_code 22 = .ok (.imul, 1) := by decide +kernel
theorem d3_23 : decode prog_4_method_2_code 23 = .ok (.invokestatic 17, 3) := by decide +kernel
theorem d3_26 : decode prog_4_method_2_code 26 = .ok (.putfield 7, 3) := by decide +kernel
theorem pd_3_3 : parseMethodDescriptor "([JI)[J" = some ⟨[(.array .long), .int], some (.array .long)⟩ := by decide +kernel
set_option maxRecDepth 65536 in
set_option maxHeartbeats 40000000 in
theorem rm3f (l : Launch) (Z : State) (a0 : Array Value) (hw : ∀ d ∈ tables_1, d.before a0 Z = true) (ws : List Jvm.Cond) (a1 : Addr) (q2 : Int64) (w5 : Addr) (k : ClassId) (vs : List Value) (h0 : Heap) (n0 : Nat) (Z0 : n0 ≤ h0.size) (B : LN Z h0 a1 w5 k (16 : Int32) vs (16 : Int32)) (g_a1 : n0 ≤ a1) :
    MetFree l (⟨"com/example/crate2/crate2/LineNumbers", "add", "(J)V"⟩ : MethodName) (head1 (Jvm.Cond.code (⟨"com/example/crate2/crate2/LineNumbers", "add", "(J)V"⟩ : MethodName) prog_4_method_2_code 3 none :: ws) ({ frames := 2, cells := 1, slots := 32, locals := 55 } : Room)) (fun a U => a = #[(.ref a1), (.long q2)] ∧ Z.Warmed39 U.vm ∧ U.heap = h0) (fun _ _ _ _ _ => True) (fun _ U o U' => ∃ v L, o = .returned v ∧ Q3f Z a1 q2 vs h0 n0 v U'.heap L ∧ FrameEnd U o U' L ({ frames := 2, cells := 1, slots := 32, locals := 55 } : Room).cells ({ frames := 2, cells := 1, slots := 32, locals := 55 } : Room).slots) := by
  refine MetFree.of_bodySF (plainFor_of_name pn_3) hisR ?_
  intro p e s m args below meth c s₁ Bd hml0 hP hK
  obtain ⟨rfl, hZ, hh⟩ := hP
  have hx := Bd.exec
  have hby := Bd.bytes
  have hml : c.maxLocals = 3 := hml0
  have hown : s.vm.findClass "com/example/crate2/crate2/LineNumbers" = some m.cls := findClass_of_methodNamed Bd.named
  have hnm := (name_of_methodNamed Bd.named Bd.method).1
  have X0 : Stand p l e ({ frames := 2, cells := 1, slots := 32, locals := 55 } : Room) s m #[(.ref a1), (.long q2)] below meth c s₁ [] 0 0 := Stand.of_body Bd
  have e0 : s₁.heap = h0 := by rw [← hh, Bd.state]; rfl
  have N0 := Fr.nil n0
  obtain ⟨E_a1, F_lines_a1, F_size_a1, V, hne⟩ := B
  have V' := V
  obtain ⟨cl_w5, Ar_w5, q_w5, S_w5, N_w5, H_w5, G_w5⟩ := V
  have hc9 : (16 : Int32) = (16 : Int32) := rfl
  have pre0 : ∀ t, Steps p.tables e below (s₁.setTop (mkF m 0 #[.val (.ref a1), .val (.long q2), .second] [])) t → Steps p.tables e below (s₁.setTop (entryFrame m #[(.ref a1), (.long q2)] 3)) t := fun t k => castTop (ef_3 m a1 q2) k
  obtain ⟨T4, X4, e4, st4⟩ := getF X0 hx hZ hown (host := "") (Or.inl (hw _ (List.mem_of_getElem? (i := 17) rfl))) Via.refl e0 F_size_a1 (g := (mkF m 1 #[.val (.ref a1), .val (.long q2), .second] [(.ref a1)])) rfl rfl (hb hby d3_1)
  obtain ⟨T6, X6, e6, st6⟩ := getF X4 hx hZ hown (host := "") (Or.inl (hw _ (List.mem_of_getElem? (i := 10) rfl))) Via.refl e4 F_lines_a1 (g := (mkF m 5 #[.val (.ref a1), .val (.long q2), .second] [(.ref a1), (.int (16 : Int32))])) rfl rfl (hb hby d3_5)
  obtain ⟨T7, X7, e7, st7⟩ := getF X6 hx hZ hown (host := "") (Or.inl (hw _ (List.mem_of_getElem? (i := 10) rfl))) Via.refl e6 F_lines_a1 (g := (mkF m 14 #[.val (.ref a1), .val (.long q2), .second] [(.ref a1), (.ref a1)])) rfl rfl (hb hby d3_14)
  obtain ⟨T8, X8, e8, st8⟩ := getF X7 hx hZ hown (host := "") (Or.inl (hw _ (List.mem_of_getElem? (i := 17) rfl))) Via.refl e7 F_size_a1 (g := (mkF m 19 #[.val (.ref a1), .val (.long q2), .second] [(.ref a1), (.int (2 : Int32)), (.ref w5), (.ref a1)])) rfl rfl (hb hby d3_19)
  obtain ⟨_, _, ⟨T9, L9, k9, n9⟩, -, X9, ⟨Lc9, hQ9, l9, y9, z9⟩, st9⟩ := Jvm.LawKit.callS X8 hx (y := (⟨"java/util/Arrays", "copyOf", "([JI)[J"⟩ : MethodName)) hown (mvT hZ (hw _ (List.mem_of_getElem? (i := 38) rfl))) (mvT hZ (hw _ (List.mem_of_getElem? (i := 39) rfl))) (mvT hZ (hw _ (List.mem_of_getElem? (i := 40) rfl))) (mvT hZ (hw _ (List.mem_of_getElem? (i := 41) rfl))) (by decide) (backOf (W := 1) (rm5 l Z a0 hw [] w5 ((2 : Int32) * (16 : Int32)) k vs h0 n0 Z0 V' (by decide)) hZ (hw _ (List.mem_of_getElem? (i := 41) rfl)) (hw _ (List.mem_of_getElem? (i := 40) rfl)) (by decide) (by decide)) (g := (mkF m 23 #[.val (.ref a1), .val (.long q2), .second] [(.int ((2 : Int32) * (16 : Int32))), (.ref w5), (.ref a1)])) rfl (by rw [hml]; rfl) (argsL := [(.ref w5), (.int ((2 : Int32) * (16 : Int32)))]) (rest := [(.ref a1)]) (lenOf pd_3_3 rfl) rfl (by show 2 * 0 + _ ≤ _; exact Nat.le_of_eq rfl) (hb hby d3_23) (fun _ _ => ⟨rfl, e8, (by decide : 0 + 1 ≤ _), (by decide : 0 + 32 ≤ _)⟩)
  dsimp only [Pt.U, Pt.locs, Pt.cells, Pt.slots] at X9 l9 y9 z9 st9 hQ9
  subst l9 y9 z9
  obtain ⟨b9, kk9, rfl, N9q, g9, Kc9, V9⟩ := hQ9
  have N9 := Fr.app N0 N9q
  have Kd9 : Keep h0 T9.heap [a1] := (Keep.refl h0 [a1]).trans Kc9 (fun x hx => nomatch hx)
  have hne9 : a1 ≠ b9 := Nat.ne_of_lt (Nat.lt_of_lt_of_le E_a1.lt g9)
  obtain ⟨T10, h10, X10, e10, W10, st10⟩ := putF X9 hx hZ hown (host := "") (Or.inl (hw _ (List.mem_of_getElem? (i := 10) rfl))) Via.refl rfl (F_lines_a1.keep Kc9 (by simp)) (E_a1.keep Kc9) (Or.inl (hw _ (List.mem_of_getElem? (i := 11) rfl))) (hw _ (List.mem_of_getElem? (i := 1) rfl)) (ty := (.array .long)) (by decide) rfl rfl (g := (mkF m 26 #[.val (.ref a1), .val (.long q2), .second] [(.ref b9), (.ref a1)])) rfl rfl (hb hby d3_26)
  have Fw10 := (F_lines_a1.keep Kc9 (by simp)).same W10
  have K10 : Keep h0 h10 [a1] := Kd9.wr W10 (Or.inl (List.mem_of_getElem? (i := 0) rfl))
  have N10 := Fr.snoc X10 N9 g_a1
  obtain ⟨T11, X11, e11, st11⟩ := getF X10 hx hZ hown (host := "") (Or.inl (hw _ (List.mem_of_getElem? (i := 10) rfl))) Via.refl e10 Fw10 (g := (mkF m 30 #[.val (.ref a1), .val (.long q2), .second] [(.ref a1)])) rfl rfl (hb hby d3_30)
  obtain ⟨T13, X13, e13, st13⟩ := getF X11 hx hZ hown (host := "") (Or.inl (hw _ (List.mem_of_getElem? (i := 17) rfl))) Via.refl e11 ((F_size_a1.keep Kc9 (by simp)).other W10 (Or.inr (slot_ne (Or.inl (hw _ (List.mem_of_getElem? (i := 18) rfl))) (Or.inl (hw _ (List.mem_of_getElem? (i := 11) rfl))) (by decide) (t := .int) (t' := (.array .long)) (by decide) (by decide)))) (g := (mkF m 35 #[.val (.ref a1), .val (.long q2), .second] [(.ref a1), (.ref a1), (.ref b9)])) rfl rfl (hb hby d3_35)
  obtain ⟨T14, h14, X14, e14, W14, st14⟩ := putF X13 hx hZ hown (host := "") (Or.inl (hw _ (List.mem_of_getElem? (i := 17) rfl))) Via.refl e13 ((F_size_a1.keep Kc9 (by simp)).other W10 (Or.inr (slot_ne (Or.inl (hw _ (List.mem_of_getElem? (i := 18) rfl))) (Or.inl (hw _ (List.mem_of_getElem? (i := 11) rfl))) (by decide) (t := .int) (t' := (.array .long)) (by decide) (by decide)))) ((E_a1.keep Kc9).wr W10) (Or.inl (hw _ (List.mem_of_getElem? (i := 18) rfl))) (hw _ (List.mem_of_getElem? (i := 1) rfl)) (ty := .int) (by decide) rfl rfl (g := (mkF m 41 #[.val (.ref a1), .val (.long q2), .second] [(.int ((16 : Int32) + (1 : Int32))), (.ref a1), (.int (16 : Int32)), (.ref b9)])) rfl rfl (hb hby d3_41)
  have Fw14 := ((F_size_a1.keep Kc9 (by simp)).other W10 (Or.inr (slot_ne (Or.inl (hw _ (List.mem_of_getElem? (i := 18) rfl))) (Or.inl (hw _ (List.mem_of_getElem? (i := 11) rfl))) (by decide) (t := .int) (t' := (.array .long)) (by decide) (by decide)))).same W14
  have K14 : Keep h0 h14 [a1] := K10.wr W14 (Or.inl (List.mem_of_getElem? (i := 0) rfl))
  have N14 := Fr.snoc X14 N10 g_a1
  have V14 := (V9.other W10 hne9.symm).other W14 hne9.symm
  obtain ⟨cl9, Ar9, qq9, S9, NN9, H9, G9⟩ := V14
  have hin45 : ¬ ((16 : Int32) < 0 ∨ cl9.slots.size ≤ ((16 : Int32)).toNatClampNeg) := inb_of S9 ⟨by decide, by decide⟩
  have g_b9 : n0 ≤ b9 := Nat.le_trans Z0 g9
  obtain ⟨T15, h15, X15, e15, W15, st15⟩ := stJ X14 hx hZ e14 Ar9 (j := (16 : Int32)) hin45 (g := (mkF m 45 #[.val (.ref a1), .val (.long q2), .second] [(.long q2), (.int (16 : Int32)), (.ref b9)])) rfl rfl (hb hby d3_45)
  have N15 := Fr.snoc X15 N14 g_b9
  have K15 : Keep h0 h15 [a1] := K14.wr W15 (Or.inr g9)
  obtain ⟨fs, hr, hrun, hended, hW, hsame⟩ := X15.leave (v := none) (fun _ => rfl)
  refine ⟨_, _, pre0 _ ?_, hrun, hended, _, _, rfl, ?_, ⟨_, rfl⟩, hW, hsame.mono (by decide) (by decide)⟩
  · show Steps p.tables e below (s₁.setTop (mkF m 0 #[.val (.ref a1), .val (.long q2), .second] [])) _
    refine XS.aloadN X0.here hx rfl (hb hby d3_0) rfl rfl ?_
    show Steps p.tables e below (s₁.setTop (mkF m 1 #[.val (.ref a1), .val (.long q2), .second] [(.ref a1)])) _
    refine st4 _ ?_
    show Steps p.tables e below (T4.setTop (mkF m 4 #[.val (.ref a1), .val (.long q2), .second] [(.int (16 : Int32))])) _
    refine XS.aloadN X4.here hx rfl (hb hby d3_4) rfl rfl ?_
    show Steps p.tables e below (T4.setTop (mkF m 5 #[.val (.ref a1), .val (.long q2), .second] [(.ref a1), (.int (16 : Int32))])) _
    refine st6 _ ?_
    show Steps p.tables e below (T6.setTop (mkF m 8 #[.val (.ref a1), .val (.long q2), .second] [(.ref w5), (.int (16 : Int32))])) _
    refine X6.arraylength hx (by rw [e6]; exact Ar_w5.1) (State.isArrayOf_alike hZ.alike Ar_w5.2.1) (g := (mkF m 8 #[.val (.ref a1), .val (.long q2), .second] [(.ref w5), (.int (16 : Int32))])) rfl rfl (hb hby d3_8) _ ?_
    rw [len_of S_w5 N_w5]
    show Steps p.tables e below (T6.setTop (mkF m 9 #[.val (.ref a1), .val (.long q2), .second] [(.int (16 : Int32)), (.int (16 : Int32))])) _
    refine XS.icmpNo X6.here hx rfl (hb hby d3_9) rfl (teq hc9).2 ?_
    show Steps p.tables e below (T6.setTop (mkF m 12 #[.val (.ref a1), .val (.long q2), .second] [])) _
    refine XS.aloadN X6.here hx rfl (hb hby d3_12) rfl rfl ?_
    show Steps p.tables e below (T6.setTop (mkF m 13 #[.val (.ref a1), .val (.long q2), .second] [(.ref a1)])) _
    refine XS.aloadN X6.here hx rfl (hb hby d3_13) rfl rfl ?_
    show Steps p.tables e below (T6.setTop (mkF m 14 #[.val (.ref a1), .val (.long q2), .second] [(.ref a1), (.ref a1)])) _
    refine st7 _ ?_
    show Steps p.tables e below (T7.setTop (mkF m 17 #[.val (.ref a1), .val (.long q2), .second] [(.ref w5), (.ref a1)])) _
    refine XS.iconst X7.here hx rfl (hb hby d3_17) ?_
    show Steps p.tables e below (T7.setTop (mkF m 18 #[.val (.ref a1), .val (.long q2), .second] [(.int (2 : Int32)), (.ref w5), (.ref a1)])) _
    refine XS.aloadN X7.here hx rfl (hb hby d3_18) rfl rfl ?_
    show Steps p.tables e below (T7.setTop (mkF m 19 #[.val (.ref a1), .val (.long q2), .second] [(.ref a1), (.int (2 : Int32)), (.ref w5), (.ref a1)])) _
    refine st8 _ ?_
    show Steps p.tables e below (T8.setTop (mkF m 22 #[.val (.ref a1), .val (.long q2), .second] [(.int (16 : Int32)), (.int (2 : Int32)), (.ref w5), (.ref a1)])) _
    refine XS.imul X8.here hx rfl (hb hby d3_22) rfl ?_
    show Steps p.tables e below (T8.setTop (mkF m 23 #[.val (.ref a1), .val (.long q2), .second] [(.int ((2 : Int32) * (16 : Int32))), (.ref w5), (.ref a1)])) _
    refine st9 _ ?_
    show Steps p.tables e below (T9.setTop (mkF m 26 #[.val (.ref a1), .val (.long q2), .second] [(.ref b9), (.ref a1)])) _
    refine st10 _ ?_
    show Steps p.tables e below (T10.setTop (mkF m 29 #[.val (.ref a1), .val (.long q2), .second] [])) _
    refine XS.aloadN X10.here hx rfl (hb hby d3_29) rfl rfl ?_
    show Steps p.tables e below (T10.setTop (mkF m 30 #[.val (.ref a1), .val (.long q2), .second] [(.ref a1)])) _
    refine st11 _ ?_
    show Steps p.tables e below (T11.setTop (mkF m 33 #[.val (.ref a1), .val (.long q2), .second] [(.ref b9)])) _
    refine XS.aloadN X11.here hx rfl (hb hby d3_33) rfl rfl ?_
    show Steps p.tables e below (T11.setTop (mkF m 34 #[.val (.ref a1), .val (.long q2), .second] [(.ref a1), (.ref b9)])) _
    refine XS.dup X11.here hx rfl (hb hby d3_34) rfl rfl ?_
    show Steps p.tables e below (T11.setTop (mkF m 35 #[.val (.ref a1), .val (.long q2), .second] [(.ref a1), (.ref a1), (.ref b9)])) _
    refine st13 _ ?_
    show Steps p.tables e below (T13.setTop (mkF m 38 #[.val (.ref a1), .val (.long q2), .second] [(.int (16 : Int32)), (.ref a1), (.ref b9)])) _
    refine XS.dupX1 X13.here hx rfl (hb hby d3_38) rfl rfl rfl ?_
    show Steps p.tables e below (T13.setTop (mkF m 39 #[.val (.ref a1), .val (.long q2), .second] [(.int (16 : Int32)), (.ref a1), (.int (16 : Int32)), (.ref b9)])) _
    refine XS.iconst X13.here hx rfl (hb hby d3_39) ?_
    show Steps p.tables e below (T13.setTop (mkF m 40 #[.val (.ref a1), .val (.long q2), .second] [(.int (1 : Int32)), (.int (16 : Int32)), (.ref a1), (.int (16 : Int32)), (.ref b9)])) _
    refine XS.iadd X13.here hx rfl (hb hby d3_40) rfl ?_
    show Steps p.tables e below (T13.setTop (mkF m 41 #[.val (.ref a1), .val (.long q2), .second] [(.int ((16 : Int32) + (1 : Int32))), (.ref a1), (.int (16 : Int32)), (.ref b9)])) _
    refine st14 _ ?_
    show Steps p.tables e below (T14.setTop (mkF m 44 #[.val (.ref a1), .val (.long q2), .second] [(.int (16 : Int32)), (.ref b9)])) _
    refine XS.lloadN X14.here hx rfl (hb hby d3_44) rfl ?_
    show Steps p.tables e below (T14.setTop (mkF m 45 #[.val (.ref a1), .val (.long q2), .second] [(.long q2), (.int (16 : Int32)), (.ref b9)])) _
    refine st15 _ ?_
    show Steps p.tables e below (T15.setTop (mkF m 46 #[.val (.ref a1), .val (.long q2), .second] [])) _
    exact X15.returnOut hx Bd.returns (hb hby d3_46) hr
  · show Q3f Z a1 q2 vs h0 n0 _ T15.heap _
    rw [e15]
    exact ⟨rfl, N15, b9, kk9, g9, K15, (((E_a1.keep Kc9).wr W10).wr W14).wr W15, (Fw10.other W14 (Or.inr (slot_ne (Or.inl (hw _ (List.mem_of_getElem? (i := 11) rfl))) (Or.inl (hw _ (List.mem_of_getElem? (i := 18) rfl))) (by decide) (t := (.array .long)) (t' := .int) (by decide) (by decide)))).other W15 (Or.inl hne9), (by rw [show (17 : Int32) = (16 : Int32) + 1 by decide]; exact Fw14.other W15 (Or.inl hne9)), Arv.set Ar9 qq9 S9 NN9 H9 G9 rfl W15 16 (by decide) (by simp [cp16]), hne9⟩
theorem pn_0 : plainName "com/example/crate2/crate2/LineNumbersAddPinLaw" = true := by first | (simp [plainName, overriddenIn]; done) | decide +kernel
theorem pd_0_0 : parseMethodDescriptor "()V" = some ⟨[], none⟩ := by decide +kernel
theorem pd_0_1 : parseMethodDescriptor "(J)V" = some ⟨[.long], none⟩ := by decide +kernel
theorem pd_0_2 : parseMethodDescriptor "(I)J" = some ⟨[.int], some .long⟩ := by decide +kernel
theorem ef_0 (m : MethodId) (x0 : Int64) (x1 : Int64) (x2 : Int64) : entryFrame m #[(.long x0), (.long x1), (.long x2)] maxLocals = mkF m 0 #[.val (.long x0), .second, .val (.long x1), .second, .val (.long x2), .second, .unset, .unset] [] := by first | (simp [entryFrame, mkF, argsToLocals, Value.category, maxLocals]; done) | rfl
def Q0 (Z : State) (q1 : Int64) (q2 : Int64) (q3 : Int64) (h0 : Heap) (n0 : Nat) (v : Option Value) (h : Heap) (L : List Loc) : Prop := v = some (.int (1 : Int32)) ∧ Fr n0 L
set_option maxRecDepth 65536 in
set_option maxHeartbeats 40000000 in
theorem rm0 (l : Launch) (Z : State) (a0 : Array Value) (hw : ∀ d ∈ tables_1, d.before a0 Z = true) (ws : List Jvm.Cond) (q1 : Int64) (q2 : Int64) (q3 : Int64) (h0 : Heap) (n0 : Nat) (Z0 : n0 ≤ h0.size) :
    MetFree l x (head1 (Jvm.Cond.code x code maxLocals ret :: ws) room_1) (fun a U => a = #[(.long q1), (.long q2), (.long q3)] ∧ Z.Warmed39 U.vm ∧ U.heap = h0) (fun _ _ _ _ _ => True) (fun _ U o U' => ∃ v L, o = .returned v ∧ Q0 Z q1 q2 q3 h0 n0 v U'.heap L ∧ FrameEnd U o U' L room_1.cells room_1.slots) := by
  refine MetFree.of_bodySF (plainFor_of_name pn_0) hisR ?_
  intro p e s m args below meth c s₁ Bd hml0 hP hK
  obtain ⟨rfl, hZ, hh⟩ := hP
  have hx := Bd.exec
  have hby := Bd.bytes
  have hml : c.maxLocals = 8 := hml0
  have hown : s.vm.findClass "com/example/crate2/crate2/LineNumbersAddPinLaw" = some m.cls := findClass_of_methodNamed Bd.named
  have hnm := (name_of_methodNamed Bd.named Bd.method).1
  have X0 : Stand p l e room_1 s m #[(.long q1), (.long q2), (.long q3)] below meth c s₁ [] 0 0 := Stand.of_body Bd
  have e0 : s₁.heap = h0 := by rw [← hh, Bd.state]; rfl
  have N0 := Fr.nil n0
  have hc190 : ¬ ((1 : Int32) = (0 : Int32)) := by decide
  have pre0 : ∀ t, Steps p.tables e below (s₁.setTop (mkF m 0 #[.val (.long q1), .second, .val (.long q2), .second, .val (.long q3), .second, .unset, .unset] [])) t → Steps p.tables e below (s₁.setTop (entryFrame m #[(.long q1), (.long q2), (.long q3)] maxLocals)) t := fun t k => castTop (ef_0 m q1 q2 q3) k
  obtain ⟨T4, h4, X4, e4, E4, A4, D4, -, st4⟩ := newO X0 hx hZ hown (hw _ (List.mem_of_getElem? (i := 0) rfl)) (hw _ (List.mem_of_getElem? (i := 1) rfl)) (hw _ (List.mem_of_getElem? (i := 2) rfl)) e0 (g := (mkF m 0 #[.val (.long q1), .second, .val (.long q2), .second, .val (.long q3), .second, .unset, .unset] [])) rfl (hb hby at_0) (by decide) (by decide)
  obtain ⟨b4, g4⟩ : ∃ z, z = h0.size := ⟨_, rfl⟩
  rw [← g4] at A4 D4 st4
  have F_lines_b4 : Fld Z h4 b4 "com/example/crate2/crate2/LineNumbers" "lines" "[J" .null := D4 (Or.inl (hw _ (List.mem_of_getElem? (i := 11) rfl))) (ty := (.array .long)) (by decide)
  have F_size_b4 : Fld Z h4 b4 "com/example/crate2/crate2/LineNumbers" "size" "I" (.int (0 : Int32)) := D4 (Or.inl (hw _ (List.mem_of_getElem? (i := 18) rfl))) (ty := .int) (by decide)
  have E_b4 := A4
  have g_b4 : n0 ≤ b4 := Nat.le_trans Z0 (Nat.le_of_eq g4.symm)
  have sz_b4 : h0.size ≤ b4 := (Nat.le_trans (Keep.refl h0 []).1 (Nat.le_of_eq g4.symm))
  have K4 : Keep h0 h4 [] := (Keep.refl h0 []).ext E4
  obtain ⟨_, _, ⟨T5, L5, k5, n5⟩, -, X5, ⟨Lc5, hQ5, l5, y5, z5⟩, st5⟩ := X4.specialBack hx (y := (⟨"com/example/crate2/crate2/LineNumbers", "<init>", "()V"⟩ : MethodName)) rfl hown (mvT hZ (hw _ (List.mem_of_getElem? (i := 3) rfl))) (mvT hZ (hw _ (List.mem_of_getElem? (i := 4) rfl))) (mvT hZ (hw _ (List.mem_of_getElem? (i := 5) rfl))) (by decide) (backOf (W := 1) (rm1 l Z a0 hw [] b4 _ h4 n0 (Nat.le_trans Z0 E4.1) A4 F_lines_b4 g_b4 F_size_b4) hZ (hw _ (List.mem_of_getElem? (i := 5) rfl)) (hw _ (List.mem_of_getElem? (i := 2) rfl)) (by decide) (by decide)) (g := (mkF m 4 #[.val (.long q1), .second, .val (.long q2), .second, .val (.long q3), .second, .unset, .unset] [(.ref b4), (.ref b4)])) rfl (by rw [hml]; rfl) (Steps.refl _) (a := b4) (argsL := []) (rest := [(.ref b4)]) (lenOf pd_0_0 rfl) rfl (by show 2 * 0 + _ ≤ _; exact Nat.le_of_eq rfl) (hb hby at_4) (fun _ _ => ⟨rfl, e4, (by decide : 1 + 1 ≤ _), (by decide : 2 + 16 ≤ _)⟩)
  dsimp only [Pt.U, Pt.locs, Pt.cells, Pt.slots] at X5 l5 y5 z5 st5 hQ5
  subst l5 y5 z5
  obtain ⟨rfl, N5q, eq5⟩ := hQ5
  have N5 := Fr.app N0 N5q
  obtain ⟨LL5, X5, N5⟩ := own_pack X5 N5
  obtain ⟨K5, t5, kk5, gt5, B5⟩ := eq5
  have Z5 : n0 ≤ T5.heap.size := Nat.le_trans (Nat.le_trans Z0 E4.1) K5.1
  have g_t5 : n0 ≤ t5 := Nat.le_trans (Nat.le_trans Z0 E4.1) gt5
  obtain ⟨cq6, kq6, q6a, q6b, q6c⟩ := isOf hZ rfl B5.1
  obtain ⟨_, _, ⟨T6, L6, k6, n6⟩, -, X6, ⟨Lc6, hQ6, l6, y6, z6⟩, st6⟩ := X5.virtualBack hx (y := (⟨"com/example/crate2/crate2/LineNumbers", "add", "(J)V"⟩ : MethodName)) (z := (⟨"com/example/crate2/crate2/LineNumbers", "add", "(J)V"⟩ : MethodName)) hown (mvT hZ (hw _ (List.mem_of_getElem? (i := 12) rfl))) (mvT hZ (hw _ (List.mem_of_getElem? (i := 13) rfl))) (notFace_of_selects (args := #[]) (mvT hZ (hw _ (List.mem_of_getElem? (i := 15) rfl)))) (mvT hZ (hw _ (List.mem_of_getElem? (i := 15) rfl))) (mvT hZ (hw _ (List.mem_of_getElem? (i := 14) rfl))) (by decide) (backOf (W := 0) (rm3t l Z a0 hw [] b4 q1 (0 : Int32) (1 : Int32) t5 kk5 (16 : Int32) z16 0 T5.heap n0 Z5 B5 g_b4 g_t5 ⟨by decide, by decide⟩ (by decide) (by decide) (Nat.le_of_ble_eq_true rfl) (by decide)) hZ (hw _ (List.mem_of_getElem? (i := 16) rfl)) (hw _ (List.mem_of_getElem? (i := 2) rfl)) (by decide) (by decide)) q6a q6c (g := (mkF m 12 #[.val (.long q1), .second, .val (.long q2), .second, .val (.long q3), .second, .val (.ref b4), .unset] [(.long q1), (.ref b4)])) rfl (by rw [hml]; rfl) (Steps.refl _) (argsL := [(.long q1)]) (rest := []) (lenOf pd_0_1 rfl) rfl (by show 2 * 0 + _ ≤ _; exact Nat.le_of_eq rfl) (hb hby at_12) (fun _ _ => ⟨rfl, rfl, (by decide : 2 + 0 ≤ _), (by decide : 18 + 0 ≤ _)⟩)
  dsimp only [Pt.U, Pt.locs, Pt.cells, Pt.slots] at X6 l6 y6 z6 st6 hQ6
  subst l6 y6 z6
  obtain ⟨rfl, N6q, eq6⟩ := hQ6
  have N6 := Fr.app N5 N6q
  obtain ⟨LL6, X6, N6⟩ := own_pack X6 N6
  obtain ⟨K6, B6⟩ := eq6
  have Z6 : n0 ≤ T6.heap.size := Nat.le_trans Z5 K6.1
  obtain ⟨cq7, kq7, q7a, q7b, q7c⟩ := isOf hZ rfl B6.1
  obtain ⟨_, _, ⟨T7, L7, k7, n7⟩, -, X7, ⟨Lc7, hQ7, l7, y7, z7⟩, st7⟩ := X6.virtualBack hx (y := (⟨"com/example/crate2/crate2/LineNumbers", "get", "(I)J"⟩ : MethodName)) (z := (⟨"com/example/crate2/crate2/LineNumbers", "get", "(I)J"⟩ : MethodName)) hown (mvT hZ (hw _ (List.mem_of_getElem? (i := 19) rfl))) (mvT hZ (hw _ (List.mem_of_getElem? (i := 20) rfl))) (notFace_of_selects (args := #[]) (mvT hZ (hw _ (List.mem_of_getElem? (i := 22) rfl)))) (mvT hZ (hw _ (List.mem_of_getElem? (i := 22) rfl))) (mvT hZ (hw _ (List.mem_of_getElem? (i := 21) rfl))) (by decide) (backOf (W := 0) (rm4 l Z a0 hw [] b4 (0 : Int32) (1 : Int32) t5 q1 kk5 (16 : Int32) (List.set z16 0 (.long q1)) 0 T6.heap n0 Z6 B6 ⟨by decide, by decide⟩ (by decide) rfl (by decide) (by decide)) hZ (hw _ (List.mem_of_getElem? (i := 23) rfl)) (hw _ (List.mem_of_getElem? (i := 2) rfl)) (by decide) (by decide)) q7a q7c (g := (mkF m 18 #[.val (.long q1), .second, .val (.long q2), .second, .val (.long q3), .second, .val (.ref b4), .unset] [(.int (0 : Int32)), (.ref b4)])) rfl (by rw [hml]; rfl) (Steps.refl _) (argsL := [(.int (0 : Int32))]) (rest := []) (lenOf pd_0_2 rfl) rfl (by show 2 * 0 + _ ≤ _; exact Nat.le_of_eq rfl) (hb hby at_18) (fun _ _ => ⟨rfl, rfl, (by decide : 2 + 0 ≤ _), (by decide : 18 + 0 ≤ _)⟩)
  dsimp only [Pt.U, Pt.locs, Pt.cells, Pt.slots] at X7 l7 y7 z7 st7 hQ7
  subst l7 y7 z7
  obtain ⟨rfl, N7q, eq7⟩ := hQ7
  have N7 := Fr.app N6 N7q
  obtain ⟨LL7, X7, N7⟩ := own_pack X7 N7
  have B7 : LN Z T7.heap b4 t5 kk5 (16 : Int32) (List.set z16 0 (.long q1)) (1 : Int32) := by rw [eq7]; exact B6
  have Z7 : n0 ≤ T7.heap.size := by rw [eq7]; exact Z6
  obtain ⟨cq8, kq8, q8a, q8b, q8c⟩ := isOf hZ rfl B7.1
  obtain ⟨_, _, ⟨T8, L8, k8, n8⟩, -, X8, ⟨Lc8, hQ8, l8, y8, z8⟩, st8⟩ := X7.virtualBack hx (y := (⟨"com/example/crate2/crate2/LineNumbers", "add", "(J)V"⟩ : MethodName)) (z := (⟨"com/example/crate2/crate2/LineNumbers", "add", "(J)V"⟩ : MethodName)) hown (mvT hZ (hw _ (List.mem_of_getElem? (i := 12) rfl))) (mvT hZ (hw _ (List.mem_of_getElem? (i := 13) rfl))) (notFace_of_selects (args := #[]) (mvT hZ (hw _ (List.mem_of_getElem? (i := 15) rfl)))) (mvT hZ (hw _ (List.mem_of_getElem? (i := 15) rfl))) (mvT hZ (hw _ (List.mem_of_getElem? (i := 14) rfl))) (by decide) (backOf (W := 0) (rm3t l Z a0 hw [] b4 (q2 + (1 : Int64)) (1 : Int32) (2 : Int32) t5 kk5 (16 : Int32) (List.set z16 0 (.long q1)) 1 T7.heap n0 Z7 B7 g_b4 g_t5 ⟨by decide, by decide⟩ (by decide) (by decide) (Nat.le_of_ble_eq_true rfl) (by decide)) hZ (hw _ (List.mem_of_getElem? (i := 16) rfl)) (hw _ (List.mem_of_getElem? (i := 2) rfl)) (by decide) (by decide)) q8a q8c (g := (mkF m 38 #[.val (.long q1), .second, .val (.long q2), .second, .val (.long q3), .second, .val (.ref b4), .val (.int (1 : Int32))] [(.long (q2 + (1 : Int64))), (.ref b4)])) rfl (by rw [hml]; rfl) (Steps.refl _) (argsL := [(.long (q2 + (1 : Int64)))]) (rest := []) (lenOf pd_0_1 rfl) rfl (by show 2 * 0 + _ ≤ _; exact Nat.le_of_eq rfl) (hb hby at_38) (fun _ _ => ⟨rfl, rfl, (by decide : 2 + 0 ≤ _), (by decide : 18 + 0 ≤ _)⟩)
  dsimp only [Pt.U, Pt.locs, Pt.cells, Pt.slots] at X8 l8 y8 z8 st8 hQ8
  subst l8 y8 z8
  obtain ⟨rfl, N8q, eq8⟩ := hQ8
  have N8 := Fr.app N7 N8q
  obtain ⟨LL8, X8, N8⟩ := own_pack X8 N8
  obtain ⟨K8, B8⟩ := eq8
  have Z8 : n0 ≤ T8.heap.size := Nat.le_trans Z7 K8.1
  obtain ⟨cq9, kq9, q9a, q9b, q9c⟩ := isOf hZ rfl B8.1
  obtain ⟨_, _, ⟨T9, L9, k9, n9⟩, -, X9, ⟨Lc9, hQ9, l9, y9, z9⟩, st9⟩ := X8.virtualBack hx (y := (⟨"com/example/crate2/crate2/LineNumbers", "add", "(J)V"⟩ : MethodName)) (z := (⟨"com/example/crate2/crate2/LineNumbers", "add", "(J)V"⟩ : MethodName)) hown (mvT hZ (hw _ (List.mem_of_getElem? (i := 12) rfl))) (mvT hZ (hw _ (List.mem_of_getElem? (i := 13) rfl))) (notFace_of_selects (args := #[]) (mvT hZ (hw _ (List.mem_of_getElem? (i := 15) rfl)))) (mvT hZ (hw _ (List.mem_of_getElem? (i := 15) rfl))) (mvT hZ (hw _ (List.mem_of_getElem? (i := 14) rfl))) (by decide) (backOf (W := 0) (rm3t l Z a0 hw [] b4 (q2 + (2 : Int64)) (2 : Int32) (3 : Int32) t5 kk5 (16 : Int32) (List.set (List.set z16 0 (.long q1)) 1 (.long (q2 + (1 : Int64)))) 2 T8.heap n0 Z8 B8 g_b4 g_t5 ⟨by decide, by decide⟩ (by decide) (by decide) (Nat.le_of_ble_eq_true rfl) (by decide)) hZ (hw _ (List.mem_of_getElem? (i := 16) rfl)) (hw _ (List.mem_of_getElem? (i := 2) rfl)) (by decide) (by decide)) q9a q9c (g := (mkF m 48 #[.val (.long q1), .second, .val (.long q2), .second, .val (.long q3), .second, .val (.ref b4), .val (.int (1 : Int32))] [(.long (q2 + (2 : Int64))), (.ref b4)])) rfl (by rw [hml]; rfl) (Steps.refl _) (argsL := [(.long (q2 + (2 : Int64)))]) (rest := []) (lenOf pd_0_1 rfl) rfl (by show 2 * 0 + _ ≤ _; exact Nat.le_of_eq rfl) (hb hby at_48) (fun _ _ => ⟨rfl, rfl, (by decide : 2 + 0 ≤ _), (by decide : 18 + 0 ≤ _)⟩)
  dsimp only [Pt.U, Pt.locs, Pt.cells, Pt.slots] at X9 l9 y9 z9 st9 hQ9
  subst l9 y9 z9
  obtain ⟨rfl, N9q, eq9⟩ := hQ9
  have N9 := Fr.app N8 N9q
  obtain ⟨LL9, X9, N9⟩ := own_pack X9 N9
  obtain ⟨K9, B9⟩ := eq9
  have Z9 : n0 ≤ T9.heap.size := Nat.le_trans Z8 K9.1
  obtain ⟨cq10, kq10, q10a, q10b, q10c⟩ := isOf hZ rfl B9.1
  obtain ⟨_, _, ⟨T10, L10, k10, n10⟩, -, X10, ⟨Lc10, hQ10, l10, y10, z10⟩, st10⟩ := X9.virtualBack hx (y := (⟨"com/example/crate2/crate2/LineNumbers", "add", "(J)V"⟩ : MethodName)) (z := (⟨"com/example/crate2/crate2/LineNumbers", "add", "(J)V"⟩ : MethodName)) hown (mvT hZ (hw _ (List.mem_of_getElem? (i := 12) rfl))) (mvT hZ (hw _ (List.mem_of_getElem? (i := 13) rfl))) (notFace_of_selects (args := #[]) (mvT hZ (hw _ (List.mem_of_getElem? (i := 15) rfl)))) (mvT hZ (hw _ (List.mem_of_getElem? (i := 15) rfl))) (mvT hZ (hw _ (List.mem_of_getElem? (i := 14) rfl))) (by decide) (backOf (W := 0) (rm3t l Z a0 hw [] b4 (q2 + (3 : Int64)) (3 : Int32) (4 : Int32) t5 kk5 (16 : Int32) (List.set (List.set (List.set z16 0 (.long q1)) 1 (.long (q2 + (1 : Int64)))) 2 (.long (q2 + (2 : Int64)))) 3 T9.heap n0 Z9 B9 g_b4 g_t5 ⟨by decide, by decide⟩ (by decide) (by decide) (Nat.le_of_ble_eq_true rfl) (by decide)) hZ (hw _ (List.mem_of_getElem? (i := 16) rfl)) (hw _ (List.mem_of_getElem? (i := 2) rfl)) (by decide) (by decide)) q10a q10c (g := (mkF m 58 #[.val (.long q1), .second, .val (.long q2), .second, .val (.long q3), .second, .val (.ref b4), .val (.int (1 : Int32))] [(.long (q2 + (3 : Int64))), (.ref b4)])) rfl (by rw [hml]; rfl) (Steps.refl _) (argsL := [(.long (q2 + (3 : Int64)))]) (rest := []) (lenOf pd_0_1 rfl) rfl (by show 2 * 0 + _ ≤ _; exact Nat.le_of_eq rfl) (hb hby at_58) (fun _ _ => ⟨rfl, rfl, (by decide : 2 + 0 ≤ _), (by decide : 18 + 0 ≤ _)⟩)
  dsimp only [Pt.U, Pt.locs, Pt.cells, Pt.slots] at X10 l10 y10 z10 st10 hQ10
  subst l10 y10 z10
  obtain ⟨rfl, N10q, eq10⟩ := hQ10
  have N10 := Fr.app N9 N10q
  obtain ⟨LL10, X10, N10⟩ := own_pack X10 N10
  obtain ⟨K10, B10⟩ := eq10
  have Z10 : n0 ≤ T10.heap.size := Nat.le_trans Z9 K10.1
  obtain ⟨cq11, kq11, q11a, q11b, q11c⟩ := isOf hZ rfl B10.1
  obtain ⟨_, _, ⟨T11, L11, k11, n11⟩, -, X11, ⟨Lc11, hQ11, l11, y11, z11⟩, st11⟩ := X10.virtualBack hx (y := (⟨"com/example/crate2/crate2/LineNumbers", "add", "(J)V"⟩ : MethodName)) (z := (⟨"com/example/crate2/crate2/LineNumbers", "add", "(J)V"⟩ : MethodName)) hown (mvT hZ (hw _ (List.mem_of_getElem? (i := 12) rfl))) (mvT hZ (hw _ (List.mem_of_getElem? (i := 13) rfl))) (notFace_of_selects (args := #[]) (mvT hZ (hw _ (List.mem_of_getElem? (i := 15) rfl)))) (mvT hZ (hw _ (List.mem_of_getElem? (i := 15) rfl))) (mvT hZ (hw _ (List.mem_of_getElem? (i := 14) rfl))) (by decide) (backOf (W := 0) (rm3t l Z a0 hw [] b4 (q2 + (4 : Int64)) (4 : Int32) (5 : Int32) t5 kk5 (16 : Int32) (List.set (List.set (List.set (List.set z16 0 (.long q1)) 1 (.long (q2 + (1 : Int64)))) 2 (.long (q2 + (2 : Int64)))) 3 (.long (q2 + (3 : Int64)))) 4 T10.heap n0 Z10 B10 g_b4 g_t5 ⟨by decide, by decide⟩ (by decide) (by decide) (Nat.le_of_ble_eq_true rfl) (by decide)) hZ (hw _ (List.mem_of_getElem? (i := 16) rfl)) (hw _ (List.mem_of_getElem? (i := 2) rfl)) (by decide) (by decide)) q11a q11c (g := (mkF m 68 #[.val (.long q1), .second, .val (.long q2), .second, .val (.long q3), .second, .val (.ref b4), .val (.int (1 : Int32))] [(.long (q2 + (4 : Int64))), (.ref b4)])) rfl (by rw [hml]; rfl) (Steps.refl _) (argsL := [(.long (q2 + (4 : Int64)))]) (rest := []) (lenOf pd_0_1 rfl) rfl (by show 2 * 0 + _ ≤ _; exact Nat.le_of_eq rfl) (hb hby at_68) (fun _ _ => ⟨rfl, rfl, (by decide : 2 + 0 ≤ _), (by decide : 18 + 0 ≤ _)⟩)
  dsimp only [Pt.U, Pt.locs, Pt.cells, Pt.slots] at X11 l11 y11 z11 st11 hQ11
  subst l11 y11 z11
  obtain ⟨rfl, N11q, eq11⟩ := hQ11
  have N11 := Fr.app N10 N11q
  obtain ⟨LL11, X11, N11⟩ := own_pack X11 N11
  obtain ⟨K11, B11⟩ := eq11
  have Z11 : n0 ≤ T11.heap.size := Nat.le_trans Z10 K11.1
  obtain ⟨cq12, kq12, q12a, q12b, q12c⟩ := isOf hZ rfl B11.1
  obtain ⟨_, _, ⟨T12, L12, k12, n12⟩, -, X12, ⟨Lc12, hQ12, l12, y12, z12⟩, st12⟩ := X11.virtualBack hx (y := (⟨"com/example/crate2/crate2/LineNumbers", "add", "(J)V"⟩ : MethodName)) (z := (⟨"com/example/crate2/crate2/LineNumbers", "add", "(J)V"⟩ : MethodName)) hown (mvT hZ (hw _ (List.mem_of_getElem? (i := 12) rfl))) (mvT hZ (hw _ (List.mem_of_getElem? (i := 13) rfl))) (notFace_of_selects (args := #[]) (mvT hZ (hw _ (List.mem_of_getElem? (i := 15) rfl)))) (mvT hZ (hw _ (List.mem_of_getElem? (i := 15) rfl))) (mvT hZ (hw _ (List.mem_of_getElem? (i := 14) rfl))) (by decide) (backOf (W := 0) (rm3t l Z a0 hw [] b4 (q2 + (5 : Int64)) (5 : Int32) (6 : Int32) t5 kk5 (16 : Int32) (List.set (List.set (List.set (List.set (List.set z16 0 (.long q1)) 1 (.long (q2 + (1 : Int64)))) 2 (.long (q2 + (2 : Int64)))) 3 (.long (q2 + (3 : Int64)))) 4 (.long (q2 + (4 : Int64)))) 5 T11.heap n0 Z11 B11 g_b4 g_t5 ⟨by decide, by decide⟩ (by decide) (by decide) (Nat.le_of_ble_eq_true rfl) (by decide)) hZ (hw _ (List.mem_of_getElem? (i := 16) rfl)) (hw _ (List.mem_of_getElem? (i := 2) rfl)) (by decide) (by decide)) q12a q12c (g := (mkF m 78 #[.val (.long q1), .second, .val (.long q2), .second, .val (.long q3), .second, .val (.ref b4), .val (.int (1 : Int32))] [(.long (q2 + (5 : Int64))), (.ref b4)])) rfl (by rw [hml]; rfl) (Steps.refl _) (argsL := [(.long (q2 + (5 : Int64)))]) (rest := []) (lenOf pd_0_1 rfl) rfl (by show 2 * 0 + _ ≤ _; exact Nat.le_of_eq rfl) (hb hby at_78) (fun _ _ => ⟨rfl, rfl, (by decide : 2 + 0 ≤ _), (by decide : 18 + 0 ≤ _)⟩)
  dsimp only [Pt.U, Pt.locs, Pt.cells, Pt.slots] at X12 l12 y12 z12 st12 hQ12
  subst l12 y12 z12
  obtain ⟨rfl, N12q, eq12⟩ := hQ12
  have N12 := Fr.app N11 N12q
  obtain ⟨LL12, X12, N12⟩ := own_pack X12 N12
  obtain ⟨K12, B12⟩ := eq12
  have Z12 : n0 ≤ T12.heap.size := Nat.le_trans Z11 K12.1
  obtain ⟨cq13, kq13, q13a, q13b, q13c⟩ := isOf hZ rfl B12.1
  obtain ⟨_, _, ⟨T13, L13, k13, n13⟩, -, X13, ⟨Lc13, hQ13, l13, y13, z13⟩, st13⟩ := X12.virtualBack hx (y := (⟨"com/example/crate2/crate2/LineNumbers", "add", "(J)V"⟩ : MethodName)) (z := (⟨"com/example/crate2/crate2/LineNumbers", "add", "(J)V"⟩ : MethodName)) hown (mvT hZ (hw _ (List.mem_of_getElem? (i := 12) rfl))) (mvT hZ (hw _ (List.mem_of_getElem? (i := 13) rfl))) (notFace_of_selects (args := #[]) (mvT hZ (hw _ (List.mem_of_getElem? (i := 15) rfl)))) (mvT hZ (hw _ (List.mem_of_getElem? (i := 15) rfl))) (mvT hZ (hw _ (List.mem_of_getElem? (i := 14) rfl))) (by decide) (backOf (W := 0) (rm3t l Z a0 hw [] b4 (q2 + (6 : Int64)) (6 : Int32) (7 : Int32) t5 kk5 (16 : Int32) (List.set (List.set (List.set (List.set (List.set (List.set z16 0 (.long q1)) 1 (.long (q2 + (1 : Int64)))) 2 (.long (q2 + (2 : Int64)))) 3 (.long (q2 + (3 : Int64)))) 4 (.long (q2 + (4 : Int64)))) 5 (.long (q2 + (5 : Int64)))) 6 T12.heap n0 Z12 B12 g_b4 g_t5 ⟨by decide, by decide⟩ (by decide) (by decide) (Nat.le_of_ble_eq_true rfl) (by decide)) hZ (hw _ (List.mem_of_getElem? (i := 16) rfl)) (hw _ (List.mem_of_getElem? (i := 2) rfl)) (by decide) (by decide)) q13a q13c (g := (mkF m 88 #[.val (.long q1), .second, .val (.long q2), .second, .val (.long q3), .second, .val (.ref b4), .val (.int (1 : Int32))] [(.long (q2 + (6 : Int64))), (.ref b4)])) rfl (by rw [hml]; rfl) (Steps.refl _) (argsL := [(.long (q2 + (6 : Int64)))]) (rest := []) (lenOf pd_0_1 rfl) rfl (by show 2 * 0 + _ ≤ _; exact Nat.le_of_eq rfl) (hb hby at_88) (fun _ _ => ⟨rfl, rfl, (by decide : 2 + 0 ≤ _), (by decide : 18 + 0 ≤ _)⟩)
  dsimp only [Pt.U, Pt.locs, Pt.cells, Pt.slots] at X13 l13 y13 z13 st13 hQ13
  subst l13 y13 z13
  obtain ⟨rfl, N13q, eq13⟩ := hQ13
  have N13 := Fr.app N12 N13q
  obtain ⟨LL13, X13, N13⟩ := own_pack X13 N13
  obtain ⟨K13, B13⟩ := eq13
  have Z13 : n0 ≤ T13.heap.size := Nat.le_trans Z12 K13.1
  obtain ⟨cq14, kq14, q14a, q14b, q14c⟩ := isOf hZ rfl B13.1
  obtain ⟨_, _, ⟨T14, L14, k14, n14⟩, -, X14, ⟨Lc14, hQ14, l14, y14, z14⟩, st14⟩ := X13.virtualBack hx (y := (⟨"com/example/crate2/crate2/LineNumbers", "add", "(J)V"⟩ : MethodName)) (z := (⟨"com/example/crate2/crate2/LineNumbers", "add", "(J)V"⟩ : MethodName)) hown (mvT hZ (hw _ (List.mem_of_getElem? (i := 12) rfl))) (mvT hZ (hw _ (List.mem_of_getElem? (i := 13) rfl))) (notFace_of_selects (args := #[]) (mvT hZ (hw _ (List.mem_of_getElem? (i := 15) rfl)))) (mvT hZ (hw _ (List.mem_of_getElem? (i := 15) rfl))) (mvT hZ (hw _ (List.mem_of_getElem? (i := 14) rfl))) (by decide) (backOf (W := 0) (rm3t l Z a0 hw [] b4 (q2 + (7 : Int64)) (7 : Int32) (8 : Int32) t5 kk5 (16 : Int32) (List.set (List.set (List.set (List.set (List.set (List.set (List.set z16 0 (.long q1)) 1 (.long (q2 + (1 : Int64)))) 2 (.long (q2 + (2 : Int64)))) 3 (.long (q2 + (3 : Int64)))) 4 (.long (q2 + (4 : Int64)))) 5 (.long (q2 + (5 : Int64)))) 6 (.long (q2 + (6 : Int64)))) 7 T13.heap n0 Z13 B13 g_b4 g_t5 ⟨by decide, by decide⟩ (by decide) (by decide) (Nat.le_of_ble_eq_true rfl) (by decide)) hZ (hw _ (List.mem_of_getElem? (i := 16) rfl)) (hw _ (List.mem_of_getElem? (i := 2) rfl)) (by decide) (by decide)) q14a q14c (g := (mkF m 98 #[.val (.long q1), .second, .val (.long q2), .second, .val (.long q3), .second, .val (.ref b4), .val (.int (1 : Int32))] [(.long (q2 + (7 : Int64))), (.ref b4)])) rfl (by rw [hml]; rfl) (Steps.refl _) (argsL := [(.long (q2 + (7 : Int64)))]) (rest := []) (lenOf pd_0_1 rfl) rfl (by show 2 * 0 + _ ≤ _; exact Nat.le_of_eq rfl) (hb hby at_98) (fun _ _ => ⟨rfl, rfl, (by decide : 2 + 0 ≤ _), (by decide : 18 + 0 ≤ _)⟩)
  dsimp only [Pt.U, Pt.locs, Pt.cells, Pt.slots] at X14 l14 y14 z14 st14 hQ14
  subst l14 y14 z14
  obtain ⟨rfl, N14q, eq14⟩ := hQ14
  have N14 := Fr.app N13 N14q
  obtain ⟨LL14, X14, N14⟩ := own_pack X14 N14
  obtain ⟨K14, B14⟩ := eq14
  have Z14 : n0 ≤ T14.heap.size := Nat.le_trans Z13 K14.1
  obtain ⟨cq15, kq15, q15a, q15b, q15c⟩ := isOf hZ rfl B14.1
  obtain ⟨_, _, ⟨T15, L15, k15, n15⟩, -, X15, ⟨Lc15, hQ15, l15, y15, z15⟩, st15⟩ := X14.virtualBack hx (y := (⟨"com/example/crate2/crate2/LineNumbers", "add", "(J)V"⟩ : MethodName)) (z := (⟨"com/example/crate2/crate2/LineNumbers", "add", "(J)V"⟩ : MethodName)) hown (mvT hZ (hw _ (List.mem_of_getElem? (i := 12) rfl))) (mvT hZ (hw _ (List.mem_of_getElem? (i := 13) rfl))) (notFace_of_selects (args := #[]) (mvT hZ (hw _ (List.mem_of_getElem? (i := 15) rfl)))) (mvT hZ (hw _ (List.mem_of_getElem? (i := 15) rfl))) (mvT hZ (hw _ (List.mem_of_getElem? (i := 14) rfl))) (by decide) (backOf (W := 0) (rm3t l Z a0 hw [] b4 (q2 + (8 : Int64)) (8 : Int32) (9 : Int32) t5 kk5 (16 : Int32) (List.set (List.set (List.set (List.set (List.set (List.set (List.set (List.set z16 0 (.long q1)) 1 (.long (q2 + (1 : Int64)))) 2 (.long (q2 + (2 : Int64)))) 3 (.long (q2 + (3 : Int64)))) 4 (.long (q2 + (4 : Int64)))) 5 (.long (q2 + (5 : Int64)))) 6 (.long (q2 + (6 : Int64)))) 7 (.long (q2 + (7 : Int64)))) 8 T14.heap n0 Z14 B14 g_b4 g_t5 ⟨by decide, by decide⟩ (by decide) (by decide) (Nat.le_of_ble_eq_true rfl) (by decide)) hZ (hw _ (List.mem_of_getElem? (i := 16) rfl)) (hw _ (List.mem_of_getElem? (i := 2) rfl)) (by decide) (by decide)) q15a q15c (g := (mkF m 108 #[.val (.long q1), .second, .val (.long q2), .second, .val (.long q3), .second, .val (.ref b4), .val (.int (1 : Int32))] [(.long (q2 + (8 : Int64))), (.ref b4)])) rfl (by rw [hml]; rfl) (Steps.refl _) (argsL := [(.long (q2 + (8 : Int64)))]) (rest := []) (lenOf pd_0_1 rfl) rfl (by show 2 * 0 + _ ≤ _; exact Nat.le_of_eq rfl) (hb hby at_108) (fun _ _ => ⟨rfl, rfl, (by decide : 2 + 0 ≤ _), (by decide : 18 + 0 ≤ _)⟩)
  dsimp only [Pt.U, Pt.locs, Pt.cells, Pt.slots] at X15 l15 y15 z15 st15 hQ15
  subst l15 y15 z15
  obtain ⟨rfl, N15q, eq15⟩ := hQ15
  have N15 := Fr.app N14 N15q
  obtain ⟨LL15, X15, N15⟩ := own_pack X15 N15
  obtain ⟨K15, B15⟩ := eq15
  have Z15 : n0 ≤ T15.heap.size := Nat.le_trans Z14 K15.1
  obtain ⟨cq16, kq16, q16a, q16b, q16c⟩ := isOf hZ rfl B15.1
  obtain ⟨_, _, ⟨T16, L16, k16, n16⟩, -, X16, ⟨Lc16, hQ16, l16, y16, z16⟩, st16⟩ := X15.virtualBack hx (y := (⟨"com/example/crate2/crate2/LineNumbers", "add", "(J)V"⟩ : MethodName)) (z := (⟨"com/example/crate2/crate2/LineNumbers", "add", "(J)V"⟩ : MethodName)) hown (mvT hZ (hw _ (List.mem_of_getElem? (i := 12) rfl))) (mvT hZ (hw _ (List.mem_of_getElem? (i := 13) rfl))) (notFace_of_selects (args := #[]) (mvT hZ (hw _ (List.mem_of_getElem? (i := 15) rfl)))) (mvT hZ (hw _ (List.mem_of_getElem? (i := 15) rfl))) (mvT hZ (hw _ (List.mem_of_getElem? (i := 14) rfl))) (by decide) (backOf (W := 0) (rm3t l Z a0 hw [] b4 (q2 + (9 : Int64)) (9 : Int32) (10 : Int32) t5 kk5 (16 : Int32) (List.set (List.set (List.set (List.set (List.set (List.set (List.set (List.set (List.set z16 0 (.long q1)) 1 (.long (q2 + (1 : Int64)))) 2 (.long (q2 + (2 : Int64)))) 3 (.long (q2 + (3 : Int64)))) 4 (.long (q2 + (4 : Int64)))) 5 (.long (q2 + (5 : Int64)))) 6 (.long (q2 + (6 : Int64)))) 7 (.long (q2 + (7 : Int64)))) 8 (.long (q2 + (8 : Int64)))) 9 T15.heap n0 Z15 B15 g_b4 g_t5 ⟨by decide, by decide⟩ (by decide) (by decide) (Nat.le_of_ble_eq_true rfl) (by decide)) hZ (hw _ (List.mem_of_getElem? (i := 16) rfl)) (hw _ (List.mem_of_getElem? (i := 2) rfl)) (by decide) (by decide)) q16a q16c (g := (mkF m 118 #[.val (.long q1), .second, .val (.long q2), .second, .val (.long q3), .second, .val (.ref b4), .val (.int (1 : Int32))] [(.long (q2 + (9 : Int64))), (.ref b4)])) rfl (by rw [hml]; rfl) (Steps.refl _) (argsL := [(.long (q2 + (9 : Int64)))]) (rest := []) (lenOf pd_0_1 rfl) rfl (by show 2 * 0 + _ ≤ _; exact Nat.le_of_eq rfl) (hb hby at_118) (fun _ _ => ⟨rfl, rfl, (by decide : 2 + 0 ≤ _), (by decide : 18 + 0 ≤ _)⟩)
  dsimp only [Pt.U, Pt.locs, Pt.cells, Pt.slots] at X16 l16 y16 z16 st16 hQ16
  subst l16 y16 z16
  obtain ⟨rfl, N16q, eq16⟩ := hQ16
  have N16 := Fr.app N15 N16q
  obtain ⟨LL16, X16, N16⟩ := own_pack X16 N16
  obtain ⟨K16, B16⟩ := eq16
  have Z16 : n0 ≤ T16.heap.size := Nat.le_trans Z15 K16.1
  obtain ⟨cq17, kq17, q17a, q17b, q17c⟩ := isOf hZ rfl B16.1
  obtain ⟨_, _, ⟨T17, L17, k17, n17⟩, -, X17, ⟨Lc17, hQ17, l17, y17, z17⟩, st17⟩ := X16.virtualBack hx (y := (⟨"com/example/crate2/crate2/LineNumbers", "add", "(J)V"⟩ : MethodName)) (z := (⟨"com/example/crate2/crate2/LineNumbers", "add", "(J)V"⟩ : MethodName)) hown (mvT hZ (hw _ (List.mem_of_getElem? (i := 12) rfl))) (mvT hZ (hw _ (List.mem_of_getElem? (i := 13) rfl))) (notFace_of_selects (args := #[]) (mvT hZ (hw _ (List.mem_of_getElem? (i := 15) rfl)))) (mvT hZ (hw _ (List.mem_of_getElem? (i := 15) rfl))) (mvT hZ (hw _ (List.mem_of_getElem? (i := 14) rfl))) (by decide) (backOf (W := 0) (rm3t l Z a0 hw [] b4 (q2 + (10 : Int64)) (10 : Int32) (11 : Int32) t5 kk5 (16 : Int32) (List.set (List.set (List.set (List.set (List.set (List.set (List.set (List.set (List.set (List.set z16 0 (.long q1)) 1 (.long (q2 + (1 : Int64)))) 2 (.long (q2 + (2 : Int64)))) 3 (.long (q2 + (3 : Int64)))) 4 (.long (q2 + (4 : Int64)))) 5 (.long (q2 + (5 : Int64)))) 6 (.long (q2 + (6 : Int64)))) 7 (.long (q2 + (7 : Int64)))) 8 (.long (q2 + (8 : Int64)))) 9 (.long (q2 + (9 : Int64)))) 10 T16.heap n0 Z16 B16 g_b4 g_t5 ⟨by decide, by decide⟩ (by decide) (by decide) (Nat.le_of_ble_eq_true rfl) (by decide)) hZ (hw _ (List.mem_of_getElem? (i := 16) rfl)) (hw _ (List.mem_of_getElem? (i := 2) rfl)) (by decide) (by decide)) q17a q17c (g := (mkF m 128 #[.val (.long q1), .second, .val (.long q2), .second, .val (.long q3), .second, .val (.ref b4), .val (.int (1 : Int32))] [(.long (q2 + (10 : Int64))), (.ref b4)])) rfl (by rw [hml]; rfl) (Steps.refl _) (argsL := [(.long (q2 + (10 : Int64)))]) (rest := []) (lenOf pd_0_1 rfl) rfl (by show 2 * 0 + _ ≤ _; exact Nat.le_of_eq rfl) (hb hby at_128) (fun _ _ => ⟨rfl, rfl, (by decide : 2 + 0 ≤ _), (by decide : 18 + 0 ≤ _)⟩)
  dsimp only [Pt.U, Pt.locs, Pt.cells, Pt.slots] at X17 l17 y17 z17 st17 hQ17
  subst l17 y17 z17
  obtain ⟨rfl, N17q, eq17⟩ := hQ17
  have N17 := Fr.app N16 N17q
  obtain ⟨LL17, X17, N17⟩ := own_pack X17 N17
  obtain ⟨K17, B17⟩ := eq17
  have Z17 : n0 ≤ T17.heap.size := Nat.le_trans Z16 K17.1
  obtain ⟨cq18, kq18, q18a, q18b, q18c⟩ := isOf hZ rfl B17.1
  obtain ⟨_, _, ⟨T18, L18, k18, n18⟩, -, X18, ⟨Lc18, hQ18, l18, y18, z18⟩, st18⟩ := X17.virtualBack hx (y := (⟨"com/example/crate2/crate2/LineNumbers", "add", "(J)V"⟩ : MethodName)) (z := (⟨"com/example/crate2/crate2/LineNumbers", "add", "(J)V"⟩ : MethodName)) hown (mvT hZ (hw _ (List.mem_of_getElem? (i := 12) rfl))) (mvT hZ (hw _ (List.mem_of_getElem? (i := 13) rfl))) (notFace_of_selects (args := #[]) (mvT hZ (hw _ (List.mem_of_getElem? (i := 15) rfl)))) (mvT hZ (hw _ (List.mem_of_getElem? (i := 15) rfl))) (mvT hZ (hw _ (List.mem_of_getElem? (i := 14) rfl))) (by decide) (backOf (W := 0) (rm3t l Z a0 hw [] b4 (q2 + (11 : Int64)) (11 : Int32) (12 : Int32) t5 kk5 (16 : Int32) (List.set (List.set (List.set (List.set (List.set (List.set (List.set (List.set (List.set (List.set (List.set z16 0 (.long q1)) 1 (.long (q2 + (1 : Int64)))) 2 (.long (q2 + (2 : Int64)))) 3 (.long (q2 + (3 : Int64)))) 4 (.long (q2 + (4 : Int64)))) 5 (.long (q2 + (5 : Int64)))) 6 (.long (q2 + (6 : Int64)))) 7 (.long (q2 + (7 : Int64)))) 8 (.long (q2 + (8 : Int64)))) 9 (.long (q2 + (9 : Int64)))) 10 (.long (q2 + (10 : Int64)))) 11 T17.heap n0 Z17 B17 g_b4 g_t5 ⟨by decide, by decide⟩ (by decide) (by decide) (Nat.le_of_ble_eq_true rfl) (by decide)) hZ (hw _ (List.mem_of_getElem? (i := 16) rfl)) (hw _ (List.mem_of_getElem? (i := 2) rfl)) (by decide) (by decide)) q18a q18c (g := (mkF m 138 #[.val (.long q1), .second, .val (.long q2), .second, .val (.long q3), .second, .val (.ref b4), .val (.int (1 : Int32))] [(.long (q2 + (11 : Int64))), (.ref b4)])) rfl (by rw [hml]; rfl) (Steps.refl _) (argsL := [(.long (q2 + (11 : Int64)))]) (rest := []) (lenOf pd_0_1 rfl) rfl (by show 2 * 0 + _ ≤ _; exact Nat.le_of_eq rfl) (hb hby at_138) (fun _ _ => ⟨rfl, rfl, (by decide : 2 + 0 ≤ _), (by decide : 18 + 0 ≤ _)⟩)
  dsimp only [Pt.U, Pt.locs, Pt.cells, Pt.slots] at X18 l18 y18 z18 st18 hQ18
  subst l18 y18 z18
  obtain ⟨rfl, N18q, eq18⟩ := hQ18
  have N18 := Fr.app N17 N18q
  obtain ⟨LL18, X18, N18⟩ := own_pack X18 N18
  obtain ⟨K18, B18⟩ := eq18
  have Z18 : n0 ≤ T18.heap.size := Nat.le_trans Z17 K18.1
  obtain ⟨cq19, kq19, q19a, q19b, q19c⟩ := isOf hZ rfl B18.1
  obtain ⟨_, _, ⟨T19, L19, k19, n19⟩, -, X19, ⟨Lc19, hQ19, l19, y19, z19⟩, st19⟩ := X18.virtualBack hx (y := (⟨"com/example/crate2/crate2/LineNumbers", "add", "(J)V"⟩ : MethodName)) (z := (⟨"com/example/crate2/crate2/LineNumbers", "add", "(J)V"⟩ : MethodName)) hown (mvT hZ (hw _ (List.mem_of_getElem? (i := 12) rfl))) (mvT hZ (hw _ (List.mem_of_getElem? (i := 13) rfl))) (notFace_of_selects (args := #[]) (mvT hZ (hw _ (List.mem_of_getElem? (i := 15) rfl)))) (mvT hZ (hw _ (List.mem_of_getElem? (i := 15) rfl))) (mvT hZ (hw _ (List.mem_of_getElem? (i := 14) rfl))) (by decide) (backOf (W := 0) (rm3t l Z a0 hw [] b4 (q2 + (12 : Int64)) (12 : Int32) (13 : Int32) t5 kk5 (16 : Int32) (List.set (List.set (List.set (List.set (List.set (List.set (List.set (List.set (List.set (List.set (List.set (List.set z16 0 (.long q1)) 1 (.long (q2 + (1 : Int64)))) 2 (.long (q2 + (2 : Int64)))) 3 (.long (q2 + (3 : Int64)))) 4 (.long (q2 + (4 : Int64)))) 5 (.long (q2 + (5 : Int64)))) 6 (.long (q2 + (6 : Int64)))) 7 (.long (q2 + (7 : Int64)))) 8 (.long (q2 + (8 : Int64)))) 9 (.long (q2 + (9 : Int64)))) 10 (.long (q2 + (10 : Int64)))) 11 (.long (q2 + (11 : Int64)))) 12 T18.heap n0 Z18 B18 g_b4 g_t5 ⟨by decide, by decide⟩ (by decide) (by decide) (Nat.le_of_ble_eq_true rfl) (by decide)) hZ (hw _ (List.mem_of_getElem? (i := 16) rfl)) (hw _ (List.mem_of_getElem? (i := 2) rfl)) (by decide) (by decide)) q19a q19c (g := (mkF m 148 #[.val (.long q1), .second, .val (.long q2), .second, .val (.long q3), .second, .val (.ref b4), .val (.int (1 : Int32))] [(.long (q2 + (12 : Int64))), (.ref b4)])) rfl (by rw [hml]; rfl) (Steps.refl _) (argsL := [(.long (q2 + (12 : Int64)))]) (rest := []) (lenOf pd_0_1 rfl) rfl (by show 2 * 0 + _ ≤ _; exact Nat.le_of_eq rfl) (hb hby at_148) (fun _ _ => ⟨rfl, rfl, (by decide : 2 + 0 ≤ _), (by decide : 18 + 0 ≤ _)⟩)
  dsimp only [Pt.U, Pt.locs, Pt.cells, Pt.slots] at X19 l19 y19 z19 st19 hQ19
  subst l19 y19 z19
  obtain ⟨rfl, N19q, eq19⟩ := hQ19
  have N19 := Fr.app N18 N19q
  obtain ⟨LL19, X19, N19⟩ := own_pack X19 N19
  obtain ⟨K19, B19⟩ := eq19
  have Z19 : n0 ≤ T19.heap.size := Nat.le_trans Z18 K19.1
  obtain ⟨cq20, kq20, q20a, q20b, q20c⟩ := isOf hZ rfl B19.1
  obtain ⟨_, _, ⟨T20, L20, k20, n20⟩, -, X20, ⟨Lc20, hQ20, l20, y20, z20⟩, st20⟩ := X19.virtualBack hx (y := (⟨"com/example/crate2/crate2/LineNumbers", "add", "(J)V"⟩ : MethodName)) (z := (⟨"com/example/crate2/crate2/LineNumbers", "add", "(J)V"⟩ : MethodName)) hown (mvT hZ (hw _ (List.mem_of_getElem? (i := 12) rfl))) (mvT hZ (hw _ (List.mem_of_getElem? (i := 13) rfl))) (notFace_of_selects (args := #[]) (mvT hZ (hw _ (List.mem_of_getElem? (i := 15) rfl)))) (mvT hZ (hw _ (List.mem_of_getElem? (i := 15) rfl))) (mvT hZ (hw _ (List.mem_of_getElem? (i := 14) rfl))) (by decide) (backOf (W := 0) (rm3t l Z a0 hw [] b4 (q2 + (13 : Int64)) (13 : Int32) (14 : Int32) t5 kk5 (16 : Int32) (List.set (List.set (List.set (List.set (List.set (List.set (List.set (List.set (List.set (List.set (List.set (List.set (List.set z16 0 (.long q1)) 1 (.long (q2 + (1 : Int64)))) 2 (.long (q2 + (2 : Int64)))) 3 (.long (q2 + (3 : Int64)))) 4 (.long (q2 + (4 : Int64)))) 5 (.long (q2 + (5 : Int64)))) 6 (.long (q2 + (6 : Int64)))) 7 (.long (q2 + (7 : Int64)))) 8 (.long (q2 + (8 : Int64)))) 9 (.long (q2 + (9 : Int64)))) 10 (.long (q2 + (10 : Int64)))) 11 (.long (q2 + (11 : Int64)))) 12 (.long (q2 + (12 : Int64)))) 13 T19.heap n0 Z19 B19 g_b4 g_t5 ⟨by decide, by decide⟩ (by decide) (by decide) (Nat.le_of_ble_eq_true rfl) (by decide)) hZ (hw _ (List.mem_of_getElem? (i := 16) rfl)) (hw _ (List.mem_of_getElem? (i := 2) rfl)) (by decide) (by decide)) q20a q20c (g := (mkF m 158 #[.val (.long q1), .second, .val (.long q2), .second, .val (.long q3), .second, .val (.ref b4), .val (.int (1 : Int32))] [(.long (q2 + (13 : Int64))), (.ref b4)])) rfl (by rw [hml]; rfl) (Steps.refl _) (argsL := [(.long (q2 + (13 : Int64)))]) (rest := []) (lenOf pd_0_1 rfl) rfl (by show 2 * 0 + _ ≤ _; exact Nat.le_of_eq rfl) (hb hby at_158) (fun _ _ => ⟨rfl, rfl, (by decide : 2 + 0 ≤ _), (by decide : 18 + 0 ≤ _)⟩)
  dsimp only [Pt.U, Pt.locs, Pt.cells, Pt.slots] at X20 l20 y20 z20 st20 hQ20
  subst l20 y20 z20
  obtain ⟨rfl, N20q, eq20⟩ := hQ20
  have N20 := Fr.app N19 N20q
  obtain ⟨LL20, X20, N20⟩ := own_pack X20 N20
  obtain ⟨K20, B20⟩ := eq20
  have Z20 : n0 ≤ T20.heap.size := Nat.le_trans Z19 K20.1
  obtain ⟨cq21, kq21, q21a, q21b, q21c⟩ := isOf hZ rfl B20.1
  obtain ⟨_, _, ⟨T21, L21, k21, n21⟩, -, X21, ⟨Lc21, hQ21, l21, y21, z21⟩, st21⟩ := X20.virtualBack hx (y := (⟨"com/example/crate2/crate2/LineNumbers", "add", "(J)V"⟩ : MethodName)) (z := (⟨"com/example/crate2/crate2/LineNumbers", "add", "(J)V"⟩ : MethodName)) hown (mvT hZ (hw _ (List.mem_of_getElem? (i := 12) rfl))) (mvT hZ (hw _ (List.mem_of_getElem? (i := 13) rfl))) (notFace_of_selects (args := #[]) (mvT hZ (hw _ (List.mem_of_getElem? (i := 15) rfl)))) (mvT hZ (hw _ (List.mem_of_getElem? (i := 15) rfl))) (mvT hZ (hw _ (List.mem_of_getElem? (i := 14) rfl))) (by decide) (backOf (W := 0) (rm3t l Z a0 hw [] b4 (q2 + (14 : Int64)) (14 : Int32) (15 : Int32) t5 kk5 (16 : Int32) (List.set (List.set (List.set (List.set (List.set (List.set (List.set (List.set (List.set (List.set (List.set (List.set (List.set (List.set z16 0 (.long q1)) 1 (.long (q2 + (1 : Int64)))) 2 (.long (q2 + (2 : Int64)))) 3 (.long (q2 + (3 : Int64)))) 4 (.long (q2 + (4 : Int64)))) 5 (.long (q2 + (5 : Int64)))) 6 (.long (q2 + (6 : Int64)))) 7 (.long (q2 + (7 : Int64)))) 8 (.long (q2 + (8 : Int64)))) 9 (.long (q2 + (9 : Int64)))) 10 (.long (q2 + (10 : Int64)))) 11 (.long (q2 + (11 : Int64)))) 12 (.long (q2 + (12 : Int64)))) 13 (.long (q2 + (13 : Int64)))) 14 T20.heap n0 Z20 B20 g_b4 g_t5 ⟨by decide, by decide⟩ (by decide) (by decide) (Nat.le_of_ble_eq_true rfl) (by decide)) hZ (hw _ (List.mem_of_getElem? (i := 16) rfl)) (hw _ (List.mem_of_getElem? (i := 2) rfl)) (by decide) (by decide)) q21a q21c (g := (mkF m 168 #[.val (.long q1), .second, .val (.long q2), .second, .val (.long q3), .second, .val (.ref b4), .val (.int (1 : Int32))] [(.long (q2 + (14 : Int64))), (.ref b4)])) rfl (by rw [hml]; rfl) (Steps.refl _) (argsL := [(.long (q2 + (14 : Int64)))]) (rest := []) (lenOf pd_0_1 rfl) rfl (by show 2 * 0 + _ ≤ _; exact Nat.le_of_eq rfl) (hb hby at_168) (fun _ _ => ⟨rfl, rfl, (by decide : 2 + 0 ≤ _), (by decide : 18 + 0 ≤ _)⟩)
  dsimp only [Pt.U, Pt.locs, Pt.cells, Pt.slots] at X21 l21 y21 z21 st21 hQ21
  subst l21 y21 z21
  obtain ⟨rfl, N21q, eq21⟩ := hQ21
  have N21 := Fr.app N20 N21q
  obtain ⟨LL21, X21, N21⟩ := own_pack X21 N21
  obtain ⟨K21, B21⟩ := eq21
  have Z21 : n0 ≤ T21.heap.size := Nat.le_trans Z20 K21.1
  obtain ⟨cq22, kq22, q22a, q22b, q22c⟩ := isOf hZ rfl B21.1
  obtain ⟨_, _, ⟨T22, L22, k22, n22⟩, -, X22, ⟨Lc22, hQ22, l22, y22, z22⟩, st22⟩ := X21.virtualBack hx (y := (⟨"com/example/crate2/crate2/LineNumbers", "add", "(J)V"⟩ : MethodName)) (z := (⟨"com/example/crate2/crate2/LineNumbers", "add", "(J)V"⟩ : MethodName)) hown (mvT hZ (hw _ (List.mem_of_getElem? (i := 12) rfl))) (mvT hZ (hw _ (List.mem_of_getElem? (i := 13) rfl))) (notFace_of_selects (args := #[]) (mvT hZ (hw _ (List.mem_of_getElem? (i := 15) rfl)))) (mvT hZ (hw _ (List.mem_of_getElem? (i := 15) rfl))) (mvT hZ (hw _ (List.mem_of_getElem? (i := 14) rfl))) (by decide) (backOf (W := 0) (rm3t l Z a0 hw [] b4 (q2 + (15 : Int64)) (15 : Int32) (16 : Int32) t5 kk5 (16 : Int32) (List.set (List.set (List.set (List.set (List.set (List.set (List.set (List.set (List.set (List.set (List.set (List.set (List.set (List.set (List.set z16 0 (.long q1)) 1 (.long (q2 + (1 : Int64)))) 2 (.long (q2 + (2 : Int64)))) 3 (.long (q2 + (3 : Int64)))) 4 (.long (q2 + (4 : Int64)))) 5 (.long (q2 + (5 : Int64)))) 6 (.long (q2 + (6 : Int64)))) 7 (.long (q2 + (7 : Int64)))) 8 (.long (q2 + (8 : Int64)))) 9 (.long (q2 + (9 : Int64)))) 10 (.long (q2 + (10 : Int64)))) 11 (.long (q2 + (11 : Int64)))) 12 (.long (q2 + (12 : Int64)))) 13 (.long (q2 + (13 : Int64)))) 14 (.long (q2 + (14 : Int64)))) 15 T21.heap n0 Z21 B21 g_b4 g_t5 ⟨by decide, by decide⟩ (by decide) (by decide) (Nat.le_of_ble_eq_true rfl) (by decide)) hZ (hw _ (List.mem_of_getElem? (i := 16) rfl)) (hw _ (List.mem_of_getElem? (i := 2) rfl)) (by decide) (by decide)) q22a q22c (g := (mkF m 178 #[.val (.long q1), .second, .val (.long q2), .second, .val (.long q3), .second, .val (.ref b4), .val (.int (1 : Int32))] [(.long (q2 + (15 : Int64))), (.ref b4)])) rfl (by rw [hml]; rfl) (Steps.refl _) (argsL := [(.long (q2 + (15 : Int64)))]) (rest := []) (lenOf pd_0_1 rfl) rfl (by show 2 * 0 + _ ≤ _; exact Nat.le_of_eq rfl) (hb hby at_178) (fun _ _ => ⟨rfl, rfl, (by decide : 2 + 0 ≤ _), (by decide : 18 + 0 ≤ _)⟩)
  dsimp only [Pt.U, Pt.locs, Pt.cells, Pt.slots] at X22 l22 y22 z22 st22 hQ22
  subst l22 y22 z22
  obtain ⟨rfl, N22q, eq22⟩ := hQ22
  have N22 := Fr.app N21 N22q
  obtain ⟨LL22, X22, N22⟩ := own_pack X22 N22
  obtain ⟨K22, B22⟩ := eq22
  have Z22 : n0 ≤ T22.heap.size := Nat.le_trans Z21 K22.1
  obtain ⟨cq23, kq23, q23a, q23b, q23c⟩ := isOf hZ rfl B22.1
  obtain ⟨_, _, ⟨T23, L23, k23, n23⟩, -, X23, ⟨Lc23, hQ23, l23, y23, z23⟩, st23⟩ := X22.virtualBack hx (y := (⟨"com/example/crate2/crate2/LineNumbers", "add", "(J)V"⟩ : MethodName)) (z := (⟨"com/example/crate2/crate2/LineNumbers", "add", "(J)V"⟩ : MethodName)) hown (mvT hZ (hw _ (List.mem_of_getElem? (i := 12) rfl))) (mvT hZ (hw _ (List.mem_of_getElem? (i := 13) rfl))) (notFace_of_selects (args := #[]) (mvT hZ (hw _ (List.mem_of_getElem? (i := 15) rfl)))) (mvT hZ (hw _ (List.mem_of_getElem? (i := 15) rfl))) (mvT hZ (hw _ (List.mem_of_getElem? (i := 14) rfl))) (by decide) (backOf (W := 0) (rm3f l Z a0 hw [] b4 q3 t5 kk5 (List.set (List.set (List.set (List.set (List.set (List.set (List.set (List.set (List.set (List.set (List.set (List.set (List.set (List.set (List.set (List.set z16 0 (.long q1)) 1 (.long (q2 + (1 : Int64)))) 2 (.long (q2 + (2 : Int64)))) 3 (.long (q2 + (3 : Int64)))) 4 (.long (q2 + (4 : Int64)))) 5 (.long (q2 + (5 : Int64)))) 6 (.long (q2 + (6 : Int64)))) 7 (.long (q2 + (7 : Int64)))) 8 (.long (q2 + (8 : Int64)))) 9 (.long (q2 + (9 : Int64)))) 10 (.long (q2 + (10 : Int64)))) 11 (.long (q2 + (11 : Int64)))) 12 (.long (q2 + (12 : Int64)))) 13 (.long (q2 + (13 : Int64)))) 14 (.long (q2 + (14 : Int64)))) 15 (.long (q2 + (15 : Int64)))) T22.heap n0 Z22 B22 g_b4) hZ (hw _ (List.mem_of_getElem? (i := 16) rfl)) (hw _ (List.mem_of_getElem? (i := 2) rfl)) (by decide) (by decide)) q23a q23c (g := (mkF m 185 #[.val (.long q1), .second, .val (.long q2), .second, .val (.long q3), .second, .val (.ref b4), .val (.int (1 : Int32))] [(.long q3), (.ref b4)])) rfl (by rw [hml]; rfl) (Steps.refl _) (argsL := [(.long q3)]) (rest := []) (lenOf pd_0_1 rfl) rfl (by show 2 * 0 + _ ≤ _; exact Nat.le_of_eq rfl) (hb hby at_185) (fun _ _ => ⟨rfl, rfl, (by decide : 2 + 1 ≤ _), (by decide : 18 + 32 ≤ _)⟩)
  dsimp only [Pt.U, Pt.locs, Pt.cells, Pt.slots] at X23 l23 y23 z23 st23 hQ23
  subst l23 y23 z23
  obtain ⟨rfl, N23q, eq23⟩ := hQ23
  have N23 := Fr.app N22 N23q
  obtain ⟨LL23, X23, N23⟩ := own_pack X23 N23
  obtain ⟨t23, kk23, gt23, K23, B23⟩ := eq23
  have Z23 : n0 ≤ T23.heap.size := Nat.le_trans Z22 K23.1
  obtain ⟨cq24, kq24, q24a, q24b, q24c⟩ := isOf hZ rfl B23.1
  obtain ⟨_, _, ⟨T24, L24, k24, n24⟩, -, X24, ⟨Lc24, hQ24, l24, y24, z24⟩, st24⟩ := X23.virtualBack hx (y := (⟨"com/example/crate2/crate2/LineNumbers", "get", "(I)J"⟩ : MethodName)) (z := (⟨"com/example/crate2/crate2/LineNumbers", "get", "(I)J"⟩ : MethodName)) hown (mvT hZ (hw _ (List.mem_of_getElem? (i := 19) rfl))) (mvT hZ (hw _ (List.mem_of_getElem? (i := 20) rfl))) (notFace_of_selects (args := #[]) (mvT hZ (hw _ (List.mem_of_getElem? (i := 22) rfl)))) (mvT hZ (hw _ (List.mem_of_getElem? (i := 22) rfl))) (mvT hZ (hw _ (List.mem_of_getElem? (i := 21) rfl))) (by decide) (backOf (W := 0) (rm4 l Z a0 hw [] b4 (0 : Int32) (17 : Int32) t23 q1 kk23 (32 : Int32) (List.set (cp16 (List.set (List.set (List.set (List.set (List.set (List.set (List.set (List.set (List.set (List.set (List.set (List.set (List.set (List.set (List.set (List.set z16 0 (.long q1)) 1 (.long (q2 + (1 : Int64)))) 2 (.long (q2 + (2 : Int64)))) 3 (.long (q2 + (3 : Int64)))) 4 (.long (q2 + (4 : Int64)))) 5 (.long (q2 + (5 : Int64)))) 6 (.long (q2 + (6 : Int64)))) 7 (.long (q2 + (7 : Int64)))) 8 (.long (q2 + (8 : Int64)))) 9 (.long (q2 + (9 : Int64)))) 10 (.long (q2 + (10 : Int64)))) 11 (.long (q2 + (11 : Int64)))) 12 (.long (q2 + (12 : Int64)))) 13 (.long (q2 + (13 : Int64)))) 14 (.long (q2 + (14 : Int64)))) 15 (.long (q2 + (15 : Int64))))) 16 (.long q3)) 0 T23.heap n0 Z23 B23 ⟨by decide, by decide⟩ (by decide) rfl (by decide) (by decide)) hZ (hw _ (List.mem_of_getElem? (i := 23) rfl)) (hw _ (List.mem_of_getElem? (i := 2) rfl)) (by decide) (by decide)) q24a q24c (g := (mkF m 196 #[.val (.long q1), .second, .val (.long q2), .second, .val (.long q3), .second, .val (.ref b4), .val (.int (1 : Int32))] [(.int (0 : Int32)), (.ref b4)])) rfl (by rw [hml]; rfl) (Steps.refl _) (argsL := [(.int (0 : Int32))]) (rest := []) (lenOf pd_0_2 rfl) rfl (by show 2 * 0 + _ ≤ _; exact Nat.le_of_eq rfl) (hb hby at_196) (fun _ _ => ⟨rfl, rfl, (by decide : 3 + 0 ≤ _), (by decide : 50 + 0 ≤ _)⟩)
  dsimp only [Pt.U, Pt.locs, Pt.cells, Pt.slots] at X24 l24 y24 z24 st24 hQ24
  subst l24 y24 z24
  obtain ⟨rfl, N24q, eq24⟩ := hQ24
  have N24 := Fr.app N23 N24q
  obtain ⟨LL24, X24, N24⟩ := own_pack X24 N24
  have B24 : LN Z T24.heap b4 t23 kk23 (32 : Int32) (List.set (cp16 (List.set (List.set (List.set (List.set (List.set (List.set (List.set (List.set (List.set (List.set (List.set (List.set (List.set (List.set (List.set (List.set z16 0 (.long q1)) 1 (.long (q2 + (1 : Int64)))) 2 (.long (q2 + (2 : Int64)))) 3 (.long (q2 + (3 : Int64)))) 4 (.long (q2 + (4 : Int64)))) 5 (.long (q2 + (5 : Int64)))) 6 (.long (q2 + (6 : Int64)))) 7 (.long (q2 + (7 : Int64)))) 8 (.long (q2 + (8 : Int64)))) 9 (.long (q2 + (9 : Int64)))) 10 (.long (q2 + (10 : Int64)))) 11 (.long (q2 + (11 : Int64)))) 12 (.long (q2 + (12 : Int64)))) 13 (.long (q2 + (13 : Int64)))) 14 (.long (q2 + (14 : Int64)))) 15 (.long (q2 + (15 : Int64))))) 16 (.long q3)) (17 : Int32) := by rw [eq24]; exact B23
  have Z24 : n0 ≤ T24.heap.size := by rw [eq24]; exact Z23
  obtain ⟨cq25, kq25, q25a, q25b, q25c⟩ := isOf hZ rfl B24.1
  obtain ⟨_, _, ⟨T25, L25, k25, n25⟩, -, X25, ⟨Lc25, hQ25, l25, y25, z25⟩, st25⟩ := X24.virtualBack hx (y := (⟨"com/example/crate2/crate2/LineNumbers", "get", "(I)J"⟩ : MethodName)) (z := (⟨"com/example/crate2/crate2/LineNumbers", "get", "(I)J"⟩ : MethodName)) hown (mvT hZ (hw _ (List.mem_of_getElem? (i := 19) rfl))) (mvT hZ (hw _ (List.mem_of_getElem? (i := 20) rfl))) (notFace_of_selects (args := #[]) (mvT hZ (hw _ (List.mem_of_getElem? (i := 22) rfl)))) (mvT hZ (hw _ (List.mem_of_getElem? (i := 22) rfl))) (mvT hZ (hw _ (List.mem_of_getElem? (i := 21) rfl))) (by decide) (backOf (W := 0) (rm4 l Z a0 hw [] b4 (7 : Int32) (17 : Int32) t23 (q2 + (7 : Int64)) kk23 (32 : Int32) (List.set (cp16 (List.set (List.set (List.set (List.set (List.set (List.set (List.set (List.set (List.set (List.set (List.set (List.set (List.set (List.set (List.set (List.set z16 0 (.long q1)) 1 (.long (q2 + (1 : Int64)))) 2 (.long (q2 + (2 : Int64)))) 3 (.long (q2 + (3 : Int64)))) 4 (.long (q2 + (4 : Int64)))) 5 (.long (q2 + (5 : Int64)))) 6 (.long (q2 + (6 : Int64)))) 7 (.long (q2 + (7 : Int64)))) 8 (.long (q2 + (8 : Int64)))) 9 (.long (q2 + (9 : Int64)))) 10 (.long (q2 + (10 : Int64)))) 11 (.long (q2 + (11 : Int64)))) 12 (.long (q2 + (12 : Int64)))) 13 (.long (q2 + (13 : Int64)))) 14 (.long (q2 + (14 : Int64)))) 15 (.long (q2 + (15 : Int64))))) 16 (.long q3)) 7 T24.heap n0 Z24 B24 ⟨by decide, by decide⟩ (by decide) rfl (by decide) (by decide)) hZ (hw _ (List.mem_of_getElem? (i := 23) rfl)) (hw _ (List.mem_of_getElem? (i := 2) rfl)) (by decide) (by decide)) q25a q25c (g := (mkF m 208 #[.val (.long q1), .second, .val (.long q2), .second, .val (.long q3), .second, .val (.ref b4), .val (.int (1 : Int32))] [(.int (7 : Int32)), (.ref b4)])) rfl (by rw [hml]; rfl) (Steps.refl _) (argsL := [(.int (7 : Int32))]) (rest := []) (lenOf pd_0_2 rfl) rfl (by show 2 * 0 + _ ≤ _; exact Nat.le_of_eq rfl) (hb hby at_208) (fun _ _ => ⟨rfl, rfl, (by decide : 3 + 0 ≤ _), (by decide : 50 + 0 ≤ _)⟩)
  dsimp only [Pt.U, Pt.locs, Pt.cells, Pt.slots] at X25 l25 y25 z25 st25 hQ25
  subst l25 y25 z25
  obtain ⟨rfl, N25q, eq25⟩ := hQ25
  have N25 := Fr.app N24 N25q
  obtain ⟨LL25, X25, N25⟩ := own_pack X25 N25
  have B25 : LN Z T25.heap b4 t23 kk23 (32 : Int32) (List.set (cp16 (List.set (List.set (List.set (List.set (List.set (List.set (List.set (List.set (List.set (List.set (List.set (List.set (List.set (List.set (List.set (List.set z16 0 (.long q1)) 1 (.long (q2 + (1 : Int64)))) 2 (.long (q2 + (2 : Int64)))) 3 (.long (q2 + (3 : Int64)))) 4 (.long (q2 + (4 : Int64)))) 5 (.long (q2 + (5 : Int64)))) 6 (.long (q2 + (6 : Int64)))) 7 (.long (q2 + (7 : Int64)))) 8 (.long (q2 + (8 : Int64)))) 9 (.long (q2 + (9 : Int64)))) 10 (.long (q2 + (10 : Int64)))) 11 (.long (q2 + (11 : Int64)))) 12 (.long (q2 + (12 : Int64)))) 13 (.long (q2 + (13 : Int64)))) 14 (.long (q2 + (14 : Int64)))) 15 (.long (q2 + (15 : Int64))))) 16 (.long q3)) (17 : Int32) := by rw [eq25]; exact B24
  have Z25 : n0 ≤ T25.heap.size := by rw [eq25]; exact Z24
  obtain ⟨cq26, kq26, q26a, q26b, q26c⟩ := isOf hZ rfl B25.1
  obtain ⟨_, _, ⟨T26, L26, k26, n26⟩, -, X26, ⟨Lc26, hQ26, l26, y26, z26⟩, st26⟩ := X25.virtualBack hx (y := (⟨"com/example/crate2/crate2/LineNumbers", "get", "(I)J"⟩ : MethodName)) (z := (⟨"com/example/crate2/crate2/LineNumbers", "get", "(I)J"⟩ : MethodName)) hown (mvT hZ (hw _ (List.mem_of_getElem? (i := 19) rfl))) (mvT hZ (hw _ (List.mem_of_getElem? (i := 20) rfl))) (notFace_of_selects (args := #[]) (mvT hZ (hw _ (List.mem_of_getElem? (i := 22) rfl)))) (mvT hZ (hw _ (List.mem_of_getElem? (i := 22) rfl))) (mvT hZ (hw _ (List.mem_of_getElem? (i := 21) rfl))) (by decide) (backOf (W := 0) (rm4 l Z a0 hw [] b4 (15 : Int32) (17 : Int32) t23 (q2 + (15 : Int64)) kk23 (32 : Int32) (List.set (cp16 (List.set (List.set (List.set (List.set (List.set (List.set (List.set (List.set (List.set (List.set (List.set (List.set (List.set (List.set (List.set (List.set z16 0 (.long q1)) 1 (.long (q2 + (1 : Int64)))) 2 (.long (q2 + (2 : Int64)))) 3 (.long (q2 + (3 : Int64)))) 4 (.long (q2 + (4 : Int64)))) 5 (.long (q2 + (5 : Int64)))) 6 (.long (q2 + (6 : Int64)))) 7 (.long (q2 + (7 : Int64)))) 8 (.long (q2 + (8 : Int64)))) 9 (.long (q2 + (9 : Int64)))) 10 (.long (q2 + (10 : Int64)))) 11 (.long (q2 + (11 : Int64)))) 12 (.long (q2 + (12 : Int64)))) 13 (.long (q2 + (13 : Int64)))) 14 (.long (q2 + (14 : Int64)))) 15 (.long (q2 + (15 : Int64))))) 16 (.long q3)) 15 T25.heap n0 Z25 B25 ⟨by decide, by decide⟩ (by decide) rfl (by decide) (by decide)) hZ (hw _ (List.mem_of_getElem? (i := 23) rfl)) (hw _ (List.mem_of_getElem? (i := 2) rfl)) (by decide) (by decide)) q26a q26c (g := (mkF m 224 #[.val (.long q1), .second, .val (.long q2), .second, .val (.long q3), .second, .val (.ref b4), .val (.int (1 : Int32))] [(.int (15 : Int32)), (.ref b4)])) rfl (by rw [hml]; rfl) (Steps.refl _) (argsL := [(.int (15 : Int32))]) (rest := []) (lenOf pd_0_2 rfl) rfl (by show 2 * 0 + _ ≤ _; exact Nat.le_of_eq rfl) (hb hby at_224) (fun _ _ => ⟨rfl, rfl, (by decide : 3 + 0 ≤ _), (by decide : 50 + 0 ≤ _)⟩)
  dsimp only [Pt.U, Pt.locs, Pt.cells, Pt.slots] at X26 l26 y26 z26 st26 hQ26
  subst l26 y26 z26
  obtain ⟨rfl, N26q, eq26⟩ := hQ26
  have N26 := Fr.app N25 N26q
  obtain ⟨LL26, X26, N26⟩ := own_pack X26 N26
  have B26 : LN Z T26.heap b4 t23 kk23 (32 : Int32) (List.set (cp16 (List.set (List.set (List.set (List.set (List.set (List.set (List.set (List.set (List.set (List.set (List.set (List.set (List.set (List.set (List.set (List.set z16 0 (.long q1)) 1 (.long (q2 + (1 : Int64)))) 2 (.long (q2 + (2 : Int64)))) 3 (.long (q2 + (3 : Int64)))) 4 (.long (q2 + (4 : Int64)))) 5 (.long (q2 + (5 : Int64)))) 6 (.long (q2 + (6 : Int64)))) 7 (.long (q2 + (7 : Int64)))) 8 (.long (q2 + (8 : Int64)))) 9 (.long (q2 + (9 : Int64)))) 10 (.long (q2 + (10 : Int64)))) 11 (.long (q2 + (11 : Int64)))) 12 (.long (q2 + (12 : Int64)))) 13 (.long (q2 + (13 : Int64)))) 14 (.long (q2 + (14 : Int64)))) 15 (.long (q2 + (15 : Int64))))) 16 (.long q3)) (17 : Int32) := by rw [eq26]; exact B25
  have Z26 : n0 ≤ T26.heap.size := by rw [eq26]; exact Z25
  obtain ⟨cq27, kq27, q27a, q27b, q27c⟩ := isOf hZ rfl B26.1
  obtain ⟨_, _, ⟨T27, L27, k27, n27⟩, -, X27, ⟨Lc27, hQ27, l27, y27, z27⟩, st27⟩ := X26.virtualBack hx (y := (⟨"com/example/crate2/crate2/LineNumbers", "get", "(I)J"⟩ : MethodName)) (z := (⟨"com/example/crate2/crate2/LineNumbers", "get", "(I)J"⟩ : MethodName)) hown (mvT hZ (hw _ (List.mem_of_getElem? (i := 19) rfl))) (mvT hZ (hw _ (List.mem_of_getElem? (i := 20) rfl))) (notFace_of_selects (args := #[]) (mvT hZ (hw _ (List.mem_of_getElem? (i := 22) rfl)))) (mvT hZ (hw _ (List.mem_of_getElem? (i := 22) rfl))) (mvT hZ (hw _ (List.mem_of_getElem? (i := 21) rfl))) (by decide) (backOf (W := 0) (rm4 l Z a0 hw [] b4 (16 : Int32) (17 : Int32) t23 q3 kk23 (32 : Int32) (List.set (cp16 (List.set (List.set (List.set (List.set (List.set (List.set (List.set (List.set (List.set (List.set (List.set (List.set (List.set (List.set (List.set (List.set z16 0 (.long q1)) 1 (.long (q2 + (1 : Int64)))) 2 (.long (q2 + (2 : Int64)))) 3 (.long (q2 + (3 : Int64)))) 4 (.long (q2 + (4 : Int64)))) 5 (.long (q2 + (5 : Int64)))) 6 (.long (q2 + (6 : Int64)))) 7 (.long (q2 + (7 : Int64)))) 8 (.long (q2 + (8 : Int64)))) 9 (.long (q2 + (9 : Int64)))) 10 (.long (q2 + (10 : Int64)))) 11 (.long (q2 + (11 : Int64)))) 12 (.long (q2 + (12 : Int64)))) 13 (.long (q2 + (13 : Int64)))) 14 (.long (q2 + (14 : Int64)))) 15 (.long (q2 + (15 : Int64))))) 16 (.long q3)) 16 T26.heap n0 Z26 B26 ⟨by decide, by decide⟩ (by decide) rfl (by decide) (by decide)) hZ (hw _ (List.mem_of_getElem? (i := 23) rfl)) (hw _ (List.mem_of_getElem? (i := 2) rfl)) (by decide) (by decide)) q27a q27c (g := (mkF m 240 #[.val (.long q1), .second, .val (.long q2), .second, .val (.long q3), .second, .val (.ref b4), .val (.int (1 : Int32))] [(.int (16 : Int32)), (.ref b4)])) rfl (by rw [hml]; rfl) (Steps.refl _) (argsL := [(.int (16 : Int32))]) (rest := []) (lenOf pd_0_2 rfl) rfl (by show 2 * 0 + _ ≤ _; exact Nat.le_of_eq rfl) (hb hby at_240) (fun _ _ => ⟨rfl, rfl, (by decide : 3 + 0 ≤ _), (by decide : 50 + 0 ≤ _)⟩)
  dsimp only [Pt.U, Pt.locs, Pt.cells, Pt.slots] at X27 l27 y27 z27 st27 hQ27
  subst l27 y27 z27
  obtain ⟨rfl, N27q, eq27⟩ := hQ27
  have N27 := Fr.app N26 N27q
  obtain ⟨LL27, X27, N27⟩ := own_pack X27 N27
  have B27 : LN Z T27.heap b4 t23 kk23 (32 : Int32) (List.set (cp16 (List.set (List.set (List.set (List.set (List.set (List.set (List.set (List.set (List.set (List.set (List.set (List.set (List.set (List.set (List.set (List.set z16 0 (.long q1)) 1 (.long (q2 + (1 : Int64)))) 2 (.long (q2 + (2 : Int64)))) 3 (.long (q2 + (3 : Int64)))) 4 (.long (q2 + (4 : Int64)))) 5 (.long (q2 + (5 : Int64)))) 6 (.long (q2 + (6 : Int64)))) 7 (.long (q2 + (7 : Int64)))) 8 (.long (q2 + (8 : Int64)))) 9 (.long (q2 + (9 : Int64)))) 10 (.long (q2 + (10 : Int64)))) 11 (.long (q2 + (11 : Int64)))) 12 (.long (q2 + (12 : Int64)))) 13 (.long (q2 + (13 : Int64)))) 14 (.long (q2 + (14 : Int64)))) 15 (.long (q2 + (15 : Int64))))) 16 (.long q3)) (17 : Int32) := by rw [eq27]; exact B26
  have Z27 : n0 ≤ T27.heap.size := by rw [eq27]; exact Z26
  obtain ⟨fs, hr, hrun, hended, hW, hsame⟩ := X27.leave (v := some (.int (1 : Int32))) (fun h => by rw [Bd.returns] at h; cases h)
  refine ⟨_, _, pre0 _ ?_, hrun, hended, _, _, rfl, ?_, ⟨_, rfl⟩, hW, hsame.mono (by decide) (by decide)⟩
  · show Steps p.tables e below (s₁.setTop (mkF m 0 #[.val (.long q1), .second, .val (.long q2), .second, .val (.long q3), .second, .unset, .unset] [])) _
    refine st4 _ ?_
    show Steps p.tables e below (T4.setTop (mkF m 3 #[.val (.long q1), .second, .val (.long q2), .second, .val (.long q3), .second, .unset, .unset] [(.ref b4)])) _
    refine XS.dup X4.here hx rfl (hb hby at_3) rfl rfl ?_
    show Steps p.tables e below (T4.setTop (mkF m 4 #[.val (.long q1), .second, .val (.long q2), .second, .val (.long q3), .second, .unset, .unset] [(.ref b4), (.ref b4)])) _
    refine st5.trans ?_
    show Steps p.tables e below (T5.setTop (mkF m 7 #[.val (.long q1), .second, .val (.long q2), .second, .val (.long q3), .second, .unset, .unset] [(.ref b4)])) _
    refine XS.astore X5.here hx rfl (hb hby at_7) rfl rfl (l' := #[.val (.long q1), .second, .val (.long q2), .second, .val (.long q3), .second, .val (.ref b4), .unset]) rfl ?_
    show Steps p.tables e below (T5.setTop (mkF m 9 #[.val (.long q1), .second, .val (.long q2), .second, .val (.long q3), .second, .val (.ref b4), .unset] [])) _
    refine XS.aload X5.here hx rfl (hb hby at_9) rfl rfl ?_
    show Steps p.tables e below (T5.setTop (mkF m 11 #[.val (.long q1), .second, .val (.long q2), .second, .val (.long q3), .second, .val (.ref b4), .unset] [(.ref b4)])) _
    refine XS.lloadN X5.here hx rfl (hb hby at_11) rfl ?_
    show Steps p.tables e below (T5.setTop (mkF m 12 #[.val (.long q1), .second, .val (.long q2), .second, .val (.long q3), .second, .val (.ref b4), .unset] [(.long q1), (.ref b4)])) _
    refine st6.trans ?_
    show Steps p.tables e below (T6.setTop (mkF m 15 #[.val (.long q1), .second, .val (.long q2), .second, .val (.long q3), .second, .val (.ref b4), .unset] [])) _
    refine XS.aload X6.here hx rfl (hb hby at_15) rfl rfl ?_
    show Steps p.tables e below (T6.setTop (mkF m 17 #[.val (.long q1), .second, .val (.long q2), .second, .val (.long q3), .second, .val (.ref b4), .unset] [(.ref b4)])) _
    refine XS.iconst X6.here hx rfl (hb hby at_17) ?_
    show Steps p.tables e below (T6.setTop (mkF m 18 #[.val (.long q1), .second, .val (.long q2), .second, .val (.long q3), .second, .val (.ref b4), .unset] [(.int (0 : Int32)), (.ref b4)])) _
    refine st7.trans ?_
    show Steps p.tables e below (T7.setTop (mkF m 21 #[.val (.long q1), .second, .val (.long q2), .second, .val (.long q3), .second, .val (.ref b4), .unset] [(.long q1)])) _
    refine XS.lloadN X7.here hx rfl (hb hby at_21) rfl ?_
    show Steps p.tables e below (T7.setTop (mkF m 22 #[.val (.long q1), .second, .val (.long q2), .second, .val (.long q3), .second, .val (.ref b4), .unset] [(.long q1), (.long q1)])) _
    refine XS.lcmp X7.here hx rfl (hb hby at_22) rfl ?_
    show Steps p.tables e below (T7.setTop (mkF m 23 #[.val (.long q1), .second, .val (.long q2), .second, .val (.long q3), .second, .val (.ref b4), .unset] [(.int (lcmpW q1 q1))])) _
    refine XS.ifNo X7.here hx rfl (hb hby at_23) rfl ((if0 _ _).trans (teq ((lw_eq _ _).mpr rfl : (lcmpW q1 q1) = (0 : Int32))).2) ?_
    show Steps p.tables e below (T7.setTop (mkF m 26 #[.val (.long q1), .second, .val (.long q2), .second, .val (.long q3), .second, .val (.ref b4), .unset] [])) _
    refine XS.iconst X7.here hx rfl (hb hby at_26) ?_
    show Steps p.tables e below (T7.setTop (mkF m 27 #[.val (.long q1), .second, .val (.long q2), .second, .val (.long q3), .second, .val (.ref b4), .unset] [(.int (1 : Int32))])) _
    refine XS.goto X7.here hx rfl (pc0 := 27) (pc' := 31) rfl (hb hby at_27) (by decide) (by decide) ?_
    show Steps p.tables e below (T7.setTop (mkF m 31 #[.val (.long q1), .second, .val (.long q2), .second, .val (.long q3), .second, .val (.ref b4), .unset] [(.int (1 : Int32))])) _
    refine XS.istore X7.here hx rfl (hb hby at_31) rfl (l' := #[.val (.long q1), .second, .val (.long q2), .second, .val (.long q3), .second, .val (.ref b4), .val (.int (1 : Int32))]) rfl ?_
    show Steps p.tables e below (T7.setTop (mkF m 33 #[.val (.long q1), .second, .val (.long q2), .second, .val (.long q3), .second, .val (.ref b4), .val (.int (1 : Int32))] [])) _
    refine XS.aload X7.here hx rfl (hb hby at_33) rfl rfl ?_
    show Steps p.tables e below (T7.setTop (mkF m 35 #[.val (.long q1), .second, .val (.long q2), .second, .val (.long q3), .second, .val (.ref b4), .val (.int (1 : Int32))] [(.ref b4)])) _
    refine XS.lloadN X7.here hx rfl (hb hby at_35) rfl ?_
    show Steps p.tables e below (T7.setTop (mkF m 36 #[.val (.long q1), .second, .val (.long q2), .second, .val (.long q3), .second, .val (.ref b4), .val (.int (1 : Int32))] [(.long q2), (.ref b4)])) _
    refine XS.lconst X7.here hx rfl (hb hby at_36) ?_
    show Steps p.tables e below (T7.setTop (mkF m 37 #[.val (.long q1), .second, .val (.long q2), .second, .val (.long q3), .second, .val (.ref b4), .val (.int (1 : Int32))] [(.long (1 : Int64)), (.long q2), (.ref b4)])) _
    refine XS.ladd X7.here hx rfl (hb hby at_37) rfl ?_
    show Steps p.tables e below (T7.setTop (mkF m 38 #[.val (.long q1), .second, .val (.long q2), .second, .val (.long q3), .second, .val (.ref b4), .val (.int (1 : Int32))] [(.long (q2 + (1 : Int64))), (.ref b4)])) _
    refine st8.trans ?_
    show Steps p.tables e below (T8.setTop (mkF m 41 #[.val (.long q1), .second, .val (.long q2), .second, .val (.long q3), .second, .val (.ref b4), .val (.int (1 : Int32))] [])) _
    refine XS.aload X8.here hx rfl (hb hby at_41) rfl rfl ?_
    show Steps p.tables e below (T8.setTop (mkF m 43 #[.val (.long q1), .second, .val (.long q2), .second, .val (.long q3), .second, .val (.ref b4), .val (.int (1 : Int32))] [(.ref b4)])) _
    refine XS.lloadN X8.here hx rfl (hb hby at_43) rfl ?_
    show Steps p.tables e below (T8.setTop (mkF m 44 #[.val (.long q1), .second, .val (.long q2), .second, .val (.long q3), .second, .val (.ref b4), .val (.int (1 : Int32))] [(.long q2), (.ref b4)])) _
    refine X8.ldc2Long hx hown (mvT hZ (hw _ (List.mem_of_getElem? (i := 24) rfl))) (g := (mkF m 44 #[.val (.long q1), .second, .val (.long q2), .second, .val (.long q3), .second, .val (.ref b4), .val (.int (1 : Int32))] [(.long q2), (.ref b4)])) rfl (hb hby at_44) _ ?_
    show Steps p.tables e below (T8.setTop (mkF m 47 #[.val (.long q1), .second, .val (.long q2), .second, .val (.long q3), .second, .val (.ref b4), .val (.int (1 : Int32))] [(.long (2 : Int64)), (.long q2), (.ref b4)])) _
    refine XS.ladd X8.here hx rfl (hb hby at_47) rfl ?_
    show Steps p.tables e below (T8.setTop (mkF m 48 #[.val (.long q1), .second, .val (.long q2), .second, .val (.long q3), .second, .val (.ref b4), .val (.int (1 : Int32))] [(.long (q2 + (2 : Int64))), (.ref b4)])) _
    refine st9.trans ?_
    show Steps p.tables e below (T9.setTop (mkF m 51 #[.val (.long q1), .second, .val (.long q2), .second, .val (.long q3), .second, .val (.ref b4), .val (.int (1 : Int32))] [])) _
    refine XS.aload X9.here hx rfl (hb hby at_51) rfl rfl ?_
    show Steps p.tables e below (T9.setTop (mkF m 53 #[.val (.long q1), .second, .val (.long q2), .second, .val (.long q3), .second, .val (.ref b4), .val (.int (1 : Int32))] [(.ref b4)])) _
    refine XS.lloadN X9.here hx rfl (hb hby at_53) rfl ?_
    show Steps p.tables e below (T9.setTop (mkF m 54 #[.val (.long q1), .second, .val (.long q2), .second, .val (.long q3), .second, .val (.ref b4), .val (.int (1 : Int32))] [(.long q2), (.ref b4)])) _
    refine X9.ldc2Long hx hown (mvT hZ (hw _ (List.mem_of_getElem? (i := 25) rfl))) (g := (mkF m 54 #[.val (.long q1), .second, .val (.long q2), .second, .val (.long q3), .second, .val (.ref b4), .val (.int (1 : Int32))] [(.long q2), (.ref b4)])) rfl (hb hby at_54) _ ?_
    show Steps p.tables e below (T9.setTop (mkF m 57 #[.val (.long q1), .second, .val (.long q2), .second, .val (.long q3), .second, .val (.ref b4), .val (.int (1 : Int32))] [(.long (3 : Int64)), (.long q2), (.ref b4)])) _
    refine XS.ladd X9.here hx rfl (hb hby at_57) rfl ?_
    show Steps p.tables e below (T9.setTop (mkF m 58 #[.val (.long q1), .second, .val (.long q2), .second, .val (.long q3), .second, .val (.ref b4), .val (.int (1 : Int32))] [(.long (q2 + (3 : Int64))), (.ref b4)])) _
    refine st10.trans ?_
    show Steps p.tables e below (T10.setTop (mkF m 61 #[.val (.long q1), .second, .val (.long q2), .second, .val (.long q3), .second, .val (.ref b4), .val (.int (1 : Int32))] [])) _
    refine XS.aload X10.here hx rfl (hb hby at_61) rfl rfl ?_
    show Steps p.tables e below (T10.setTop (mkF m 63 #[.val (.long q1), .second, .val (.long q2), .second, .val (.long q3), .second, .val (.ref b4), .val (.int (1 : Int32))] [(.ref b4)])) _
    refine XS.lloadN X10.here hx rfl (hb hby at_63) rfl ?_
    show Steps p.tables e below (T10.setTop (mkF m 64 #[.val (.long q1), .second, .val (.long q2), .second, .val (.long q3), .second, .val (.ref b4), .val (.int (1 : Int32))] [(.long q2), (.ref b4)])) _
    refine X10.ldc2Long hx hown (mvT hZ (hw _ (List.mem_of_getElem? (i := 26) rfl))) (g := (mkF m 64 #[.val (.long q1), .second, .val (.long q2), .second, .val (.long q3), .second, .val (.ref b4), .val (.int (1 : Int32))] [(.long q2), (.ref b4)])) rfl (hb hby at_64) _ ?_
    show Steps p.tables e below (T10.setTop (mkF m 67 #[.val (.long q1), .second, .val (.long q2), .second, .val (.long q3), .second, .val (.ref b4), .val (.int (1 : Int32))] [(.long (4 : Int64)), (.long q2), (.ref b4)])) _
    refine XS.ladd X10.here hx rfl (hb hby at_67) rfl ?_
    show Steps p.tables e below (T10.setTop (mkF m 68 #[.val (.long q1), .second, .val (.long q2), .second, .val (.long q3), .second, .val (.ref b4), .val (.int (1 : Int32))] [(.long (q2 + (4 : Int64))), (.ref b4)])) _
    refine st11.trans ?_
    show Steps p.tables e below (T11.setTop (mkF m 71 #[.val (.long q1), .second, .val (.long q2), .second, .val (.long q3), .second, .val (.ref b4), .val (.int (1 : Int32))] [])) _
    refine XS.aload X11.here hx rfl (hb hby at_71) rfl rfl ?_
    show Steps p.tables e below (T11.setTop (mkF m 73 #[.val (.long q1), .second, .val (.long q2), .second, .val (.long q3), .second, .val (.ref b4), .val (.int (1 : Int32))] [(.ref b4)])) _
    refine XS.lloadN X11.here hx rfl (hb hby at_73) rfl ?_
    show Steps p.tables e below (T11.setTop (mkF m 74 #[.val (.long q1), .second, .val (.long q2), .second, .val (.long q3), .second, .val (.ref b4), .val (.int (1 : Int32))] [(.long q2), (.ref b4)])) _
    refine X11.ldc2Long hx hown (mvT hZ (hw _ (List.mem_of_getElem? (i := 27) rfl))) (g := (mkF m 74 #[.val (.long q1), .second, .val (.long q2), .second, .val (.long q3), .second, .val (.ref b4), .val (.int (1 : Int32))] [(.long q2), (.ref b4)])) rfl (hb hby at_74) _ ?_
    show Steps p.tables e below (T11.setTop (mkF m 77 #[.val (.long q1), .second, .val (.long q2), .second, .val (.long q3), .second, .val (.ref b4), .val (.int (1 : Int32))] [(.long (5 : Int64)), (.long q2), (.ref b4)])) _
    refine XS.ladd X11.here hx rfl (hb hby at_77) rfl ?_
    show Steps p.tables e below (T11.setTop (mkF m 78 #[.val (.long q1), .second, .val (.long q2), .second, .val (.long q3), .second, .val (.ref b4), .val (.int (1 : Int32))] [(.long (q2 + (5 : Int64))), (.ref b4)])) _
    refine st12.trans ?_
    show Steps p.tables e below (T12.setTop (mkF m 81 #[.val (.long q1), .second, .val (.long q2), .second, .val (.long q3), .second, .val (.ref b4), .val (.int (1 : Int32))] [])) _
    refine XS.aload X12.here hx rfl (hb hby at_81) rfl rfl ?_
    show Steps p.tables e below (T12.setTop (mkF m 83 #[.val (.long q1), .second, .val (.long q2), .second, .val (.long q3), .second, .val (.ref b4), .val (.int (1 : Int32))] [(.ref b4)])) _
    refine XS.lloadN X12.here hx rfl (hb hby at_83) rfl ?_
    show Steps p.tables e below (T12.setTop (mkF m 84 #[.val (.long q1), .second, .val (.long q2), .second, .val (.long q3), .second, .val (.ref b4), .val (.int (1 : Int32))] [(.long q2), (.ref b4)])) _
    refine X12.ldc2Long hx hown (mvT hZ (hw _ (List.mem_of_getElem? (i := 28) rfl))) (g := (mkF m 84 #[.val (.long q1), .second, .val (.long q2), .second, .val (.long q3), .second, .val (.ref b4), .val (.int (1 : Int32))] [(.long q2), (.ref b4)])) rfl (hb hby at_84) _ ?_
    show Steps p.tables e below (T12.setTop (mkF m 87 #[.val (.long q1), .second, .val (.long q2), .second, .val (.long q3), .second, .val (.ref b4), .val (.int (1 : Int32))] [(.long (6 : Int64)), (.long q2), (.ref b4)])) _
    refine XS.ladd X12.here hx rfl (hb hby at_87) rfl ?_
    show Steps p.tables e below (T12.setTop (mkF m 88 #[.val (.long q1), .second, .val (.long q2), .second, .val (.long q3), .second, .val (.ref b4), .val (.int (1 : Int32))] [(.long (q2 + (6 : Int64))), (.ref b4)])) _
    refine st13.trans ?_
    show Steps p.tables e below (T13.setTop (mkF m 91 #[.val (.long q1), .second, .val (.long q2), .second, .val (.long q3), .second, .val (.ref b4), .val (.int (1 : Int32))] [])) _
    refine XS.aload X13.here hx rfl (hb hby at_91) rfl rfl ?_
    show Steps p.tables e below (T13.setTop (mkF m 93 #[.val (.long q1), .second, .val (.long q2), .second, .val (.long q3), .second, .val (.ref b4), .val (.int (1 : Int32))] [(.ref b4)])) _
    refine XS.lloadN X13.here hx rfl (hb hby at_93) rfl ?_
    show Steps p.tables e below (T13.setTop (mkF m 94 #[.val (.long q1), .second, .val (.long q2), .second, .val (.long q3), .second, .val (.ref b4), .val (.int (1 : Int32))] [(.long q2), (.ref b4)])) _
    refine X13.ldc2Long hx hown (mvT hZ (hw _ (List.mem_of_getElem? (i := 29) rfl))) (g := (mkF m 94 #[.val (.long q1), .second, .val (.long q2), .second, .val (.long q3), .second, .val (.ref b4), .val (.int (1 : Int32))] [(.long q2), (.ref b4)])) rfl (hb hby at_94) _ ?_
    show Steps p.tables e below (T13.setTop (mkF m 97 #[.val (.long q1), .second, .val (.long q2), .second, .val (.long q3), .second, .val (.ref b4), .val (.int (1 : Int32))] [(.long (7 : Int64)), (.long q2), (.ref b4)])) _
    refine XS.ladd X13.here hx rfl (hb hby at_97) rfl ?_
    show Steps p.tables e below (T13.setTop (mkF m 98 #[.val (.long q1), .second, .val (.long q2), .second, .val (.long q3), .second, .val (.ref b4), .val (.int (1 : Int32))] [(.long (q2 + (7 : Int64))), (.ref b4)])) _
    refine st14.trans ?_
    show Steps p.tables e below (T14.setTop (mkF m 101 #[.val (.long q1), .second, .val (.long q2), .second, .val (.long q3), .second, .val (.ref b4), .val (.int (1 : Int32))] [])) _
    refine XS.aload X14.here hx rfl (hb hby at_101) rfl rfl ?_
    show Steps p.tables e below (T14.setTop (mkF m 103 #[.val (.long q1), .second, .val (.long q2), .second, .val (.long q3), .second, .val (.ref b4), .val (.int (1 : Int32))] [(.ref b4)])) _
    refine XS.lloadN X14.here hx rfl (hb hby at_103) rfl ?_
    show Steps p.tables e below (T14.setTop (mkF m 104 #[.val (.long q1), .second, .val (.long q2), .second, .val (.long q3), .second, .val (.ref b4), .val (.int (1 : Int32))] [(.long q2), (.ref b4)])) _
    refine X14.ldc2Long hx hown (mvT hZ (hw _ (List.mem_of_getElem? (i := 30) rfl))) (g := (mkF m 104 #[.val (.long q1), .second, .val (.long q2), .second, .val (.long q3), .second, .val (.ref b4), .val (.int (1 : Int32))] [(.long q2), (.ref b4)])) rfl (hb hby at_104) _ ?_
    show Steps p.tables e below (T14.setTop (mkF m 107 #[.val (.long q1), .second, .val (.long q2), .second, .val (.long q3), .second, .val (.ref b4), .val (.int (1 : Int32))] [(.long (8 : Int64)), (.long q2), (.ref b4)])) _
    refine XS.ladd X14.here hx rfl (hb hby at_107) rfl ?_
    show Steps p.tables e below (T14.setTop (mkF m 108 #[.val (.long q1), .second, .val (.long q2), .second, .val (.long q3), .second, .val (.ref b4), .val (.int (1 : Int32))] [(.long (q2 + (8 : Int64))), (.ref b4)])) _
    refine st15.trans ?_
    show Steps p.tables e below (T15.setTop (mkF m 111 #[.val (.long q1), .second, .val (.long q2), .second, .val (.long q3), .second, .val (.ref b4), .val (.int (1 : Int32))] [])) _
    refine XS.aload X15.here hx rfl (hb hby at_111) rfl rfl ?_
    show Steps p.tables e below (T15.setTop (mkF m 113 #[.val (.long q1), .second, .val (.long q2), .second, .val (.long q3), .second, .val (.ref b4), .val (.int (1 : Int32))] [(.ref b4)])) _
    refine XS.lloadN X15.here hx rfl (hb hby at_113) rfl ?_
    show Steps p.tables e below (T15.setTop (mkF m 114 #[.val (.long q1), .second, .val (.long q2), .second, .val (.long q3), .second, .val (.ref b4), .val (.int (1 : Int32))] [(.long q2), (.ref b4)])) _
    refine X15.ldc2Long hx hown (mvT hZ (hw _ (List.mem_of_getElem? (i := 31) rfl))) (g := (mkF m 114 #[.val (.long q1), .second, .val (.long q2), .second, .val (.long q3), .second, .val (.ref b4), .val (.int (1 : Int32))] [(.long q2), (.ref b4)])) rfl (hb hby at_114) _ ?_
    show Steps p.tables e below (T15.setTop (mkF m 117 #[.val (.long q1), .second, .val (.long q2), .second, .val (.long q3), .second, .val (.ref b4), .val (.int (1 : Int32))] [(.long (9 : Int64)), (.long q2), (.ref b4)])) _
    refine XS.ladd X15.here hx rfl (hb hby at_117) rfl ?_
    show Steps p.tables e below (T15.setTop (mkF m 118 #[.val (.long q1), .second, .val (.long q2), .second, .val (.long q3), .second, .val (.ref b4), .val (.int (1 : Int32))] [(.long (q2 + (9 : Int64))), (.ref b4)])) _
    refine st16.trans ?_
    show Steps p.tables e below (T16.setTop (mkF m 121 #[.val (.long q1), .second, .val (.long q2), .second, .val (.long q3), .second, .val (.ref b4), .val (.int (1 : Int32))] [])) _
    refine XS.aload X16.here hx rfl (hb hby at_121) rfl rfl ?_
    show Steps p.tables e below (T16.setTop (mkF m 123 #[.val (.long q1), .second, .val (.long q2), .second, .val (.long q3), .second, .val (.ref b4), .val (.int (1 : Int32))] [(.ref b4)])) _
    refine XS.lloadN X16.here hx rfl (hb hby at_123) rfl ?_
    show Steps p.tables e below (T16.setTop (mkF m 124 #[.val (.long q1), .second, .val (.long q2), .second, .val (.long q3), .second, .val (.ref b4), .val (.int (1 : Int32))] [(.long q2), (.ref b4)])) _
    refine X16.ldc2Long hx hown (mvT hZ (hw _ (List.mem_of_getElem? (i := 32) rfl))) (g := (mkF m 124 #[.val (.long q1), .second, .val (.long q2), .second, .val (.long q3), .second, .val (.ref b4), .val (.int (1 : Int32))] [(.long q2), (.ref b4)])) rfl (hb hby at_124) _ ?_
    show Steps p.tables e below (T16.setTop (mkF m 127 #[.val (.long q1), .second, .val (.long q2), .second, .val (.long q3), .second, .val (.ref b4), .val (.int (1 : Int32))] [(.long (10 : Int64)), (.long q2), (.ref b4)])) _
    refine XS.ladd X16.here hx rfl (hb hby at_127) rfl ?_
    show Steps p.tables e below (T16.setTop (mkF m 128 #[.val (.long q1), .second, .val (.long q2), .second, .val (.long q3), .second, .val (.ref b4), .val (.int (1 : Int32))] [(.long (q2 + (10 : Int64))), (.ref b4)])) _
    refine st17.trans ?_
    show Steps p.tables e below (T17.setTop (mkF m 131 #[.val (.long q1), .second, .val (.long q2), .second, .val (.long q3), .second, .val (.ref b4), .val (.int (1 : Int32))] [])) _
    refine XS.aload X17.here hx rfl (hb hby at_131) rfl rfl ?_
    show Steps p.tables e below (T17.setTop (mkF m 133 #[.val (.long q1), .second, .val (.long q2), .second, .val (.long q3), .second, .val (.ref b4), .val (.int (1 : Int32))] [(.ref b4)])) _
    refine XS.lloadN X17.here hx rfl (hb hby at_133) rfl ?_
    show Steps p.tables e below (T17.setTop (mkF m 134 #[.val (.long q1), .second, .val (.long q2), .second, .val (.long q3), .second, .val (.ref b4), .val (.int (1 : Int32))] [(.long q2), (.ref b4)])) _
    refine X17.ldc2Long hx hown (mvT hZ (hw _ (List.mem_of_getElem? (i := 33) rfl))) (g := (mkF m 134 #[.val (.long q1), .second, .val (.long q2), .second, .val (.long q3), .second, .val (.ref b4), .val (.int (1 : Int32))] [(.long q2), (.ref b4)])) rfl (hb hby at_134) _ ?_
    show Steps p.tables e below (T17.setTop (mkF m 137 #[.val (.long q1), .second, .val (.long q2), .second, .val (.long q3), .second, .val (.ref b4), .val (.int (1 : Int32))] [(.long (11 : Int64)), (.long q2), (.ref b4)])) _
    refine XS.ladd X17.here hx rfl (hb hby at_137) rfl ?_
    show Steps p.tables e below (T17.setTop (mkF m 138 #[.val (.long q1), .second, .val (.long q2), .second, .val (.long q3), .second, .val (.ref b4), .val (.int (1 : Int32))] [(.long (q2 + (11 : Int64))), (.ref b4)])) _
    refine st18.trans ?_
    show Steps p.tables e below (T18.setTop (mkF m 141 #[.val (.long q1), .second, .val (.long q2), .second, .val (.long q3), .second, .val (.ref b4), .val (.int (1 : Int32))] [])) _
    refine XS.aload X18.here hx rfl (hb hby at_141) rfl rfl ?_
    show Steps p.tables e below (T18.setTop (mkF m 143 #[.val (.long q1), .second, .val (.long q2), .second, .val (.long q3), .second, .val (.ref b4), .val (.int (1 : Int32))] [(.ref b4)])) _
    refine XS.lloadN X18.here hx rfl (hb hby at_143) rfl ?_
    show Steps p.tables e below (T18.setTop (mkF m 144 #[.val (.long q1), .second, .val (.long q2), .second, .val (.long q3), .second, .val (.ref b4), .val (.int (1 : Int32))] [(.long q2), (.ref b4)])) _
    refine X18.ldc2Long hx hown (mvT hZ (hw _ (List.mem_of_getElem? (i := 34) rfl))) (g := (mkF m 144 #[.val (.long q1), .second, .val (.long q2), .second, .val (.long q3), .second, .val (.ref b4), .val (.int (1 : Int32))] [(.long q2), (.ref b4)])) rfl (hb hby at_144) _ ?_
    show Steps p.tables e below (T18.setTop (mkF m 147 #[.val (.long q1), .second, .val (.long q2), .second, .val (.long q3), .second, .val (.ref b4), .val (.int (1 : Int32))] [(.long (12 : Int64)), (.long q2), (.ref b4)])) _
    refine XS.ladd X18.here hx rfl (hb hby at_147) rfl ?_
    show Steps p.tables e below (T18.setTop (mkF m 148 #[.val (.long q1), .second, .val (.long q2), .second, .val (.long q3), .second, .val (.ref b4), .val (.int (1 : Int32))] [(.long (q2 + (12 : Int64))), (.ref b4)])) _
    refine st19.trans ?_
    show Steps p.tables e below (T19.setTop (mkF m 151 #[.val (.long q1), .second, .val (.long q2), .second, .val (.long q3), .second, .val (.ref b4), .val (.int (1 : Int32))] [])) _
    refine XS.aload X19.here hx rfl (hb hby at_151) rfl rfl ?_
    show Steps p.tables e below (T19.setTop (mkF m 153 #[.val (.long q1), .second, .val (.long q2), .second, .val (.long q3), .second, .val (.ref b4), .val (.int (1 : Int32))] [(.ref b4)])) _
    refine XS.lloadN X19.here hx rfl (hb hby at_153) rfl ?_
    show Steps p.tables e below (T19.setTop (mkF m 154 #[.val (.long q1), .second, .val (.long q2), .second, .val (.long q3), .second, .val (.ref b4), .val (.int (1 : Int32))] [(.long q2), (.ref b4)])) _
    refine X19.ldc2Long hx hown (mvT hZ (hw _ (List.mem_of_getElem? (i := 35) rfl))) (g := (mkF m 154 #[.val (.long q1), .second, .val (.long q2), .second, .val (.long q3), .second, .val (.ref b4), .val (.int (1 : Int32))] [(.long q2), (.ref b4)])) rfl (hb hby at_154) _ ?_
    show Steps p.tables e below (T19.setTop (mkF m 157 #[.val (.long q1), .second, .val (.long q2), .second, .val (.long q3), .second, .val (.ref b4), .val (.int (1 : Int32))] [(.long (13 : Int64)), (.long q2), (.ref b4)])) _
    refine XS.ladd X19.here hx rfl (hb hby at_157) rfl ?_
    show Steps p.tables e below (T19.setTop (mkF m 158 #[.val (.long q1), .second, .val (.long q2), .second, .val (.long q3), .second, .val (.ref b4), .val (.int (1 : Int32))] [(.long (q2 + (13 : Int64))), (.ref b4)])) _
    refine st20.trans ?_
    show Steps p.tables e below (T20.setTop (mkF m 161 #[.val (.long q1), .second, .val (.long q2), .second, .val (.long q3), .second, .val (.ref b4), .val (.int (1 : Int32))] [])) _
    refine XS.aload X20.here hx rfl (hb hby at_161) rfl rfl ?_
    show Steps p.tables e below (T20.setTop (mkF m 163 #[.val (.long q1), .second, .val (.long q2), .second, .val (.long q3), .second, .val (.ref b4), .val (.int (1 : Int32))] [(.ref b4)])) _
    refine XS.lloadN X20.here hx rfl (hb hby at_163) rfl ?_
    show Steps p.tables e below (T20.setTop (mkF m 164 #[.val (.long q1), .second, .val (.long q2), .second, .val (.long q3), .second, .val (.ref b4), .val (.int (1 : Int32))] [(.long q2), (.ref b4)])) _
    refine X20.ldc2Long hx hown (mvT hZ (hw _ (List.mem_of_getElem? (i := 36) rfl))) (g := (mkF m 164 #[.val (.long q1), .second, .val (.long q2), .second, .val (.long q3), .second, .val (.ref b4), .val (.int (1 : Int32))] [(.long q2), (.ref b4)])) rfl (hb hby at_164) _ ?_
    show Steps p.tables e below (T20.setTop (mkF m 167 #[.val (.long q1), .second, .val (.long q2), .second, .val (.long q3), .second, .val (.ref b4), .val (.int (1 : Int32))] [(.long (14 : Int64)), (.long q2), (.ref b4)])) _
    refine XS.ladd X20.here hx rfl (hb hby at_167) rfl ?_
    show Steps p.tables e below (T20.setTop (mkF m 168 #[.val (.long q1), .second, .val (.long q2), .second, .val (.long q3), .second, .val (.ref b4), .val (.int (1 : Int32))] [(.long (q2 + (14 : Int64))), (.ref b4)])) _
    refine st21.trans ?_
    show Steps p.tables e below (T21.setTop (mkF m 171 #[.val (.long q1), .second, .val (.long q2), .second, .val (.long q3), .second, .val (.ref b4), .val (.int (1 : Int32))] [])) _
    refine XS.aload X21.here hx rfl (hb hby at_171) rfl rfl ?_
    show Steps p.tables e below (T21.setTop (mkF m 173 #[.val (.long q1), .second, .val (.long q2), .second, .val (.long q3), .second, .val (.ref b4), .val (.int (1 : Int32))] [(.ref b4)])) _
    refine XS.lloadN X21.here hx rfl (hb hby at_173) rfl ?_
    show Steps p.tables e below (T21.setTop (mkF m 174 #[.val (.long q1), .second, .val (.long q2), .second, .val (.long q3), .second, .val (.ref b4), .val (.int (1 : Int32))] [(.long q2), (.ref b4)])) _
    refine X21.ldc2Long hx hown (mvT hZ (hw _ (List.mem_of_getElem? (i := 37) rfl))) (g := (mkF m 174 #[.val (.long q1), .second, .val (.long q2), .second, .val (.long q3), .second, .val (.ref b4), .val (.int (1 : Int32))] [(.long q2), (.ref b4)])) rfl (hb hby at_174) _ ?_
    show Steps p.tables e below (T21.setTop (mkF m 177 #[.val (.long q1), .second, .val (.long q2), .second, .val (.long q3), .second, .val (.ref b4), .val (.int (1 : Int32))] [(.long (15 : Int64)), (.long q2), (.ref b4)])) _
    refine XS.ladd X21.here hx rfl (hb hby at_177) rfl ?_
    show Steps p.tables e below (T21.setTop (mkF m 178 #[.val (.long q1), .second, .val (.long q2), .second, .val (.long q3), .second, .val (.ref b4), .val (.int (1 : Int32))] [(.long (q2 + (15 : Int64))), (.ref b4)])) _
    refine st22.trans ?_
    show Steps p.tables e below (T22.setTop (mkF m 181 #[.val (.long q1), .second, .val (.long q2), .second, .val (.long q3), .second, .val (.ref b4), .val (.int (1 : Int32))] [])) _
    refine XS.aload X22.here hx rfl (hb hby at_181) rfl rfl ?_
    show Steps p.tables e below (T22.setTop (mkF m 183 #[.val (.long q1), .second, .val (.long q2), .second, .val (.long q3), .second, .val (.ref b4), .val (.int (1 : Int32))] [(.ref b4)])) _
    refine XS.lload X22.here hx rfl (hb hby at_183) rfl ?_
    show Steps p.tables e below (T22.setTop (mkF m 185 #[.val (.long q1), .second, .val (.long q2), .second, .val (.long q3), .second, .val (.ref b4), .val (.int (1 : Int32))] [(.long q3), (.ref b4)])) _
    refine st23.trans ?_
    show Steps p.tables e below (T23.setTop (mkF m 188 #[.val (.long q1), .second, .val (.long q2), .second, .val (.long q3), .second, .val (.ref b4), .val (.int (1 : Int32))] [])) _
    refine XS.iload X23.here hx rfl (hb hby at_188) rfl ?_
    show Steps p.tables e below (T23.setTop (mkF m 190 #[.val (.long q1), .second, .val (.long q2), .second, .val (.long q3), .second, .val (.ref b4), .val (.int (1 : Int32))] [(.int (1 : Int32))])) _
    refine XS.ifNo X23.here hx rfl (hb hby at_190) rfl ((if0 _ _).trans (feq hc190).1) ?_
    show Steps p.tables e below (T23.setTop (mkF m 193 #[.val (.long q1), .second, .val (.long q2), .second, .val (.long q3), .second, .val (.ref b4), .val (.int (1 : Int32))] [])) _
    refine XS.aload X23.here hx rfl (hb hby at_193) rfl rfl ?_
    show Steps p.tables e below (T23.setTop (mkF m 195 #[.val (.long q1), .second, .val (.long q2), .second, .val (.long q3), .second, .val (.ref b4), .val (.int (1 : Int32))] [(.ref b4)])) _
    refine XS.iconst X23.here hx rfl (hb hby at_195) ?_
    show Steps p.tables e below (T23.setTop (mkF m 196 #[.val (.long q1), .second, .val (.long q2), .second, .val (.long q3), .second, .val (.ref b4), .val (.int (1 : Int32))] [(.int (0 : Int32)), (.ref b4)])) _
    refine st24.trans ?_
    show Steps p.tables e below (T24.setTop (mkF m 199 #[.val (.long q1), .second, .val (.long q2), .second, .val (.long q3), .second, .val (.ref b4), .val (.int (1 : Int32))] [(.long q1)])) _
    refine XS.lloadN X24.here hx rfl (hb hby at_199) rfl ?_
    show Steps p.tables e below (T24.setTop (mkF m 200 #[.val (.long q1), .second, .val (.long q2), .second, .val (.long q3), .second, .val (.ref b4), .val (.int (1 : Int32))] [(.long q1), (.long q1)])) _
    refine XS.lcmp X24.here hx rfl (hb hby at_200) rfl ?_
    show Steps p.tables e below (T24.setTop (mkF m 201 #[.val (.long q1), .second, .val (.long q2), .second, .val (.long q3), .second, .val (.ref b4), .val (.int (1 : Int32))] [(.int (lcmpW q1 q1))])) _
    refine XS.ifNo X24.here hx rfl (hb hby at_201) rfl ((if0 _ _).trans (teq ((lw_eq _ _).mpr rfl : (lcmpW q1 q1) = (0 : Int32))).2) ?_
    show Steps p.tables e below (T24.setTop (mkF m 204 #[.val (.long q1), .second, .val (.long q2), .second, .val (.long q3), .second, .val (.ref b4), .val (.int (1 : Int32))] [])) _
    refine XS.aload X24.here hx rfl (hb hby at_204) rfl rfl ?_
    show Steps p.tables e below (T24.setTop (mkF m 206 #[.val (.long q1), .second, .val (.long q2), .second, .val (.long q3), .second, .val (.ref b4), .val (.int (1 : Int32))] [(.ref b4)])) _
    refine XS.bipush X24.here hx rfl (hb hby at_206) ?_
    show Steps p.tables e below (T24.setTop (mkF m 208 #[.val (.long q1), .second, .val (.long q2), .second, .val (.long q3), .second, .val (.ref b4), .val (.int (1 : Int32))] [(.int (7 : Int32)), (.ref b4)])) _
    refine st25.trans ?_
    show Steps p.tables e below (T25.setTop (mkF m 211 #[.val (.long q1), .second, .val (.long q2), .second, .val (.long q3), .second, .val (.ref b4), .val (.int (1 : Int32))] [(.long (q2 + (7 : Int64)))])) _
    refine XS.lloadN X25.here hx rfl (hb hby at_211) rfl ?_
    show Steps p.tables e below (T25.setTop (mkF m 212 #[.val (.long q1), .second, .val (.long q2), .second, .val (.long q3), .second, .val (.ref b4), .val (.int (1 : Int32))] [(.long q2), (.long (q2 + (7 : Int64)))])) _
    refine X25.ldc2Long hx hown (mvT hZ (hw _ (List.mem_of_getElem? (i := 29) rfl))) (g := (mkF m 212 #[.val (.long q1), .second, .val (.long q2), .second, .val (.long q3), .second, .val (.ref b4), .val (.int (1 : Int32))] [(.long q2), (.long (q2 + (7 : Int64)))])) rfl (hb hby at_212) _ ?_
    show Steps p.tables e below (T25.setTop (mkF m 215 #[.val (.long q1), .second, .val (.long q2), .second, .val (.long q3), .second, .val (.ref b4), .val (.int (1 : Int32))] [(.long (7 : Int64)), (.long q2), (.long (q2 + (7 : Int64)))])) _
    refine XS.ladd X25.here hx rfl (hb hby at_215) rfl ?_
    show Steps p.tables e below (T25.setTop (mkF m 216 #[.val (.long q1), .second, .val (.long q2), .second, .val (.long q3), .second, .val (.ref b4), .val (.int (1 : Int32))] [(.long (q2 + (7 : Int64))), (.long (q2 + (7 : Int64)))])) _
    refine XS.lcmp X25.here hx rfl (hb hby at_216) rfl ?_
    show Steps p.tables e below (T25.setTop (mkF m 217 #[.val (.long q1), .second, .val (.long q2), .second, .val (.long q3), .second, .val (.ref b4), .val (.int (1 : Int32))] [(.int (lcmpW (q2 + (7 : Int64)) (q2 + (7 : Int64))))])) _
    refine XS.ifNo X25.here hx rfl (hb hby at_217) rfl ((if0 _ _).trans (teq ((lw_eq _ _).mpr rfl : (lcmpW (q2 + (7 : Int64)) (q2 + (7 : Int64))) = (0 : Int32))).2) ?_
    show Steps p.tables e below (T25.setTop (mkF m 220 #[.val (.long q1), .second, .val (.long q2), .second, .val (.long q3), .second, .val (.ref b4), .val (.int (1 : Int32))] [])) _
    refine XS.aload X25.here hx rfl (hb hby at_220) rfl rfl ?_
    show Steps p.tables e below (T25.setTop (mkF m 222 #[.val (.long q1), .second, .val (.long q2), .second, .val (.long q3), .second, .val (.ref b4), .val (.int (1 : Int32))] [(.ref b4)])) _
    refine XS.bipush X25.here hx rfl (hb hby at_222) ?_
    show Steps p.tables e below (T25.setTop (mkF m 224 #[.val (.long q1), .second, .val (.long q2), .second, .val (.long q3), .second, .val (.ref b4), .val (.int (1 : Int32))] [(.int (15 : Int32)), (.ref b4)])) _
    refine st26.trans ?_
    show Steps p.tables e below (T26.setTop (mkF m 227 #[.val (.long q1), .second, .val (.long q2), .second, .val (.long q3), .second, .val (.ref b4), .val (.int (1 : Int32))] [(.long (q2 + (15 : Int64)))])) _
    refine XS.lloadN X26.here hx rfl (hb hby at_227) rfl ?_
    show Steps p.tables e below (T26.setTop (mkF m 228 #[.val (.long q1), .second, .val (.long q2), .second, .val (.long q3), .second, .val (.ref b4), .val (.int (1 : Int32))] [(.long q2), (.long (q2 + (15 : Int64)))])) _
    refine X26.ldc2Long hx hown (mvT hZ (hw _ (List.mem_of_getElem? (i := 37) rfl))) (g := (mkF m 228 #[.val (.long q1), .second, .val (.long q2), .second, .val (.long q3), .second, .val (.ref b4), .val (.int (1 : Int32))] [(.long q2), (.long (q2 + (15 : Int64)))])) rfl (hb hby at_228) _ ?_
    show Steps p.tables e below (T26.setTop (mkF m 231 #[.val (.long q1), .second, .val (.long q2), .second, .val (.long q3), .second, .val (.ref b4), .val (.int (1 : Int32))] [(.long (15 : Int64)), (.long q2), (.long (q2 + (15 : Int64)))])) _
    refine XS.ladd X26.here hx rfl (hb hby at_231) rfl ?_
    show Steps p.tables e below (T26.setTop (mkF m 232 #[.val (.long q1), .second, .val (.long q2), .second, .val (.long q3), .second, .val (.ref b4), .val (.int (1 : Int32))] [(.long (q2 + (15 : Int64))), (.long (q2 + (15 : Int64)))])) _
    refine XS.lcmp X26.here hx rfl (hb hby at_232) rfl ?_
    show Steps p.tables e below (T26.setTop (mkF m 233 #[.val (.long q1), .second, .val (.long q2), .second, .val (.long q3), .second, .val (.ref b4), .val (.int (1 : Int32))] [(.int (lcmpW (q2 + (15 : Int64)) (q2 + (15 : Int64))))])) _
    refine XS.ifNo X26.here hx rfl (hb hby at_233) rfl ((if0 _ _).trans (teq ((lw_eq _ _).mpr rfl : (lcmpW (q2 + (15 : Int64)) (q2 + (15 : Int64))) = (0 : Int32))).2) ?_
    show Steps p.tables e below (T26.setTop (mkF m 236 #[.val (.long q1), .second, .val (.long q2), .second, .val (.long q3), .second, .val (.ref b4), .val (.int (1 : Int32))] [])) _
    refine XS.aload X26.here hx rfl (hb hby at_236) rfl rfl ?_
    show Steps p.tables e below (T26.setTop (mkF m 238 #[.val (.long q1), .second, .val (.long q2), .second, .val (.long q3), .second, .val (.ref b4), .val (.int (1 : Int32))] [(.ref b4)])) _
    refine XS.bipush X26.here hx rfl (hb hby at_238) ?_
    show Steps p.tables e below (T26.setTop (mkF m 240 #[.val (.long q1), .second, .val (.long q2), .second, .val (.long q3), .second, .val (.ref b4), .val (.int (1 : Int32))] [(.int (16 : Int32)), (.ref b4)])) _
    refine st27.trans ?_
    show Steps p.tables e below (T27.setTop (mkF m 243 #[.val (.long q1), .second, .val (.long q2), .second, .val (.long q3), .second, .val (.ref b4), .val (.int (1 : Int32))] [(.long q3)])) _
    refine XS.lload X27.here hx rfl (hb hby at_243) rfl ?_
    show Steps p.tables e below (T27.setTop (mkF m 245 #[.val (.long q1), .second, .val (.long q2), .second, .val (.long q3), .second, .val (.ref b4), .val (.int (1 : Int32))] [(.long q3), (.long q3)])) _
    refine XS.lcmp X27.here hx rfl (hb hby at_245) rfl ?_
    show Steps p.tables e below (T27.setTop (mkF m 246 #[.val (.long q1), .second, .val (.long q2), .second, .val (.long q3), .second, .val (.ref b4), .val (.int (1 : Int32))] [(.int (lcmpW q3 q3))])) _
    refine XS.ifNo X27.here hx rfl (hb hby at_246) rfl ((if0 _ _).trans (teq ((lw_eq _ _).mpr rfl : (lcmpW q3 q3) = (0 : Int32))).2) ?_
    show Steps p.tables e below (T27.setTop (mkF m 249 #[.val (.long q1), .second, .val (.long q2), .second, .val (.long q3), .second, .val (.ref b4), .val (.int (1 : Int32))] [])) _
    refine XS.iconst X27.here hx rfl (hb hby at_249) ?_
    show Steps p.tables e below (T27.setTop (mkF m 250 #[.val (.long q1), .second, .val (.long q2), .second, .val (.long q3), .second, .val (.ref b4), .val (.int (1 : Int32))] [(.int (1 : Int32))])) _
    refine XS.goto X27.here hx rfl (pc0 := 250) (pc' := 254) rfl (hb hby at_250) (by decide) (by decide) ?_
    show Steps p.tables e below (T27.setTop (mkF m 254 #[.val (.long q1), .second, .val (.long q2), .second, .val (.long q3), .second, .val (.ref b4), .val (.int (1 : Int32))] [(.int (1 : Int32))])) _
    exact retN X27 hx (t := .boolean) Bd.returns (by simp) (hb hby at_254) hr
  · show Q0 Z q1 q2 q3 h0 n0 _ T27.heap _
    exact ⟨rfl, N27⟩
set_option maxRecDepth 65536 in
set_option maxHeartbeats 40000000 in
theorem comes_1 {Post : Tables → Env → Array Value → State → Outcome → State → Prop} (hpost : ∀ tb e args s v u, (limb_1_1.after args s (.returned v) u = true ∧ limb_1_2.after args s (.returned v) u = true ∧ True) → FrameEnd s (.returned v) u (Jvm.fieldLocs frame_1_writes args s ++ Jvm.arrayLocs frame_1_arrays args s ++ Jvm.staticLocs frame_1_statics s) 16 192 → Post tb e args s (.returned v) u) :
    ArmFor flags0 classFile x code maxLocals ret World_1 tables_1 room_1 Calls_1 rest_1 Pre_1 Post := by
  intro l hfl _ _ p e ha hc hk s m args below hf hA hF happ hP
  obtain ⟨hcalls, hrest, hpre⟩ := hP
  obtain ⟨-, -, -, hnamed, -, -, -, hat⟩ := (Spec.applies_iff hf).mp happ
  obtain ⟨hg, hn⟩ := and_e (Cond.before_iff.mp (show (Jvm.Cond.and given_1 narrow_1).before args s = true from hpre))
  obtain ⟨g28, g29⟩ := and_e hg
  obtain ⟨g30, g31⟩ := and_e g29
  obtain ⟨g32, g33⟩ := and_e g31
  obtain ⟨w0, w1, w2, rfl⟩ : ∃ w0 w1 w2 : Value, args = #[w0, w1, w2] := by
    have hs : args.size = 3 := by simpa [Cond.value, given_1] using g28
    obtain ⟨L⟩ := args
    match L, hs with
    | [w0, w1, w2], _ => exact ⟨w0, w1, w2, rfl⟩
  have hw := fun d (hd : d ∈ tables_1) => atoms_spec (ws := Jvm.Cond.code x code maxLocals ret :: tables_1) hat d (List.mem_cons_of_mem _ hd)
  have hfit : Fit s := fun {y c} hc i hi => by
    obtain ⟨ha, rfl⟩ := Array.getElem?_eq_some_iff.mp hc
    have q := List.all_eq_true.mp ((Array.all_eq_true_iff_forall_mem.mp hF) _ (Array.getElem_mem ha)) i (List.mem_range.mpr hi)
    simpa [Array.getElem?_eq_getElem hi] using q
  obtain ⟨i0, ei0⟩ := isL_v g30
  obtain rfl : w0 = (.long i0) := Option.some.inj ei0
  obtain ⟨i1, ei1⟩ := isL_v g32
  obtain rfl : w1 = (.long i1) := Option.some.inj ei1
  obtain ⟨i2, ei2⟩ := isL_v g33
  obtain rfl : w2 = (.long i2) := Option.some.inj ei2
  obtain ⟨n, o, h1, h2, h3, _, L, rfl, ⟨rfl, N⟩, hq⟩ := rm0 l s _ hw tables_1 i0 i1 i2 s.heap s.heap.size (Nat.le_refl _)  p e ha hc hk s m _ below hf ((Spec.applies_iff_loose hf).mp happ).1 ⟨rfl, State.Warmed39.refl s, rfl⟩ trivial
  refine ⟨n, _, h1, h2, h3, hpost _ _ _ _ _ _ ⟨Cond.after_iff.mpr rfl, Cond.after_iff.mpr (eq_i res_at (Term.int_eval (1)) rfl), trivial⟩ ⟨hq.1, hq.2.1, (hq.2.2.sift fun y hy => Or.inr (N y hy)).mono (by decide) (by decide)⟩⟩
theorem main_1_1 : Claimed_1_1 := comes_1 fun _ _ _ _ _ _ h hF => ⟨h.1, hF⟩
theorem main_1_2 : Claimed_1_2 := comes_1 fun _ _ _ _ _ _ h hF => ⟨h.2.1, hF⟩
end Jvm.Pilot.@@N@@
namespace Jvm.Pilot.@@N@@
open Jvm Jvm.ClassFile Sem Op Lib Jvm.Free Jvm.Stand Jvm.Pilot.@@N@@.Jvm.D
/-! MADE BY PROGRAM (witnessworld.py) out of the Statement's table words and the real class files: 14 classes; the members and pool entries that the words name. The judged class is class 1, her method 1. -/
namespace start1
open Jvm.ClassFile
def u (s : String) : CpInfo := .utf8 (stringToUtf16 s)
/-- a pool by its gaps: so many unusable entries, then the entry; so many at the end -/
def gap : Nat → List CpInfo → List CpInfo
  | 0, r => r
  | n + 1, r => .unusable :: gap n r
def poolList (es : List (Nat × CpInfo)) (last : Nat) : List CpInfo := es.foldr (fun e r => gap e.1 (e.2 :: r)) (gap last [])
def pool (es : List (Nat × CpInfo)) (last : Nat) : Array CpInfo := ⟨poolList es last⟩
def fileOf (pool : Array CpInfo) (this : Nat) (attrs : Array Attribute := #[]) (ms : Array MethodInfo := #[]) (fl : Nat := 33) (sup : Nat := 0) (ifs : Array Nat := #[]) (fds : Array FieldInfo := #[]) : ClassFile where
  minorVersion := 0
  majorVersion := 65
  constantPool := pool
  accessFlags := fl
  thisClass := this
  superClass := sup
  interfaces := ifs
  fields := fds
  methods := ms
  attributes := attrs
def plain (name : String) (sup : Option ClassId) : Class where
  name := name
  kind := .ordinary
  loader := none
  accessFlags := 33
  super := sup
  interfaces := #[]
  cf := none
  fields := #[]
  methods := #[]
  instanceTypes := #[]
  staticTypes := #[]
  resolved := #[]
  callSites := []
  init := .initialized
  statics := none
  mirror := none

def pool0 : Array CpInfo := pool [(5, u "<init>"), (0, u "()V"), (1, .class_ 10), (1, u "java/lang/Object")] 113

def k0c0 : Code := { maxStack := 0, maxLocals := 1, code := object_method_1_code, exceptionTable := #[], attributes := #[] }
def k0m0 : Method := { name := "<init>", desc := "()V", sig := { parameters := [], returnType := none }, accessFlags := 1, code := some k0c0 }
/-- java/lang/Object -/
def k0 : Class := { plain "java/lang/Object" none with
  accessFlags := 33
  interfaces := #[]
  cf := some (fileOf pool0 8 #[] #[{ accessFlags := 1, nameIndex := 5, descriptorIndex := 6, attributes := #[] }] 33 0 #[] #[])
  fields := #[]
  methods := #[k0m0]
  instanceTypes := #[]
  staticTypes := #[]
  resolved := Array.replicate 124 none
  statics := none }

def pool1 : Array CpInfo := pool [(2, .class_ 4), (0, .nameAndType 5 6), (0, u "java/lang/Object"), (0, u "<init>"), (0, u "()V"), (0, .class_ 8), (0, u "com/example/crate2/crate2/LineNumbers"), (0, .methodref 7 3), (0, .methodref 7 11), (0, .nameAndType 12 13), (0, u "add"), (0, u "(J)V"), (0, .methodref 7 15), (0, .nameAndType 16 17), (0, u "get"), (0, u "(I)J"), (0, .long 2), (1, .long 3), (1, .long 4), (1, .long 5), (1, .long 6), (1, .long 7), (1, .long 8), (1, .long 9), (1, .long 10), (1, .long 11), (1, .long 12), (1, .long 13), (1, .long 14), (1, .long 15), (1, .class_ 47), (0, u "com/example/crate2/crate2/LineNumbersAddPinLaw"), (2, u "law"), (0, u "(JJJ)Z")] 3

def k1m0 : Method := { name := "<init>", desc := "()V", sig := { parameters := [], returnType := none }, accessFlags := 1, code := none }
def k1c1 : Code := { maxStack := 6, maxLocals := 8, code := code, exceptionTable := #[], attributes := #[] }
def k1m1 : Method := { name := "law", desc := "(JJJ)Z", sig := { parameters := [.long, .long, .long], returnType := some .boolean }, accessFlags := 9, code := some k1c1 }
/-- com/example/crate2/crate2/LineNumbersAddPinLaw -/
def k1 : Class := { plain "com/example/crate2/crate2/LineNumbersAddPinLaw" (some 0) with
  accessFlags := 49
  interfaces := #[]
  cf := some (fileOf pool1 46 #[] #[{ accessFlags := 1, nameIndex := 5, descriptorIndex := 6, attributes := #[] }, { accessFlags := 9, nameIndex := 50, descriptorIndex := 51, attributes := #[] }] 49 2 #[] #[])
  fields := #[]
  methods := #[k1m0, k1m1]
  instanceTypes := #[]
  staticTypes := #[]
  resolved := Array.replicate 55 none
  statics := none }

def pool2 : Array CpInfo := pool [(1, .methodref 2 3), (0, .class_ 4), (0, .nameAndType 5 6), (0, u "java/lang/Object"), (0, u "<init>"), (0, u "()V"), (0, .fieldref 8 9), (0, .class_ 10), (0, .nameAndType 11 12), (0, u "com/example/crate2/crate2/LineNumbers"), (0, u "lines"), (0, u "[J"), (0, .fieldref 8 14), (0, .nameAndType 15 16), (0, u "size"), (0, u "I"), (0, .methodref 18 19), (0, .class_ 20), (0, .nameAndType 21 22), (0, u "java/util/Arrays"), (0, u "copyOf"), (0, u "([JI)[J"), (7, u "add"), (0, u "(J)V"), (1, u "get"), (0, u "(I)J")] 2

def k2c0 : Code := { maxStack := 2, maxLocals := 1, code := prog_4_method_1_code, exceptionTable := #[], attributes := #[] }
def k2m0 : Method := { name := "<init>", desc := "()V", sig := { parameters := [], returnType := none }, accessFlags := 0, code := some k2c0 }
def k2c1 : Code := { maxStack := 5, maxLocals := 3, code := prog_4_method_2_code, exceptionTable := #[], attributes := #[] }
def k2m1 : Method := { name := "add", desc := "(J)V", sig := { parameters := [.long], returnType := none }, accessFlags := 0, code := some k2c1 }
def k2c2 : Code := { maxStack := 3, maxLocals := 2, code := prog_4_method_3_code, exceptionTable := #[], attributes := #[] }
def k2m2 : Method := { name := "get", desc := "(I)J", sig := { parameters := [.int], returnType := some .long }, accessFlags := 0, code := some k2c2 }
/-- com/example/crate2/crate2/LineNumbers -/
def k2 : Class := { plain "com/example/crate2/crate2/LineNumbers" (some 0) with
  accessFlags := 48
  interfaces := #[]
  cf := some (fileOf pool2 8 #[] #[{ accessFlags := 0, nameIndex := 5, descriptorIndex := 6, attributes := #[] }, { accessFlags := 0, nameIndex := 30, descriptorIndex := 31, attributes := #[] }, { accessFlags := 0, nameIndex := 33, descriptorIndex := 34, attributes := #[] }] 48 2 #[] #[{ accessFlags := 2, nameIndex := 11, descriptorIndex := 12, attributes := #[] }, { accessFlags := 2, nameIndex := 15, descriptorIndex := 16, attributes := #[] }])
  fields := #[{ name := "lines", type := (.array .long), accessFlags := 2, slot := 0, constantValue := 0 }, { name := "size", type := .int, accessFlags := 2, slot := 1, constantValue := 0 }]
  methods := #[k2m0, k2m1, k2m2]
  instanceTypes := #[(.array .long), .int]
  staticTypes := #[]
  resolved := Array.replicate 37 none
  statics := none }

def pool3 : Array CpInfo := pool [(2, .class_ 4), (1, u "java/lang/Object"), (0, u "<init>"), (0, u "()V"), (7, .class_ 16), (1, u "java/util/Arrays"), (57, .class_ 76), (1, u "java/util/Arrays$NaturalOrder"), (36, .class_ 115), (1, u "java/util/Arrays$LegacyMergeSort"), (1, u "Z"), (32, .methodref 151 152), (0, .class_ 153), (0, .nameAndType 154 155), (0, u "java/lang/System"), (0, u "arraycopy"), (0, u "(Ljava/lang/Object;ILjava/lang/Object;II)V"), (146, u "copyOf"), (1, .methodref 305 306), (0, .class_ 307), (0, .nameAndType 308 309), (0, u "java/lang/Math"), (0, u "min"), (0, u "(II)I"), (65, .class_ 376), (0, u "java/util/Arrays$ArrayList"), (68, u "$assertionsDisabled"), (269, u "MIN_ARRAY_SORT_GRAN"), (0, u "I"), (2, u "INSERTIONSORT_THRESHOLD"), (152, u "([JI)[J"), (102, .class_ 976), (0, u "java/util/Arrays$ArrayItr")] 52

def k3m0 : Method := { name := "<init>", desc := "()V", sig := { parameters := [], returnType := none }, accessFlags := 2, code := none }
def k3c1 : Code := { maxStack := 6, maxLocals := 3, code := jdk_65_method_124_code, exceptionTable := #[], attributes := #[] }
def k3m1 : Method := { name := "copyOf", desc := "([JI)[J", sig := { parameters := [(.array .long), .int], returnType := some (.array .long) }, accessFlags := 9, code := some k3c1 }
/-- java/util/Arrays -/
def k3 : Class := { plain "java/util/Arrays" (some 0) with
  accessFlags := 49
  interfaces := #[]
  cf := some (fileOf pool3 14 #[.nestMembers #[975, 375, 113, 74]] #[{ accessFlags := 2, nameIndex := 5, descriptorIndex := 6, attributes := #[] }, { accessFlags := 9, nameIndex := 302, descriptorIndex := 872, attributes := #[] }] 49 2 #[] #[{ accessFlags := 26, nameIndex := 715, descriptorIndex := 716, attributes := #[] }, { accessFlags := 26, nameIndex := 719, descriptorIndex := 716, attributes := #[] }, { accessFlags := 4120, nameIndex := 445, descriptorIndex := 117, attributes := #[] }])
  fields := #[{ name := "MIN_ARRAY_SORT_GRAN", type := .int, accessFlags := 26, slot := 0, constantValue := 0 }, { name := "INSERTIONSORT_THRESHOLD", type := .int, accessFlags := 26, slot := 1, constantValue := 0 }, { name := "$assertionsDisabled", type := .boolean, accessFlags := 4120, slot := 2, constantValue := 0 }]
  methods := #[k3m0, k3m1]
  instanceTypes := #[]
  staticTypes := #[.int, .int, .boolean]
  resolved := Array.replicate 1029 none
  statics := none }

def pool4 : Array CpInfo := pool [(1, .class_ 2), (0, u "java/lang/Math"), (1, .class_ 6), (1, u "java/lang/Object"), (0, u "<init>"), (0, u "()V"), (89, .class_ 100), (1, u "java/lang/Math$RandomNumberGeneratorHolder"), (71, u "negativeZeroFloatBits"), (0, u "J"), (2, u "negativeZeroDoubleBits"), (24, u "min"), (43, u "$assertionsDisabled"), (0, u "Z"), (88, u "(II)I"), (2, u "twoToTheDoubleScaleDown"), (0, u "D"), (4, u "twoToTheDoubleScaleUp"), (9, u "E"), (3, u "PI"), (2, u "TAU"), (2, u "DEGREES_TO_RADIANS"), (0, u "RADIANS_TO_DEGREES")] 94

def k4m0 : Method := { name := "<init>", desc := "()V", sig := { parameters := [], returnType := none }, accessFlags := 2, code := none }
def k4c1 : Code := { maxStack := 2, maxLocals := 2, code := jdk_29_method_69_code, exceptionTable := #[], attributes := #[] }
def k4m1 : Method := { name := "min", desc := "(II)I", sig := { parameters := [.int, .int], returnType := some .int }, accessFlags := 9, code := some k4c1 }
/-- java/lang/Math -/
def k4 : Class := { plain "java/lang/Math" (some 0) with
  accessFlags := 49
  interfaces := #[]
  cf := some (fileOf pool4 1 #[.nestMembers #[98]] #[{ accessFlags := 2, nameIndex := 7, descriptorIndex := 8, attributes := #[] }, { accessFlags := 9, nameIndex := 201, descriptorIndex := 335, attributes := #[] }] 49 4 #[] #[{ accessFlags := 25, nameIndex := 354, descriptorIndex := 339, attributes := #[] }, { accessFlags := 25, nameIndex := 358, descriptorIndex := 339, attributes := #[] }, { accessFlags := 25, nameIndex := 361, descriptorIndex := 339, attributes := #[] }, { accessFlags := 26, nameIndex := 364, descriptorIndex := 339, attributes := #[] }, { accessFlags := 26, nameIndex := 365, descriptorIndex := 339, attributes := #[] }, { accessFlags := 26, nameIndex := 172, descriptorIndex := 173, attributes := #[] }, { accessFlags := 26, nameIndex := 176, descriptorIndex := 173, attributes := #[] }, { accessFlags := 8, nameIndex := 344, descriptorIndex := 339, attributes := #[] }, { accessFlags := 8, nameIndex := 338, descriptorIndex := 339, attributes := #[] }, { accessFlags := 4120, nameIndex := 245, descriptorIndex := 246, attributes := #[] }])
  fields := #[{ name := "E", type := .double, accessFlags := 25, slot := 0, constantValue := 0 }, { name := "PI", type := .double, accessFlags := 25, slot := 1, constantValue := 0 }, { name := "TAU", type := .double, accessFlags := 25, slot := 2, constantValue := 0 }, { name := "DEGREES_TO_RADIANS", type := .double, accessFlags := 26, slot := 3, constantValue := 0 }, { name := "RADIANS_TO_DEGREES", type := .double, accessFlags := 26, slot := 4, constantValue := 0 }, { name := "negativeZeroFloatBits", type := .long, accessFlags := 26, slot := 5, constantValue := 0 }, { name := "negativeZeroDoubleBits", type := .long, accessFlags := 26, slot := 6, constantValue := 0 }, { name := "twoToTheDoubleScaleUp", type := .double, accessFlags := 8, slot := 7, constantValue := 0 }, { name := "twoToTheDoubleScaleDown", type := .double, accessFlags := 8, slot := 8, constantValue := 0 }, { name := "$assertionsDisabled", type := .boolean, accessFlags := 4120, slot := 9, constantValue := 0 }]
  methods := #[k4m0, k4m1]
  instanceTypes := #[]
  staticTypes := #[.double, .double, .double, .double, .double, .long, .long, .double, .double, .boolean]
  resolved := Array.replicate 460 none
  statics := none }

def pool5 : Array CpInfo := pool [(2, .class_ 4), (1, u "java/lang/Object"), (0, u "<init>"), (0, u "()V"), (1, .class_ 10), (1, u "java/lang/System"), (0, u "allowSecurityManager"), (0, u "I"), (16, u "cons"), (0, u "Ljava/io/Console;"), (77, .class_ 110), (1, u "java/lang/System$CallersHolder"), (43, u "initialErrStream"), (0, u "Ljava/io/PrintStream;"), (19, u "security"), (0, u "Ljava/lang/SecurityManager;"), (31, .class_ 209), (0, u "java/lang/System$1"), (7, u "props"), (0, u "Ljava/util/Properties;"), (2, u "lineSeparator"), (0, u "Ljava/lang/String;"), (96, .class_ 321), (1, u "java/lang/System$LoggerFinder"), (5, .class_ 328), (0, u "java/lang/System$Logger"), (67, u "err"), (2, u "out"), (91, u "notSupportedJnuEncoding"), (15, u "in"), (17, u "initialIn"), (0, u "Ljava/io/InputStream;"), (35, u "bootLayer"), (0, u "Ljava/lang/ModuleLayer;"), (99, .class_ 664), (0, u "java/lang/System$2"), (9, u "NEVER"), (2, u "MAYBE"), (49, u "arraycopy"), (0, u "(Ljava/lang/Object;ILjava/lang/Object;II)V"), (72, .class_ 802), (0, u "java/lang/System$Logger$Level")] 31

def k5m0 : Method := { name := "<init>", desc := "()V", sig := { parameters := [], returnType := none }, accessFlags := 2, code := none }
def k5m1 : Method := { name := "arraycopy", desc := "(Ljava/lang/Object;ILjava/lang/Object;II)V", sig := { parameters := [(.object "java/lang/Object"), .int, (.object "java/lang/Object"), .int, .int], returnType := none }, accessFlags := 265, code := none }
/-- java/lang/System -/
def k5 : Class := { plain "java/lang/System" (some 0) with
  accessFlags := 49
  interfaces := #[]
  cf := some (fileOf pool5 8 #[.nestMembers #[319, 327, 801, 108, 663, 208]] #[{ accessFlags := 2, nameIndex := 5, descriptorIndex := 6, attributes := #[] }, { accessFlags := 265, nameIndex := 727, descriptorIndex := 728, attributes := #[] }] 49 2 #[] #[{ accessFlags := 25, nameIndex := 507, descriptorIndex := 526, attributes := #[] }, { accessFlags := 25, nameIndex := 399, descriptorIndex := 155, attributes := #[] }, { accessFlags := 25, nameIndex := 396, descriptorIndex := 155, attributes := #[] }, { accessFlags := 10, nameIndex := 525, descriptorIndex := 526, attributes := #[] }, { accessFlags := 26, nameIndex := 674, descriptorIndex := 12, attributes := #[] }, { accessFlags := 26, nameIndex := 677, descriptorIndex := 12, attributes := #[] }, { accessFlags := 10, nameIndex := 11, descriptorIndex := 12, attributes := #[] }, { accessFlags := 74, nameIndex := 175, descriptorIndex := 176, attributes := #[] }, { accessFlags := 10, nameIndex := 491, descriptorIndex := 222, attributes := #[] }, { accessFlags := 74, nameIndex := 29, descriptorIndex := 30, attributes := #[] }, { accessFlags := 74, nameIndex := 154, descriptorIndex := 155, attributes := #[] }, { accessFlags := 10, nameIndex := 217, descriptorIndex := 218, attributes := #[] }, { accessFlags := 10, nameIndex := 221, descriptorIndex := 222, attributes := #[] }, { accessFlags := 8, nameIndex := 562, descriptorIndex := 563, attributes := #[] }])
  fields := #[{ name := "in", type := (.object "java/io/InputStream"), accessFlags := 25, slot := 0, constantValue := 0 }, { name := "out", type := (.object "java/io/PrintStream"), accessFlags := 25, slot := 1, constantValue := 0 }, { name := "err", type := (.object "java/io/PrintStream"), accessFlags := 25, slot := 2, constantValue := 0 }, { name := "initialIn", type := (.object "java/io/InputStream"), accessFlags := 10, slot := 3, constantValue := 0 }, { name := "NEVER", type := .int, accessFlags := 26, slot := 4, constantValue := 0 }, { name := "MAYBE", type := .int, accessFlags := 26, slot := 5, constantValue := 0 }, { name := "allowSecurityManager", type := .int, accessFlags := 10, slot := 6, constantValue := 0 }, { name := "security", type := (.object "java/lang/SecurityManager"), accessFlags := 74, slot := 7, constantValue := 0 }, { name := "notSupportedJnuEncoding", type := (.object "java/lang/String"), accessFlags := 10, slot := 8, constantValue := 0 }, { name := "cons", type := (.object "java/io/Console"), accessFlags := 74, slot := 9, constantValue := 0 }, { name := "initialErrStream", type := (.object "java/io/PrintStream"), accessFlags := 74, slot := 10, constantValue := 0 }, { name := "props", type := (.object "java/util/Properties"), accessFlags := 10, slot := 11, constantValue := 0 }, { name := "lineSeparator", type := (.object "java/lang/String"), accessFlags := 10, slot := 12, constantValue := 0 }, { name := "bootLayer", type := (.object "java/lang/ModuleLayer"), accessFlags := 8, slot := 13, constantValue := 0 }]
  methods := #[k5m0, k5m1]
  instanceTypes := #[]
  staticTypes := #[(.object "java/io/InputStream"), (.object "java/io/PrintStream"), (.object "java/io/PrintStream"), (.object "java/io/InputStream"), .int, .int, .int, (.object "java/lang/SecurityManager"), (.object "java/lang/String"), (.object "java/io/Console"), (.object "java/io/PrintStream"), (.object "java/util/Properties"), (.object "java/lang/String"), (.object "java/lang/ModuleLayer")]
  resolved := Array.replicate 834 none
  statics := none }

def pool6 : Array CpInfo := pool [(1, u "java/lang/Cloneable"), (0, .class_ 1), (0, u "java/lang/Object"), (0, .class_ 3)] 3

/-- java/lang/Cloneable -/
def k6 : Class := { plain "java/lang/Cloneable" (some 0) with
  accessFlags := 1537
  interfaces := #[]
  cf := some (fileOf pool6 2 #[] #[] 1537 4 #[] #[])
  fields := #[]
  methods := #[]
  instanceTypes := #[]
  staticTypes := #[]
  resolved := Array.replicate 8 none
  statics := none }

def pool7 : Array CpInfo := pool [(1, u "java/io/Serializable"), (0, .class_ 1), (0, u "java/lang/Object"), (0, .class_ 3)] 3

/-- java/io/Serializable -/
def k7 : Class := { plain "java/io/Serializable" (some 0) with
  accessFlags := 1537
  interfaces := #[]
  cf := some (fileOf pool7 2 #[] #[] 1537 4 #[] #[])
  fields := #[]
  methods := #[]
  instanceTypes := #[]
  staticTypes := #[]
  resolved := Array.replicate 8 none
  statics := none }

/-- the primitive byte -/
def k8 : Class := { plain "byte" none with kind := .primitive 'B', accessFlags := 0x411 }
/-- [B -/
def k9 : Class := { plain "[B" (some 0) with kind := .array 8 .byte, interfaces := #[6, 7], accessFlags := 1041 }

/-- the primitive int -/
def k10 : Class := { plain "int" none with kind := .primitive 'I', accessFlags := 0x411 }
/-- [I -/
def k11 : Class := { plain "[I" (some 0) with kind := .array 10 .int, interfaces := #[6, 7], accessFlags := 1041 }

/-- the primitive long -/
def k12 : Class := { plain "long" none with kind := .primitive 'J', accessFlags := 0x411 }
/-- [J -/
def k13 : Class := { plain "[J" (some 0) with kind := .array 12 .long, interfaces := #[6, 7], accessFlags := 1041 }

def heap : Heap := #[]
def classes : Array Class := #[k0, k1, k2, k3, k4, k5, k6, k7, k8, k9, k10, k11, k12, k13]
def interned : List (Array UInt16 × Addr) := []
def slotsUsed : Nat := 0
def theMethod : MethodId := ⟨1, 1⟩
def args0 : Array Value := #[.long 5, .long 7, .long 1]
def aboutOver (below : List Frame) : State where
  vm := { classes := classes, interned := interned.toArray }
  heap := heap
  slotsUsed := slotsUsed
  threads := #[{ frames := .invoking theMethod args0 :: below }]
def below0 : List Frame := [.native { method := ⟨0, 0⟩, args := #[] }]
def about1 : State := aboutOver below0
def p0 : Program := .bare "" "" ""
def e0 : Env := launch0.env 0 0 0
theorem w_frames : about1.frames = Frame.invoking theMethod args0 :: below0 := rfl
set_option maxRecDepth 65536 in
theorem w_args : argsFit about1.vm theMethod args0 = true := by decide +kernel
set_option maxRecDepth 65536 in
theorem w_heap : heapFits about1 = true := by decide +kernel
set_option maxRecDepth 65536 in
theorem w_runnable : about1.curStatus? = some .runnable := by decide +kernel
set_option maxRecDepth 65536 in
theorem w_alone : about1.alone = true := by decide +kernel
set_option maxRecDepth 65536 in
theorem w_named : about1.methodNamed? x = some theMethod := by decide +kernel
set_option maxRecDepth 65536 in
theorem w_hears : about1.hears theMethod below0 = true := by decide +kernel
set_option maxRecDepth 65536 in
theorem w_ripe : about1.ripe theMethod args0 below0 = true := by decide +kernel
theorem w_running : about1.status = .running := rfl
set_option maxRecDepth 65536 in
theorem w_room : about1.hasRoom e0.platform room_1 = true :=
  launch0.hasRoom_least _ room_1 (by decide +kernel) (by decide +kernel) (by decide +kernel) (by decide +kernel) (by decide +kernel) (by decide +kernel)
theorem allAtoms_all (ts : List Jvm.Cond) (a : Array Jvm.Value) (st : Jvm.State) : (allAtoms ts).before a st = ts.all (fun c => c.before a st) := by
  induction ts with
  | nil => rfl
  | cons c t ih =>
    show (Jvm.Cond.and c (allAtoms t)).before a st = _
    rw [Jvm.Cond.before_and, ih, List.all_cons]
def words1 : List Jvm.Cond := Jvm.Cond.code x code maxLocals ret :: tables_1
/-- a 'code' word, met by the world's own term for the bytes: nothing is compared byte by byte -/
theorem code_word {y : MethodName} {bytes : ByteArray} {mx : Nat} {rt : Option FieldType} {a : Array Value} {s : State} {m : MethodId} {meth : Method} {c : Code} (h1 : s.methodNamed? y = some m) (h2 : s.vm.method? m = some meth) (h3 : meth.code = some c) (h4 : c.code = bytes)
    (h5 : (c.maxLocals == mx && c.exceptionTable.isEmpty && decide (c.maxStack ≤ mostOperands) && decide (meth.sig.returnType = rt) && !meth.locks && decide (parseMethodDescriptor y.desc = some meth.sig)) = true) : (Jvm.Cond.code y bytes mx rt).before a s = true := by
  simp only [Bool.and_eq_true, beq_iff_eq, Bool.not_eq_true', decide_eq_true_eq] at h5
  obtain ⟨⟨⟨⟨⟨g1, g2⟩, g3⟩, g4⟩, g5⟩, g6⟩ := h5
  simp [Cond.before, Cond.holds, Cond.value, h1, h2, h3, h4, g1, g2, g3, g4, g5, g6]
def isCode : Jvm.Cond → Bool
  | .code _ _ _ _ => true
  | _ => false
theorem all_split {L : List Jvm.Cond} {P : Jvm.Cond → Bool} (h1 : L.all (fun c => isCode c || P c) = true) (h2 : ∀ c ∈ L.filter isCode, P c = true) : L.all P = true := by
  refine List.all_eq_true.mpr fun c hc => ?_
  have h := List.all_eq_true.mp h1 c hc
  rcases Bool.eq_false_or_eq_true (isCode c) with hi | hi
  · exact h2 c (List.mem_filter.mpr ⟨hc, hi⟩)
  · simpa [hi] using h
set_option maxRecDepth 65536 in
theorem w_c0 : (Jvm.Cond.code x code maxLocals ret).before args0 about1 = true := code_word (m := ⟨1, 1⟩) (meth := k1m1) (c := k1c1) (by decide +kernel) rfl rfl rfl (by decide +kernel)
set_option maxRecDepth 65536 in
theorem w_c1 : (Jvm.Cond.code ({ cls := "com/example/crate2/crate2/LineNumbers", name := "<init>", desc := "()V" } : Jvm.MethodName) prog_4_method_1_code (1 : Nat) (Option.none : Option Jvm.ClassFile.FieldType)).before args0 about1 = true := code_word (m := ⟨2, 0⟩) (meth := k2m0) (c := k2c0) (by decide +kernel) rfl rfl rfl (by decide +kernel)
set_option maxRecDepth 65536 in
theorem w_c2 : (Jvm.Cond.code ({ cls := "java/lang/Object", name := "<init>", desc := "()V" } : Jvm.MethodName) object_method_1_code (1 : Nat) (Option.none : Option Jvm.ClassFile.FieldType)).before args0 about1 = true := code_word (m := ⟨0, 0⟩) (meth := k0m0) (c := k0c0) (by decide +kernel) rfl rfl rfl (by decide +kernel)
set_option maxRecDepth 65536 in
theorem w_c3 : (Jvm.Cond.code ({ cls := "com/example/crate2/crate2/LineNumbers", name := "add", desc := "(J)V" } : Jvm.MethodName) prog_4_method_2_code (3 : Nat) (Option.none : Option Jvm.ClassFile.FieldType)).before args0 about1 = true := code_word (m := ⟨2, 1⟩) (meth := k2m1) (c := k2c1) (by decide +kernel) rfl rfl rfl (by decide +kernel)
set_option maxRecDepth 65536 in
theorem w_c4 : (Jvm.Cond.code ({ cls := "com/example/crate2/crate2/LineNumbers", name := "get", desc := "(I)J" } : Jvm.MethodName) prog_4_method_3_code (2 : Nat) (Option.some Jvm.ClassFile.FieldType.long)).before args0 about1 = true := code_word (m := ⟨2, 2⟩) (meth := k2m2) (c := k2c2) (by decide +kernel) rfl rfl rfl (by decide +kernel)
set_option maxRecDepth 65536 in
theorem w_c5 : (Jvm.Cond.code ({ cls := "java/util/Arrays", name := "copyOf", desc := "([JI)[J" } : Jvm.MethodName) jdk_65_method_124_code (3 : Nat) (Option.some (Jvm.ClassFile.FieldType.array Jvm.ClassFile.FieldType.long))).before args0 about1 = true := code_word (m := ⟨3, 1⟩) (meth := k3m1) (c := k3c1) (by decide +kernel) rfl rfl rfl (by decide +kernel)
set_option maxRecDepth 65536 in
theorem w_c6 : (Jvm.Cond.code ({ cls := "java/lang/Math", name := "min", desc := "(II)I" } : Jvm.MethodName) jdk_29_method_69_code (2 : Nat) (Option.some Jvm.ClassFile.FieldType.int)).before args0 about1 = true := code_word (m := ⟨4, 1⟩) (meth := k4m1) (c := k4c1) (by decide +kernel) rfl rfl rfl (by decide +kernel)
def codes1 : List Jvm.Cond := [Jvm.Cond.code x code maxLocals ret, Jvm.Cond.code ({ cls := "com/example/crate2/crate2/LineNumbers", name := "<init>", desc := "()V" } : Jvm.MethodName) prog_4_method_1_code (1 : Nat) (Option.none : Option Jvm.ClassFile.FieldType), Jvm.Cond.code ({ cls := "java/lang/Object", name := "<init>", desc := "()V" } : Jvm.MethodName) object_method_1_code (1 : Nat) (Option.none : Option Jvm.ClassFile.FieldType), Jvm.Cond.code ({ cls := "com/example/crate2/crate2/LineNumbers", name := "add", desc := "(J)V" } : Jvm.MethodName) prog_4_method_2_code (3 : Nat) (Option.none : Option Jvm.ClassFile.FieldType), Jvm.Cond.code ({ cls := "com/example/crate2/crate2/LineNumbers", name := "get", desc := "(I)J" } : Jvm.MethodName) prog_4_method_3_code (2 : Nat) (Option.some Jvm.ClassFile.FieldType.long), Jvm.Cond.code ({ cls := "java/util/Arrays", name := "copyOf", desc := "([JI)[J" } : Jvm.MethodName) jdk_65_method_124_code (3 : Nat) (Option.some (Jvm.ClassFile.FieldType.array Jvm.ClassFile.FieldType.long)), Jvm.Cond.code ({ cls := "java/lang/Math", name := "min", desc := "(II)I" } : Jvm.MethodName) jdk_29_method_69_code (2 : Nat) (Option.some Jvm.ClassFile.FieldType.int)]
set_option maxRecDepth 65536 in
theorem codes_eq : words1.filter isCode = codes1 := rfl
theorem w_codes : ∀ c ∈ words1.filter isCode, c.before args0 about1 = true := by
  rw [codes_eq]
  intro c hc
  simp only [codes1, List.mem_cons, List.not_mem_nil, or_false] at hc
  rcases hc with rfl | rfl | rfl | rfl | rfl | rfl | rfl
  · exact w_c0
  · exact w_c1
  · exact w_c2
  · exact w_c3
  · exact w_c4
  · exact w_c5
  · exact w_c6
set_option maxRecDepth 65536 in
theorem w_t1 : (words1.take 24).all (fun c => isCode c || c.before args0 about1) = true := by decide +kernel
set_option maxRecDepth 65536 in
theorem w_t2 : ((words1.drop 24).take 24).all (fun c => isCode c || c.before args0 about1) = true := by decide +kernel
set_option maxRecDepth 65536 in
theorem w_t3 : ((words1.drop 24).drop 24).all (fun c => isCode c || c.before args0 about1) = true := by decide +kernel
theorem w_tables : (allAtoms (Jvm.Cond.code x code maxLocals ret :: tables_1)).before args0 about1 = true := by
  rw [allAtoms_all]
  show words1.all (fun c => c.before args0 about1) = true
  refine all_split ?_ w_codes
  rw [← List.take_append_drop 24 words1, List.all_append, w_t1, ← List.take_append_drop 24 (words1.drop 24), List.all_append, w_t2, w_t3]
  rfl
set_option maxRecDepth 65536 in
theorem w_case : (Jvm.Cond.and given_1 narrow_1).before args0 about1 = true := by decide +kernel
theorem w_applies : (headSpec (Jvm.Cond.code x code maxLocals ret :: tables_1) room_1).applies x e0.platform about1 = true :=
  (Spec.applies_iff w_frames).mpr ⟨w_running, w_runnable, w_alone, w_named, w_hears, w_ripe, w_room, w_tables⟩
theorem atStart : AtStart classFile x code maxLocals ret World_1 tables_1 room_1 Calls_1 rest_1 Pre_1 launch0 p0 e0 about1 theMethod args0 below0 :=
  ⟨lists_1, trivial, launch0.admits_env _ _ _, launch0.least_env, fairChoices_fair.cas, fairChoices_fair.clock, w_frames, w_args, w_heap, w_applies, trivial, trivial, w_case⟩
end start1
theorem witness_1 : WitnessClaimed_1 := ⟨start1.p0, start1.e0, start1.about1, start1.theMethod, start1.args0, start1.below0, start1.atStart⟩
end Jvm.Pilot.@@N@@
