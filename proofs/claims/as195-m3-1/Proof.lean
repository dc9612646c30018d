import JvmDerived
import JvmDerived.Pilot.@@N@@Statement
import JvmDerived.Pilot.@@N@@Code
set_option linter.unusedVariables false
set_option linter.unusedSimpArgs false
namespace Jvm.RoadKit
open Sem ClassFile Op Lib Jvm.Stand Jvm.Free Jvm.LawKit
section New
variable {p : Program} {l : Launch} {e : Env} {R : Room} {s : State} {m : MethodId} {args : Array Value} {below : List Frame} {meth : Method} {c : Code} {T : State} {locs : List Loc} {cells slots : Nat}
theorem retI (X : Stand p l e R s m args below meth c T locs cells slots) (hx : p.tables.exec = Jvm.exec) {pc : Nat} {Ls : Array Slot} {z : Int32} {rest : List Value} (hret : meth.sig.returnType = some .int) (hd : decode c.code pc = .ok (.ireturn, 1)) {fs : List Frame}
    (hl : ∀ (f : JFrame) (acts : List Action), f.method = m → f.locked = none → f.entered = [] → (doReturn e (T.setTop f) acts (some (.int z))).1 = T.setFrames fs) : Steps p.tables e below (T.setTop (mkF m pc Ls (.int z :: rest))) (T.setFrames fs) := by
  have hm' : T.vm.method? m = some meth := X.method'
  have hn : narrow .int (.int z) = .int z := rfl
  show Steps p.tables e below (T.setTop { method := m, pc := pc, locals := Ls, stack := _ :: rest, locked := none }) _
  jvm_step X.here [X.here.top, hx, hd, hm', hret, hn]
  first | (intro acts; rw [hl _ acts rfl rfl rfl]) | rw [hl _ _ rfl rfl rfl]
  exact Steps.refl _
end New
end Jvm.RoadKit
namespace Jvm.Pilot.@@N@@
open Jvm Jvm.ClassFile Sem Op Lib Jvm.Free Jvm.Stand Jvm.LawKit Jvm.RoadKit Bundle Jvm.Pilot.@@N@@.Jvm.D
abbrev remI (x y : Int32) : Int32 := x - (x / y) * y
abbrev remL (x y : Int64) : Int64 := x - (x / y) * y
def nF (p : Int32) : Int32 := (1 : Int32) + (remI (p &&& (2147483647 : Int32)) (2147483647 : Int32))
def kF (p q : Int32) : Int32 := (1 : Int32) + (remI (q &&& (2147483647 : Int32)) (nF p))
def aF (p q r : Int32) : Int32 := (remL ((r.toInt64) &&& (4294967295 : Int64)) (((kF p q).toInt64) + (1 : Int64))).toInt32
def fF (a n k : Int32) : Int32 := ((((((a.toInt64) * (n.toInt64)) + (k.toInt64)) - (1 : Int64)) / (k.toInt64)).toInt32)
theorem own_irem (x y : Int32) : remI x y = x % y := irem_eq_mod x y
theorem own_remI (x y : Int32) (hx : 0 ≤ x.toInt) (hy : 0 < y.toInt) : 0 ≤ (remI x y).toInt ∧ (remI x y).toInt < y.toInt := by
  rw [own_irem]; have := (c_iremV x y).1 hx hy; omega
theorem own_M (p : Int32) : 0 ≤ (p &&& (2147483647 : Int32)).toInt := by
  have := c_mask p 2147483647 31 (by decide) (by decide); rw [this]; omega
theorem own_n (p : Int32) : 1 ≤ (nF p).toInt ∧ (nF p).toInt ≤ 2147483647 := by
  have h1 := own_remI (p &&& (2147483647 : Int32)) 2147483647 (own_M p) (by decide)
  have h2 := c_iadd 1 (remI (p &&& (2147483647 : Int32)) (2147483647 : Int32))
  have h3 := rng32 (1 + (remI (p &&& (2147483647 : Int32)) (2147483647 : Int32)))
  have h4 : (2147483647 : Int32).toInt = 2147483647 := by decide
  have h5 : (1 : Int32).toInt = 1 := by decide
  rw [h5] at h2; rw [h4] at h1
  show 1 ≤ (1 + (remI (p &&& (2147483647 : Int32)) (2147483647 : Int32))).toInt ∧ (1 + (remI (p &&& (2147483647 : Int32)) (2147483647 : Int32))).toInt ≤ 2147483647
  omega
theorem own_k (p q : Int32) : 1 ≤ (kF p q).toInt ∧ (kF p q).toInt ≤ (nF p).toInt := by
  have h0 := own_n p
  have h1 := own_remI (q &&& (2147483647 : Int32)) (nF p) (own_M q) (by omega)
  have h2 := c_iadd 1 (remI (q &&& (2147483647 : Int32)) (nF p))
  have h3 := rng32 (1 + (remI (q &&& (2147483647 : Int32)) (nF p)))
  have h5 : (1 : Int32).toInt = 1 := by decide
  rw [h5] at h2
  show 1 ≤ (1 + (remI (q &&& (2147483647 : Int32)) (nF p))).toInt ∧ (1 + (remI (q &&& (2147483647 : Int32)) (nF p))).toInt ≤ (nF p).toInt
  omega
theorem own_k1 (p q : Int32) : (((kF p q).toInt64) + (1 : Int64)).toInt = (kF p q).toInt + 1 := by
  have h0 := own_k p q
  have h1 := rng32 (kF p q)
  have h2 := c_ladd ((kF p q).toInt64) 1
  have h3 := rng64 (((kF p q).toInt64) + (1 : Int64))
  have h5 : (1 : Int64).toInt = 1 := by decide
  rw [c_i2l, h5] at h2
  omega
theorem own_a (p q r : Int32) : 0 ≤ (aF p q r).toInt ∧ (aF p q r).toInt ≤ (kF p q).toInt := by
  have h0 := own_k p q
  have h1 := rng32 (kF p q)
  have h2 : (remL ((r.toInt64) &&& (4294967295 : Int64)) (((kF p q).toInt64) + (1 : Int64))).toInt = ((r.toInt64) &&& (4294967295 : Int64)).toInt % ((kF p q).toInt + 1) := (c_lrem ((r.toInt64) &&& (4294967295 : Int64)) (((kF p q).toInt64) + (1 : Int64)) _ (own_k1 p q)).1 (by
    rw [c_maskL (r.toInt64) 4294967295 32 (by decide) (by decide)]; omega)
  have h3 := c_l2i (remL ((r.toInt64) &&& (4294967295 : Int64)) (((kF p q).toInt64) + (1 : Int64)))
  have h4 := Int.emod_nonneg ((r.toInt64) &&& (4294967295 : Int64)).toInt (show (kF p q).toInt + 1 ≠ 0 by omega)
  have h5 := Int.emod_lt_of_pos ((r.toInt64) &&& (4294967295 : Int64)).toInt (show 0 < (kF p q).toInt + 1 by omega)
  have h6 := rng32 (aF p q r)
  rw [← h2] at h4 h5
  change ((aF p q r).toInt - _) % _ = 0 at h3
  omega
theorem own_div (A N K : Int) (hK : 1 ≤ K) (hKN : K ≤ N) (hA0 : 0 ≤ A) (hAK : A ≤ K) : A * N ≤ ((A * N + K - 1) / K) * K ∧ ((A * N + K - 1) / K - 1) * K < A * N ∧ 0 ≤ (A * N + K - 1) / K ∧ (A * N + K - 1) / K ≤ N := by
  have h1 := Int.emod_nonneg (A * N + K - 1) (show K ≠ 0 by omega)
  have h2 := Int.emod_lt_of_pos (A * N + K - 1) (show 0 < K by omega)
  have h3 : (A * N + K - 1) % K = A * N + K - 1 - K * ((A * N + K - 1) / K) := Int.emod_def _ _
  have h4 : 0 ≤ A * N := Int.mul_nonneg hA0 (by omega)
  have h5 : 0 ≤ (A * N + K - 1) / K := Int.ediv_nonneg (by omega) (by omega)
  have h6 : A * N ≤ K * N := Int.mul_le_mul_of_nonneg_right hAK (by omega)
  generalize (A * N + K - 1) / K = F at *
  generalize (A * N + K - 1) % K = R at *
  have h7 : F * K = K * F := Int.mul_comm _ _
  have h8 : (F - 1) * K = K * F - K := by rw [Int.sub_mul, h7]; omega
  refine ⟨by omega, by omega, h5, ?_⟩
  by_cases hF : F ≤ N
  · exact hF
  · have h9 : K * (N + 1) ≤ K * F := Int.mul_le_mul_of_nonneg_left (by omega) (by omega)
    rw [Int.mul_add] at h9; omega
theorem own_all (p q r : Int32) : 
    ¬ ((lcmpW (((fF (aF p q r) (nF p) (kF p q)).toInt64) * ((kF p q).toInt64)) (((aF p q r).toInt64) * ((nF p).toInt64))) < (0 : Int32)) ∧
    (lcmpW ((((fF (aF p q r) (nF p) (kF p q)).toInt64) - (1 : Int64)) * ((kF p q).toInt64)) (((aF p q r).toInt64) * ((nF p).toInt64))) < (0 : Int32) ∧
    ¬ ((fF (aF p q r) (nF p) (kF p q)) < (0 : Int32)) ∧ ¬ ((nF p) < (fF (aF p q r) (nF p) (kF p q))) := by
  have hn := own_n p
  have hk := own_k p q
  have ha := own_a p q r
  generalize aF p q r = a at *
  generalize kF p q = k at *
  generalize nF p = n at *
  have D := own_div a.toInt n.toInt k.toInt hk.1 hk.2 ha.1 ha.2
  have i1 : (1 : Int64).toInt = 1 := by decide
  have i0 : (0 : Int32).toInt = 0 := by decide
  have p0 : 0 ≤ a.toInt * n.toInt := Int.mul_nonneg ha.1 (by omega)
  have p1 : a.toInt * n.toInt ≤ 2147483647 * 2147483647 := Int.mul_le_mul (by omega) (by omega) (by omega) (by omega)
  have e1 := c_lmul a.toInt64 n.toInt64
  have e1r := rng64 (a.toInt64 * n.toInt64)
  rw [c_i2l, c_i2l] at e1
  have x1 : (a.toInt64 * n.toInt64).toInt = a.toInt * n.toInt := by omega
  have e2 := c_ladd (a.toInt64 * n.toInt64) k.toInt64
  have e2r := rng64 (a.toInt64 * n.toInt64 + k.toInt64)
  rw [c_i2l, x1] at e2
  have x2 : (a.toInt64 * n.toInt64 + k.toInt64).toInt = a.toInt * n.toInt + k.toInt := by omega
  have e3 := c_lsub (a.toInt64 * n.toInt64 + k.toInt64) 1
  have e3r := rng64 (a.toInt64 * n.toInt64 + k.toInt64 - 1)
  rw [i1, x2] at e3
  have x3 : (a.toInt64 * n.toInt64 + k.toInt64 - 1).toInt = a.toInt * n.toInt + k.toInt - 1 := by omega
  have x4 := (c_ldiv (a.toInt64 * n.toInt64 + k.toInt64 - 1) k.toInt64 k.toInt (c_i2l k) (fun z => by
    have z2 := congrArg Int64.toInt z
    rw [c_i2l, show (-1 : Int64).toInt = -1 by decide] at z2; omega)).1 (by omega)
  rw [x3] at x4
  have e5 := c_l2i ((a.toInt64 * n.toInt64 + k.toInt64 - 1) / k.toInt64)
  change ((fF a n k).toInt - _) % _ = 0 at e5
  have e5r := rng32 (fF a n k)
  rw [x4] at e5
  have x5 : (fF a n k).toInt = (a.toInt * n.toInt + k.toInt - 1) / k.toInt := by omega
  rw [← x5] at D
  generalize fF a n k = f at *
  have q0 : 0 ≤ f.toInt * k.toInt := Int.mul_nonneg D.2.2.1 (by omega)
  have q1 : f.toInt * k.toInt ≤ 2147483647 * 2147483647 := Int.mul_le_mul (by omega) (by omega) (by omega) (by omega)
  have e6 := c_lmul f.toInt64 k.toInt64
  have e6r := rng64 (f.toInt64 * k.toInt64)
  rw [c_i2l, c_i2l] at e6
  have x6 : (f.toInt64 * k.toInt64).toInt = f.toInt * k.toInt := by omega
  have e7 := c_lsub f.toInt64 1
  have e7r := rng64 (f.toInt64 - 1)
  rw [c_i2l, i1] at e7
  have x7 : (f.toInt64 - 1).toInt = f.toInt - 1 := by omega
  have e8 := c_lmul (f.toInt64 - 1) k.toInt64
  have e8r := rng64 ((f.toInt64 - 1) * k.toInt64)
  rw [x7, c_i2l, Int.sub_mul] at e8
  have D2 := D.2.1
  rw [Int.sub_mul] at D2
  have x8 : ((f.toInt64 - 1) * k.toInt64).toInt = f.toInt * k.toInt - 1 * k.toInt := by omega
  refine ⟨fun z => ?_, (lw_lt _ _).mpr ?_, fun z => ?_, fun z => ?_⟩
  · have z2 := (lw_lt _ _).mp z
    rw [Int64.lt_iff_toInt_lt, x6, x1] at z2; omega
  · rw [Int64.lt_iff_toInt_lt, x8, x1]; omega
  · rw [Int32.lt_iff_toInt_lt, i0] at z; omega
  · rw [Int32.lt_iff_toInt_lt] at z; omega
theorem d1_0 : decode prog_59_method_1_code 0 = .ok (.aload_n 0, 1) := by decide +kernel
theorem d1_1 : decode prog_59_method_1_code 1 = .ok (.invokespecial 1, 3) := by decide +kernel
theorem d1_4 : decode prog_59_method_1_code 4 = .ok (.iload_n 1, 1) := by decide +kernel
theorem d1_5 : decode prog_59_method_1_code 5 = .ok (.ifCond .ne 11, 3) := by decide +kernel
theorem d1_16 : decode prog_59_method_1_code 16 = .ok (.iconst 0, 1) := by decide +kernel
theorem d1_17 : decode prog_59_method_1_code 17 = .ok (.istore_n 3, 1) := by decide +kernel
theorem d1_18 : decode prog_59_method_1_code 18 = .ok (.iload_n 3, 1) := by decide +kernel
theorem d1_19 : decode prog_59_method_1_code 19 = .ok (.ifCond .ne 28, 3) := by decide +kernel
theorem d1_22 : decode prog_59_method_1_code 22 = .ok (.iload_n 2, 1) := by decide +kernel
theorem d1_23 : decode prog_59_method_1_code 23 = .ok (.iconst 1, 1) := by decide +kernel
theorem d1_24 : decode prog_59_method_1_code 24 = .ok (.if_icmp .lt 8, 3) := by decide +kernel
theorem d1_27 : decode prog_59_method_1_code 27 = .ok (.iload_n 2, 1) := by decide +kernel
theorem d1_28 : decode prog_59_method_1_code 28 = .ok (.iload_n 1, 1) := by decide +kernel
theorem d1_29 : decode prog_59_method_1_code 29 = .ok (.if_icmp .le 18, 3) := by decide +kernel
theorem d1_47 : decode prog_59_method_1_code 47 = .ok (.aload_n 0, 1) := by decide +kernel
theorem d1_48 : decode prog_59_method_1_code 48 = .ok (.iload_n 1, 1) := by decide +kernel
theorem d1_49 : decode prog_59_method_1_code 49 = .ok (.putfield 16, 3) := by decide +kernel
theorem d1_52 : decode prog_59_method_1_code 52 = .ok (.aload_n 0, 1) := by decide +kernel
theorem d1_53 : decode prog_59_method_1_code 53 = .ok (.iload_n 2, 1) := by decide +kernel
theorem d1_54 : decode prog_59_method_1_code 54 = .ok (.putfield 22, 3) := by decide +kernel
theorem d1_57 : decode prog_59_method_1_code 57 = .ok (.return_, 1) := by decide +kernel
theorem pn_1 : plainName "com/example/convene/convene/problem/Split" = true := by first | (simp [plainName, overriddenIn]; done) | decide +kernel
theorem ef_1 (m : MethodId) (x0 : Addr) (x1 : Int32) (x2 : Int32) : entryFrame m #[(.ref x0), (.int x1), (.int x2)] 4 = mkF m 0 #[.val (.ref x0), .val (.int x1), .val (.int x2), .unset] [] := by first | (simp [entryFrame, mkF, argsToLocals, Value.category]; done) | rfl
def Q1 (Z : State) (a1 : Addr) (p2 : Int32) (p3 : Int32) (u_variableCount_a1 : Value) (u_agentCount_a1 : Value) (h0 : Heap) (n0 : Nat) (v : Option Value) (h : Heap) (L : List Loc) : Prop := v = none ∧ Fr n0 L ∧ Keep h0 h [a1] ∧ Exa Z h a1 "com/example/convene/convene/problem/Split" ∧ Fld Z h a1 "com/example/convene/convene/problem/Split" "variableCount" "I" (.int p2) ∧ Fld Z h a1 "com/example/convene/convene/problem/Split" "agentCount" "I" (.int p3)
set_option maxRecDepth 65536 in
set_option maxHeartbeats 40000000 in
theorem rm1 (l : Launch) (Z : State) (a0 : Array Value) (hw : ∀ d ∈ tables_1, d.before a0 Z = true) (ws : List Jvm.Cond) (a1 : Addr) (p2 : Int32) (p3 : Int32) (u_variableCount_a1 : Value) (u_agentCount_a1 : Value) (h0 : Heap) (n0 : Nat) (Z0 : n0 ≤ h0.size) (E_a1 : Exa Z h0 a1 "com/example/convene/convene/problem/Split") (F_variableCount_a1 : Fld Z h0 a1 "com/example/convene/convene/problem/Split" "variableCount" "I" u_variableCount_a1) (g_a1 : n0 ≤ a1) (F_agentCount_a1 : Fld Z h0 a1 "com/example/convene/convene/problem/Split" "agentCount" "I" u_agentCount_a1) (hc5 : ¬ (p2 = (0 : Int32))) (hc24 : ¬ (p3 < (1 : Int32))) (hc29 : ¬ (p2 < p3)) :
    MetFree l (⟨"com/example/convene/convene/problem/Split", "<init>", "(II)V"⟩ : MethodName) (head1 (Jvm.Cond.code (⟨"com/example/convene/convene/problem/Split", "<init>", "(II)V"⟩ : MethodName) prog_59_method_1_code 4 none :: ws) ({ frames := 1, cells := 0, slots := 0, locals := 12 } : Room)) (fun a U => a = #[(.ref a1), (.int p2), (.int p3)] ∧ Z.Warmed39 U.vm ∧ U.heap = h0) (fun _ _ _ _ _ => True) (fun _ U o U' => ∃ v L, o = .returned v ∧ Q1 Z a1 p2 p3 u_variableCount_a1 u_agentCount_a1 h0 n0 v U'.heap L ∧ FrameEnd U o U' L ({ frames := 1, cells := 0, slots := 0, locals := 12 } : Room).cells ({ frames := 1, cells := 0, slots := 0, locals := 12 } : Room).slots) := by
  refine MetFree.of_bodySF (plainFor_of_name pn_1) hisR ?_
  intro p e s m args below meth c s₁ Bd hml0 hP hK
  obtain ⟨rfl, hZ, hh⟩ := hP
  have hx := Bd.exec
  have hby := Bd.bytes
  have hml : c.maxLocals = 4 := hml0
  have hown : s.vm.findClass "com/example/convene/convene/problem/Split" = some m.cls := findClass_of_methodNamed Bd.named
  have hnm := (name_of_methodNamed Bd.named Bd.method).1
  have X0 : Stand p l e ({ frames := 1, cells := 0, slots := 0, locals := 12 } : Room) s m #[(.ref a1), (.int p2), (.int p3)] below meth c s₁ [] 0 0 := Stand.of_body Bd
  have e0 : s₁.heap = h0 := by rw [← hh, Bd.state]; rfl
  have N0 := Fr.nil n0
  have pre0 : ∀ t, Steps p.tables e below (s₁.setTop (mkF m 0 #[.val (.ref a1), .val (.int p2), .val (.int p3), .unset] [])) t → Steps p.tables e below (s₁.setTop (entryFrame m #[(.ref a1), (.int p2), (.int p3)] 4)) t := fun t k => castTop (ef_1 m a1 p2 p3) k
  obtain ⟨T4, X4, e4, st4⟩ := initO X0 hx hZ hown (hw _ (List.mem_of_getElem? (i := 8) rfl)) (hw _ (List.mem_of_getElem? (i := 9) rfl)) (hw _ (List.mem_of_getElem? (i := 10) rfl)) e0 (g := (mkF m 1 #[.val (.ref a1), .val (.int p2), .val (.int p3), .unset] [(.ref a1)])) rfl (by rw [hml]; rfl) rfl (hb hby d1_1) (by decide) (W := 0) (by show 2 * 0 + _ ≤ _; exact Nat.le_of_eq rfl) (by decide)
  obtain ⟨T5, h5, X5, e5, W5, st5⟩ := putF X4 hx hZ hown (host := "") (Or.inl (hw _ (List.mem_of_getElem? (i := 11) rfl))) Via.refl e4 F_variableCount_a1 E_a1 (Or.inr ⟨(hw _ (List.mem_of_getElem? (i := 12) rfl)), rfl, hnm⟩) (hw _ (List.mem_of_getElem? (i := 3) rfl)) (ty := .int) (by decide) rfl rfl (g := (mkF m 49 #[.val (.ref a1), .val (.int p2), .val (.int p3), .val (.int (0 : Int32))] [(.int p2), (.ref a1)])) rfl rfl (hb hby d1_49)
  have Fw5 := F_variableCount_a1.same W5
  have K5 : Keep h0 h5 [a1] := (Keep.refl h0 [a1]).wr W5 (Or.inl (List.mem_of_getElem? (i := 0) rfl))
  have N5 := Fr.snoc X5 N0 g_a1
  obtain ⟨T6, h6, X6, e6, W6, st6⟩ := putF X5 hx hZ hown (host := "") (Or.inl (hw _ (List.mem_of_getElem? (i := 13) rfl))) Via.refl e5 (F_agentCount_a1.other W5 (Or.inr (slot_ne (Or.inr (hw _ (List.mem_of_getElem? (i := 14) rfl))) (Or.inr (hw _ (List.mem_of_getElem? (i := 12) rfl))) (by decide) (t := .int) (t' := .int) (by decide) (by decide)))) (E_a1.wr W5) (Or.inr ⟨(hw _ (List.mem_of_getElem? (i := 14) rfl)), rfl, hnm⟩) (hw _ (List.mem_of_getElem? (i := 3) rfl)) (ty := .int) (by decide) rfl rfl (g := (mkF m 54 #[.val (.ref a1), .val (.int p2), .val (.int p3), .val (.int (0 : Int32))] [(.int p3), (.ref a1)])) rfl rfl (hb hby d1_54)
  have Fw6 := (F_agentCount_a1.other W5 (Or.inr (slot_ne (Or.inr (hw _ (List.mem_of_getElem? (i := 14) rfl))) (Or.inr (hw _ (List.mem_of_getElem? (i := 12) rfl))) (by decide) (t := .int) (t' := .int) (by decide) (by decide)))).same W6
  have K6 : Keep h0 h6 [a1] := K5.wr W6 (Or.inl (List.mem_of_getElem? (i := 0) rfl))
  have N6 := Fr.snoc X6 N5 g_a1
  obtain ⟨fs, hr, hrun, hended, hW, hsame⟩ := X6.leave (v := none) (fun _ => rfl)
  refine ⟨_, _, pre0 _ ?_, hrun, hended, _, _, rfl, ?_, ⟨_, rfl⟩, hW, hsame.mono (by decide) (by decide)⟩
  · show Steps p.tables e below (s₁.setTop (mkF m 0 #[.val (.ref a1), .val (.int p2), .val (.int p3), .unset] [])) _
    refine XS.aloadN X0.here hx rfl (hb hby d1_0) rfl rfl ?_
    show Steps p.tables e below (s₁.setTop (mkF m 1 #[.val (.ref a1), .val (.int p2), .val (.int p3), .unset] [(.ref a1)])) _
    refine st4 _ ?_
    show Steps p.tables e below (T4.setTop (mkF m 4 #[.val (.ref a1), .val (.int p2), .val (.int p3), .unset] [])) _
    refine XS.iloadN X4.here hx rfl (hb hby d1_4) rfl ?_
    show Steps p.tables e below (T4.setTop (mkF m 5 #[.val (.ref a1), .val (.int p2), .val (.int p3), .unset] [(.int p2)])) _
    refine XS.ifYes X4.here hx rfl (pc0 := 5) (pc' := 16) rfl (hb hby d1_5) rfl ((if0 _ _).trans (feq hc5).2) (by decide) (by decide) ?_
    show Steps p.tables e below (T4.setTop (mkF m 16 #[.val (.ref a1), .val (.int p2), .val (.int p3), .unset] [])) _
    refine XS.iconst X4.here hx rfl (hb hby d1_16) ?_
    show Steps p.tables e below (T4.setTop (mkF m 17 #[.val (.ref a1), .val (.int p2), .val (.int p3), .unset] [(.int (0 : Int32))])) _
    refine XS.istoreN X4.here hx rfl (hb hby d1_17) rfl (l' := #[.val (.ref a1), .val (.int p2), .val (.int p3), .val (.int (0 : Int32))]) rfl ?_
    show Steps p.tables e below (T4.setTop (mkF m 18 #[.val (.ref a1), .val (.int p2), .val (.int p3), .val (.int (0 : Int32))] [])) _
    refine XS.iloadN X4.here hx rfl (hb hby d1_18) rfl ?_
    show Steps p.tables e below (T4.setTop (mkF m 19 #[.val (.ref a1), .val (.int p2), .val (.int p3), .val (.int (0 : Int32))] [(.int (0 : Int32))])) _
    refine XS.ifNo X4.here hx rfl (hb hby d1_19) rfl ((if0 _ _).trans (teq (rfl : (0 : Int32) = (0 : Int32))).2) ?_
    show Steps p.tables e below (T4.setTop (mkF m 22 #[.val (.ref a1), .val (.int p2), .val (.int p3), .val (.int (0 : Int32))] [])) _
    refine XS.iloadN X4.here hx rfl (hb hby d1_22) rfl ?_
    show Steps p.tables e below (T4.setTop (mkF m 23 #[.val (.ref a1), .val (.int p2), .val (.int p3), .val (.int (0 : Int32))] [(.int p3)])) _
    refine XS.iconst X4.here hx rfl (hb hby d1_23) ?_
    show Steps p.tables e below (T4.setTop (mkF m 24 #[.val (.ref a1), .val (.int p2), .val (.int p3), .val (.int (0 : Int32))] [(.int (1 : Int32)), (.int p3)])) _
    refine XS.icmpNo X4.here hx rfl (hb hby d1_24) rfl (flt hc24).1 ?_
    show Steps p.tables e below (T4.setTop (mkF m 27 #[.val (.ref a1), .val (.int p2), .val (.int p3), .val (.int (0 : Int32))] [])) _
    refine XS.iloadN X4.here hx rfl (hb hby d1_27) rfl ?_
    show Steps p.tables e below (T4.setTop (mkF m 28 #[.val (.ref a1), .val (.int p2), .val (.int p3), .val (.int (0 : Int32))] [(.int p3)])) _
    refine XS.iloadN X4.here hx rfl (hb hby d1_28) rfl ?_
    show Steps p.tables e below (T4.setTop (mkF m 29 #[.val (.ref a1), .val (.int p2), .val (.int p3), .val (.int (0 : Int32))] [(.int p2), (.int p3)])) _
    refine XS.icmpYes X4.here hx rfl (pc0 := 29) (pc' := 47) rfl (hb hby d1_29) rfl (flt hc29).2.2.2 (by decide) (by decide) ?_
    show Steps p.tables e below (T4.setTop (mkF m 47 #[.val (.ref a1), .val (.int p2), .val (.int p3), .val (.int (0 : Int32))] [])) _
    refine XS.aloadN X4.here hx rfl (hb hby d1_47) rfl rfl ?_
    show Steps p.tables e below (T4.setTop (mkF m 48 #[.val (.ref a1), .val (.int p2), .val (.int p3), .val (.int (0 : Int32))] [(.ref a1)])) _
    refine XS.iloadN X4.here hx rfl (hb hby d1_48) rfl ?_
    show Steps p.tables e below (T4.setTop (mkF m 49 #[.val (.ref a1), .val (.int p2), .val (.int p3), .val (.int (0 : Int32))] [(.int p2), (.ref a1)])) _
    refine st5 _ ?_
    show Steps p.tables e below (T5.setTop (mkF m 52 #[.val (.ref a1), .val (.int p2), .val (.int p3), .val (.int (0 : Int32))] [])) _
    refine XS.aloadN X5.here hx rfl (hb hby d1_52) rfl rfl ?_
    show Steps p.tables e below (T5.setTop (mkF m 53 #[.val (.ref a1), .val (.int p2), .val (.int p3), .val (.int (0 : Int32))] [(.ref a1)])) _
    refine XS.iloadN X5.here hx rfl (hb hby d1_53) rfl ?_
    show Steps p.tables e below (T5.setTop (mkF m 54 #[.val (.ref a1), .val (.int p2), .val (.int p3), .val (.int (0 : Int32))] [(.int p3), (.ref a1)])) _
    refine st6 _ ?_
    show Steps p.tables e below (T6.setTop (mkF m 57 #[.val (.ref a1), .val (.int p2), .val (.int p3), .val (.int (0 : Int32))] [])) _
    exact X6.returnOut hx Bd.returns (hb hby d1_57) hr
  · show Q1 Z a1 p2 p3 u_variableCount_a1 u_agentCount_a1 h0 n0 _ T6.heap _
    rw [e6]
    exact ⟨rfl, N6, K6, (E_a1.wr W5).wr W6, Fw5.other W6 (Or.inr (slot_ne (Or.inr (hw _ (List.mem_of_getElem? (i := 12) rfl))) (Or.inr (hw _ (List.mem_of_getElem? (i := 14) rfl))) (by decide) (t := .int) (t' := .int) (by decide) (by decide))), Fw6⟩
theorem d3_0 : decode prog_59_method_4_code 0 = .ok (.iload_n 1, 1) := by decide +kernel
theorem d3_1 : decode prog_59_method_4_code 1 = .ok (.i2l, 1) := by decide +kernel
theorem d3_2 : decode prog_59_method_4_code 2 = .ok (.aload_n 0, 1) := by decide +kernel
theorem d3_3 : decode prog_59_method_4_code 3 = .ok (.getfield 16, 3) := by decide +kernel
theorem d3_6 : decode prog_59_method_4_code 6 = .ok (.i2l, 1) := by decide +kernel
theorem d3_7 : decode prog_59_method_4_code 7 = .ok (.lmul, 1) := by decide +kernel
theorem d3_8 : decode prog_59_method_4_code 8 = .ok (.aload_n 0, 1) := by decide +kernel
theorem d3_9 : decode prog_59_method_4_code 9 = .ok (.getfield 22, 3) := by decide +kernel
theorem d3_12 : decode prog_59_method_4_code 12 = .ok (.i2l, 1) := by decide +kernel
theorem d3_13 : decode prog_59_method_4_code 13 = .ok (.ladd, 1) := by decide +kernel
theorem d3_14 : decode prog_59_method_4_code 14 = .ok (.lconst 1, 1) := by decide +kernel
theorem d3_15 : decode prog_59_method_4_code 15 = .ok (.lsub, 1) := by decide +kernel
theorem d3_16 : decode prog_59_method_4_code 16 = .ok (.aload_n 0, 1) := by decide +kernel
theorem d3_17 : decode prog_59_method_4_code 17 = .ok (.getfield 22, 3) := by decide +kernel
theorem d3_20 : decode prog_59_method_4_code 20 = .ok (.i2l, 1) := by decide +kernel
theorem d3_21 : decode prog_59_method_4_code 21 = .ok (.ldiv, 1) := by decide +kernel
theorem d3_22 : decode prog_59_method_4_code 22 = .ok (.l2i, 1) := by decide +kernel
theorem d3_23 : decode prog_59_method_4_code 23 = .ok (.ireturn, 1) := by decide +kernel
theorem pn_3 : plainName "com/example/convene/convene/problem/Split" = true := by first | (simp [plainName, overriddenIn]; done) | decide +kernel
theorem ef_3 (m : MethodId) (x0 : Addr) (x1 : Int32) : entryFrame m #[(.ref x0), (.int x1)] 2 = mkF m 0 #[.val (.ref x0), .val (.int x1)] [] := by first | (simp [entryFrame, mkF, argsToLocals, Value.category]; done) | rfl
def Q3 (Z : State) (a1 : Addr) (p2 : Int32) (w3 : Int32) (w5 : Int32) (h0 : Heap) (n0 : Nat) (v : Option Value) (h : Heap) (L : List Loc) : Prop := v = some (.int ((((((p2.toInt64) * (w3.toInt64)) + (w5.toInt64)) - (1 : Int64)) / (w5.toInt64)).toInt32)) ∧ Fr n0 L ∧ h = h0
set_option maxRecDepth 65536 in
set_option maxHeartbeats 40000000 in
theorem rm3 (l : Launch) (Z : State) (a0 : Array Value) (hw : ∀ d ∈ tables_1, d.before a0 Z = true) (ws : List Jvm.Cond) (a1 : Addr) (p2 : Int32) (w3 : Int32) (w5 : Int32) (h0 : Heap) (n0 : Nat) (Z0 : n0 ≤ h0.size) (F_variableCount_a1 : Fld Z h0 a1 "com/example/convene/convene/problem/Split" "variableCount" "I" (.int w3)) (F_agentCount_a1 : Fld Z h0 a1 "com/example/convene/convene/problem/Split" "agentCount" "I" (.int w5)) (hnz21 : ¬ ((w5.toInt64) = (0 : Int64))) :
    MetFree l (⟨"com/example/convene/convene/problem/Split", "firstVariable", "(I)I"⟩ : MethodName) (head1 (Jvm.Cond.code (⟨"com/example/convene/convene/problem/Split", "firstVariable", "(I)I"⟩ : MethodName) prog_59_method_4_code 2 (some .int) :: ws) ({ frames := 0, cells := 0, slots := 0, locals := 0 } : Room)) (fun a U => a = #[(.ref a1), (.int p2)] ∧ Z.Warmed39 U.vm ∧ U.heap = h0) (fun _ _ _ _ _ => True) (fun _ U o U' => ∃ v L, o = .returned v ∧ Q3 Z a1 p2 w3 w5 h0 n0 v U'.heap L ∧ FrameEnd U o U' L ({ frames := 0, cells := 0, slots := 0, locals := 0 } : Room).cells ({ frames := 0, cells := 0, slots := 0, locals := 0 } : Room).slots) := by
  refine MetFree.of_bodySF (plainFor_of_name pn_3) hisR ?_
  intro p e s m args below meth c s₁ Bd hml0 hP hK
  obtain ⟨rfl, hZ, hh⟩ := hP
  have hx := Bd.exec
  have hby := Bd.bytes
  have hml : c.maxLocals = 2 := hml0
  have hown : s.vm.findClass "com/example/convene/convene/problem/Split" = some m.cls := findClass_of_methodNamed Bd.named
  have hnm := (name_of_methodNamed Bd.named Bd.method).1
  have X0 : Stand p l e ({ frames := 0, cells := 0, slots := 0, locals := 0 } : Room) s m #[(.ref a1), (.int p2)] below meth c s₁ [] 0 0 := Stand.of_body Bd
  have e0 : s₁.heap = h0 := by rw [← hh, Bd.state]; rfl
  have N0 := Fr.nil n0
  have pre0 : ∀ t, Steps p.tables e below (s₁.setTop (mkF m 0 #[.val (.ref a1), .val (.int p2)] [])) t → Steps p.tables e below (s₁.setTop (entryFrame m #[(.ref a1), (.int p2)] 2)) t := fun t k => castTop (ef_3 m a1 p2) k
  obtain ⟨T4, X4, e4, st4⟩ := getF X0 hx hZ hown (host := "") (Or.inl (hw _ (List.mem_of_getElem? (i := 11) rfl))) Via.refl e0 F_variableCount_a1 (g := (mkF m 3 #[.val (.ref a1), .val (.int p2)] [(.ref a1), (.long (p2.toInt64))])) rfl rfl (hb hby d3_3)
  obtain ⟨T6, X6, e6, st6⟩ := getF X4 hx hZ hown (host := "") (Or.inl (hw _ (List.mem_of_getElem? (i := 13) rfl))) Via.refl e4 F_agentCount_a1 (g := (mkF m 9 #[.val (.ref a1), .val (.int p2)] [(.ref a1), (.long ((p2.toInt64) * (w3.toInt64)))])) rfl rfl (hb hby d3_9)
  obtain ⟨T7, X7, e7, st7⟩ := getF X6 hx hZ hown (host := "") (Or.inl (hw _ (List.mem_of_getElem? (i := 13) rfl))) Via.refl e6 F_agentCount_a1 (g := (mkF m 17 #[.val (.ref a1), .val (.int p2)] [(.ref a1), (.long ((((p2.toInt64) * (w3.toInt64)) + (w5.toInt64)) - (1 : Int64)))])) rfl rfl (hb hby d3_17)
  obtain ⟨fs, hr, hrun, hended, hW, hsame⟩ := X7.leave (v := some (.int ((((((p2.toInt64) * (w3.toInt64)) + (w5.toInt64)) - (1 : Int64)) / (w5.toInt64)).toInt32))) (fun h => by rw [Bd.returns] at h; cases h)
  refine ⟨_, _, pre0 _ ?_, hrun, hended, _, _, rfl, ?_, ⟨_, rfl⟩, hW, hsame.mono (by decide) (by decide)⟩
  · show Steps p.tables e below (s₁.setTop (mkF m 0 #[.val (.ref a1), .val (.int p2)] [])) _
    refine XS.iloadN X0.here hx rfl (hb hby d3_0) rfl ?_
    show Steps p.tables e below (s₁.setTop (mkF m 1 #[.val (.ref a1), .val (.int p2)] [(.int p2)])) _
    refine XS.i2l X0.here hx rfl (hb hby d3_1) rfl ?_
    show Steps p.tables e below (s₁.setTop (mkF m 2 #[.val (.ref a1), .val (.int p2)] [(.long (p2.toInt64))])) _
    refine XS.aloadN X0.here hx rfl (hb hby d3_2) rfl rfl ?_
    show Steps p.tables e below (s₁.setTop (mkF m 3 #[.val (.ref a1), .val (.int p2)] [(.ref a1), (.long (p2.toInt64))])) _
    refine st4 _ ?_
    show Steps p.tables e below (T4.setTop (mkF m 6 #[.val (.ref a1), .val (.int p2)] [(.int w3), (.long (p2.toInt64))])) _
    refine XS.i2l X4.here hx rfl (hb hby d3_6) rfl ?_
    show Steps p.tables e below (T4.setTop (mkF m 7 #[.val (.ref a1), .val (.int p2)] [(.long (w3.toInt64)), (.long (p2.toInt64))])) _
    refine XS.lmul X4.here hx rfl (hb hby d3_7) rfl ?_
    show Steps p.tables e below (T4.setTop (mkF m 8 #[.val (.ref a1), .val (.int p2)] [(.long ((p2.toInt64) * (w3.toInt64)))])) _
    refine XS.aloadN X4.here hx rfl (hb hby d3_8) rfl rfl ?_
    show Steps p.tables e below (T4.setTop (mkF m 9 #[.val (.ref a1), .val (.int p2)] [(.ref a1), (.long ((p2.toInt64) * (w3.toInt64)))])) _
    refine st6 _ ?_
    show Steps p.tables e below (T6.setTop (mkF m 12 #[.val (.ref a1), .val (.int p2)] [(.int w5), (.long ((p2.toInt64) * (w3.toInt64)))])) _
    refine XS.i2l X6.here hx rfl (hb hby d3_12) rfl ?_
    show Steps p.tables e below (T6.setTop (mkF m 13 #[.val (.ref a1), .val (.int p2)] [(.long (w5.toInt64)), (.long ((p2.toInt64) * (w3.toInt64)))])) _
    refine XS.ladd X6.here hx rfl (hb hby d3_13) rfl ?_
    show Steps p.tables e below (T6.setTop (mkF m 14 #[.val (.ref a1), .val (.int p2)] [(.long (((p2.toInt64) * (w3.toInt64)) + (w5.toInt64)))])) _
    refine XS.lconst X6.here hx rfl (hb hby d3_14) ?_
    show Steps p.tables e below (T6.setTop (mkF m 15 #[.val (.ref a1), .val (.int p2)] [(.long (1 : Int64)), (.long (((p2.toInt64) * (w3.toInt64)) + (w5.toInt64)))])) _
    refine XS.lsub X6.here hx rfl (hb hby d3_15) rfl ?_
    show Steps p.tables e below (T6.setTop (mkF m 16 #[.val (.ref a1), .val (.int p2)] [(.long ((((p2.toInt64) * (w3.toInt64)) + (w5.toInt64)) - (1 : Int64)))])) _
    refine XS.aloadN X6.here hx rfl (hb hby d3_16) rfl rfl ?_
    show Steps p.tables e below (T6.setTop (mkF m 17 #[.val (.ref a1), .val (.int p2)] [(.ref a1), (.long ((((p2.toInt64) * (w3.toInt64)) + (w5.toInt64)) - (1 : Int64)))])) _
    refine st7 _ ?_
    show Steps p.tables e below (T7.setTop (mkF m 20 #[.val (.ref a1), .val (.int p2)] [(.int w5), (.long ((((p2.toInt64) * (w3.toInt64)) + (w5.toInt64)) - (1 : Int64)))])) _
    refine XS.i2l X7.here hx rfl (hb hby d3_20) rfl ?_
    show Steps p.tables e below (T7.setTop (mkF m 21 #[.val (.ref a1), .val (.int p2)] [(.long (w5.toInt64)), (.long ((((p2.toInt64) * (w3.toInt64)) + (w5.toInt64)) - (1 : Int64)))])) _
    refine XS.ldiv X7.here hx rfl (hb hby d3_21) rfl hnz21 ?_
    show Steps p.tables e below (T7.setTop (mkF m 22 #[.val (.ref a1), .val (.int p2)] [(.long (((((p2.toInt64) * (w3.toInt64)) + (w5.toInt64)) - (1 : Int64)) / (w5.toInt64)))])) _
    refine XS.l2i X7.here hx rfl (hb hby d3_22) rfl ?_
    show Steps p.tables e below (T7.setTop (mkF m 23 #[.val (.ref a1), .val (.int p2)] [(.int ((((((p2.toInt64) * (w3.toInt64)) + (w5.toInt64)) - (1 : Int64)) / (w5.toInt64)).toInt32))])) _
    exact retI X7 hx Bd.returns (hb hby d3_23) hr
  · show Q3 Z a1 p2 w3 w5 h0 n0 _ T7.heap _
    rw [e7]
    exact ⟨rfl, N0, rfl⟩
theorem pn_0 : plainName "com/example/convene/convene/problem/SplitFirstVariablePinLaw" = true := by first | (simp [plainName, overriddenIn]; done) | decide +kernel
theorem pd_0_0 : parseMethodDescriptor "(II)V" = some ⟨[.int, .int], none⟩ := by decide +kernel
theorem pd_0_2 : parseMethodDescriptor "(I)I" = some ⟨[.int], some .int⟩ := by decide +kernel
theorem ef_0 (m : MethodId) (x0 : Int32) (x1 : Int32) (x2 : Int32) : entryFrame m #[(.int x0), (.int x1), (.int x2)] maxLocals = mkF m 0 #[.val (.int x0), .val (.int x1), .val (.int x2), .unset, .unset, .unset, .unset, .unset, .unset, .unset, .unset, .unset, .unset, .unset, .unset] [] := by first | (simp [entryFrame, mkF, argsToLocals, Value.category, maxLocals]; done) | rfl
def Q0 (Z : State) (p1 : Int32) (p2 : Int32) (p3 : Int32) (h0 : Heap) (n0 : Nat) (v : Option Value) (h : Heap) (L : List Loc) : Prop := v = some (.int (1 : Int32)) ∧ Fr n0 L
set_option maxRecDepth 65536 in
set_option maxHeartbeats 40000000 in
theorem rm0 (l : Launch) (Z : State) (a0 : Array Value) (hw : ∀ d ∈ tables_1, d.before a0 Z = true) (ws : List Jvm.Cond) (p1 : Int32) (p2 : Int32) (p3 : Int32) (h0 : Heap) (n0 : Nat) (Z0 : n0 ≤ h0.size) :
    MetFree l x (head1 (Jvm.Cond.code x code maxLocals ret :: ws) room_1) (fun a U => a = #[(.int p1), (.int p2), (.int p3)] ∧ Z.Warmed39 U.vm ∧ U.heap = h0) (fun _ _ _ _ _ => True) (fun _ U o U' => ∃ v L, o = .returned v ∧ Q0 Z p1 p2 p3 h0 n0 v U'.heap L ∧ FrameEnd U o U' L room_1.cells room_1.slots) := by
  refine MetFree.of_bodySF (plainFor_of_name pn_0) hisR ?_
  intro p e s m args below meth c s₁ Bd hml0 hP hK
  obtain ⟨rfl, hZ, hh⟩ := hP
  have hx := Bd.exec
  have hby := Bd.bytes
  have hml : c.maxLocals = 15 := hml0
  have hown : s.vm.findClass "com/example/convene/convene/problem/SplitFirstVariablePinLaw" = some m.cls := findClass_of_methodNamed Bd.named
  have hnm := (name_of_methodNamed Bd.named Bd.method).1
  have X0 : Stand p l e room_1 s m #[(.int p1), (.int p2), (.int p3)] below meth c s₁ [] 0 0 := Stand.of_body Bd
  have e0 : s₁.heap = h0 := by rw [← hh, Bd.state]; rfl
  have hnz7 : ¬ ((2147483647 : Int32) = (0 : Int32)) := by decide
  have hc129 : ¬ ((1 : Int32) = (0 : Int32)) := by decide
  have hc134 : ¬ ((1 : Int32) = (0 : Int32)) := by decide
  have hc139 : ¬ ((1 : Int32) = (0 : Int32)) := by decide
  have N0 := Fr.nil n0
  have hnz16 : ¬ ((nF p1) = (0 : Int32)) := fun z => by
    have h := own_n p1
    rw [z, show (0 : Int32).toInt = 0 by decide] at h; omega
  have hk1 := own_k p1 p2
  have hnz31 : ¬ ((((kF p1 p2).toInt64) + (1 : Int64)) = (0 : Int64)) := fun z => by
    have h := own_k1 p1 p2
    rw [z, show (0 : Int64).toInt = 0 by decide] at h; omega
  have hkz : ¬ (((kF p1 p2).toInt64) = (0 : Int64)) := fun z => by
    have h := c_i2l (kF p1 p2)
    rw [z, show (0 : Int64).toInt = 0 by decide] at h; omega
  have hkl : ¬ (kF p1 p2 < (1 : Int32)) := fun z => by
    rw [Int32.lt_iff_toInt_lt, show (1 : Int32).toInt = 1 by decide] at z; omega
  have hnk : ¬ (nF p1 < kF p1 p2) := fun z => by
    rw [Int32.lt_iff_toInt_lt] at z; omega
  obtain ⟨A1, A2, A3, A4'⟩ := own_all p1 p2 p3
  have pre0 : ∀ t, Steps p.tables e below (s₁.setTop (mkF m 0 #[.val (.int p1), .val (.int p2), .val (.int p3), .unset, .unset, .unset, .unset, .unset, .unset, .unset, .unset, .unset, .unset, .unset, .unset] [])) t → Steps p.tables e below (s₁.setTop (entryFrame m #[(.int p1), (.int p2), (.int p3)] maxLocals)) t := fun t k => castTop (ef_0 m p1 p2 p3) k
  obtain ⟨T4, h4, X4, e4, E4, A4, D4, -, st4⟩ := newO X0 hx hZ hown (hw _ (List.mem_of_getElem? (i := 2) rfl)) (hw _ (List.mem_of_getElem? (i := 3) rfl)) (hw _ (List.mem_of_getElem? (i := 4) rfl)) e0 (g := (mkF m 35 #[.val (.int p1), .val (.int p2), .val (.int p3), .val (.int (nF p1)), .val (.int (kF p1 p2)), .val (.int (aF p1 p2 p3)), .unset, .unset, .unset, .unset, .unset, .unset, .unset, .unset, .unset] [])) rfl (hb hby at_35) (by decide) (by decide)
  obtain ⟨b4, g4⟩ : ∃ z, z = h0.size := ⟨_, rfl⟩
  rw [← g4] at A4 D4 st4
  have F_variableCount_b4 : Fld Z h4 b4 "com/example/convene/convene/problem/Split" "variableCount" "I" (.int (0 : Int32)) := D4 (Or.inr (hw _ (List.mem_of_getElem? (i := 12) rfl))) (ty := .int) (by decide)
  have F_agentCount_b4 : Fld Z h4 b4 "com/example/convene/convene/problem/Split" "agentCount" "I" (.int (0 : Int32)) := D4 (Or.inr (hw _ (List.mem_of_getElem? (i := 14) rfl))) (ty := .int) (by decide)
  have E_b4 := A4
  have g_b4 : n0 ≤ b4 := Nat.le_trans Z0 (Nat.le_of_eq g4.symm)
  have sz_b4 : h0.size ≤ b4 := (Nat.le_trans (Keep.refl h0 []).1 (Nat.le_of_eq g4.symm))
  have K4 : Keep h0 h4 [] := (Keep.refl h0 []).ext E4
  obtain ⟨_, _, ⟨T5, L5, k5, n5⟩, -, X5, ⟨Lc5, hQ5, l5, y5, z5⟩, st5⟩ := X4.specialBack hx (y := (⟨"com/example/convene/convene/problem/Split", "<init>", "(II)V"⟩ : MethodName)) rfl hown (mvT hZ (hw _ (List.mem_of_getElem? (i := 5) rfl))) (mvT hZ (hw _ (List.mem_of_getElem? (i := 6) rfl))) (mvT hZ (hw _ (List.mem_of_getElem? (i := 7) rfl))) (by decide) (backOf (W := 1) (rm1 l Z a0 hw [] b4 (nF p1) (kF p1 p2) _ _ h4 n0 (Nat.le_trans Z0 E4.1) A4 F_variableCount_b4 g_b4 F_agentCount_b4 hnz16 hkl hnk) hZ (hw _ (List.mem_of_getElem? (i := 7) rfl)) (hw _ (List.mem_of_getElem? (i := 4) rfl)) (by decide) (by decide)) (g := (mkF m 42 #[.val (.int p1), .val (.int p2), .val (.int p3), .val (.int (nF p1)), .val (.int (kF p1 p2)), .val (.int (aF p1 p2 p3)), .unset, .unset, .unset, .unset, .unset, .unset, .unset, .unset, .unset] [(.int (kF p1 p2)), (.int (nF p1)), (.ref b4), (.ref b4)])) rfl (by rw [hml]; rfl) (Steps.refl _) (a := b4) (argsL := [(.int (nF p1)), (.int (kF p1 p2))]) (rest := [(.ref b4)]) (lenOf pd_0_0 rfl) rfl (by show 2 * 0 + _ ≤ _; exact Nat.le_of_eq rfl) (hb hby at_42) (fun _ _ => ⟨rfl, e4, (by decide : 1 + 0 ≤ _), (by decide : 2 + 0 ≤ _)⟩)
  dsimp only [Pt.U, Pt.locs, Pt.cells, Pt.slots] at X5 l5 y5 z5 st5 hQ5
  subst l5 y5 z5
  obtain ⟨rfl, N5q, eq5⟩ := hQ5
  have N5 := Fr.app N0 N5q
  obtain ⟨Kc5, E5, Fv5, Fa5⟩ := eq5
  have Z5 : n0 ≤ T5.heap.size := Nat.le_trans (Nat.le_trans Z0 E4.1) Kc5.1
  obtain ⟨cq6, kq6, q6a, q6b, q6c⟩ := isOf hZ rfl E5
  obtain ⟨_, _, ⟨T6, L6, k6, n6⟩, -, X6, ⟨Lc6, hQ6, l6, y6, z6⟩, st6⟩ := X5.virtualBack hx (y := (⟨"com/example/convene/convene/problem/Split", "firstVariable", "(I)I"⟩ : MethodName)) (z := (⟨"com/example/convene/convene/problem/Split", "firstVariable", "(I)I"⟩ : MethodName)) hown (mvT hZ (hw _ (List.mem_of_getElem? (i := 15) rfl))) (mvT hZ (hw _ (List.mem_of_getElem? (i := 16) rfl))) (notFace_of_selects (args := #[]) (mvT hZ (hw _ (List.mem_of_getElem? (i := 18) rfl)))) (mvT hZ (hw _ (List.mem_of_getElem? (i := 18) rfl))) (mvT hZ (hw _ (List.mem_of_getElem? (i := 17) rfl))) (by decide) (backOf (W := 0) (rm3 l Z a0 hw [] b4 (aF p1 p2 p3) (nF p1) (kF p1 p2) T5.heap n0 Z5 Fv5 Fa5 hkz) hZ (hw _ (List.mem_of_getElem? (i := 19) rfl)) (hw _ (List.mem_of_getElem? (i := 4) rfl)) (by decide) (by decide)) q6a q6c (g := (mkF m 51 #[.val (.int p1), .val (.int p2), .val (.int p3), .val (.int (nF p1)), .val (.int (kF p1 p2)), .val (.int (aF p1 p2 p3)), .val (.ref b4), .unset, .unset, .unset, .unset, .unset, .unset, .unset, .unset] [(.int (aF p1 p2 p3)), (.ref b4)])) rfl (by rw [hml]; rfl) (Steps.refl _) (argsL := [(.int (aF p1 p2 p3))]) (rest := []) (lenOf pd_0_2 rfl) rfl (by show 2 * 0 + _ ≤ _; exact Nat.le_of_eq rfl) (hb hby at_51) (fun _ _ => ⟨rfl, rfl, (by decide : 1 + 0 ≤ _), (by decide : 2 + 0 ≤ _)⟩)
  dsimp only [Pt.U, Pt.locs, Pt.cells, Pt.slots] at X6 l6 y6 z6 st6 hQ6
  subst l6 y6 z6
  obtain ⟨rfl, N6q, eq6⟩ := hQ6
  have N6 := Fr.app N5 N6q
  obtain ⟨fs, hr, hrun, hended, hW, hsame⟩ := X6.leave (v := some (.int (1 : Int32))) (fun h => by rw [Bd.returns] at h; cases h)
  refine ⟨_, _, pre0 _ ?_, hrun, hended, _, _, rfl, ?_, ⟨_, rfl⟩, hW, hsame.mono (by decide) (by decide)⟩
  · show Steps p.tables e below (s₁.setTop (mkF m 0 #[.val (.int p1), .val (.int p2), .val (.int p3), .unset, .unset, .unset, .unset, .unset, .unset, .unset, .unset, .unset, .unset, .unset, .unset] [])) _
    refine XS.iconst X0.here hx rfl (hb hby at_0) ?_
    show Steps p.tables e below (s₁.setTop (mkF m 1 #[.val (.int p1), .val (.int p2), .val (.int p3), .unset, .unset, .unset, .unset, .unset, .unset, .unset, .unset, .unset, .unset, .unset, .unset] [(.int (1 : Int32))])) _
    refine XS.iloadN X0.here hx rfl (hb hby at_1) rfl ?_
    show Steps p.tables e below (s₁.setTop (mkF m 2 #[.val (.int p1), .val (.int p2), .val (.int p3), .unset, .unset, .unset, .unset, .unset, .unset, .unset, .unset, .unset, .unset, .unset, .unset] [(.int p1), (.int (1 : Int32))])) _
    refine X0.ldcInt hx hown (mvT hZ (hw _ (List.mem_of_getElem? (i := 0) rfl))) (g := (mkF m 2 #[.val (.int p1), .val (.int p2), .val (.int p3), .unset, .unset, .unset, .unset, .unset, .unset, .unset, .unset, .unset, .unset, .unset, .unset] [(.int p1), (.int (1 : Int32))])) rfl (hb hby at_2) _ ?_
    show Steps p.tables e below (s₁.setTop (mkF m 4 #[.val (.int p1), .val (.int p2), .val (.int p3), .unset, .unset, .unset, .unset, .unset, .unset, .unset, .unset, .unset, .unset, .unset, .unset] [(.int (2147483647 : Int32)), (.int p1), (.int (1 : Int32))])) _
    refine XS.iand X0.here hx rfl (hb hby at_4) rfl ?_
    show Steps p.tables e below (s₁.setTop (mkF m 5 #[.val (.int p1), .val (.int p2), .val (.int p3), .unset, .unset, .unset, .unset, .unset, .unset, .unset, .unset, .unset, .unset, .unset, .unset] [(.int (p1 &&& (2147483647 : Int32))), (.int (1 : Int32))])) _
    refine X0.ldcInt hx hown (mvT hZ (hw _ (List.mem_of_getElem? (i := 0) rfl))) (g := (mkF m 5 #[.val (.int p1), .val (.int p2), .val (.int p3), .unset, .unset, .unset, .unset, .unset, .unset, .unset, .unset, .unset, .unset, .unset, .unset] [(.int (p1 &&& (2147483647 : Int32))), (.int (1 : Int32))])) rfl (hb hby at_5) _ ?_
    show Steps p.tables e below (s₁.setTop (mkF m 7 #[.val (.int p1), .val (.int p2), .val (.int p3), .unset, .unset, .unset, .unset, .unset, .unset, .unset, .unset, .unset, .unset, .unset, .unset] [(.int (2147483647 : Int32)), (.int (p1 &&& (2147483647 : Int32))), (.int (1 : Int32))])) _
    refine XS.irem X0.here hx rfl (hb hby at_7) rfl hnz7 ?_
    show Steps p.tables e below (s₁.setTop (mkF m 8 #[.val (.int p1), .val (.int p2), .val (.int p3), .unset, .unset, .unset, .unset, .unset, .unset, .unset, .unset, .unset, .unset, .unset, .unset] [(.int (remI (p1 &&& (2147483647 : Int32)) (2147483647 : Int32))), (.int (1 : Int32))])) _
    refine XS.iadd X0.here hx rfl (hb hby at_8) rfl ?_
    show Steps p.tables e below (s₁.setTop (mkF m 9 #[.val (.int p1), .val (.int p2), .val (.int p3), .unset, .unset, .unset, .unset, .unset, .unset, .unset, .unset, .unset, .unset, .unset, .unset] [(.int (nF p1))])) _
    refine XS.istoreN X0.here hx rfl (hb hby at_9) rfl (l' := #[.val (.int p1), .val (.int p2), .val (.int p3), .val (.int (nF p1)), .unset, .unset, .unset, .unset, .unset, .unset, .unset, .unset, .unset, .unset, .unset]) rfl ?_
    show Steps p.tables e below (s₁.setTop (mkF m 10 #[.val (.int p1), .val (.int p2), .val (.int p3), .val (.int (nF p1)), .unset, .unset, .unset, .unset, .unset, .unset, .unset, .unset, .unset, .unset, .unset] [])) _
    refine XS.iconst X0.here hx rfl (hb hby at_10) ?_
    show Steps p.tables e below (s₁.setTop (mkF m 11 #[.val (.int p1), .val (.int p2), .val (.int p3), .val (.int (nF p1)), .unset, .unset, .unset, .unset, .unset, .unset, .unset, .unset, .unset, .unset, .unset] [(.int (1 : Int32))])) _
    refine XS.iloadN X0.here hx rfl (hb hby at_11) rfl ?_
    show Steps p.tables e below (s₁.setTop (mkF m 12 #[.val (.int p1), .val (.int p2), .val (.int p3), .val (.int (nF p1)), .unset, .unset, .unset, .unset, .unset, .unset, .unset, .unset, .unset, .unset, .unset] [(.int p2), (.int (1 : Int32))])) _
    refine X0.ldcInt hx hown (mvT hZ (hw _ (List.mem_of_getElem? (i := 0) rfl))) (g := (mkF m 12 #[.val (.int p1), .val (.int p2), .val (.int p3), .val (.int (nF p1)), .unset, .unset, .unset, .unset, .unset, .unset, .unset, .unset, .unset, .unset, .unset] [(.int p2), (.int (1 : Int32))])) rfl (hb hby at_12) _ ?_
    show Steps p.tables e below (s₁.setTop (mkF m 14 #[.val (.int p1), .val (.int p2), .val (.int p3), .val (.int (nF p1)), .unset, .unset, .unset, .unset, .unset, .unset, .unset, .unset, .unset, .unset, .unset] [(.int (2147483647 : Int32)), (.int p2), (.int (1 : Int32))])) _
    refine XS.iand X0.here hx rfl (hb hby at_14) rfl ?_
    show Steps p.tables e below (s₁.setTop (mkF m 15 #[.val (.int p1), .val (.int p2), .val (.int p3), .val (.int (nF p1)), .unset, .unset, .unset, .unset, .unset, .unset, .unset, .unset, .unset, .unset, .unset] [(.int (p2 &&& (2147483647 : Int32))), (.int (1 : Int32))])) _
    refine XS.iloadN X0.here hx rfl (hb hby at_15) rfl ?_
    show Steps p.tables e below (s₁.setTop (mkF m 16 #[.val (.int p1), .val (.int p2), .val (.int p3), .val (.int (nF p1)), .unset, .unset, .unset, .unset, .unset, .unset, .unset, .unset, .unset, .unset, .unset] [(.int (nF p1)), (.int (p2 &&& (2147483647 : Int32))), (.int (1 : Int32))])) _
    refine XS.irem X0.here hx rfl (hb hby at_16) rfl hnz16 ?_
    show Steps p.tables e below (s₁.setTop (mkF m 17 #[.val (.int p1), .val (.int p2), .val (.int p3), .val (.int (nF p1)), .unset, .unset, .unset, .unset, .unset, .unset, .unset, .unset, .unset, .unset, .unset] [(.int (remI (p2 &&& (2147483647 : Int32)) (nF p1))), (.int (1 : Int32))])) _
    refine XS.iadd X0.here hx rfl (hb hby at_17) rfl ?_
    show Steps p.tables e below (s₁.setTop (mkF m 18 #[.val (.int p1), .val (.int p2), .val (.int p3), .val (.int (nF p1)), .unset, .unset, .unset, .unset, .unset, .unset, .unset, .unset, .unset, .unset, .unset] [(.int (kF p1 p2))])) _
    refine XS.istore X0.here hx rfl (hb hby at_18) rfl (l' := #[.val (.int p1), .val (.int p2), .val (.int p3), .val (.int (nF p1)), .val (.int (kF p1 p2)), .unset, .unset, .unset, .unset, .unset, .unset, .unset, .unset, .unset, .unset]) rfl ?_
    show Steps p.tables e below (s₁.setTop (mkF m 20 #[.val (.int p1), .val (.int p2), .val (.int p3), .val (.int (nF p1)), .val (.int (kF p1 p2)), .unset, .unset, .unset, .unset, .unset, .unset, .unset, .unset, .unset, .unset] [])) _
    refine XS.iloadN X0.here hx rfl (hb hby at_20) rfl ?_
    show Steps p.tables e below (s₁.setTop (mkF m 21 #[.val (.int p1), .val (.int p2), .val (.int p3), .val (.int (nF p1)), .val (.int (kF p1 p2)), .unset, .unset, .unset, .unset, .unset, .unset, .unset, .unset, .unset, .unset] [(.int p3)])) _
    refine XS.i2l X0.here hx rfl (hb hby at_21) rfl ?_
    show Steps p.tables e below (s₁.setTop (mkF m 22 #[.val (.int p1), .val (.int p2), .val (.int p3), .val (.int (nF p1)), .val (.int (kF p1 p2)), .unset, .unset, .unset, .unset, .unset, .unset, .unset, .unset, .unset, .unset] [(.long (p3.toInt64))])) _
    refine X0.ldc2Long hx hown (mvT hZ (hw _ (List.mem_of_getElem? (i := 1) rfl))) (g := (mkF m 22 #[.val (.int p1), .val (.int p2), .val (.int p3), .val (.int (nF p1)), .val (.int (kF p1 p2)), .unset, .unset, .unset, .unset, .unset, .unset, .unset, .unset, .unset, .unset] [(.long (p3.toInt64))])) rfl (hb hby at_22) _ ?_
    show Steps p.tables e below (s₁.setTop (mkF m 25 #[.val (.int p1), .val (.int p2), .val (.int p3), .val (.int (nF p1)), .val (.int (kF p1 p2)), .unset, .unset, .unset, .unset, .unset, .unset, .unset, .unset, .unset, .unset] [(.long (4294967295 : Int64)), (.long (p3.toInt64))])) _
    refine XS.land X0.here hx rfl (hb hby at_25) rfl ?_
    show Steps p.tables e below (s₁.setTop (mkF m 26 #[.val (.int p1), .val (.int p2), .val (.int p3), .val (.int (nF p1)), .val (.int (kF p1 p2)), .unset, .unset, .unset, .unset, .unset, .unset, .unset, .unset, .unset, .unset] [(.long ((p3.toInt64) &&& (4294967295 : Int64)))])) _
    refine XS.iload X0.here hx rfl (hb hby at_26) rfl ?_
    show Steps p.tables e below (s₁.setTop (mkF m 28 #[.val (.int p1), .val (.int p2), .val (.int p3), .val (.int (nF p1)), .val (.int (kF p1 p2)), .unset, .unset, .unset, .unset, .unset, .unset, .unset, .unset, .unset, .unset] [(.int (kF p1 p2)), (.long ((p3.toInt64) &&& (4294967295 : Int64)))])) _
    refine XS.i2l X0.here hx rfl (hb hby at_28) rfl ?_
    show Steps p.tables e below (s₁.setTop (mkF m 29 #[.val (.int p1), .val (.int p2), .val (.int p3), .val (.int (nF p1)), .val (.int (kF p1 p2)), .unset, .unset, .unset, .unset, .unset, .unset, .unset, .unset, .unset, .unset] [(.long ((kF p1 p2).toInt64)), (.long ((p3.toInt64) &&& (4294967295 : Int64)))])) _
    refine XS.lconst X0.here hx rfl (hb hby at_29) ?_
    show Steps p.tables e below (s₁.setTop (mkF m 30 #[.val (.int p1), .val (.int p2), .val (.int p3), .val (.int (nF p1)), .val (.int (kF p1 p2)), .unset, .unset, .unset, .unset, .unset, .unset, .unset, .unset, .unset, .unset] [(.long (1 : Int64)), (.long ((kF p1 p2).toInt64)), (.long ((p3.toInt64) &&& (4294967295 : Int64)))])) _
    refine XS.ladd X0.here hx rfl (hb hby at_30) rfl ?_
    show Steps p.tables e below (s₁.setTop (mkF m 31 #[.val (.int p1), .val (.int p2), .val (.int p3), .val (.int (nF p1)), .val (.int (kF p1 p2)), .unset, .unset, .unset, .unset, .unset, .unset, .unset, .unset, .unset, .unset] [(.long (((kF p1 p2).toInt64) + (1 : Int64))), (.long ((p3.toInt64) &&& (4294967295 : Int64)))])) _
    refine XS.lrem X0.here hx rfl (hb hby at_31) rfl hnz31 ?_
    show Steps p.tables e below (s₁.setTop (mkF m 32 #[.val (.int p1), .val (.int p2), .val (.int p3), .val (.int (nF p1)), .val (.int (kF p1 p2)), .unset, .unset, .unset, .unset, .unset, .unset, .unset, .unset, .unset, .unset] [(.long (remL ((p3.toInt64) &&& (4294967295 : Int64)) (((kF p1 p2).toInt64) + (1 : Int64))))])) _
    refine XS.l2i X0.here hx rfl (hb hby at_32) rfl ?_
    show Steps p.tables e below (s₁.setTop (mkF m 33 #[.val (.int p1), .val (.int p2), .val (.int p3), .val (.int (nF p1)), .val (.int (kF p1 p2)), .unset, .unset, .unset, .unset, .unset, .unset, .unset, .unset, .unset, .unset] [(.int (aF p1 p2 p3))])) _
    refine XS.istore X0.here hx rfl (hb hby at_33) rfl (l' := #[.val (.int p1), .val (.int p2), .val (.int p3), .val (.int (nF p1)), .val (.int (kF p1 p2)), .val (.int (aF p1 p2 p3)), .unset, .unset, .unset, .unset, .unset, .unset, .unset, .unset, .unset]) rfl ?_
    show Steps p.tables e below (s₁.setTop (mkF m 35 #[.val (.int p1), .val (.int p2), .val (.int p3), .val (.int (nF p1)), .val (.int (kF p1 p2)), .val (.int (aF p1 p2 p3)), .unset, .unset, .unset, .unset, .unset, .unset, .unset, .unset, .unset] [])) _
    refine st4 _ ?_
    show Steps p.tables e below (T4.setTop (mkF m 38 #[.val (.int p1), .val (.int p2), .val (.int p3), .val (.int (nF p1)), .val (.int (kF p1 p2)), .val (.int (aF p1 p2 p3)), .unset, .unset, .unset, .unset, .unset, .unset, .unset, .unset, .unset] [(.ref b4)])) _
    refine XS.dup X4.here hx rfl (hb hby at_38) rfl rfl ?_
    show Steps p.tables e below (T4.setTop (mkF m 39 #[.val (.int p1), .val (.int p2), .val (.int p3), .val (.int (nF p1)), .val (.int (kF p1 p2)), .val (.int (aF p1 p2 p3)), .unset, .unset, .unset, .unset, .unset, .unset, .unset, .unset, .unset] [(.ref b4), (.ref b4)])) _
    refine XS.iloadN X4.here hx rfl (hb hby at_39) rfl ?_
    show Steps p.tables e below (T4.setTop (mkF m 40 #[.val (.int p1), .val (.int p2), .val (.int p3), .val (.int (nF p1)), .val (.int (kF p1 p2)), .val (.int (aF p1 p2 p3)), .unset, .unset, .unset, .unset, .unset, .unset, .unset, .unset, .unset] [(.int (nF p1)), (.ref b4), (.ref b4)])) _
    refine XS.iload X4.here hx rfl (hb hby at_40) rfl ?_
    show Steps p.tables e below (T4.setTop (mkF m 42 #[.val (.int p1), .val (.int p2), .val (.int p3), .val (.int (nF p1)), .val (.int (kF p1 p2)), .val (.int (aF p1 p2 p3)), .unset, .unset, .unset, .unset, .unset, .unset, .unset, .unset, .unset] [(.int (kF p1 p2)), (.int (nF p1)), (.ref b4), (.ref b4)])) _
    refine st5.trans ?_
    show Steps p.tables e below (T5.setTop (mkF m 45 #[.val (.int p1), .val (.int p2), .val (.int p3), .val (.int (nF p1)), .val (.int (kF p1 p2)), .val (.int (aF p1 p2 p3)), .unset, .unset, .unset, .unset, .unset, .unset, .unset, .unset, .unset] [(.ref b4)])) _
    refine XS.astore X5.here hx rfl (hb hby at_45) rfl rfl (l' := #[.val (.int p1), .val (.int p2), .val (.int p3), .val (.int (nF p1)), .val (.int (kF p1 p2)), .val (.int (aF p1 p2 p3)), .val (.ref b4), .unset, .unset, .unset, .unset, .unset, .unset, .unset, .unset]) rfl ?_
    show Steps p.tables e below (T5.setTop (mkF m 47 #[.val (.int p1), .val (.int p2), .val (.int p3), .val (.int (nF p1)), .val (.int (kF p1 p2)), .val (.int (aF p1 p2 p3)), .val (.ref b4), .unset, .unset, .unset, .unset, .unset, .unset, .unset, .unset] [])) _
    refine XS.aload X5.here hx rfl (hb hby at_47) rfl rfl ?_
    show Steps p.tables e below (T5.setTop (mkF m 49 #[.val (.int p1), .val (.int p2), .val (.int p3), .val (.int (nF p1)), .val (.int (kF p1 p2)), .val (.int (aF p1 p2 p3)), .val (.ref b4), .unset, .unset, .unset, .unset, .unset, .unset, .unset, .unset] [(.ref b4)])) _
    refine XS.iload X5.here hx rfl (hb hby at_49) rfl ?_
    show Steps p.tables e below (T5.setTop (mkF m 51 #[.val (.int p1), .val (.int p2), .val (.int p3), .val (.int (nF p1)), .val (.int (kF p1 p2)), .val (.int (aF p1 p2 p3)), .val (.ref b4), .unset, .unset, .unset, .unset, .unset, .unset, .unset, .unset] [(.int (aF p1 p2 p3)), (.ref b4)])) _
    refine st6.trans ?_
    show Steps p.tables e below (T6.setTop (mkF m 54 #[.val (.int p1), .val (.int p2), .val (.int p3), .val (.int (nF p1)), .val (.int (kF p1 p2)), .val (.int (aF p1 p2 p3)), .val (.ref b4), .unset, .unset, .unset, .unset, .unset, .unset, .unset, .unset] [(.int (fF (aF p1 p2 p3) (nF p1) (kF p1 p2)))])) _
    refine XS.istore X6.here hx rfl (hb hby at_54) rfl (l' := #[.val (.int p1), .val (.int p2), .val (.int p3), .val (.int (nF p1)), .val (.int (kF p1 p2)), .val (.int (aF p1 p2 p3)), .val (.ref b4), .val (.int (fF (aF p1 p2 p3) (nF p1) (kF p1 p2))), .unset, .unset, .unset, .unset, .unset, .unset, .unset]) rfl ?_
    show Steps p.tables e below (T6.setTop (mkF m 56 #[.val (.int p1), .val (.int p2), .val (.int p3), .val (.int (nF p1)), .val (.int (kF p1 p2)), .val (.int (aF p1 p2 p3)), .val (.ref b4), .val (.int (fF (aF p1 p2 p3) (nF p1) (kF p1 p2))), .unset, .unset, .unset, .unset, .unset, .unset, .unset] [])) _
    refine XS.iload X6.here hx rfl (hb hby at_56) rfl ?_
    show Steps p.tables e below (T6.setTop (mkF m 58 #[.val (.int p1), .val (.int p2), .val (.int p3), .val (.int (nF p1)), .val (.int (kF p1 p2)), .val (.int (aF p1 p2 p3)), .val (.ref b4), .val (.int (fF (aF p1 p2 p3) (nF p1) (kF p1 p2))), .unset, .unset, .unset, .unset, .unset, .unset, .unset] [(.int (aF p1 p2 p3))])) _
    refine XS.i2l X6.here hx rfl (hb hby at_58) rfl ?_
    show Steps p.tables e below (T6.setTop (mkF m 59 #[.val (.int p1), .val (.int p2), .val (.int p3), .val (.int (nF p1)), .val (.int (kF p1 p2)), .val (.int (aF p1 p2 p3)), .val (.ref b4), .val (.int (fF (aF p1 p2 p3) (nF p1) (kF p1 p2))), .unset, .unset, .unset, .unset, .unset, .unset, .unset] [(.long ((aF p1 p2 p3).toInt64))])) _
    refine XS.iloadN X6.here hx rfl (hb hby at_59) rfl ?_
    show Steps p.tables e below (T6.setTop (mkF m 60 #[.val (.int p1), .val (.int p2), .val (.int p3), .val (.int (nF p1)), .val (.int (kF p1 p2)), .val (.int (aF p1 p2 p3)), .val (.ref b4), .val (.int (fF (aF p1 p2 p3) (nF p1) (kF p1 p2))), .unset, .unset, .unset, .unset, .unset, .unset, .unset] [(.int (nF p1)), (.long ((aF p1 p2 p3).toInt64))])) _
    refine XS.i2l X6.here hx rfl (hb hby at_60) rfl ?_
    show Steps p.tables e below (T6.setTop (mkF m 61 #[.val (.int p1), .val (.int p2), .val (.int p3), .val (.int (nF p1)), .val (.int (kF p1 p2)), .val (.int (aF p1 p2 p3)), .val (.ref b4), .val (.int (fF (aF p1 p2 p3) (nF p1) (kF p1 p2))), .unset, .unset, .unset, .unset, .unset, .unset, .unset] [(.long ((nF p1).toInt64)), (.long ((aF p1 p2 p3).toInt64))])) _
    refine XS.lmul X6.here hx rfl (hb hby at_61) rfl ?_
    show Steps p.tables e below (T6.setTop (mkF m 62 #[.val (.int p1), .val (.int p2), .val (.int p3), .val (.int (nF p1)), .val (.int (kF p1 p2)), .val (.int (aF p1 p2 p3)), .val (.ref b4), .val (.int (fF (aF p1 p2 p3) (nF p1) (kF p1 p2))), .unset, .unset, .unset, .unset, .unset, .unset, .unset] [(.long (((aF p1 p2 p3).toInt64) * ((nF p1).toInt64)))])) _
    refine XS.lstore X6.here hx rfl (hb hby at_62) rfl (l' := #[.val (.int p1), .val (.int p2), .val (.int p3), .val (.int (nF p1)), .val (.int (kF p1 p2)), .val (.int (aF p1 p2 p3)), .val (.ref b4), .val (.int (fF (aF p1 p2 p3) (nF p1) (kF p1 p2))), .val (.long (((aF p1 p2 p3).toInt64) * ((nF p1).toInt64))), .second, .unset, .unset, .unset, .unset, .unset]) rfl ?_
    show Steps p.tables e below (T6.setTop (mkF m 64 #[.val (.int p1), .val (.int p2), .val (.int p3), .val (.int (nF p1)), .val (.int (kF p1 p2)), .val (.int (aF p1 p2 p3)), .val (.ref b4), .val (.int (fF (aF p1 p2 p3) (nF p1) (kF p1 p2))), .val (.long (((aF p1 p2 p3).toInt64) * ((nF p1).toInt64))), .second, .unset, .unset, .unset, .unset, .unset] [])) _
    refine XS.iload X6.here hx rfl (hb hby at_64) rfl ?_
    show Steps p.tables e below (T6.setTop (mkF m 66 #[.val (.int p1), .val (.int p2), .val (.int p3), .val (.int (nF p1)), .val (.int (kF p1 p2)), .val (.int (aF p1 p2 p3)), .val (.ref b4), .val (.int (fF (aF p1 p2 p3) (nF p1) (kF p1 p2))), .val (.long (((aF p1 p2 p3).toInt64) * ((nF p1).toInt64))), .second, .unset, .unset, .unset, .unset, .unset] [(.int (fF (aF p1 p2 p3) (nF p1) (kF p1 p2)))])) _
    refine XS.i2l X6.here hx rfl (hb hby at_66) rfl ?_
    show Steps p.tables e below (T6.setTop (mkF m 67 #[.val (.int p1), .val (.int p2), .val (.int p3), .val (.int (nF p1)), .val (.int (kF p1 p2)), .val (.int (aF p1 p2 p3)), .val (.ref b4), .val (.int (fF (aF p1 p2 p3) (nF p1) (kF p1 p2))), .val (.long (((aF p1 p2 p3).toInt64) * ((nF p1).toInt64))), .second, .unset, .unset, .unset, .unset, .unset] [(.long ((fF (aF p1 p2 p3) (nF p1) (kF p1 p2)).toInt64))])) _
    refine XS.lstore X6.here hx rfl (hb hby at_67) rfl (l' := #[.val (.int p1), .val (.int p2), .val (.int p3), .val (.int (nF p1)), .val (.int (kF p1 p2)), .val (.int (aF p1 p2 p3)), .val (.ref b4), .val (.int (fF (aF p1 p2 p3) (nF p1) (kF p1 p2))), .val (.long (((aF p1 p2 p3).toInt64) * ((nF p1).toInt64))), .second, .val (.long ((fF (aF p1 p2 p3) (nF p1) (kF p1 p2)).toInt64)), .second, .unset, .unset, .unset]) rfl ?_
    show Steps p.tables e below (T6.setTop (mkF m 69 #[.val (.int p1), .val (.int p2), .val (.int p3), .val (.int (nF p1)), .val (.int (kF p1 p2)), .val (.int (aF p1 p2 p3)), .val (.ref b4), .val (.int (fF (aF p1 p2 p3) (nF p1) (kF p1 p2))), .val (.long (((aF p1 p2 p3).toInt64) * ((nF p1).toInt64))), .second, .val (.long ((fF (aF p1 p2 p3) (nF p1) (kF p1 p2)).toInt64)), .second, .unset, .unset, .unset] [])) _
    refine XS.lload X6.here hx rfl (hb hby at_69) rfl ?_
    show Steps p.tables e below (T6.setTop (mkF m 71 #[.val (.int p1), .val (.int p2), .val (.int p3), .val (.int (nF p1)), .val (.int (kF p1 p2)), .val (.int (aF p1 p2 p3)), .val (.ref b4), .val (.int (fF (aF p1 p2 p3) (nF p1) (kF p1 p2))), .val (.long (((aF p1 p2 p3).toInt64) * ((nF p1).toInt64))), .second, .val (.long ((fF (aF p1 p2 p3) (nF p1) (kF p1 p2)).toInt64)), .second, .unset, .unset, .unset] [(.long ((fF (aF p1 p2 p3) (nF p1) (kF p1 p2)).toInt64))])) _
    refine XS.iload X6.here hx rfl (hb hby at_71) rfl ?_
    show Steps p.tables e below (T6.setTop (mkF m 73 #[.val (.int p1), .val (.int p2), .val (.int p3), .val (.int (nF p1)), .val (.int (kF p1 p2)), .val (.int (aF p1 p2 p3)), .val (.ref b4), .val (.int (fF (aF p1 p2 p3) (nF p1) (kF p1 p2))), .val (.long (((aF p1 p2 p3).toInt64) * ((nF p1).toInt64))), .second, .val (.long ((fF (aF p1 p2 p3) (nF p1) (kF p1 p2)).toInt64)), .second, .unset, .unset, .unset] [(.int (kF p1 p2)), (.long ((fF (aF p1 p2 p3) (nF p1) (kF p1 p2)).toInt64))])) _
    refine XS.i2l X6.here hx rfl (hb hby at_73) rfl ?_
    show Steps p.tables e below (T6.setTop (mkF m 74 #[.val (.int p1), .val (.int p2), .val (.int p3), .val (.int (nF p1)), .val (.int (kF p1 p2)), .val (.int (aF p1 p2 p3)), .val (.ref b4), .val (.int (fF (aF p1 p2 p3) (nF p1) (kF p1 p2))), .val (.long (((aF p1 p2 p3).toInt64) * ((nF p1).toInt64))), .second, .val (.long ((fF (aF p1 p2 p3) (nF p1) (kF p1 p2)).toInt64)), .second, .unset, .unset, .unset] [(.long ((kF p1 p2).toInt64)), (.long ((fF (aF p1 p2 p3) (nF p1) (kF p1 p2)).toInt64))])) _
    refine XS.lmul X6.here hx rfl (hb hby at_74) rfl ?_
    show Steps p.tables e below (T6.setTop (mkF m 75 #[.val (.int p1), .val (.int p2), .val (.int p3), .val (.int (nF p1)), .val (.int (kF p1 p2)), .val (.int (aF p1 p2 p3)), .val (.ref b4), .val (.int (fF (aF p1 p2 p3) (nF p1) (kF p1 p2))), .val (.long (((aF p1 p2 p3).toInt64) * ((nF p1).toInt64))), .second, .val (.long ((fF (aF p1 p2 p3) (nF p1) (kF p1 p2)).toInt64)), .second, .unset, .unset, .unset] [(.long (((fF (aF p1 p2 p3) (nF p1) (kF p1 p2)).toInt64) * ((kF p1 p2).toInt64)))])) _
    refine XS.lload X6.here hx rfl (hb hby at_75) rfl ?_
    show Steps p.tables e below (T6.setTop (mkF m 77 #[.val (.int p1), .val (.int p2), .val (.int p3), .val (.int (nF p1)), .val (.int (kF p1 p2)), .val (.int (aF p1 p2 p3)), .val (.ref b4), .val (.int (fF (aF p1 p2 p3) (nF p1) (kF p1 p2))), .val (.long (((aF p1 p2 p3).toInt64) * ((nF p1).toInt64))), .second, .val (.long ((fF (aF p1 p2 p3) (nF p1) (kF p1 p2)).toInt64)), .second, .unset, .unset, .unset] [(.long (((aF p1 p2 p3).toInt64) * ((nF p1).toInt64))), (.long (((fF (aF p1 p2 p3) (nF p1) (kF p1 p2)).toInt64) * ((kF p1 p2).toInt64)))])) _
    refine XS.lcmp X6.here hx rfl (hb hby at_77) rfl ?_
    show Steps p.tables e below (T6.setTop (mkF m 78 #[.val (.int p1), .val (.int p2), .val (.int p3), .val (.int (nF p1)), .val (.int (kF p1 p2)), .val (.int (aF p1 p2 p3)), .val (.ref b4), .val (.int (fF (aF p1 p2 p3) (nF p1) (kF p1 p2))), .val (.long (((aF p1 p2 p3).toInt64) * ((nF p1).toInt64))), .second, .val (.long ((fF (aF p1 p2 p3) (nF p1) (kF p1 p2)).toInt64)), .second, .unset, .unset, .unset] [(.int (lcmpW (((fF (aF p1 p2 p3) (nF p1) (kF p1 p2)).toInt64) * ((kF p1 p2).toInt64)) (((aF p1 p2 p3).toInt64) * ((nF p1).toInt64))))])) _
    refine XS.ifNo X6.here hx rfl (hb hby at_78) rfl ((if0 _ _).trans (flt (A1 : ¬ ((lcmpW (((fF (aF p1 p2 p3) (nF p1) (kF p1 p2)).toInt64) * ((kF p1 p2).toInt64)) (((aF p1 p2 p3).toInt64) * ((nF p1).toInt64))) < (0 : Int32)))).1) ?_
    show Steps p.tables e below (T6.setTop (mkF m 81 #[.val (.int p1), .val (.int p2), .val (.int p3), .val (.int (nF p1)), .val (.int (kF p1 p2)), .val (.int (aF p1 p2 p3)), .val (.ref b4), .val (.int (fF (aF p1 p2 p3) (nF p1) (kF p1 p2))), .val (.long (((aF p1 p2 p3).toInt64) * ((nF p1).toInt64))), .second, .val (.long ((fF (aF p1 p2 p3) (nF p1) (kF p1 p2)).toInt64)), .second, .unset, .unset, .unset] [])) _
    refine XS.iconst X6.here hx rfl (hb hby at_81) ?_
    show Steps p.tables e below (T6.setTop (mkF m 82 #[.val (.int p1), .val (.int p2), .val (.int p3), .val (.int (nF p1)), .val (.int (kF p1 p2)), .val (.int (aF p1 p2 p3)), .val (.ref b4), .val (.int (fF (aF p1 p2 p3) (nF p1) (kF p1 p2))), .val (.long (((aF p1 p2 p3).toInt64) * ((nF p1).toInt64))), .second, .val (.long ((fF (aF p1 p2 p3) (nF p1) (kF p1 p2)).toInt64)), .second, .unset, .unset, .unset] [(.int (1 : Int32))])) _
    refine XS.goto X6.here hx rfl (pc0 := 82) (pc' := 86) rfl (hb hby at_82) (by decide) (by decide) ?_
    show Steps p.tables e below (T6.setTop (mkF m 86 #[.val (.int p1), .val (.int p2), .val (.int p3), .val (.int (nF p1)), .val (.int (kF p1 p2)), .val (.int (aF p1 p2 p3)), .val (.ref b4), .val (.int (fF (aF p1 p2 p3) (nF p1) (kF p1 p2))), .val (.long (((aF p1 p2 p3).toInt64) * ((nF p1).toInt64))), .second, .val (.long ((fF (aF p1 p2 p3) (nF p1) (kF p1 p2)).toInt64)), .second, .unset, .unset, .unset] [(.int (1 : Int32))])) _
    refine XS.istore X6.here hx rfl (hb hby at_86) rfl (l' := #[.val (.int p1), .val (.int p2), .val (.int p3), .val (.int (nF p1)), .val (.int (kF p1 p2)), .val (.int (aF p1 p2 p3)), .val (.ref b4), .val (.int (fF (aF p1 p2 p3) (nF p1) (kF p1 p2))), .val (.long (((aF p1 p2 p3).toInt64) * ((nF p1).toInt64))), .second, .val (.long ((fF (aF p1 p2 p3) (nF p1) (kF p1 p2)).toInt64)), .second, .val (.int (1 : Int32)), .unset, .unset]) rfl ?_
    show Steps p.tables e below (T6.setTop (mkF m 88 #[.val (.int p1), .val (.int p2), .val (.int p3), .val (.int (nF p1)), .val (.int (kF p1 p2)), .val (.int (aF p1 p2 p3)), .val (.ref b4), .val (.int (fF (aF p1 p2 p3) (nF p1) (kF p1 p2))), .val (.long (((aF p1 p2 p3).toInt64) * ((nF p1).toInt64))), .second, .val (.long ((fF (aF p1 p2 p3) (nF p1) (kF p1 p2)).toInt64)), .second, .val (.int (1 : Int32)), .unset, .unset] [])) _
    refine XS.lload X6.here hx rfl (hb hby at_88) rfl ?_
    show Steps p.tables e below (T6.setTop (mkF m 90 #[.val (.int p1), .val (.int p2), .val (.int p3), .val (.int (nF p1)), .val (.int (kF p1 p2)), .val (.int (aF p1 p2 p3)), .val (.ref b4), .val (.int (fF (aF p1 p2 p3) (nF p1) (kF p1 p2))), .val (.long (((aF p1 p2 p3).toInt64) * ((nF p1).toInt64))), .second, .val (.long ((fF (aF p1 p2 p3) (nF p1) (kF p1 p2)).toInt64)), .second, .val (.int (1 : Int32)), .unset, .unset] [(.long ((fF (aF p1 p2 p3) (nF p1) (kF p1 p2)).toInt64))])) _
    refine XS.lconst X6.here hx rfl (hb hby at_90) ?_
    show Steps p.tables e below (T6.setTop (mkF m 91 #[.val (.int p1), .val (.int p2), .val (.int p3), .val (.int (nF p1)), .val (.int (kF p1 p2)), .val (.int (aF p1 p2 p3)), .val (.ref b4), .val (.int (fF (aF p1 p2 p3) (nF p1) (kF p1 p2))), .val (.long (((aF p1 p2 p3).toInt64) * ((nF p1).toInt64))), .second, .val (.long ((fF (aF p1 p2 p3) (nF p1) (kF p1 p2)).toInt64)), .second, .val (.int (1 : Int32)), .unset, .unset] [(.long (1 : Int64)), (.long ((fF (aF p1 p2 p3) (nF p1) (kF p1 p2)).toInt64))])) _
    refine XS.lsub X6.here hx rfl (hb hby at_91) rfl ?_
    show Steps p.tables e below (T6.setTop (mkF m 92 #[.val (.int p1), .val (.int p2), .val (.int p3), .val (.int (nF p1)), .val (.int (kF p1 p2)), .val (.int (aF p1 p2 p3)), .val (.ref b4), .val (.int (fF (aF p1 p2 p3) (nF p1) (kF p1 p2))), .val (.long (((aF p1 p2 p3).toInt64) * ((nF p1).toInt64))), .second, .val (.long ((fF (aF p1 p2 p3) (nF p1) (kF p1 p2)).toInt64)), .second, .val (.int (1 : Int32)), .unset, .unset] [(.long (((fF (aF p1 p2 p3) (nF p1) (kF p1 p2)).toInt64) - (1 : Int64)))])) _
    refine XS.iload X6.here hx rfl (hb hby at_92) rfl ?_
    show Steps p.tables e below (T6.setTop (mkF m 94 #[.val (.int p1), .val (.int p2), .val (.int p3), .val (.int (nF p1)), .val (.int (kF p1 p2)), .val (.int (aF p1 p2 p3)), .val (.ref b4), .val (.int (fF (aF p1 p2 p3) (nF p1) (kF p1 p2))), .val (.long (((aF p1 p2 p3).toInt64) * ((nF p1).toInt64))), .second, .val (.long ((fF (aF p1 p2 p3) (nF p1) (kF p1 p2)).toInt64)), .second, .val (.int (1 : Int32)), .unset, .unset] [(.int (kF p1 p2)), (.long (((fF (aF p1 p2 p3) (nF p1) (kF p1 p2)).toInt64) - (1 : Int64)))])) _
    refine XS.i2l X6.here hx rfl (hb hby at_94) rfl ?_
    show Steps p.tables e below (T6.setTop (mkF m 95 #[.val (.int p1), .val (.int p2), .val (.int p3), .val (.int (nF p1)), .val (.int (kF p1 p2)), .val (.int (aF p1 p2 p3)), .val (.ref b4), .val (.int (fF (aF p1 p2 p3) (nF p1) (kF p1 p2))), .val (.long (((aF p1 p2 p3).toInt64) * ((nF p1).toInt64))), .second, .val (.long ((fF (aF p1 p2 p3) (nF p1) (kF p1 p2)).toInt64)), .second, .val (.int (1 : Int32)), .unset, .unset] [(.long ((kF p1 p2).toInt64)), (.long (((fF (aF p1 p2 p3) (nF p1) (kF p1 p2)).toInt64) - (1 : Int64)))])) _
    refine XS.lmul X6.here hx rfl (hb hby at_95) rfl ?_
    show Steps p.tables e below (T6.setTop (mkF m 96 #[.val (.int p1), .val (.int p2), .val (.int p3), .val (.int (nF p1)), .val (.int (kF p1 p2)), .val (.int (aF p1 p2 p3)), .val (.ref b4), .val (.int (fF (aF p1 p2 p3) (nF p1) (kF p1 p2))), .val (.long (((aF p1 p2 p3).toInt64) * ((nF p1).toInt64))), .second, .val (.long ((fF (aF p1 p2 p3) (nF p1) (kF p1 p2)).toInt64)), .second, .val (.int (1 : Int32)), .unset, .unset] [(.long ((((fF (aF p1 p2 p3) (nF p1) (kF p1 p2)).toInt64) - (1 : Int64)) * ((kF p1 p2).toInt64)))])) _
    refine XS.lload X6.here hx rfl (hb hby at_96) rfl ?_
    show Steps p.tables e below (T6.setTop (mkF m 98 #[.val (.int p1), .val (.int p2), .val (.int p3), .val (.int (nF p1)), .val (.int (kF p1 p2)), .val (.int (aF p1 p2 p3)), .val (.ref b4), .val (.int (fF (aF p1 p2 p3) (nF p1) (kF p1 p2))), .val (.long (((aF p1 p2 p3).toInt64) * ((nF p1).toInt64))), .second, .val (.long ((fF (aF p1 p2 p3) (nF p1) (kF p1 p2)).toInt64)), .second, .val (.int (1 : Int32)), .unset, .unset] [(.long (((aF p1 p2 p3).toInt64) * ((nF p1).toInt64))), (.long ((((fF (aF p1 p2 p3) (nF p1) (kF p1 p2)).toInt64) - (1 : Int64)) * ((kF p1 p2).toInt64)))])) _
    refine XS.lcmp X6.here hx rfl (hb hby at_98) rfl ?_
    show Steps p.tables e below (T6.setTop (mkF m 99 #[.val (.int p1), .val (.int p2), .val (.int p3), .val (.int (nF p1)), .val (.int (kF p1 p2)), .val (.int (aF p1 p2 p3)), .val (.ref b4), .val (.int (fF (aF p1 p2 p3) (nF p1) (kF p1 p2))), .val (.long (((aF p1 p2 p3).toInt64) * ((nF p1).toInt64))), .second, .val (.long ((fF (aF p1 p2 p3) (nF p1) (kF p1 p2)).toInt64)), .second, .val (.int (1 : Int32)), .unset, .unset] [(.int (lcmpW ((((fF (aF p1 p2 p3) (nF p1) (kF p1 p2)).toInt64) - (1 : Int64)) * ((kF p1 p2).toInt64)) (((aF p1 p2 p3).toInt64) * ((nF p1).toInt64))))])) _
    refine XS.ifNo X6.here hx rfl (hb hby at_99) rfl ((if0 _ _).trans (tlt (A2 : (lcmpW ((((fF (aF p1 p2 p3) (nF p1) (kF p1 p2)).toInt64) - (1 : Int64)) * ((kF p1 p2).toInt64)) (((aF p1 p2 p3).toInt64) * ((nF p1).toInt64))) < (0 : Int32))).2.1) ?_
    show Steps p.tables e below (T6.setTop (mkF m 102 #[.val (.int p1), .val (.int p2), .val (.int p3), .val (.int (nF p1)), .val (.int (kF p1 p2)), .val (.int (aF p1 p2 p3)), .val (.ref b4), .val (.int (fF (aF p1 p2 p3) (nF p1) (kF p1 p2))), .val (.long (((aF p1 p2 p3).toInt64) * ((nF p1).toInt64))), .second, .val (.long ((fF (aF p1 p2 p3) (nF p1) (kF p1 p2)).toInt64)), .second, .val (.int (1 : Int32)), .unset, .unset] [])) _
    refine XS.iconst X6.here hx rfl (hb hby at_102) ?_
    show Steps p.tables e below (T6.setTop (mkF m 103 #[.val (.int p1), .val (.int p2), .val (.int p3), .val (.int (nF p1)), .val (.int (kF p1 p2)), .val (.int (aF p1 p2 p3)), .val (.ref b4), .val (.int (fF (aF p1 p2 p3) (nF p1) (kF p1 p2))), .val (.long (((aF p1 p2 p3).toInt64) * ((nF p1).toInt64))), .second, .val (.long ((fF (aF p1 p2 p3) (nF p1) (kF p1 p2)).toInt64)), .second, .val (.int (1 : Int32)), .unset, .unset] [(.int (1 : Int32))])) _
    refine XS.goto X6.here hx rfl (pc0 := 103) (pc' := 107) rfl (hb hby at_103) (by decide) (by decide) ?_
    show Steps p.tables e below (T6.setTop (mkF m 107 #[.val (.int p1), .val (.int p2), .val (.int p3), .val (.int (nF p1)), .val (.int (kF p1 p2)), .val (.int (aF p1 p2 p3)), .val (.ref b4), .val (.int (fF (aF p1 p2 p3) (nF p1) (kF p1 p2))), .val (.long (((aF p1 p2 p3).toInt64) * ((nF p1).toInt64))), .second, .val (.long ((fF (aF p1 p2 p3) (nF p1) (kF p1 p2)).toInt64)), .second, .val (.int (1 : Int32)), .unset, .unset] [(.int (1 : Int32))])) _
    refine XS.istore X6.here hx rfl (hb hby at_107) rfl (l' := #[.val (.int p1), .val (.int p2), .val (.int p3), .val (.int (nF p1)), .val (.int (kF p1 p2)), .val (.int (aF p1 p2 p3)), .val (.ref b4), .val (.int (fF (aF p1 p2 p3) (nF p1) (kF p1 p2))), .val (.long (((aF p1 p2 p3).toInt64) * ((nF p1).toInt64))), .second, .val (.long ((fF (aF p1 p2 p3) (nF p1) (kF p1 p2)).toInt64)), .second, .val (.int (1 : Int32)), .val (.int (1 : Int32)), .unset]) rfl ?_
    show Steps p.tables e below (T6.setTop (mkF m 109 #[.val (.int p1), .val (.int p2), .val (.int p3), .val (.int (nF p1)), .val (.int (kF p1 p2)), .val (.int (aF p1 p2 p3)), .val (.ref b4), .val (.int (fF (aF p1 p2 p3) (nF p1) (kF p1 p2))), .val (.long (((aF p1 p2 p3).toInt64) * ((nF p1).toInt64))), .second, .val (.long ((fF (aF p1 p2 p3) (nF p1) (kF p1 p2)).toInt64)), .second, .val (.int (1 : Int32)), .val (.int (1 : Int32)), .unset] [])) _
    refine XS.iload X6.here hx rfl (hb hby at_109) rfl ?_
    show Steps p.tables e below (T6.setTop (mkF m 111 #[.val (.int p1), .val (.int p2), .val (.int p3), .val (.int (nF p1)), .val (.int (kF p1 p2)), .val (.int (aF p1 p2 p3)), .val (.ref b4), .val (.int (fF (aF p1 p2 p3) (nF p1) (kF p1 p2))), .val (.long (((aF p1 p2 p3).toInt64) * ((nF p1).toInt64))), .second, .val (.long ((fF (aF p1 p2 p3) (nF p1) (kF p1 p2)).toInt64)), .second, .val (.int (1 : Int32)), .val (.int (1 : Int32)), .unset] [(.int (fF (aF p1 p2 p3) (nF p1) (kF p1 p2)))])) _
    refine XS.ifNo X6.here hx rfl (hb hby at_111) rfl ((if0 _ _).trans (flt (A3 : ¬ ((fF (aF p1 p2 p3) (nF p1) (kF p1 p2)) < (0 : Int32)))).1) ?_
    show Steps p.tables e below (T6.setTop (mkF m 114 #[.val (.int p1), .val (.int p2), .val (.int p3), .val (.int (nF p1)), .val (.int (kF p1 p2)), .val (.int (aF p1 p2 p3)), .val (.ref b4), .val (.int (fF (aF p1 p2 p3) (nF p1) (kF p1 p2))), .val (.long (((aF p1 p2 p3).toInt64) * ((nF p1).toInt64))), .second, .val (.long ((fF (aF p1 p2 p3) (nF p1) (kF p1 p2)).toInt64)), .second, .val (.int (1 : Int32)), .val (.int (1 : Int32)), .unset] [])) _
    refine XS.iload X6.here hx rfl (hb hby at_114) rfl ?_
    show Steps p.tables e below (T6.setTop (mkF m 116 #[.val (.int p1), .val (.int p2), .val (.int p3), .val (.int (nF p1)), .val (.int (kF p1 p2)), .val (.int (aF p1 p2 p3)), .val (.ref b4), .val (.int (fF (aF p1 p2 p3) (nF p1) (kF p1 p2))), .val (.long (((aF p1 p2 p3).toInt64) * ((nF p1).toInt64))), .second, .val (.long ((fF (aF p1 p2 p3) (nF p1) (kF p1 p2)).toInt64)), .second, .val (.int (1 : Int32)), .val (.int (1 : Int32)), .unset] [(.int (fF (aF p1 p2 p3) (nF p1) (kF p1 p2)))])) _
    refine XS.iloadN X6.here hx rfl (hb hby at_116) rfl ?_
    show Steps p.tables e below (T6.setTop (mkF m 117 #[.val (.int p1), .val (.int p2), .val (.int p3), .val (.int (nF p1)), .val (.int (kF p1 p2)), .val (.int (aF p1 p2 p3)), .val (.ref b4), .val (.int (fF (aF p1 p2 p3) (nF p1) (kF p1 p2))), .val (.long (((aF p1 p2 p3).toInt64) * ((nF p1).toInt64))), .second, .val (.long ((fF (aF p1 p2 p3) (nF p1) (kF p1 p2)).toInt64)), .second, .val (.int (1 : Int32)), .val (.int (1 : Int32)), .unset] [(.int (nF p1)), (.int (fF (aF p1 p2 p3) (nF p1) (kF p1 p2)))])) _
    refine XS.icmpNo X6.here hx rfl (hb hby at_117) rfl (flt (A4' : ¬ ((nF p1) < (fF (aF p1 p2 p3) (nF p1) (kF p1 p2))))).2.2.1 ?_
    show Steps p.tables e below (T6.setTop (mkF m 120 #[.val (.int p1), .val (.int p2), .val (.int p3), .val (.int (nF p1)), .val (.int (kF p1 p2)), .val (.int (aF p1 p2 p3)), .val (.ref b4), .val (.int (fF (aF p1 p2 p3) (nF p1) (kF p1 p2))), .val (.long (((aF p1 p2 p3).toInt64) * ((nF p1).toInt64))), .second, .val (.long ((fF (aF p1 p2 p3) (nF p1) (kF p1 p2)).toInt64)), .second, .val (.int (1 : Int32)), .val (.int (1 : Int32)), .unset] [])) _
    refine XS.iconst X6.here hx rfl (hb hby at_120) ?_
    show Steps p.tables e below (T6.setTop (mkF m 121 #[.val (.int p1), .val (.int p2), .val (.int p3), .val (.int (nF p1)), .val (.int (kF p1 p2)), .val (.int (aF p1 p2 p3)), .val (.ref b4), .val (.int (fF (aF p1 p2 p3) (nF p1) (kF p1 p2))), .val (.long (((aF p1 p2 p3).toInt64) * ((nF p1).toInt64))), .second, .val (.long ((fF (aF p1 p2 p3) (nF p1) (kF p1 p2)).toInt64)), .second, .val (.int (1 : Int32)), .val (.int (1 : Int32)), .unset] [(.int (1 : Int32))])) _
    refine XS.goto X6.here hx rfl (pc0 := 121) (pc' := 125) rfl (hb hby at_121) (by decide) (by decide) ?_
    show Steps p.tables e below (T6.setTop (mkF m 125 #[.val (.int p1), .val (.int p2), .val (.int p3), .val (.int (nF p1)), .val (.int (kF p1 p2)), .val (.int (aF p1 p2 p3)), .val (.ref b4), .val (.int (fF (aF p1 p2 p3) (nF p1) (kF p1 p2))), .val (.long (((aF p1 p2 p3).toInt64) * ((nF p1).toInt64))), .second, .val (.long ((fF (aF p1 p2 p3) (nF p1) (kF p1 p2)).toInt64)), .second, .val (.int (1 : Int32)), .val (.int (1 : Int32)), .unset] [(.int (1 : Int32))])) _
    refine XS.istore X6.here hx rfl (hb hby at_125) rfl (l' := #[.val (.int p1), .val (.int p2), .val (.int p3), .val (.int (nF p1)), .val (.int (kF p1 p2)), .val (.int (aF p1 p2 p3)), .val (.ref b4), .val (.int (fF (aF p1 p2 p3) (nF p1) (kF p1 p2))), .val (.long (((aF p1 p2 p3).toInt64) * ((nF p1).toInt64))), .second, .val (.long ((fF (aF p1 p2 p3) (nF p1) (kF p1 p2)).toInt64)), .second, .val (.int (1 : Int32)), .val (.int (1 : Int32)), .val (.int (1 : Int32))]) rfl ?_
    show Steps p.tables e below (T6.setTop (mkF m 127 #[.val (.int p1), .val (.int p2), .val (.int p3), .val (.int (nF p1)), .val (.int (kF p1 p2)), .val (.int (aF p1 p2 p3)), .val (.ref b4), .val (.int (fF (aF p1 p2 p3) (nF p1) (kF p1 p2))), .val (.long (((aF p1 p2 p3).toInt64) * ((nF p1).toInt64))), .second, .val (.long ((fF (aF p1 p2 p3) (nF p1) (kF p1 p2)).toInt64)), .second, .val (.int (1 : Int32)), .val (.int (1 : Int32)), .val (.int (1 : Int32))] [])) _
    refine XS.iload X6.here hx rfl (hb hby at_127) rfl ?_
    show Steps p.tables e below (T6.setTop (mkF m 129 #[.val (.int p1), .val (.int p2), .val (.int p3), .val (.int (nF p1)), .val (.int (kF p1 p2)), .val (.int (aF p1 p2 p3)), .val (.ref b4), .val (.int (fF (aF p1 p2 p3) (nF p1) (kF p1 p2))), .val (.long (((aF p1 p2 p3).toInt64) * ((nF p1).toInt64))), .second, .val (.long ((fF (aF p1 p2 p3) (nF p1) (kF p1 p2)).toInt64)), .second, .val (.int (1 : Int32)), .val (.int (1 : Int32)), .val (.int (1 : Int32))] [(.int (1 : Int32))])) _
    refine XS.ifNo X6.here hx rfl (hb hby at_129) rfl ((if0 _ _).trans (feq hc129).1) ?_
    show Steps p.tables e below (T6.setTop (mkF m 132 #[.val (.int p1), .val (.int p2), .val (.int p3), .val (.int (nF p1)), .val (.int (kF p1 p2)), .val (.int (aF p1 p2 p3)), .val (.ref b4), .val (.int (fF (aF p1 p2 p3) (nF p1) (kF p1 p2))), .val (.long (((aF p1 p2 p3).toInt64) * ((nF p1).toInt64))), .second, .val (.long ((fF (aF p1 p2 p3) (nF p1) (kF p1 p2)).toInt64)), .second, .val (.int (1 : Int32)), .val (.int (1 : Int32)), .val (.int (1 : Int32))] [])) _
    refine XS.iload X6.here hx rfl (hb hby at_132) rfl ?_
    show Steps p.tables e below (T6.setTop (mkF m 134 #[.val (.int p1), .val (.int p2), .val (.int p3), .val (.int (nF p1)), .val (.int (kF p1 p2)), .val (.int (aF p1 p2 p3)), .val (.ref b4), .val (.int (fF (aF p1 p2 p3) (nF p1) (kF p1 p2))), .val (.long (((aF p1 p2 p3).toInt64) * ((nF p1).toInt64))), .second, .val (.long ((fF (aF p1 p2 p3) (nF p1) (kF p1 p2)).toInt64)), .second, .val (.int (1 : Int32)), .val (.int (1 : Int32)), .val (.int (1 : Int32))] [(.int (1 : Int32))])) _
    refine XS.ifNo X6.here hx rfl (hb hby at_134) rfl ((if0 _ _).trans (feq hc134).1) ?_
    show Steps p.tables e below (T6.setTop (mkF m 137 #[.val (.int p1), .val (.int p2), .val (.int p3), .val (.int (nF p1)), .val (.int (kF p1 p2)), .val (.int (aF p1 p2 p3)), .val (.ref b4), .val (.int (fF (aF p1 p2 p3) (nF p1) (kF p1 p2))), .val (.long (((aF p1 p2 p3).toInt64) * ((nF p1).toInt64))), .second, .val (.long ((fF (aF p1 p2 p3) (nF p1) (kF p1 p2)).toInt64)), .second, .val (.int (1 : Int32)), .val (.int (1 : Int32)), .val (.int (1 : Int32))] [])) _
    refine XS.iload X6.here hx rfl (hb hby at_137) rfl ?_
    show Steps p.tables e below (T6.setTop (mkF m 139 #[.val (.int p1), .val (.int p2), .val (.int p3), .val (.int (nF p1)), .val (.int (kF p1 p2)), .val (.int (aF p1 p2 p3)), .val (.ref b4), .val (.int (fF (aF p1 p2 p3) (nF p1) (kF p1 p2))), .val (.long (((aF p1 p2 p3).toInt64) * ((nF p1).toInt64))), .second, .val (.long ((fF (aF p1 p2 p3) (nF p1) (kF p1 p2)).toInt64)), .second, .val (.int (1 : Int32)), .val (.int (1 : Int32)), .val (.int (1 : Int32))] [(.int (1 : Int32))])) _
    refine XS.ifNo X6.here hx rfl (hb hby at_139) rfl ((if0 _ _).trans (feq hc139).1) ?_
    show Steps p.tables e below (T6.setTop (mkF m 142 #[.val (.int p1), .val (.int p2), .val (.int p3), .val (.int (nF p1)), .val (.int (kF p1 p2)), .val (.int (aF p1 p2 p3)), .val (.ref b4), .val (.int (fF (aF p1 p2 p3) (nF p1) (kF p1 p2))), .val (.long (((aF p1 p2 p3).toInt64) * ((nF p1).toInt64))), .second, .val (.long ((fF (aF p1 p2 p3) (nF p1) (kF p1 p2)).toInt64)), .second, .val (.int (1 : Int32)), .val (.int (1 : Int32)), .val (.int (1 : Int32))] [])) _
    refine XS.iconst X6.here hx rfl (hb hby at_142) ?_
    show Steps p.tables e below (T6.setTop (mkF m 143 #[.val (.int p1), .val (.int p2), .val (.int p3), .val (.int (nF p1)), .val (.int (kF p1 p2)), .val (.int (aF p1 p2 p3)), .val (.ref b4), .val (.int (fF (aF p1 p2 p3) (nF p1) (kF p1 p2))), .val (.long (((aF p1 p2 p3).toInt64) * ((nF p1).toInt64))), .second, .val (.long ((fF (aF p1 p2 p3) (nF p1) (kF p1 p2)).toInt64)), .second, .val (.int (1 : Int32)), .val (.int (1 : Int32)), .val (.int (1 : Int32))] [(.int (1 : Int32))])) _
    refine XS.goto X6.here hx rfl (pc0 := 143) (pc' := 147) rfl (hb hby at_143) (by decide) (by decide) ?_
    show Steps p.tables e below (T6.setTop (mkF m 147 #[.val (.int p1), .val (.int p2), .val (.int p3), .val (.int (nF p1)), .val (.int (kF p1 p2)), .val (.int (aF p1 p2 p3)), .val (.ref b4), .val (.int (fF (aF p1 p2 p3) (nF p1) (kF p1 p2))), .val (.long (((aF p1 p2 p3).toInt64) * ((nF p1).toInt64))), .second, .val (.long ((fF (aF p1 p2 p3) (nF p1) (kF p1 p2)).toInt64)), .second, .val (.int (1 : Int32)), .val (.int (1 : Int32)), .val (.int (1 : Int32))] [(.int (1 : Int32))])) _
    exact retN X6 hx (t := .boolean) Bd.returns (by simp) (hb hby at_147) hr
  · show Q0 Z p1 p2 p3 h0 n0 _ T6.heap _
    exact ⟨rfl, N6⟩
set_option maxRecDepth 65536 in
set_option maxHeartbeats 40000000 in
theorem comes_1 {Post : Tables → Env → Array Value → State → Outcome → State → Prop} (hpost : ∀ tb e args s v u, (limb_1_1.after args s (.returned v) u = true ∧ limb_1_2.after args s (.returned v) u = true ∧ True) → FrameEnd s (.returned v) u (Jvm.fieldLocs frame_1_writes args s ++ Jvm.arrayLocs frame_1_arrays args s ++ Jvm.staticLocs frame_1_statics s) 16 128 → Post tb e args s (.returned v) u) :
    ArmFor flags0 classFile x code maxLocals ret World_1 tables_1 room_1 Calls_1 rest_1 Pre_1 Post := by
  intro l hfl _ _ p e ha hc hk s m args below hf hA hF happ hP
  obtain ⟨hcalls, hrest, hpre⟩ := hP
  obtain ⟨-, -, -, hnamed, -, -, -, hat⟩ := (Spec.applies_iff hf).mp happ
  obtain ⟨hg, hn⟩ := and_e (Cond.before_iff.mp (show (Jvm.Cond.and given_1 narrow_1).before args s = true from hpre))
  obtain ⟨g7, g8⟩ := and_e hg
  obtain ⟨g9, g10⟩ := and_e g8
  obtain ⟨g11, g12⟩ := and_e g10
  obtain ⟨w0, w1, w2, rfl⟩ : ∃ w0 w1 w2 : Value, args = #[w0, w1, w2] := by
    have hs : args.size = 3 := by simpa [Cond.value, given_1] using g7
    obtain ⟨L⟩ := args
    match L, hs with
    | [w0, w1, w2], _ => exact ⟨w0, w1, w2, rfl⟩
  have hw := fun d (hd : d ∈ tables_1) => atoms_spec (ws := Jvm.Cond.code x code maxLocals ret :: tables_1) hat d (List.mem_cons_of_mem _ hd)
  have hfit : Fit s := fun {y c} hc i hi => by
    obtain ⟨ha, rfl⟩ := Array.getElem?_eq_some_iff.mp hc
    have q := List.all_eq_true.mp ((Array.all_eq_true_iff_forall_mem.mp hF) _ (Array.getElem_mem ha)) i (List.mem_range.mpr hi)
    simpa [Array.getElem?_eq_getElem hi] using q
  obtain ⟨i0, ei0⟩ := is_v g9
  obtain rfl : w0 = (.int i0) := Option.some.inj ei0
  obtain ⟨i1, ei1⟩ := is_v g11
  obtain rfl : w1 = (.int i1) := Option.some.inj ei1
  obtain ⟨i2, ei2⟩ := is_v g12
  obtain rfl : w2 = (.int i2) := Option.some.inj ei2
  obtain ⟨n, o, h1, h2, h3, _, L, rfl, ⟨rfl, N⟩, hq⟩ := rm0 l s _ hw tables_1 i0 i1 i2 s.heap s.heap.size (Nat.le_refl _)  p e ha hc hk s m _ below hf ((Spec.applies_iff_loose hf).mp happ).1 ⟨rfl, State.Warmed39.refl s, rfl⟩ trivial
  refine ⟨n, _, h1, h2, h3, hpost _ _ _ _ _ _ ⟨Cond.after_iff.mpr rfl, Cond.after_iff.mpr (eq_i res_at (Term.int_eval (1)) rfl), trivial⟩ ⟨hq.1, hq.2.1, (hq.2.2.sift fun y hy => Or.inr (N y hy)).mono (by decide) (by decide)⟩⟩
theorem main_1_1 : Claimed_1_1 := comes_1 fun _ _ _ _ _ _ h hF => ⟨h.1, hF⟩
theorem main_1_2 : Claimed_1_2 := comes_1 fun _ _ _ _ _ _ h hF => ⟨h.2.1, hF⟩
end Jvm.Pilot.@@N@@
namespace Jvm.Pilot.@@N@@
open Jvm Jvm.ClassFile Sem Op Lib Jvm.Free Jvm.Stand Jvm.Pilot.@@N@@.Jvm.D
/-! MADE BY PROGRAM (witnessworld.py) out of the Statement's table words and the real class files: 9 classes; the members and pool entries that the words name. The judged class is class 1, her method 1. -/
namespace start1
open Jvm.ClassFile
def u (s : String) : CpInfo := .utf8 (stringToUtf16 s)
/-- a pool by its gaps: so many unusable entries, then the entry; so many at the end -/
def gap : Nat → List CpInfo → List CpInfo
  | 0, r => r
  | n + 1, r => .unusable :: gap n r
def poolList (es : List (Nat × CpInfo)) (last : Nat) : List CpInfo := es.foldr (fun e r => gap e.1 (e.2 :: r)) (gap last [])
def pool (es : List (Nat × CpInfo)) (last : Nat) : Array CpInfo := ⟨poolList es last⟩
def fileOf (pool : Array CpInfo) (this : Nat) (attrs : Array Attribute := #[]) (ms : Array MethodInfo := #[]) (fl : Nat := 33) (sup : Nat := 0) (ifs : Array Nat := #[]) (fds : Array FieldInfo := #[]) : ClassFile where
  minorVersion := 0
  majorVersion := 65
  constantPool := pool
  accessFlags := fl
  thisClass := this
  superClass := sup
  interfaces := ifs
  fields := fds
  methods := ms
  attributes := attrs
def plain (name : String) (sup : Option ClassId) : Class where
  name := name
  kind := .ordinary
  loader := none
  accessFlags := 33
  super := sup
  interfaces := #[]
  cf := none
  fields := #[]
  methods := #[]
  instanceTypes := #[]
  staticTypes := #[]
  resolved := #[]
  callSites := []
  init := .initialized
  statics := none
  mirror := none

def pool0 : Array CpInfo := pool [(5, u "<init>"), (0, u "()V"), (1, .class_ 10), (1, u "java/lang/Object")] 113

def k0c0 : Code := { maxStack := 0, maxLocals := 1, code := object_method_1_code, exceptionTable := #[], attributes := #[] }
def k0m0 : Method := { name := "<init>", desc := "()V", sig := { parameters := [], returnType := none }, accessFlags := 1, code := some k0c0 }
/-- java/lang/Object -/
def k0 : Class := { plain "java/lang/Object" none with
  accessFlags := 33
  interfaces := #[]
  cf := some (fileOf pool0 8 #[] #[{ accessFlags := 1, nameIndex := 5, descriptorIndex := 6, attributes := #[] }] 33 0 #[] #[])
  fields := #[]
  methods := #[k0m0]
  instanceTypes := #[]
  staticTypes := #[]
  resolved := Array.replicate 124 none
  statics := none }

def pool1 : Array CpInfo := pool [(2, .class_ 4), (1, u "java/lang/Object"), (0, u "<init>"), (0, u "()V"), (0, .integer 2147483647), (2, .long 4294967295), (1, .class_ 13), (0, u "com/example/convene/convene/problem/Split"), (0, .methodref 12 15), (0, .nameAndType 5 16), (0, u "(II)V"), (0, .methodref 12 18), (0, .nameAndType 19 20), (0, u "firstVariable"), (0, u "(I)I"), (0, .class_ 22), (0, u "com/example/convene/convene/problem/SplitFirstVariablePinLaw"), (2, u "law"), (0, u "(III)Z")] 3

def k1m0 : Method := { name := "<init>", desc := "()V", sig := { parameters := [], returnType := none }, accessFlags := 1, code := none }
def k1c1 : Code := { maxStack := 6, maxLocals := 15, code := code, exceptionTable := #[], attributes := #[] }
def k1m1 : Method := { name := "law", desc := "(III)Z", sig := { parameters := [.int, .int, .int], returnType := some .boolean }, accessFlags := 9, code := some k1c1 }
/-- com/example/convene/convene/problem/SplitFirstVariablePinLaw -/
def k1 : Class := { plain "com/example/convene/convene/problem/SplitFirstVariablePinLaw" (some 0) with
  accessFlags := 49
  interfaces := #[]
  cf := some (fileOf pool1 21 #[] #[{ accessFlags := 1, nameIndex := 5, descriptorIndex := 6, attributes := #[] }, { accessFlags := 9, nameIndex := 25, descriptorIndex := 26, attributes := #[] }] 49 2 #[] #[])
  fields := #[]
  methods := #[k1m0, k1m1]
  instanceTypes := #[]
  staticTypes := #[]
  resolved := Array.replicate 30 none
  statics := none }

def pool2 : Array CpInfo := pool [(1, .methodref 2 3), (0, .class_ 4), (0, .nameAndType 5 6), (0, u "java/lang/Object"), (0, u "<init>"), (0, u "()V"), (9, .fieldref 17 18), (0, .class_ 19), (0, .nameAndType 20 21), (0, u "com/example/convene/convene/problem/Split"), (0, u "variableCount"), (0, u "I"), (0, .fieldref 17 23), (0, .nameAndType 24 21), (0, u "agentCount"), (3, u "(I)I"), (25, u "(II)V"), (3, u "firstVariable")] 25

def k2c0 : Code := { maxStack := 4, maxLocals := 4, code := prog_59_method_1_code, exceptionTable := #[], attributes := #[] }
def k2m0 : Method := { name := "<init>", desc := "(II)V", sig := { parameters := [.int, .int], returnType := none }, accessFlags := 1, code := some k2c0 }
def k2c1 : Code := { maxStack := 4, maxLocals := 2, code := prog_59_method_4_code, exceptionTable := #[], attributes := #[] }
def k2m1 : Method := { name := "firstVariable", desc := "(I)I", sig := { parameters := [.int], returnType := some .int }, accessFlags := 1, code := some k2c1 }
/-- com/example/convene/convene/problem/Split -/
def k2 : Class := { plain "com/example/convene/convene/problem/Split" (some 0) with
  accessFlags := 49
  interfaces := #[]
  cf := some (fileOf pool2 17 #[] #[{ accessFlags := 1, nameIndex := 5, descriptorIndex := 54, attributes := #[] }, { accessFlags := 1, nameIndex := 58, descriptorIndex := 28, attributes := #[] }] 49 2 #[] #[{ accessFlags := 18, nameIndex := 20, descriptorIndex := 21, attributes := #[] }, { accessFlags := 18, nameIndex := 24, descriptorIndex := 21, attributes := #[] }])
  fields := #[{ name := "variableCount", type := .int, accessFlags := 18, slot := 0, constantValue := 0 }, { name := "agentCount", type := .int, accessFlags := 18, slot := 1, constantValue := 0 }]
  methods := #[k2m0, k2m1]
  instanceTypes := #[.int, .int]
  staticTypes := #[]
  resolved := Array.replicate 84 none
  statics := none }

def pool3 : Array CpInfo := pool [(1, u "java/lang/Cloneable"), (0, .class_ 1), (0, u "java/lang/Object"), (0, .class_ 3)] 3

/-- java/lang/Cloneable -/
def k3 : Class := { plain "java/lang/Cloneable" (some 0) with
  accessFlags := 1537
  interfaces := #[]
  cf := some (fileOf pool3 2 #[] #[] 1537 4 #[] #[])
  fields := #[]
  methods := #[]
  instanceTypes := #[]
  staticTypes := #[]
  resolved := Array.replicate 8 none
  statics := none }

def pool4 : Array CpInfo := pool [(1, u "java/io/Serializable"), (0, .class_ 1), (0, u "java/lang/Object"), (0, .class_ 3)] 3

/-- java/io/Serializable -/
def k4 : Class := { plain "java/io/Serializable" (some 0) with
  accessFlags := 1537
  interfaces := #[]
  cf := some (fileOf pool4 2 #[] #[] 1537 4 #[] #[])
  fields := #[]
  methods := #[]
  instanceTypes := #[]
  staticTypes := #[]
  resolved := Array.replicate 8 none
  statics := none }

/-- the primitive byte -/
def k5 : Class := { plain "byte" none with kind := .primitive 'B', accessFlags := 0x411 }
/-- [B -/
def k6 : Class := { plain "[B" (some 0) with kind := .array 5 .byte, interfaces := #[3, 4], accessFlags := 1041 }

/-- the primitive int -/
def k7 : Class := { plain "int" none with kind := .primitive 'I', accessFlags := 0x411 }
/-- [I -/
def k8 : Class := { plain "[I" (some 0) with kind := .array 7 .int, interfaces := #[3, 4], accessFlags := 1041 }

def heap : Heap := #[]
def classes : Array Class := #[k0, k1, k2, k3, k4, k5, k6, k7, k8]
def interned : List (Array UInt16 × Addr) := []
def slotsUsed : Nat := 0
def theMethod : MethodId := ⟨1, 1⟩
def args0 : Array Value := #[.int 5, .int 7, .int 1]
def aboutOver (below : List Frame) : State where
  vm := { classes := classes, interned := interned.toArray }
  heap := heap
  slotsUsed := slotsUsed
  threads := #[{ frames := .invoking theMethod args0 :: below }]
def below0 : List Frame := [.native { method := ⟨0, 0⟩, args := #[] }]
def about1 : State := aboutOver below0
def p0 : Program := .bare "" "" ""
def e0 : Env := launch0.env 0 0 0
theorem w_frames : about1.frames = Frame.invoking theMethod args0 :: below0 := rfl
set_option maxRecDepth 65536 in
theorem w_args : argsFit about1.vm theMethod args0 = true := by decide +kernel
set_option maxRecDepth 65536 in
theorem w_heap : heapFits about1 = true := by decide +kernel
set_option maxRecDepth 65536 in
theorem w_runnable : about1.curStatus? = some .runnable := by decide +kernel
set_option maxRecDepth 65536 in
theorem w_alone : about1.alone = true := by decide +kernel
set_option maxRecDepth 65536 in
theorem w_named : about1.methodNamed? x = some theMethod := by decide +kernel
set_option maxRecDepth 65536 in
theorem w_hears : about1.hears theMethod below0 = true := by decide +kernel
set_option maxRecDepth 65536 in
theorem w_ripe : about1.ripe theMethod args0 below0 = true := by decide +kernel
theorem w_running : about1.status = .running := rfl
set_option maxRecDepth 65536 in
theorem w_room : about1.hasRoom e0.platform room_1 = true :=
  launch0.hasRoom_least _ room_1 (by decide +kernel) (by decide +kernel) (by decide +kernel) (by decide +kernel) (by decide +kernel) (by decide +kernel)
theorem allAtoms_all (ts : List Jvm.Cond) (a : Array Jvm.Value) (st : Jvm.State) : (allAtoms ts).before a st = ts.all (fun c => c.before a st) := by
  induction ts with
  | nil => rfl
  | cons c t ih =>
    show (Jvm.Cond.and c (allAtoms t)).before a st = _
    rw [Jvm.Cond.before_and, ih, List.all_cons]
def words1 : List Jvm.Cond := Jvm.Cond.code x code maxLocals ret :: tables_1
/-- a 'code' word, met by the world's own term for the bytes: nothing is compared byte by byte -/
theorem code_word {y : MethodName} {bytes : ByteArray} {mx : Nat} {rt : Option FieldType} {a : Array Value} {s : State} {m : MethodId} {meth : Method} {c : Code} (h1 : s.methodNamed? y = some m) (h2 : s.vm.method? m = some meth) (h3 : meth.code = some c) (h4 : c.code = bytes)
    (h5 : (c.maxLocals == mx && c.exceptionTable.isEmpty && decide (c.maxStack ≤ mostOperands) && decide (meth.sig.returnType = rt) && !meth.locks && decide (parseMethodDescriptor y.desc = some meth.sig)) = true) : (Jvm.Cond.code y bytes mx rt).before a s = true := by
  simp only [Bool.and_eq_true, beq_iff_eq, Bool.not_eq_true', decide_eq_true_eq] at h5
  obtain ⟨⟨⟨⟨⟨g1, g2⟩, g3⟩, g4⟩, g5⟩, g6⟩ := h5
  simp [Cond.before, Cond.holds, Cond.value, h1, h2, h3, h4, g1, g2, g3, g4, g5, g6]
def isCode : Jvm.Cond → Bool
  | .code _ _ _ _ => true
  | _ => false
theorem all_split {L : List Jvm.Cond} {P : Jvm.Cond → Bool} (h1 : L.all (fun c => isCode c || P c) = true) (h2 : ∀ c ∈ L.filter isCode, P c = true) : L.all P = true := by
  refine List.all_eq_true.mpr fun c hc => ?_
  have h := List.all_eq_true.mp h1 c hc
  rcases Bool.eq_false_or_eq_true (isCode c) with hi | hi
  · exact h2 c (List.mem_filter.mpr ⟨hc, hi⟩)
  · simpa [hi] using h
set_option maxRecDepth 65536 in
theorem w_c0 : (Jvm.Cond.code x code maxLocals ret).before args0 about1 = true := code_word (m := ⟨1, 1⟩) (meth := k1m1) (c := k1c1) (by decide +kernel) rfl rfl rfl (by decide +kernel)
set_option maxRecDepth 65536 in
theorem w_c1 : (Jvm.Cond.code ({ cls := "com/example/convene/convene/problem/Split", name := "<init>", desc := "(II)V" } : Jvm.MethodName) prog_59_method_1_code (4 : Nat) (Option.none : Option Jvm.ClassFile.FieldType)).before args0 about1 = true := code_word (m := ⟨2, 0⟩) (meth := k2m0) (c := k2c0) (by decide +kernel) rfl rfl rfl (by decide +kernel)
set_option maxRecDepth 65536 in
theorem w_c2 : (Jvm.Cond.code ({ cls := "java/lang/Object", name := "<init>", desc := "()V" } : Jvm.MethodName) object_method_1_code (1 : Nat) (Option.none : Option Jvm.ClassFile.FieldType)).before args0 about1 = true := code_word (m := ⟨0, 0⟩) (meth := k0m0) (c := k0c0) (by decide +kernel) rfl rfl rfl (by decide +kernel)
set_option maxRecDepth 65536 in
theorem w_c3 : (Jvm.Cond.code ({ cls := "com/example/convene/convene/problem/Split", name := "firstVariable", desc := "(I)I" } : Jvm.MethodName) prog_59_method_4_code (2 : Nat) (Option.some Jvm.ClassFile.FieldType.int)).before args0 about1 = true := code_word (m := ⟨2, 1⟩) (meth := k2m1) (c := k2c1) (by decide +kernel) rfl rfl rfl (by decide +kernel)
def codes1 : List Jvm.Cond := [Jvm.Cond.code x code maxLocals ret, Jvm.Cond.code ({ cls := "com/example/convene/convene/problem/Split", name := "<init>", desc := "(II)V" } : Jvm.MethodName) prog_59_method_1_code (4 : Nat) (Option.none : Option Jvm.ClassFile.FieldType), Jvm.Cond.code ({ cls := "java/lang/Object", name := "<init>", desc := "()V" } : Jvm.MethodName) object_method_1_code (1 : Nat) (Option.none : Option Jvm.ClassFile.FieldType), Jvm.Cond.code ({ cls := "com/example/convene/convene/problem/Split", name := "firstVariable", desc := "(I)I" } : Jvm.MethodName) prog_59_method_4_code (2 : Nat) (Option.some Jvm.ClassFile.FieldType.int)]
set_option maxRecDepth 65536 in
theorem codes_eq : words1.filter isCode = codes1 := rfl
theorem w_codes : ∀ c ∈ words1.filter isCode, c.before args0 about1 = true := by
  rw [codes_eq]
  intro c hc
  simp only [codes1, List.mem_cons, List.not_mem_nil, or_false] at hc
  rcases hc with rfl | rfl | rfl | rfl
  · exact w_c0
  · exact w_c1
  · exact w_c2
  · exact w_c3
set_option maxRecDepth 65536 in
theorem w_t1 : words1.all (fun c => isCode c || c.before args0 about1) = true := by decide +kernel
theorem w_tables : (allAtoms (Jvm.Cond.code x code maxLocals ret :: tables_1)).before args0 about1 = true := by
  rw [allAtoms_all]
  show words1.all (fun c => c.before args0 about1) = true
  refine all_split ?_ w_codes
  rw [w_t1]
set_option maxRecDepth 65536 in
theorem w_case : (Jvm.Cond.and given_1 narrow_1).before args0 about1 = true := by decide +kernel
theorem w_applies : (headSpec (Jvm.Cond.code x code maxLocals ret :: tables_1) room_1).applies x e0.platform about1 = true :=
  (Spec.applies_iff w_frames).mpr ⟨w_running, w_runnable, w_alone, w_named, w_hears, w_ripe, w_room, w_tables⟩
theorem atStart : AtStart classFile x code maxLocals ret World_1 tables_1 room_1 Calls_1 rest_1 Pre_1 launch0 p0 e0 about1 theMethod args0 below0 :=
  ⟨lists_1, trivial, launch0.admits_env _ _ _, launch0.least_env, fairChoices_fair.cas, fairChoices_fair.clock, w_frames, w_args, w_heap, w_applies, trivial, trivial, w_case⟩
end start1
theorem witness_1 : WitnessClaimed_1 := ⟨start1.p0, start1.e0, start1.about1, start1.theMethod, start1.args0, start1.below0, start1.atStart⟩
end Jvm.Pilot.@@N@@
