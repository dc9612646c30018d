import JvmDerived
import JvmDerived.Pilot.@@N@@Statement
import JvmDerived.Pilot.@@N@@Code
set_option linter.unusedVariables false
set_option linter.unusedSimpArgs false
namespace Jvm.RoadKit
open Sem ClassFile Op Lib Jvm.Stand Jvm.Free Jvm.LawKit
section New
variable {p : Program} {l : Launch} {e : Env} {R : Room} {s : State} {m : MethodId} {args : Array Value} {below : List Frame} {meth : Method} {c : Code} {T : State} {locs : List Loc} {cells slots : Nat}
theorem retI (X : Stand p l e R s m args below meth c T locs cells slots) (hx : p.tables.exec = Jvm.exec) {pc : Nat} {Ls : Array Slot} {z : Int32} {rest : List Value} (hret : meth.sig.returnType = some .int) (hd : decode c.code pc = .ok (.ireturn, 1)) {fs : List Frame}
    (hl : ∀ (f : JFrame) (acts : List Action), f.method = m → f.locked = none → f.entered = [] → (doReturn e (T.setTop f) acts (some (.int z))).1 = T.setFrames fs) : Steps p.tables e below (T.setTop (mkF m pc Ls (.int z :: rest))) (T.setFrames fs) := by
  have hm' : T.vm.method? m = some meth := X.method'
  have hn : narrow .int (.int z) = .int z := rfl
  show Steps p.tables e below (T.setTop { method := m, pc := pc, locals := Ls, stack := _ :: rest, locked := none }) _
  jvm_step X.here [X.here.top, hx, hd, hm', hret, hn]
  first | (intro acts; rw [hl _ acts rfl rfl rfl]) | rw [hl _ _ rfl rfl rfl]
  exact Steps.refl _
end New
end Jvm.RoadKit
namespace Jvm.Pilot.@@N@@
open Jvm Jvm.ClassFile Sem Op Lib Jvm.Free Jvm.Stand Jvm.LawKit Jvm.RoadKit Bundle Jvm.Pilot.@@N@@.Jvm.D
abbrev remI (x y : Int32) : Int32 := x - (x / y) * y
abbrev remL (x y : Int64) : Int64 := x - (x / y) * y
def AC (Z : State) (h : Heap) (a t : Addr) (k : ClassId) (z : Int32) (vs : List Value) (n : Int32) : Prop := Exa Z h a "bitcove/ArrayContainer" ∧ Fld Z h a "bitcove/ArrayContainer" "values" "[C" (.ref t) ∧ Fld Z h a "bitcove/ArrayContainer" "cardinality" "I" (.int n) ∧ Arv Z h t k .char z vs (.int (0 : Int32)) ∧ a ≠ t
def NF (p : Int32) : Int32 := (remI (p &&& (2147483647 : Int32)) (6 : Int32))
def G0 (q : Int64) : Int32 := ((q &&& (4095 : Int64)).toInt32)
def G1 (q : Int64) : Int32 := (((((q).toUInt64 >>> ((12 : Int32) &&& 0x3f).toInt64.toUInt64).toInt64) &&& (4095 : Int64)).toInt32)
def G2 (q : Int64) : Int32 := (((((q).toUInt64 >>> ((24 : Int32) &&& 0x3f).toInt64.toUInt64).toInt64) &&& (4095 : Int64)).toInt32)
def G3 (q : Int64) : Int32 := (((((q).toUInt64 >>> ((36 : Int32) &&& 0x3f).toInt64.toUInt64).toInt64) &&& (4095 : Int64)).toInt32)
def E0 (p : Int32) (q : Int64) : Int32 := if 0 < NF p - 1 then G0 q else 0
def E1 (p : Int32) (q : Int64) : Int32 := if 1 < NF p - 1 then G1 q else 0
def E2 (p : Int32) (q : Int64) : Int32 := if 2 < NF p - 1 then G2 q else 0
def E3 (p : Int32) (q : Int64) : Int32 := if 3 < NF p - 1 then G3 q else 0
def O1 (p : Int32) (q : Int64) : Int32 := (1 : Int32) + E0 p q
def O2 (p : Int32) (q : Int64) : Int32 := (O1 p q + (1 : Int32)) + E1 p q
def O3 (p : Int32) (q : Int64) : Int32 := (O2 p q + (1 : Int32)) + E2 p q
def O4 (p : Int32) (q : Int64) : Int32 := (O3 p q + (1 : Int32)) + E3 p q
def TF (p : Int32) (q : Int64) : Int32 := if 1 < NF p then (if NF p = 2 then O1 p q else if NF p = 3 then O2 p q else if NF p = 4 then O3 p q else O4 p q) else 0
def VF (p r : Int32) (q : Int64) : Int32 := (remI (r &&& (2147483647 : Int32)) ((65536 : Int32) - TF p q))
def DF (e : Int32) : Int32 := if e = 0 then 0 else 1
def XF (p : Int32) (q : Int64) : Int32 := if NF p = 0 then 0 else ((((1 : Int32) + DF (E0 p q)) + DF (E1 p q)) + DF (E2 p q)) + DF (E3 p q)
def CF (x : Int32) : Int32 := (x.toUInt32.toUInt16.toUInt32.toInt32)
def YF (x : Int32) : Int32 := nar .char (CF x)
def runs (x : Nat → Int32) : Nat → Nat → Int32 → Int32
  | 0, _, r => r
  | k + 1, i, r => runs x k (i + 1) (if x i = x (i - 1) + 1 then r + (-1 : Int32) else r)
theorem own_ofNat (i : Nat) (h : i < 2147483648) : (Int32.ofNat i).toInt = i := Int32.toInt_ofNat_of_lt h
theorem own_clamp (i : Nat) (h : i < 2147483648) : (Int32.ofNat i).toNatClampNeg = i := by simp only [Int32.toNatClampNeg, own_ofNat i h]; rfl
theorem own_succ (i : Nat) (h : i < 2147483647) : Int32.ofNat i + (1 : Int32) = Int32.ofNat (i + 1) := by
  rw [← Int32.toInt_inj]
  have h1 := c_iadd (Int32.ofNat i) 1
  have h2 := rng32 (Int32.ofNat i + 1)
  rw [own_ofNat i (by omega), show (1 : Int32).toInt = 1 by decide] at h1
  rw [own_ofNat (i + 1) (by omega)]; omega
theorem own_pred (i : Nat) (h : i < 2147483647) : Int32.ofNat (i + 1) - (1 : Int32) = Int32.ofNat i := by
  rw [← Int32.toInt_inj]
  have h1 := c_isub (Int32.ofNat (i + 1)) 1
  have h2 := rng32 (Int32.ofNat (i + 1) - 1)
  rw [own_ofNat (i + 1) (by omega), show (1 : Int32).toInt = 1 by decide] at h1
  rw [own_ofNat i (by omega)]; omega
theorem own_lt (i n : Nat) (hi : i < 2147483648) (hn : n < 2147483648) : Int32.ofNat i < Int32.ofNat n ↔ i < n := by
  rw [Int32.lt_iff_toInt_lt, own_ofNat i hi, own_ofNat n hn]; omega
theorem own_M (p : Int32) : 0 ≤ (p &&& (2147483647 : Int32)).toInt := by
  have := c_mask p 2147483647 31 (by decide) (by decide); rw [this]; omega
theorem own_remI (x y : Int32) (hx : 0 ≤ x.toInt) (hy : 0 < y.toInt) : 0 ≤ (remI x y).toInt ∧ (remI x y).toInt < y.toInt := by
  rw [show remI x y = x % y from irem_eq_mod x y]; have := (c_iremV x y).1 hx hy; omega
theorem own_N (p : Int32) : NF p = 0 ∨ NF p = 1 ∨ NF p = 2 ∨ NF p = 3 ∨ NF p = 4 ∨ NF p = 5 := by
  have h1 := own_remI (p &&& (2147483647 : Int32)) 6 (own_M p) (by decide)
  change 0 ≤ (NF p).toInt ∧ (NF p).toInt < _ at h1
  rw [show (6 : Int32).toInt = 6 by decide] at h1
  simp only [← Int32.toInt_inj, show (0 : Int32).toInt = 0 by decide, show (1 : Int32).toInt = 1 by decide, show (2 : Int32).toInt = 2 by decide, show (3 : Int32).toInt = 3 by decide, show (4 : Int32).toInt = 4 by decide, show (5 : Int32).toInt = 5 by decide]
  omega
theorem own_mask12 (q : Int64) : 0 ≤ ((q &&& (4095 : Int64)).toInt32).toInt ∧ ((q &&& (4095 : Int64)).toInt32).toInt ≤ 4095 := by
  have h1 := c_maskL q 4095 12 (by decide) (by decide)
  have h2 := c_l2i (q &&& (4095 : Int64))
  have h3 := rng32 ((q &&& (4095 : Int64)).toInt32)
  rw [h1] at h2; omega
theorem own_G (q : Int64) : (0 ≤ (G0 q).toInt ∧ (G0 q).toInt ≤ 4095) ∧ (0 ≤ (G1 q).toInt ∧ (G1 q).toInt ≤ 4095) ∧ (0 ≤ (G2 q).toInt ∧ (G2 q).toInt ≤ 4095) ∧ (0 ≤ (G3 q).toInt ∧ (G3 q).toInt ≤ 4095) :=
  ⟨own_mask12 _, own_mask12 _, own_mask12 _, own_mask12 _⟩
theorem own_if {c : Prop} [Decidable c] {x : Int32} (h : 0 ≤ x.toInt ∧ x.toInt ≤ 4095) : 0 ≤ (if c then x else (0 : Int32)).toInt ∧ (if c then x else (0 : Int32)).toInt ≤ 4095 := by
  split
  · exact h
  · decide
theorem own_E (p : Int32) (q : Int64) : (0 ≤ (E0 p q).toInt ∧ (E0 p q).toInt ≤ 4095) ∧ (0 ≤ (E1 p q).toInt ∧ (E1 p q).toInt ≤ 4095) ∧ (0 ≤ (E2 p q).toInt ∧ (E2 p q).toInt ≤ 4095) ∧ (0 ≤ (E3 p q).toInt ∧ (E3 p q).toInt ≤ 4095) :=
  ⟨own_if (own_G q).1, own_if (own_G q).2.1, own_if (own_G q).2.2.1, own_if (own_G q).2.2.2⟩
theorem own_plus (o e : Int32) (ho : 0 ≤ o.toInt ∧ o.toInt ≤ 100000) (he : 0 ≤ e.toInt ∧ e.toInt ≤ 4095) : ((o + (1 : Int32)) + e).toInt = o.toInt + 1 + e.toInt := by
  have h1 := c_iadd o 1
  have h2 := c_iadd (o + 1) e
  have r1 := rng32 (o + 1)
  have r2 := rng32 (o + 1 + e)
  rw [show (1 : Int32).toInt = 1 by decide] at h1; omega
theorem own_O (p : Int32) (q : Int64) : (O1 p q).toInt = 1 + (E0 p q).toInt ∧ (O2 p q).toInt = (O1 p q).toInt + 1 + (E1 p q).toInt ∧ (O3 p q).toInt = (O2 p q).toInt + 1 + (E2 p q).toInt ∧ (O4 p q).toInt = (O3 p q).toInt + 1 + (E3 p q).toInt := by
  have hE := own_E p q
  have h1 : (O1 p q).toInt = 1 + (E0 p q).toInt := by
    have h1 := c_iadd 1 (E0 p q)
    have r1 := rng32 (O1 p q)
    change ((O1 p q).toInt - _) % _ = 0 at h1
    rw [show (1 : Int32).toInt = 1 by decide] at h1; omega
  have h2 : (O2 p q).toInt = (O1 p q).toInt + 1 + (E1 p q).toInt := own_plus _ _ (by omega) hE.2.1
  have h3 : (O3 p q).toInt = (O2 p q).toInt + 1 + (E2 p q).toInt := own_plus _ _ (by omega) hE.2.2.1
  have h4 : (O4 p q).toInt = (O3 p q).toInt + 1 + (E3 p q).toInt := own_plus _ _ (by omega) hE.2.2.2
  exact ⟨h1, h2, h3, h4⟩
theorem own_V (p r : Int32) (q : Int64) (hT : 0 ≤ (TF p q).toInt ∧ (TF p q).toInt ≤ 20000) : 0 ≤ (VF p r q).toInt ∧ (VF p r q).toInt + (TF p q).toInt ≤ 65535 := by
  have h1 := c_isub (65536 : Int32) (TF p q)
  have r1 := rng32 ((65536 : Int32) - TF p q)
  rw [show (65536 : Int32).toInt = 65536 by decide] at h1
  have h2 := own_remI (r &&& (2147483647 : Int32)) ((65536 : Int32) - TF p q) (own_M r) (by omega)
  change 0 ≤ (VF p r q).toInt ∧ (VF p r q).toInt < _ at h2
  omega
theorem own_T (p : Int32) (q : Int64) : 0 ≤ (TF p q).toInt ∧ (TF p q).toInt ≤ 20000 := by
  have hE := own_E p q
  have hO := own_O p q
  rw [TF]
  split
  · split
    · omega
    · split
      · omega
      · split <;> omega
  · decide
theorem own_Tz (p : Int32) (q : Int64) : ¬ ((65536 : Int32) - TF p q = (0 : Int32)) := fun z => by
  have h1 := c_isub (65536 : Int32) (TF p q)
  rw [z, show (65536 : Int32).toInt = 65536 by decide, show (0 : Int32).toInt = 0 by decide] at h1
  have := own_T p q; omega
theorem own_Y (x : Int32) (h : 0 ≤ x.toInt ∧ x.toInt ≤ 65535) : (YF x).toInt = x.toInt := by
  have h1 := c_i2c x
  have h2 := c_i2c (CF x)
  change ((CF x).toInt - _) % _ = 0 ∧ 0 ≤ (CF x).toInt ∧ (CF x).toInt < _ at h1
  change ((YF x).toInt - _) % _ = 0 ∧ 0 ≤ (YF x).toInt ∧ (YF x).toInt < _ at h2
  omega
theorem own_YO (v o : Int32) (hv : 0 ≤ v.toInt) (ho : 0 ≤ o.toInt) (h : v.toInt + o.toInt ≤ 65535) : (YF (v + o)).toInt = v.toInt + o.toInt := by
  have h1 := c_iadd v o
  have r1 := rng32 (v + o)
  have e1 : (v + o).toInt = v.toInt + o.toInt := by omega
  rw [own_Y _ (by omega), e1]
theorem own_gap (y y' e : Int32) (hy : 0 ≤ y.toInt ∧ y.toInt ≤ 65535) (h : y'.toInt = y.toInt + 1 + e.toInt) : (y' = y + 1) ↔ e = 0 := by
  have h1 := c_iadd y 1
  have r1 := rng32 (y + 1)
  rw [show (1 : Int32).toInt = 1 by decide] at h1
  rw [← Int32.toInt_inj, ← Int32.toInt_inj, show (0 : Int32).toInt = 0 by decide]; omega
def xs0 (p r : Int32) (q : Int64) : Nat → Int32 := (fun i => [(0 : Int32), (0 : Int32), (0 : Int32), (0 : Int32), (0 : Int32)].getD i (0 : Int32))
theorem own_case0 (p r : Int32) (q : Int64) (hn : NF p = 0) : runs (xs0 p r q) 0 1 (0 : Int32) = XF p q := by
  rw [XF, if_pos hn]; rfl
def xs1 (p r : Int32) (q : Int64) : Nat → Int32 := (fun i => [(YF (VF p r q)), (0 : Int32), (0 : Int32), (0 : Int32), (0 : Int32)].getD i (0 : Int32))
theorem own_case1 (p r : Int32) (q : Int64) (hn : NF p = 1) : runs (xs1 p r q) 0 1 (1 : Int32) = XF p q := by
  have hE := own_E p q
  have hO := own_O p q
  have hT : TF p q = (0 : Int32) := by simp [TF, hn]
  have hV := own_V p r q (own_T p q)
  rw [hT] at hV
  rw [show (0 : Int32).toInt = 0 by decide] at hV
  have z0 : E0 p q = 0 := by simp [E0, hn]
  have z1 : E1 p q = 0 := by simp [E1, hn]
  have z2 : E2 p q = 0 := by simp [E2, hn]
  have z3 : E3 p q = 0 := by simp [E3, hn]
  have y0 := own_Y (VF p r q) (by omega)
  rw [XF, if_neg (by rw [hn]; decide)]
  simp only [z0, z1, z2, z3, runs, xs1]
  decide
def xs2 (p r : Int32) (q : Int64) : Nat → Int32 := (fun i => [(YF (VF p r q)), (YF (VF p r q + O1 p q)), (0 : Int32), (0 : Int32), (0 : Int32)].getD i (0 : Int32))
theorem own_case2 (p r : Int32) (q : Int64) (hn : NF p = 2) : runs (xs2 p r q) 1 1 (2 : Int32) = XF p q := by
  have hE := own_E p q
  have hO := own_O p q
  have hT : TF p q = O1 p q := by simp [TF, hn]
  have hV := own_V p r q (own_T p q)
  rw [hT] at hV
  have z1 : E1 p q = 0 := by simp [E1, hn]
  have z2 : E2 p q = 0 := by simp [E2, hn]
  have z3 : E3 p q = 0 := by simp [E3, hn]
  have y0 := own_Y (VF p r q) (by omega)
  have y1 := own_YO (VF p r q) (O1 p q) hV.1 (by omega) (by omega)
  have s0 := own_gap (YF (VF p r q)) (YF (VF p r q + O1 p q)) (E0 p q) (by omega) (by omega)
  rw [XF, if_neg (by rw [hn]; decide)]
  simp only [z1, z2, z3, runs, xs2]
  simp only [List.getD_cons_zero, List.getD_cons_succ, Nat.reduceAdd, Nat.reduceSub, s0, DF]
  by_cases c0 : E0 p q = 0 <;> simp only [c0, eq_self, if_true, if_false] <;> decide
def xs3 (p r : Int32) (q : Int64) : Nat → Int32 := (fun i => [(YF (VF p r q)), (YF (VF p r q + O1 p q)), (YF (VF p r q + O2 p q)), (0 : Int32), (0 : Int32)].getD i (0 : Int32))
theorem own_case3 (p r : Int32) (q : Int64) (hn : NF p = 3) : runs (xs3 p r q) 2 1 (3 : Int32) = XF p q := by
  have hE := own_E p q
  have hO := own_O p q
  have hT : TF p q = O2 p q := by simp [TF, hn]
  have hV := own_V p r q (own_T p q)
  rw [hT] at hV
  have z2 : E2 p q = 0 := by simp [E2, hn]
  have z3 : E3 p q = 0 := by simp [E3, hn]
  have y0 := own_Y (VF p r q) (by omega)
  have y1 := own_YO (VF p r q) (O1 p q) hV.1 (by omega) (by omega)
  have y2 := own_YO (VF p r q) (O2 p q) hV.1 (by omega) (by omega)
  have s0 := own_gap (YF (VF p r q)) (YF (VF p r q + O1 p q)) (E0 p q) (by omega) (by omega)
  have s1 := own_gap (YF (VF p r q + O1 p q)) (YF (VF p r q + O2 p q)) (E1 p q) (by omega) (by omega)
  rw [XF, if_neg (by rw [hn]; decide)]
  simp only [z2, z3, runs, xs3]
  simp only [List.getD_cons_zero, List.getD_cons_succ, Nat.reduceAdd, Nat.reduceSub, s0, s1, DF]
  by_cases c0 : E0 p q = 0 <;> by_cases c1 : E1 p q = 0 <;> simp only [c0, c1, eq_self, if_true, if_false] <;> decide
def xs4 (p r : Int32) (q : Int64) : Nat → Int32 := (fun i => [(YF (VF p r q)), (YF (VF p r q + O1 p q)), (YF (VF p r q + O2 p q)), (YF (VF p r q + O3 p q)), (0 : Int32)].getD i (0 : Int32))
theorem own_case4 (p r : Int32) (q : Int64) (hn : NF p = 4) : runs (xs4 p r q) 3 1 (4 : Int32) = XF p q := by
  have hE := own_E p q
  have hO := own_O p q
  have hT : TF p q = O3 p q := by simp [TF, hn]
  have hV := own_V p r q (own_T p q)
  rw [hT] at hV
  have z3 : E3 p q = 0 := by simp [E3, hn]
  have y0 := own_Y (VF p r q) (by omega)
  have y1 := own_YO (VF p r q) (O1 p q) hV.1 (by omega) (by omega)
  have y2 := own_YO (VF p r q) (O2 p q) hV.1 (by omega) (by omega)
  have y3 := own_YO (VF p r q) (O3 p q) hV.1 (by omega) (by omega)
  have s0 := own_gap (YF (VF p r q)) (YF (VF p r q + O1 p q)) (E0 p q) (by omega) (by omega)
  have s1 := own_gap (YF (VF p r q + O1 p q)) (YF (VF p r q + O2 p q)) (E1 p q) (by omega) (by omega)
  have s2 := own_gap (YF (VF p r q + O2 p q)) (YF (VF p r q + O3 p q)) (E2 p q) (by omega) (by omega)
  rw [XF, if_neg (by rw [hn]; decide)]
  simp only [z3, runs, xs4]
  simp only [List.getD_cons_zero, List.getD_cons_succ, Nat.reduceAdd, Nat.reduceSub, s0, s1, s2, DF]
  by_cases c0 : E0 p q = 0 <;> by_cases c1 : E1 p q = 0 <;> by_cases c2 : E2 p q = 0 <;> simp only [c0, c1, c2, eq_self, if_true, if_false] <;> decide
def xs5 (p r : Int32) (q : Int64) : Nat → Int32 := (fun i => [(YF (VF p r q)), (YF (VF p r q + O1 p q)), (YF (VF p r q + O2 p q)), (YF (VF p r q + O3 p q)), (YF (VF p r q + O4 p q))].getD i (0 : Int32))
theorem own_case5 (p r : Int32) (q : Int64) (hn : NF p = 5) : runs (xs5 p r q) 4 1 (5 : Int32) = XF p q := by
  have hE := own_E p q
  have hO := own_O p q
  have hT : TF p q = O4 p q := by simp [TF, hn]
  have hV := own_V p r q (own_T p q)
  rw [hT] at hV
  have y0 := own_Y (VF p r q) (by omega)
  have y1 := own_YO (VF p r q) (O1 p q) hV.1 (by omega) (by omega)
  have y2 := own_YO (VF p r q) (O2 p q) hV.1 (by omega) (by omega)
  have y3 := own_YO (VF p r q) (O3 p q) hV.1 (by omega) (by omega)
  have y4 := own_YO (VF p r q) (O4 p q) hV.1 (by omega) (by omega)
  have s0 := own_gap (YF (VF p r q)) (YF (VF p r q + O1 p q)) (E0 p q) (by omega) (by omega)
  have s1 := own_gap (YF (VF p r q + O1 p q)) (YF (VF p r q + O2 p q)) (E1 p q) (by omega) (by omega)
  have s2 := own_gap (YF (VF p r q + O2 p q)) (YF (VF p r q + O3 p q)) (E2 p q) (by omega) (by omega)
  have s3 := own_gap (YF (VF p r q + O3 p q)) (YF (VF p r q + O4 p q)) (E3 p q) (by omega) (by omega)
  rw [XF, if_neg (by rw [hn]; decide)]
  simp only [runs, xs5]
  simp only [List.getD_cons_zero, List.getD_cons_succ, Nat.reduceAdd, Nat.reduceSub, s0, s1, s2, s3, DF]
  by_cases c0 : E0 p q = 0 <;> by_cases c1 : E1 p q = 0 <;> by_cases c2 : E2 p q = 0 <;> by_cases c3 : E3 p q = 0 <;> simp only [c0, c1, c2, c3, eq_self, if_true, if_false] <;> decide
theorem d5_0 : decode prog_19_method_1_code 0 = .ok (.aload_n 0, 1) := by decide +kernel
theorem d5_1 : decode prog_19_method_1_code 1 = .ok (.invokespecial 1, 3) := by decide +kernel
theorem d5_4 : decode prog_19_method_1_code 4 = .ok (.return_, 1) := by decide +kernel
theorem pn_5 : plainName "bitcove/ContainerData" = true := by first | (simp [plainName, overriddenIn]; done) | decide +kernel
theorem ef_5 (m : MethodId) (x0 : Addr) : entryFrame m #[(.ref x0)] 1 = mkF m 0 #[.val (.ref x0)] [] := by first | (simp [entryFrame, mkF, argsToLocals, Value.category]; done) | rfl
def Q5 (Z : State) (a1 : Addr) (h0 : Heap) (n0 : Nat) (v : Option Value) (h : Heap) (L : List Loc) : Prop := v = none ∧ Fr n0 L ∧ h = h0
set_option maxRecDepth 65536 in
set_option maxHeartbeats 40000000 in
theorem rm5 (l : Launch) (Z : State) (a0 : Array Value) (hw : ∀ d ∈ tables_1, d.before a0 Z = true) (ws : List Jvm.Cond) (a1 : Addr) (h0 : Heap) (n0 : Nat) (Z0 : n0 ≤ h0.size) :
    MetFree l (⟨"bitcove/ContainerData", "<init>", "()V"⟩ : MethodName) (head1 (Jvm.Cond.code (⟨"bitcove/ContainerData", "<init>", "()V"⟩ : MethodName) prog_19_method_1_code 1 none :: ws) ({ frames := 1, cells := 0, slots := 0, locals := 12 } : Room)) (fun a U => a = #[(.ref a1)] ∧ Z.Warmed39 U.vm ∧ U.heap = h0) (fun _ _ _ _ _ => True) (fun _ U o U' => ∃ v L, o = .returned v ∧ Q5 Z a1 h0 n0 v U'.heap L ∧ FrameEnd U o U' L ({ frames := 1, cells := 0, slots := 0, locals := 12 } : Room).cells ({ frames := 1, cells := 0, slots := 0, locals := 12 } : Room).slots) := by
  refine MetFree.of_bodySF (plainFor_of_name pn_5) hisR ?_
  intro p e s m args below meth c s₁ Bd hml0 hP hK
  obtain ⟨rfl, hZ, hh⟩ := hP
  have hx := Bd.exec
  have hby := Bd.bytes
  have hml : c.maxLocals = 1 := hml0
  have hown : s.vm.findClass "bitcove/ContainerData" = some m.cls := findClass_of_methodNamed Bd.named
  have hnm := (name_of_methodNamed Bd.named Bd.method).1
  have X0 : Stand p l e ({ frames := 1, cells := 0, slots := 0, locals := 12 } : Room) s m #[(.ref a1)] below meth c s₁ [] 0 0 := Stand.of_body Bd
  have e0 : s₁.heap = h0 := by rw [← hh, Bd.state]; rfl
  have N0 := Fr.nil n0
  have pre0 : ∀ t, Steps p.tables e below (s₁.setTop (mkF m 0 #[.val (.ref a1)] [])) t → Steps p.tables e below (s₁.setTop (entryFrame m #[(.ref a1)] 1)) t := fun t k => castTop (ef_5 m a1) k
  obtain ⟨T2, X2, e2, st2⟩ := initO X0 hx hZ hown (hw _ (List.mem_of_getElem? (i := 28) rfl)) (hw _ (List.mem_of_getElem? (i := 29) rfl)) (hw _ (List.mem_of_getElem? (i := 30) rfl)) e0 (g := (mkF m 1 #[.val (.ref a1)] [(.ref a1)])) rfl (by rw [hml]; rfl) rfl (hb hby d5_1) (by decide) (W := 0) (by show 2 * 0 + _ ≤ _; exact Nat.le_of_eq rfl) (by decide)
  obtain ⟨fs, hr, hrun, hended, hW, hsame⟩ := X2.leave (v := none) (fun _ => rfl)
  refine ⟨_, _, pre0 _ ?_, hrun, hended, _, _, rfl, ?_, ⟨_, rfl⟩, hW, hsame.mono (by decide) (by decide)⟩
  · show Steps p.tables e below (s₁.setTop (mkF m 0 #[.val (.ref a1)] [])) _
    refine XS.aloadN X0.here hx rfl (hb hby d5_0) rfl rfl ?_
    show Steps p.tables e below (s₁.setTop (mkF m 1 #[.val (.ref a1)] [(.ref a1)])) _
    refine st2 _ ?_
    show Steps p.tables e below (T2.setTop (mkF m 4 #[.val (.ref a1)] [])) _
    exact X2.returnOut hx Bd.returns (hb hby d5_4) hr
  · show Q5 Z a1 h0 n0 _ T2.heap _
    rw [e2]
    exact ⟨rfl, N0, rfl⟩
theorem d4_0 : decode prog_26_method_1_code 0 = .ok (.aload_n 0, 1) := by decide +kernel
theorem d4_1 : decode prog_26_method_1_code 1 = .ok (.invokespecial 1, 3) := by decide +kernel
theorem d4_4 : decode prog_26_method_1_code 4 = .ok (.return_, 1) := by decide +kernel
theorem pn_4 : plainName "bitcove/ContainerData$Sorted" = true := by first | (simp [plainName, overriddenIn]; done) | decide +kernel
theorem pd_4_0 : parseMethodDescriptor "()V" = some ⟨[], none⟩ := by decide +kernel
theorem ef_4 (m : MethodId) (x0 : Addr) : entryFrame m #[(.ref x0)] 1 = mkF m 0 #[.val (.ref x0)] [] := by first | (simp [entryFrame, mkF, argsToLocals, Value.category]; done) | rfl
def Q4 (Z : State) (a1 : Addr) (h0 : Heap) (n0 : Nat) (v : Option Value) (h : Heap) (L : List Loc) : Prop := v = none ∧ Fr n0 L ∧ h = h0
set_option maxRecDepth 65536 in
set_option maxHeartbeats 40000000 in
theorem rm4 (l : Launch) (Z : State) (a0 : Array Value) (hw : ∀ d ∈ tables_1, d.before a0 Z = true) (ws : List Jvm.Cond) (a1 : Addr) (h0 : Heap) (n0 : Nat) (Z0 : n0 ≤ h0.size) :
    MetFree l (⟨"bitcove/ContainerData$Sorted", "<init>", "()V"⟩ : MethodName) (head1 (Jvm.Cond.code (⟨"bitcove/ContainerData$Sorted", "<init>", "()V"⟩ : MethodName) prog_26_method_1_code 1 none :: ws) ({ frames := 2, cells := 0, slots := 0, locals := 24 } : Room)) (fun a U => a = #[(.ref a1)] ∧ Z.Warmed39 U.vm ∧ U.heap = h0) (fun _ _ _ _ _ => True) (fun _ U o U' => ∃ v L, o = .returned v ∧ Q4 Z a1 h0 n0 v U'.heap L ∧ FrameEnd U o U' L ({ frames := 2, cells := 0, slots := 0, locals := 24 } : Room).cells ({ frames := 2, cells := 0, slots := 0, locals := 24 } : Room).slots) := by
  refine MetFree.of_bodySF (plainFor_of_name pn_4) hisR ?_
  intro p e s m args below meth c s₁ Bd hml0 hP hK
  obtain ⟨rfl, hZ, hh⟩ := hP
  have hx := Bd.exec
  have hby := Bd.bytes
  have hml : c.maxLocals = 1 := hml0
  have hown : s.vm.findClass "bitcove/ContainerData$Sorted" = some m.cls := findClass_of_methodNamed Bd.named
  have hnm := (name_of_methodNamed Bd.named Bd.method).1
  have X0 : Stand p l e ({ frames := 2, cells := 0, slots := 0, locals := 24 } : Room) s m #[(.ref a1)] below meth c s₁ [] 0 0 := Stand.of_body Bd
  have e0 : s₁.heap = h0 := by rw [← hh, Bd.state]; rfl
  have N0 := Fr.nil n0
  have pre0 : ∀ t, Steps p.tables e below (s₁.setTop (mkF m 0 #[.val (.ref a1)] [])) t → Steps p.tables e below (s₁.setTop (entryFrame m #[(.ref a1)] 1)) t := fun t k => castTop (ef_4 m a1) k
  obtain ⟨_, _, ⟨T2, L2, k2, n2⟩, -, X2, ⟨Lc2, hQ2, l2, y2, z2⟩, st2⟩ := X0.specialBack hx (y := (⟨"bitcove/ContainerData", "<init>", "()V"⟩ : MethodName)) rfl hown (mvT hZ (hw _ (List.mem_of_getElem? (i := 23) rfl))) (mvT hZ (hw _ (List.mem_of_getElem? (i := 24) rfl))) (mvT hZ (hw _ (List.mem_of_getElem? (i := 27) rfl))) (by decide) (backOf (W := 0) (rm5 l Z a0 hw [] a1 h0 n0 Z0) hZ (hw _ (List.mem_of_getElem? (i := 27) rfl)) (hw _ (List.mem_of_getElem? (i := 26) rfl)) (by decide) (by decide)) (g := (mkF m 1 #[.val (.ref a1)] [(.ref a1)])) rfl (by rw [hml]; rfl) (Steps.refl _) (a := a1) (argsL := []) (rest := []) (lenOf pd_4_0 rfl) rfl (by show 2 * 0 + _ ≤ _; exact Nat.le_of_eq rfl) (hb hby d4_1) (fun _ _ => ⟨rfl, e0, (by decide : 0 + 0 ≤ _), (by decide : 0 + 0 ≤ _)⟩)
  dsimp only [Pt.U, Pt.locs, Pt.cells, Pt.slots] at X2 l2 y2 z2 st2 hQ2
  subst l2 y2 z2
  obtain ⟨rfl, N2q, eq2⟩ := hQ2
  have N2 := Fr.app N0 N2q
  obtain ⟨fs, hr, hrun, hended, hW, hsame⟩ := X2.leave (v := none) (fun _ => rfl)
  refine ⟨_, _, pre0 _ ?_, hrun, hended, _, _, rfl, ?_, ⟨_, rfl⟩, hW, hsame.mono (by decide) (by decide)⟩
  · show Steps p.tables e below (s₁.setTop (mkF m 0 #[.val (.ref a1)] [])) _
    refine XS.aloadN X0.here hx rfl (hb hby d4_0) rfl rfl ?_
    show Steps p.tables e below (s₁.setTop (mkF m 1 #[.val (.ref a1)] [(.ref a1)])) _
    refine st2.trans ?_
    show Steps p.tables e below (T2.setTop (mkF m 4 #[.val (.ref a1)] [])) _
    exact X2.returnOut hx Bd.returns (hb hby d4_4) hr
  · show Q4 Z a1 h0 n0 _ T2.heap _
    exact ⟨rfl, N2, eq2⟩
theorem d3_0 : decode prog_20_method_1_code 0 = .ok (.aload_n 0, 1) := by decide +kernel
theorem d3_1 : decode prog_20_method_1_code 1 = .ok (.invokespecial 1, 3) := by decide +kernel
theorem d3_4 : decode prog_20_method_1_code 4 = .ok (.return_, 1) := by decide +kernel
theorem pn_3 : plainName "bitcove/ContainerData$OfArray" = true := by first | (simp [plainName, overriddenIn]; done) | decide +kernel
theorem pd_3_0 : parseMethodDescriptor "()V" = some ⟨[], none⟩ := by decide +kernel
theorem ef_3 (m : MethodId) (x0 : Addr) : entryFrame m #[(.ref x0)] 1 = mkF m 0 #[.val (.ref x0)] [] := by first | (simp [entryFrame, mkF, argsToLocals, Value.category]; done) | rfl
def Q3 (Z : State) (a1 : Addr) (h0 : Heap) (n0 : Nat) (v : Option Value) (h : Heap) (L : List Loc) : Prop := v = none ∧ Fr n0 L ∧ h = h0
set_option maxRecDepth 65536 in
set_option maxHeartbeats 40000000 in
theorem rm3 (l : Launch) (Z : State) (a0 : Array Value) (hw : ∀ d ∈ tables_1, d.before a0 Z = true) (ws : List Jvm.Cond) (a1 : Addr) (h0 : Heap) (n0 : Nat) (Z0 : n0 ≤ h0.size) :
    MetFree l (⟨"bitcove/ContainerData$OfArray", "<init>", "()V"⟩ : MethodName) (head1 (Jvm.Cond.code (⟨"bitcove/ContainerData$OfArray", "<init>", "()V"⟩ : MethodName) prog_20_method_1_code 1 none :: ws) ({ frames := 3, cells := 0, slots := 0, locals := 36 } : Room)) (fun a U => a = #[(.ref a1)] ∧ Z.Warmed39 U.vm ∧ U.heap = h0) (fun _ _ _ _ _ => True) (fun _ U o U' => ∃ v L, o = .returned v ∧ Q3 Z a1 h0 n0 v U'.heap L ∧ FrameEnd U o U' L ({ frames := 3, cells := 0, slots := 0, locals := 36 } : Room).cells ({ frames := 3, cells := 0, slots := 0, locals := 36 } : Room).slots) := by
  refine MetFree.of_bodySF (plainFor_of_name pn_3) hisR ?_
  intro p e s m args below meth c s₁ Bd hml0 hP hK
  obtain ⟨rfl, hZ, hh⟩ := hP
  have hx := Bd.exec
  have hby := Bd.bytes
  have hml : c.maxLocals = 1 := hml0
  have hown : s.vm.findClass "bitcove/ContainerData$OfArray" = some m.cls := findClass_of_methodNamed Bd.named
  have hnm := (name_of_methodNamed Bd.named Bd.method).1
  have X0 : Stand p l e ({ frames := 3, cells := 0, slots := 0, locals := 36 } : Room) s m #[(.ref a1)] below meth c s₁ [] 0 0 := Stand.of_body Bd
  have e0 : s₁.heap = h0 := by rw [← hh, Bd.state]; rfl
  have N0 := Fr.nil n0
  have pre0 : ∀ t, Steps p.tables e below (s₁.setTop (mkF m 0 #[.val (.ref a1)] [])) t → Steps p.tables e below (s₁.setTop (entryFrame m #[(.ref a1)] 1)) t := fun t k => castTop (ef_3 m a1) k
  obtain ⟨_, _, ⟨T2, L2, k2, n2⟩, -, X2, ⟨Lc2, hQ2, l2, y2, z2⟩, st2⟩ := X0.specialBack hx (y := (⟨"bitcove/ContainerData$Sorted", "<init>", "()V"⟩ : MethodName)) rfl hown (mvT hZ (hw _ (List.mem_of_getElem? (i := 18) rfl))) (mvT hZ (hw _ (List.mem_of_getElem? (i := 19) rfl))) (mvT hZ (hw _ (List.mem_of_getElem? (i := 22) rfl))) (by decide) (backOf (W := 0) (rm4 l Z a0 hw [] a1 h0 n0 Z0) hZ (hw _ (List.mem_of_getElem? (i := 22) rfl)) (hw _ (List.mem_of_getElem? (i := 21) rfl)) (by decide) (by decide)) (g := (mkF m 1 #[.val (.ref a1)] [(.ref a1)])) rfl (by rw [hml]; rfl) (Steps.refl _) (a := a1) (argsL := []) (rest := []) (lenOf pd_3_0 rfl) rfl (by show 2 * 0 + _ ≤ _; exact Nat.le_of_eq rfl) (hb hby d3_1) (fun _ _ => ⟨rfl, e0, (by decide : 0 + 0 ≤ _), (by decide : 0 + 0 ≤ _)⟩)
  dsimp only [Pt.U, Pt.locs, Pt.cells, Pt.slots] at X2 l2 y2 z2 st2 hQ2
  subst l2 y2 z2
  obtain ⟨rfl, N2q, eq2⟩ := hQ2
  have N2 := Fr.app N0 N2q
  obtain ⟨fs, hr, hrun, hended, hW, hsame⟩ := X2.leave (v := none) (fun _ => rfl)
  refine ⟨_, _, pre0 _ ?_, hrun, hended, _, _, rfl, ?_, ⟨_, rfl⟩, hW, hsame.mono (by decide) (by decide)⟩
  · show Steps p.tables e below (s₁.setTop (mkF m 0 #[.val (.ref a1)] [])) _
    refine XS.aloadN X0.here hx rfl (hb hby d3_0) rfl rfl ?_
    show Steps p.tables e below (s₁.setTop (mkF m 1 #[.val (.ref a1)] [(.ref a1)])) _
    refine st2.trans ?_
    show Steps p.tables e below (T2.setTop (mkF m 4 #[.val (.ref a1)] [])) _
    exact X2.returnOut hx Bd.returns (hb hby d3_4) hr
  · show Q3 Z a1 h0 n0 _ T2.heap _
    exact ⟨rfl, N2, eq2⟩
theorem d2_0 : decode prog_1_method_2_code 0 = .ok (.aload_n 0, 1) := by decide +kernel
theorem d2_1 : decode prog_1_method_2_code 1 = .ok (.invokespecial 7, 3) := by decide +kernel
theorem d2_4 : decode prog_1_method_2_code 4 = .ok (.aload_n 0, 1) := by decide +kernel
theorem d2_5 : decode prog_1_method_2_code 5 = .ok (.aload_n 1, 1) := by decide +kernel
theorem d2_6 : decode prog_1_method_2_code 6 = .ok (.putfield 12, 3) := by decide +kernel
theorem d2_9 : decode prog_1_method_2_code 9 = .ok (.aload_n 0, 1) := by decide +kernel
theorem d2_10 : decode prog_1_method_2_code 10 = .ok (.iload_n 2, 1) := by decide +kernel
theorem d2_11 : decode prog_1_method_2_code 11 = .ok (.putfield 16, 3) := by decide +kernel
theorem d2_14 : decode prog_1_method_2_code 14 = .ok (.return_, 1) := by decide +kernel
theorem pn_2 : plainName "bitcove/ArrayContainer" = true := by first | (simp [plainName, overriddenIn]; done) | decide +kernel
theorem pd_2_0 : parseMethodDescriptor "()V" = some ⟨[], none⟩ := by decide +kernel
theorem ef_2 (m : MethodId) (x0 : Addr) (x1 : Addr) (x2 : Int32) : entryFrame m #[(.ref x0), (.ref x1), (.int x2)] 3 = mkF m 0 #[.val (.ref x0), .val (.ref x1), .val (.int x2)] [] := by first | (simp [entryFrame, mkF, argsToLocals, Value.category]; done) | rfl
def Q2 (Z : State) (a1 : Addr) (a2 : Addr) (p3 : Int32) (u_values_a1 : Value) (u_cardinality_a1 : Value) (h0 : Heap) (n0 : Nat) (v : Option Value) (h : Heap) (L : List Loc) : Prop := v = none ∧ Fr n0 L ∧ Keep h0 h [a1] ∧ Exa Z h a1 "bitcove/ArrayContainer" ∧ Fld Z h a1 "bitcove/ArrayContainer" "values" "[C" (.ref a2) ∧ Fld Z h a1 "bitcove/ArrayContainer" "cardinality" "I" (.int p3)
set_option maxRecDepth 65536 in
set_option maxHeartbeats 40000000 in
theorem rm2 (l : Launch) (Z : State) (a0 : Array Value) (hw : ∀ d ∈ tables_1, d.before a0 Z = true) (ws : List Jvm.Cond) (a1 : Addr) (a2 : Addr) (p3 : Int32) (u_values_a1 : Value) (u_cardinality_a1 : Value) (h0 : Heap) (n0 : Nat) (Z0 : n0 ≤ h0.size) (E_a1 : Exa Z h0 a1 "bitcove/ArrayContainer") (F_values_a1 : Fld Z h0 a1 "bitcove/ArrayContainer" "values" "[C" u_values_a1) (g_a1 : n0 ≤ a1) (F_cardinality_a1 : Fld Z h0 a1 "bitcove/ArrayContainer" "cardinality" "I" u_cardinality_a1) :
    MetFree l (⟨"bitcove/ArrayContainer", "<init>", "([CI)V"⟩ : MethodName) (head1 (Jvm.Cond.code (⟨"bitcove/ArrayContainer", "<init>", "([CI)V"⟩ : MethodName) prog_1_method_2_code 3 none :: ws) ({ frames := 4, cells := 0, slots := 0, locals := 48 } : Room)) (fun a U => a = #[(.ref a1), (.ref a2), (.int p3)] ∧ Z.Warmed39 U.vm ∧ U.heap = h0) (fun _ _ _ _ _ => True) (fun _ U o U' => ∃ v L, o = .returned v ∧ Q2 Z a1 a2 p3 u_values_a1 u_cardinality_a1 h0 n0 v U'.heap L ∧ FrameEnd U o U' L ({ frames := 4, cells := 0, slots := 0, locals := 48 } : Room).cells ({ frames := 4, cells := 0, slots := 0, locals := 48 } : Room).slots) := by
  refine MetFree.of_bodySF (plainFor_of_name pn_2) hisR ?_
  intro p e s m args below meth c s₁ Bd hml0 hP hK
  obtain ⟨rfl, hZ, hh⟩ := hP
  have hx := Bd.exec
  have hby := Bd.bytes
  have hml : c.maxLocals = 3 := hml0
  have hown : s.vm.findClass "bitcove/ArrayContainer" = some m.cls := findClass_of_methodNamed Bd.named
  have hnm := (name_of_methodNamed Bd.named Bd.method).1
  have X0 : Stand p l e ({ frames := 4, cells := 0, slots := 0, locals := 48 } : Room) s m #[(.ref a1), (.ref a2), (.int p3)] below meth c s₁ [] 0 0 := Stand.of_body Bd
  have e0 : s₁.heap = h0 := by rw [← hh, Bd.state]; rfl
  have N0 := Fr.nil n0
  have pre0 : ∀ t, Steps p.tables e below (s₁.setTop (mkF m 0 #[.val (.ref a1), .val (.ref a2), .val (.int p3)] [])) t → Steps p.tables e below (s₁.setTop (entryFrame m #[(.ref a1), (.ref a2), (.int p3)] 3)) t := fun t k => castTop (ef_2 m a1 a2 p3) k
  obtain ⟨_, _, ⟨T4, L4, k4, n4⟩, -, X4, ⟨Lc4, hQ4, l4, y4, z4⟩, st4⟩ := X0.specialBack hx (y := (⟨"bitcove/ContainerData$OfArray", "<init>", "()V"⟩ : MethodName)) rfl hown (mvT hZ (hw _ (List.mem_of_getElem? (i := 13) rfl))) (mvT hZ (hw _ (List.mem_of_getElem? (i := 14) rfl))) (mvT hZ (hw _ (List.mem_of_getElem? (i := 17) rfl))) (by decide) (backOf (W := 0) (rm3 l Z a0 hw [] a1 h0 n0 Z0) hZ (hw _ (List.mem_of_getElem? (i := 17) rfl)) (hw _ (List.mem_of_getElem? (i := 16) rfl)) (by decide) (by decide)) (g := (mkF m 1 #[.val (.ref a1), .val (.ref a2), .val (.int p3)] [(.ref a1)])) rfl (by rw [hml]; rfl) (Steps.refl _) (a := a1) (argsL := []) (rest := []) (lenOf pd_2_0 rfl) rfl (by show 2 * 0 + _ ≤ _; exact Nat.le_of_eq rfl) (hb hby d2_1) (fun _ _ => ⟨rfl, e0, (by decide : 0 + 0 ≤ _), (by decide : 0 + 0 ≤ _)⟩)
  dsimp only [Pt.U, Pt.locs, Pt.cells, Pt.slots] at X4 l4 y4 z4 st4 hQ4
  subst l4 y4 z4
  obtain ⟨rfl, N4q, eq4⟩ := hQ4
  have N4 := Fr.app N0 N4q
  have Kc4 : Keep h0 T4.heap [] := by rw [eq4]; exact Keep.refl _ _
  have Kd4 : Keep h0 T4.heap [a1] := by rw [eq4]; exact Keep.refl _ _
  obtain ⟨T5, h5, X5, e5, W5, st5⟩ := putF X4 hx hZ hown (host := "") (Or.inl (hw _ (List.mem_of_getElem? (i := 31) rfl))) Via.refl rfl (F_values_a1.keep Kc4 (by simp)) (E_a1.keep Kc4) (Or.inl (hw _ (List.mem_of_getElem? (i := 32) rfl))) (hw _ (List.mem_of_getElem? (i := 4) rfl)) (ty := (.array .char)) (by decide) rfl rfl (g := (mkF m 6 #[.val (.ref a1), .val (.ref a2), .val (.int p3)] [(.ref a2), (.ref a1)])) rfl rfl (hb hby d2_6)
  have Fw5 := (F_values_a1.keep Kc4 (by simp)).same W5
  have K5 : Keep h0 h5 [a1] := Kd4.wr W5 (Or.inl (List.mem_of_getElem? (i := 0) rfl))
  have N5 := Fr.snoc X5 N4 g_a1
  obtain ⟨T6, h6, X6, e6, W6, st6⟩ := putF X5 hx hZ hown (host := "") (Or.inl (hw _ (List.mem_of_getElem? (i := 33) rfl))) Via.refl e5 ((F_cardinality_a1.keep Kc4 (by simp)).other W5 (Or.inr (slot_ne (Or.inl (hw _ (List.mem_of_getElem? (i := 34) rfl))) (Or.inl (hw _ (List.mem_of_getElem? (i := 32) rfl))) (by decide) (t := .int) (t' := (.array .char)) (by decide) (by decide)))) ((E_a1.keep Kc4).wr W5) (Or.inl (hw _ (List.mem_of_getElem? (i := 34) rfl))) (hw _ (List.mem_of_getElem? (i := 4) rfl)) (ty := .int) (by decide) rfl rfl (g := (mkF m 11 #[.val (.ref a1), .val (.ref a2), .val (.int p3)] [(.int p3), (.ref a1)])) rfl rfl (hb hby d2_11)
  have Fw6 := ((F_cardinality_a1.keep Kc4 (by simp)).other W5 (Or.inr (slot_ne (Or.inl (hw _ (List.mem_of_getElem? (i := 34) rfl))) (Or.inl (hw _ (List.mem_of_getElem? (i := 32) rfl))) (by decide) (t := .int) (t' := (.array .char)) (by decide) (by decide)))).same W6
  have K6 : Keep h0 h6 [a1] := K5.wr W6 (Or.inl (List.mem_of_getElem? (i := 0) rfl))
  have N6 := Fr.snoc X6 N5 g_a1
  obtain ⟨fs, hr, hrun, hended, hW, hsame⟩ := X6.leave (v := none) (fun _ => rfl)
  refine ⟨_, _, pre0 _ ?_, hrun, hended, _, _, rfl, ?_, ⟨_, rfl⟩, hW, hsame.mono (by decide) (by decide)⟩
  · show Steps p.tables e below (s₁.setTop (mkF m 0 #[.val (.ref a1), .val (.ref a2), .val (.int p3)] [])) _
    refine XS.aloadN X0.here hx rfl (hb hby d2_0) rfl rfl ?_
    show Steps p.tables e below (s₁.setTop (mkF m 1 #[.val (.ref a1), .val (.ref a2), .val (.int p3)] [(.ref a1)])) _
    refine st4.trans ?_
    show Steps p.tables e below (T4.setTop (mkF m 4 #[.val (.ref a1), .val (.ref a2), .val (.int p3)] [])) _
    refine XS.aloadN X4.here hx rfl (hb hby d2_4) rfl rfl ?_
    show Steps p.tables e below (T4.setTop (mkF m 5 #[.val (.ref a1), .val (.ref a2), .val (.int p3)] [(.ref a1)])) _
    refine XS.aloadN X4.here hx rfl (hb hby d2_5) rfl rfl ?_
    show Steps p.tables e below (T4.setTop (mkF m 6 #[.val (.ref a1), .val (.ref a2), .val (.int p3)] [(.ref a2), (.ref a1)])) _
    refine st5 _ ?_
    show Steps p.tables e below (T5.setTop (mkF m 9 #[.val (.ref a1), .val (.ref a2), .val (.int p3)] [])) _
    refine XS.aloadN X5.here hx rfl (hb hby d2_9) rfl rfl ?_
    show Steps p.tables e below (T5.setTop (mkF m 10 #[.val (.ref a1), .val (.ref a2), .val (.int p3)] [(.ref a1)])) _
    refine XS.iloadN X5.here hx rfl (hb hby d2_10) rfl ?_
    show Steps p.tables e below (T5.setTop (mkF m 11 #[.val (.ref a1), .val (.ref a2), .val (.int p3)] [(.int p3), (.ref a1)])) _
    refine st6 _ ?_
    show Steps p.tables e below (T6.setTop (mkF m 14 #[.val (.ref a1), .val (.ref a2), .val (.int p3)] [])) _
    exact X6.returnOut hx Bd.returns (hb hby d2_14) hr
  · show Q2 Z a1 a2 p3 u_values_a1 u_cardinality_a1 h0 n0 _ T6.heap _
    rw [e6]
    exact ⟨rfl, N6, K6, ((E_a1.keep Kc4).wr W5).wr W6, Fw5.other W6 (Or.inr (slot_ne (Or.inl (hw _ (List.mem_of_getElem? (i := 32) rfl))) (Or.inl (hw _ (List.mem_of_getElem? (i := 34) rfl))) (by decide) (t := (.array .char)) (t' := .int) (by decide) (by decide))), Fw6⟩
theorem d1_0 : decode prog_1_method_1_code 0 = .ok (.aload_n 0, 1) := by decide +kernel
theorem d1_1 : decode prog_1_method_1_code 1 = .ok (.iconst 4, 1) := by decide +kernel
theorem d1_2 : decode prog_1_method_1_code 2 = .ok (.newarray .char, 2) := by decide +kernel
theorem d1_4 : decode prog_1_method_1_code 4 = .ok (.iconst 0, 1) := by decide +kernel
theorem d1_5 : decode prog_1_method_1_code 5 = .ok (.invokespecial 1, 3) := by decide +kernel
theorem d1_8 : decode prog_1_method_1_code 8 = .ok (.return_, 1) := by decide +kernel
theorem pn_1 : plainName "bitcove/ArrayContainer" = true := by first | (simp [plainName, overriddenIn]; done) | decide +kernel
theorem pd_1_1 : parseMethodDescriptor "([CI)V" = some ⟨[(.array .char), .int], none⟩ := by decide +kernel
theorem ef_1 (m : MethodId) (x0 : Addr) : entryFrame m #[(.ref x0)] 1 = mkF m 0 #[.val (.ref x0)] [] := by first | (simp [entryFrame, mkF, argsToLocals, Value.category]; done) | rfl
def Q1 (Z : State) (a1 : Addr) (h0 : Heap) (n0 : Nat) (v : Option Value) (h : Heap) (L : List Loc) : Prop := v = none ∧ Fr n0 L ∧ Keep h0 h [a1] ∧ ∃ (t : Addr) (k : ClassId), h0.size ≤ t ∧ AC Z h a1 t k (4 : Int32) [(.int (0 : Int32)), (.int (0 : Int32)), (.int (0 : Int32)), (.int (0 : Int32))] (0 : Int32)
set_option maxRecDepth 65536 in
set_option maxHeartbeats 40000000 in
theorem rm1 (l : Launch) (Z : State) (a0 : Array Value) (hw : ∀ d ∈ tables_1, d.before a0 Z = true) (ws : List Jvm.Cond) (a1 : Addr) (h0 : Heap) (n0 : Nat) (Z0 : n0 ≤ h0.size) (u1 u2 : Value) (E_a1 : Exa Z h0 a1 "bitcove/ArrayContainer") (F_values_a1 : Fld Z h0 a1 "bitcove/ArrayContainer" "values" "[C" u1) (F_cardinality_a1 : Fld Z h0 a1 "bitcove/ArrayContainer" "cardinality" "I" u2) (g_a1 : n0 ≤ a1) :
    MetFree l (⟨"bitcove/ArrayContainer", "<init>", "()V"⟩ : MethodName) (head1 (Jvm.Cond.code (⟨"bitcove/ArrayContainer", "<init>", "()V"⟩ : MethodName) prog_1_method_1_code 1 none :: ws) ({ frames := 5, cells := 1, slots := 4, locals := 62 } : Room)) (fun a U => a = #[(.ref a1)] ∧ Z.Warmed39 U.vm ∧ U.heap = h0) (fun _ _ _ _ _ => True) (fun _ U o U' => ∃ v L, o = .returned v ∧ Q1 Z a1 h0 n0 v U'.heap L ∧ FrameEnd U o U' L ({ frames := 5, cells := 1, slots := 4, locals := 62 } : Room).cells ({ frames := 5, cells := 1, slots := 4, locals := 62 } : Room).slots) := by
  refine MetFree.of_bodySF (plainFor_of_name pn_1) hisR ?_
  intro p e s m args below meth c s₁ Bd hml0 hP hK
  obtain ⟨rfl, hZ, hh⟩ := hP
  have hx := Bd.exec
  have hby := Bd.bytes
  have hml : c.maxLocals = 1 := hml0
  have hown : s.vm.findClass "bitcove/ArrayContainer" = some m.cls := findClass_of_methodNamed Bd.named
  have hnm := (name_of_methodNamed Bd.named Bd.method).1
  have X0 : Stand p l e ({ frames := 5, cells := 1, slots := 4, locals := 62 } : Room) s m #[(.ref a1)] below meth c s₁ [] 0 0 := Stand.of_body Bd
  have e0 : s₁.heap = h0 := by rw [← hh, Bd.state]; rfl
  have N0 := Fr.nil n0
  have pre0 : ∀ t, Steps p.tables e below (s₁.setTop (mkF m 0 #[.val (.ref a1)] [])) t → Steps p.tables e below (s₁.setTop (entryFrame m #[(.ref a1)] 1)) t := fun t k => castTop (ef_1 m a1) k
  obtain ⟨T2, h2, k2, X2, e2, E2, A2, st2⟩ := newP X0 hx hZ (hw _ (List.mem_of_getElem? (i := 9) rfl)) e0 (g := (mkF m 2 #[.val (.ref a1)] [(.int (4 : Int32)), (.ref a1)])) rfl (hb hby d1_2) rfl (by decide) (cap := 4) (by decide) (by decide) (by decide) (by decide)
  obtain ⟨b2, g2⟩ : ∃ z, z = h0.size := ⟨_, rfl⟩
  rw [← g2] at A2 st2
  have V_b2 : Arv Z h2 b2 k2 .char (4 : Int32) [(.int (0 : Int32)), (.int (0 : Int32)), (.int (0 : Int32)), (.int (0 : Int32))] (.int (0 : Int32)) := (Arv.new A2 (by decide)).pad (pad_rep [] (.int (0 : Int32)) 4)
  have g_b2 : n0 ≤ b2 := Nat.le_trans Z0 (Nat.le_of_eq g2.symm)
  have sz_b2 : h0.size ≤ b2 := (Nat.le_trans (Keep.refl h0 []).1 (Nat.le_of_eq g2.symm))
  have K2 : Keep h0 h2 [] := (Keep.refl h0 []).ext E2
  have K2' : Keep h0 h2 [a1] := (Keep.refl h0 [a1]).ext E2
  obtain ⟨_, _, ⟨T3, L3, k3, n3⟩, -, X3, ⟨Lc3, hQ3, l3, y3, z3⟩, st3⟩ := X2.specialBack hx (y := (⟨"bitcove/ArrayContainer", "<init>", "([CI)V"⟩ : MethodName)) rfl hown (mvT hZ (hw _ (List.mem_of_getElem? (i := 10) rfl))) (mvT hZ (hw _ (List.mem_of_getElem? (i := 11) rfl))) (mvT hZ (hw _ (List.mem_of_getElem? (i := 12) rfl))) (by decide) (backOf (W := 0) (rm2 l Z a0 hw [] a1 b2 (0 : Int32) u1 u2 h2 n0 (Nat.le_trans Z0 E2.1) (E_a1.ext E2) (F_values_a1.ext E2) g_a1 (F_cardinality_a1.ext E2)) hZ (hw _ (List.mem_of_getElem? (i := 12) rfl)) (hw _ (List.mem_of_getElem? (i := 5) rfl)) (by decide) (by decide)) (g := (mkF m 5 #[.val (.ref a1)] [(.int (0 : Int32)), (.ref b2), (.ref a1)])) rfl (by rw [hml]; rfl) (Steps.refl _) (a := a1) (argsL := [(.ref b2), (.int (0 : Int32))]) (rest := []) (lenOf pd_1_1 rfl) rfl (by show 2 * 0 + _ ≤ _; exact Nat.le_of_eq rfl) (hb hby d1_5) (fun _ _ => ⟨rfl, e2, (by decide : 1 + 0 ≤ _), (by decide : 4 + 0 ≤ _)⟩)
  dsimp only [Pt.U, Pt.locs, Pt.cells, Pt.slots] at X3 l3 y3 z3 st3 hQ3
  subst l3 y3 z3
  obtain ⟨rfl, N3q, eq3⟩ := hQ3
  have N3 := Fr.app N0 N3q
  obtain ⟨fs, hr, hrun, hended, hW, hsame⟩ := X3.leave (v := none) (fun _ => rfl)
  refine ⟨_, _, pre0 _ ?_, hrun, hended, _, _, rfl, ?_, ⟨_, rfl⟩, hW, hsame.mono (by decide) (by decide)⟩
  · show Steps p.tables e below (s₁.setTop (mkF m 0 #[.val (.ref a1)] [])) _
    refine XS.aloadN X0.here hx rfl (hb hby d1_0) rfl rfl ?_
    show Steps p.tables e below (s₁.setTop (mkF m 1 #[.val (.ref a1)] [(.ref a1)])) _
    refine XS.iconst X0.here hx rfl (hb hby d1_1) ?_
    show Steps p.tables e below (s₁.setTop (mkF m 2 #[.val (.ref a1)] [(.int (4 : Int32)), (.ref a1)])) _
    refine st2 _ ?_
    show Steps p.tables e below (T2.setTop (mkF m 4 #[.val (.ref a1)] [(.ref b2), (.ref a1)])) _
    refine XS.iconst X2.here hx rfl (hb hby d1_4) ?_
    show Steps p.tables e below (T2.setTop (mkF m 5 #[.val (.ref a1)] [(.int (0 : Int32)), (.ref b2), (.ref a1)])) _
    refine st3.trans ?_
    show Steps p.tables e below (T3.setTop (mkF m 8 #[.val (.ref a1)] [])) _
    exact X3.returnOut hx Bd.returns (hb hby d1_8) hr
  · show Q1 Z a1 h0 n0 _ T3.heap _
    have hne : a1 ≠ b2 := Nat.ne_of_lt (Nat.lt_of_lt_of_le E_a1.lt sz_b2)
    obtain ⟨Kc3, E3, Fv3, Fc3⟩ := eq3
    exact ⟨rfl, N3, K2'.trans Kc3 (fun x hx => Or.inl hx), b2, k2, sz_b2, E3, Fv3, Fc3, V_b2.keep Kc3 (by simpa using hne.symm), hne⟩
def Q9f (Z : State) (a1 : Addr) (p2 : Int32) (h0 : Heap) (n0 : Nat) (v : Option Value) (h : Heap) (L : List Loc) : Prop := v = none ∧ Fr n0 L ∧ ∃ (b : Addr) (k : ClassId), h0.size ≤ b ∧ Keep h0 h [a1] ∧ AC Z h a1 b k (5 : Int32) [(.int (nar .char p2)), (.int (0 : Int32)), (.int (0 : Int32)), (.int (0 : Int32)), (.int (0 : Int32))] (1 : Int32)
theorem d9_0 : decode prog_1_method_12_code 0 = .ok (.aload_n 0, 1) := by decide +kernel
theorem d9_1 : decode prog_1_method_12_code 1 = .ok (.getfield 16, 3) := by decide +kernel
theorem d9_4 : decode prog_1_method_12_code 4 = .ok (.ifCond .ne 10, 3) := by decide +kernel
theorem d9_7 : decode prog_1_method_12_code 7 = .ok (.aload_n 0, 1) := by decide +kernel
theorem d9_8 : decode prog_1_method_12_code 8 = .ok (.iload_n 2, 1) := by decide +kernel
theorem d9_9 : decode prog_1_method_12_code 9 = .ok (.newarray .char, 2) := by decide +kernel
theorem d9_11 : decode prog_1_method_12_code 11 = .ok (.putfield 12, 3) := by decide +kernel
theorem d9_14 : decode prog_1_method_12_code 14 = .ok (.aload_n 0, 1) := by decide +kernel
theorem d9_15 : decode prog_1_method_12_code 15 = .ok (.getfield 12, 3) := by decide +kernel
theorem d9_18 : decode prog_1_method_12_code 18 = .ok (.aload_n 0, 1) := by decide +kernel
theorem d9_19 : decode prog_1_method_12_code 19 = .ok (.dup, 1) := by decide +kernel
theorem d9_20 : decode prog_1_method_12_code 20 = .ok (.getfield 16, 3) := by decide +kernel
theorem d9_23 : decode prog_1_method_12_code 23 = .ok (.dup_x1, 1) := by decide +kernel
theorem d9_24 : decode prog_1_method_12_code 24 = .ok (.iconst 1, 1) := by decide +kernel
theorem d9_25 : decode prog_1_method_12_code 25 = .ok (.iadd, 1) := by decide +kernel
theorem d9_26 : decode prog_1_method_12_code 26 = .ok (.putfield 16, 3) := by decide +kernel
theorem d9_29 : decode prog_1_method_12_code 29 = .ok (.iload_n 1, 1) := by decide +kernel
theorem d9_30 : decode prog_1_method_12_code 30 = .ok (.castore, 1) := by decide +kernel
theorem d9_31 : decode prog_1_method_12_code 31 = .ok (.return_, 1) := by decide +kernel
theorem pn_9 : plainName "bitcove/ArrayContainer" = true := by first | (simp [plainName, overriddenIn]; done) | decide +kernel
theorem ef_9 (m : MethodId) (x0 : Addr) (x1 : Int32) (x2 : Int32) : entryFrame m #[(.ref x0), (.int x1), (.int x2)] 3 = mkF m 0 #[.val (.ref x0), .val (.int x1), .val (.int x2)] [] := by first | (simp [entryFrame, mkF, argsToLocals, Value.category]; done) | rfl
set_option maxRecDepth 65536 in
set_option maxHeartbeats 40000000 in
theorem rm9f (l : Launch) (Z : State) (a0 : Array Value) (hw : ∀ d ∈ tables_1, d.before a0 Z = true) (ws : List Jvm.Cond) (a1 : Addr) (p2 : Int32) (t : Addr) (k : ClassId) (z : Int32) (vs : List Value) (h0 : Heap) (n0 : Nat) (Z0 : n0 ≤ h0.size) (B : AC Z h0 a1 t k z vs (0 : Int32)) (g_a1 : n0 ≤ a1) :
    MetFree l (⟨"bitcove/ArrayContainer", "append", "(CI)V"⟩ : MethodName) (head1 (Jvm.Cond.code (⟨"bitcove/ArrayContainer", "append", "(CI)V"⟩ : MethodName) prog_1_method_12_code 3 none :: ws) ({ frames := 0, cells := 1, slots := 5, locals := 0 } : Room)) (fun a U => a = #[(.ref a1), (.int p2), (.int (5 : Int32))] ∧ Z.Warmed39 U.vm ∧ U.heap = h0) (fun _ _ _ _ _ => True) (fun _ U o U' => ∃ v L, o = .returned v ∧ Q9f Z a1 p2 h0 n0 v U'.heap L ∧ FrameEnd U o U' L ({ frames := 0, cells := 1, slots := 5, locals := 0 } : Room).cells ({ frames := 0, cells := 1, slots := 5, locals := 0 } : Room).slots) := by
  refine MetFree.of_bodySF (plainFor_of_name pn_9) hisR ?_
  intro p e s m args below meth c s₁ Bd hml0 hP hK
  obtain ⟨rfl, hZ, hh⟩ := hP
  have hx := Bd.exec
  have hby := Bd.bytes
  have hml : c.maxLocals = 3 := hml0
  have hown : s.vm.findClass "bitcove/ArrayContainer" = some m.cls := findClass_of_methodNamed Bd.named
  have hnm := (name_of_methodNamed Bd.named Bd.method).1
  have X0 : Stand p l e ({ frames := 0, cells := 1, slots := 5, locals := 0 } : Room) s m #[(.ref a1), (.int p2), (.int (5 : Int32))] below meth c s₁ [] 0 0 := Stand.of_body Bd
  have e0 : s₁.heap = h0 := by rw [← hh, Bd.state]; rfl
  have N0 := Fr.nil n0
  obtain ⟨E_a1, F_values_a1, F_cardinality_a1, V, hne⟩ := B
  have hc4 : (0 : Int32) = (0 : Int32) := rfl
  have pre0 : ∀ t, Steps p.tables e below (s₁.setTop (mkF m 0 #[.val (.ref a1), .val (.int p2), .val (.int (5 : Int32))] [])) t → Steps p.tables e below (s₁.setTop (entryFrame m #[(.ref a1), (.int p2), (.int (5 : Int32))] 3)) t := fun t k => castTop (ef_9 m a1 p2 (5 : Int32)) k
  obtain ⟨T5, X5, e5, st5⟩ := getF X0 hx hZ hown (host := "") (Or.inl (hw _ (List.mem_of_getElem? (i := 33) rfl))) Via.refl e0 F_cardinality_a1 (g := (mkF m 1 #[.val (.ref a1), .val (.int p2), .val (.int (5 : Int32))] [(.ref a1)])) rfl rfl (hb hby d9_1)
  obtain ⟨T6, h6, k6, X6, e6, E6, A6, st6⟩ := newP X5 hx hZ (hw _ (List.mem_of_getElem? (i := 9) rfl)) e5 (g := (mkF m 9 #[.val (.ref a1), .val (.int p2), .val (.int (5 : Int32))] [(.int (5 : Int32)), (.ref a1)])) rfl (hb hby d9_9) rfl (by decide) (cap := 5) (by decide) (by decide) (by decide) (by decide)
  obtain ⟨b6, g6⟩ : ∃ z, z = h0.size := ⟨_, rfl⟩
  rw [← g6] at A6 st6
  have V_b6 : Arv Z h6 b6 k6 .char (5 : Int32) [(.int (0 : Int32)), (.int (0 : Int32)), (.int (0 : Int32)), (.int (0 : Int32)), (.int (0 : Int32))] (.int (0 : Int32)) := (Arv.new A6 (by decide)).pad (pad_rep [] (.int (0 : Int32)) 5)
  have g_b6 : n0 ≤ b6 := Nat.le_trans Z0 (Nat.le_of_eq g6.symm)
  have sz_b6 : h0.size ≤ b6 := (Nat.le_trans (Keep.refl h0 [a1]).1 (Nat.le_of_eq g6.symm))
  have K6 : Keep h0 h6 [a1] := (Keep.refl h0 [a1]).ext E6
  obtain ⟨T7, h7, X7, e7, W7, st7⟩ := putF X6 hx hZ hown (host := "") (Or.inl (hw _ (List.mem_of_getElem? (i := 31) rfl))) Via.refl e6 (F_values_a1.ext E6) (E_a1.ext E6) (Or.inl (hw _ (List.mem_of_getElem? (i := 32) rfl))) (hw _ (List.mem_of_getElem? (i := 4) rfl)) (ty := (.array .char)) (by decide) rfl rfl (g := (mkF m 11 #[.val (.ref a1), .val (.int p2), .val (.int (5 : Int32))] [(.ref b6), (.ref a1)])) rfl rfl (hb hby d9_11)
  have Fw7 := (F_values_a1.ext E6).same W7
  have K7 : Keep h0 h7 [a1] := K6.wr W7 (Or.inl (List.mem_of_getElem? (i := 0) rfl))
  have N7 := Fr.snoc X7 N0 g_a1
  obtain ⟨T8, X8, e8, st8⟩ := getF X7 hx hZ hown (host := "") (Or.inl (hw _ (List.mem_of_getElem? (i := 31) rfl))) Via.refl e7 Fw7 (g := (mkF m 15 #[.val (.ref a1), .val (.int p2), .val (.int (5 : Int32))] [(.ref a1)])) rfl rfl (hb hby d9_15)
  obtain ⟨T9, X9, e9, st9⟩ := getF X8 hx hZ hown (host := "") (Or.inl (hw _ (List.mem_of_getElem? (i := 33) rfl))) Via.refl e8 ((F_cardinality_a1.ext E6).other W7 (Or.inr (slot_ne (Or.inl (hw _ (List.mem_of_getElem? (i := 34) rfl))) (Or.inl (hw _ (List.mem_of_getElem? (i := 32) rfl))) (by decide) (t := .int) (t' := (.array .char)) (by decide) (by decide)))) (g := (mkF m 20 #[.val (.ref a1), .val (.int p2), .val (.int (5 : Int32))] [(.ref a1), (.ref a1), (.ref b6)])) rfl rfl (hb hby d9_20)
  obtain ⟨T10, h10, X10, e10, W10, st10⟩ := putF X9 hx hZ hown (host := "") (Or.inl (hw _ (List.mem_of_getElem? (i := 33) rfl))) Via.refl e9 ((F_cardinality_a1.ext E6).other W7 (Or.inr (slot_ne (Or.inl (hw _ (List.mem_of_getElem? (i := 34) rfl))) (Or.inl (hw _ (List.mem_of_getElem? (i := 32) rfl))) (by decide) (t := .int) (t' := (.array .char)) (by decide) (by decide)))) ((E_a1.ext E6).wr W7) (Or.inl (hw _ (List.mem_of_getElem? (i := 34) rfl))) (hw _ (List.mem_of_getElem? (i := 4) rfl)) (ty := .int) (by decide) rfl rfl (g := (mkF m 26 #[.val (.ref a1), .val (.int p2), .val (.int (5 : Int32))] [(.int ((0 : Int32) + (1 : Int32))), (.ref a1), (.int (0 : Int32)), (.ref b6)])) rfl rfl (hb hby d9_26)
  have Fw10 := ((F_cardinality_a1.ext E6).other W7 (Or.inr (slot_ne (Or.inl (hw _ (List.mem_of_getElem? (i := 34) rfl))) (Or.inl (hw _ (List.mem_of_getElem? (i := 32) rfl))) (by decide) (t := .int) (t' := (.array .char)) (by decide) (by decide)))).same W10
  have K10 : Keep h0 h10 [a1] := K7.wr W10 (Or.inl (List.mem_of_getElem? (i := 0) rfl))
  have N10 := Fr.snoc X10 N7 g_a1
  obtain ⟨cl_b6_30, Ar_b6, q_b6, S_b6, N_b6, H_b6, G_b6⟩ := ((V_b6.other W7 (Ne.symm (Nat.ne_of_lt (Nat.lt_of_lt_of_le E_a1.lt (Nat.le_of_eq g6.symm))))).other W10 (Ne.symm (Nat.ne_of_lt (Nat.lt_of_lt_of_le E_a1.lt (Nat.le_of_eq g6.symm)))))
  have hin30 : ¬ ((0 : Int32) < 0 ∨ cl_b6_30.slots.size ≤ ((0 : Int32)).toNatClampNeg) := inb_of S_b6 ⟨by decide, by decide⟩
  obtain ⟨T11, h11, X11, e11, W11, st11⟩ := stC X10 hx hZ e10 Ar_b6 (j := (0 : Int32)) hin30 (g := (mkF m 30 #[.val (.ref a1), .val (.int p2), .val (.int (5 : Int32))] [(.int p2), (.int (0 : Int32)), (.ref b6)])) rfl rfl (hb hby d9_30)
  have V_b6_11 := Arv.set Ar_b6 q_b6 S_b6 N_b6 H_b6 G_b6 (fits_nar_char _) W11 0 rfl (Nat.le_of_ble_eq_true rfl)
  have K11 : Keep h0 h11 [a1] := K10.wr W11 (Or.inr sz_b6)
  have N11 := Fr.snoc X11 N10 g_b6
  obtain ⟨fs, hr, hrun, hended, hW, hsame⟩ := X11.leave (v := none) (fun _ => rfl)
  refine ⟨_, _, pre0 _ ?_, hrun, hended, _, _, rfl, ?_, ⟨_, rfl⟩, hW, hsame.mono (by decide) (by decide)⟩
  · show Steps p.tables e below (s₁.setTop (mkF m 0 #[.val (.ref a1), .val (.int p2), .val (.int (5 : Int32))] [])) _
    refine XS.aloadN X0.here hx rfl (hb hby d9_0) rfl rfl ?_
    show Steps p.tables e below (s₁.setTop (mkF m 1 #[.val (.ref a1), .val (.int p2), .val (.int (5 : Int32))] [(.ref a1)])) _
    refine st5 _ ?_
    show Steps p.tables e below (T5.setTop (mkF m 4 #[.val (.ref a1), .val (.int p2), .val (.int (5 : Int32))] [(.int (0 : Int32))])) _
    refine XS.ifNo X5.here hx rfl (hb hby d9_4) rfl ((if0 _ _).trans (teq hc4).2) ?_
    show Steps p.tables e below (T5.setTop (mkF m 7 #[.val (.ref a1), .val (.int p2), .val (.int (5 : Int32))] [])) _
    refine XS.aloadN X5.here hx rfl (hb hby d9_7) rfl rfl ?_
    show Steps p.tables e below (T5.setTop (mkF m 8 #[.val (.ref a1), .val (.int p2), .val (.int (5 : Int32))] [(.ref a1)])) _
    refine XS.iloadN X5.here hx rfl (hb hby d9_8) rfl ?_
    show Steps p.tables e below (T5.setTop (mkF m 9 #[.val (.ref a1), .val (.int p2), .val (.int (5 : Int32))] [(.int (5 : Int32)), (.ref a1)])) _
    refine st6 _ ?_
    show Steps p.tables e below (T6.setTop (mkF m 11 #[.val (.ref a1), .val (.int p2), .val (.int (5 : Int32))] [(.ref b6), (.ref a1)])) _
    refine st7 _ ?_
    show Steps p.tables e below (T7.setTop (mkF m 14 #[.val (.ref a1), .val (.int p2), .val (.int (5 : Int32))] [])) _
    refine XS.aloadN X7.here hx rfl (hb hby d9_14) rfl rfl ?_
    show Steps p.tables e below (T7.setTop (mkF m 15 #[.val (.ref a1), .val (.int p2), .val (.int (5 : Int32))] [(.ref a1)])) _
    refine st8 _ ?_
    show Steps p.tables e below (T8.setTop (mkF m 18 #[.val (.ref a1), .val (.int p2), .val (.int (5 : Int32))] [(.ref b6)])) _
    refine XS.aloadN X8.here hx rfl (hb hby d9_18) rfl rfl ?_
    show Steps p.tables e below (T8.setTop (mkF m 19 #[.val (.ref a1), .val (.int p2), .val (.int (5 : Int32))] [(.ref a1), (.ref b6)])) _
    refine XS.dup X8.here hx rfl (hb hby d9_19) rfl rfl ?_
    show Steps p.tables e below (T8.setTop (mkF m 20 #[.val (.ref a1), .val (.int p2), .val (.int (5 : Int32))] [(.ref a1), (.ref a1), (.ref b6)])) _
    refine st9 _ ?_
    show Steps p.tables e below (T9.setTop (mkF m 23 #[.val (.ref a1), .val (.int p2), .val (.int (5 : Int32))] [(.int (0 : Int32)), (.ref a1), (.ref b6)])) _
    refine XS.dupX1 X9.here hx rfl (hb hby d9_23) rfl rfl rfl ?_
    show Steps p.tables e below (T9.setTop (mkF m 24 #[.val (.ref a1), .val (.int p2), .val (.int (5 : Int32))] [(.int (0 : Int32)), (.ref a1), (.int (0 : Int32)), (.ref b6)])) _
    refine XS.iconst X9.here hx rfl (hb hby d9_24) ?_
    show Steps p.tables e below (T9.setTop (mkF m 25 #[.val (.ref a1), .val (.int p2), .val (.int (5 : Int32))] [(.int (1 : Int32)), (.int (0 : Int32)), (.ref a1), (.int (0 : Int32)), (.ref b6)])) _
    refine XS.iadd X9.here hx rfl (hb hby d9_25) rfl ?_
    show Steps p.tables e below (T9.setTop (mkF m 26 #[.val (.ref a1), .val (.int p2), .val (.int (5 : Int32))] [(.int ((0 : Int32) + (1 : Int32))), (.ref a1), (.int (0 : Int32)), (.ref b6)])) _
    refine st10 _ ?_
    show Steps p.tables e below (T10.setTop (mkF m 29 #[.val (.ref a1), .val (.int p2), .val (.int (5 : Int32))] [(.int (0 : Int32)), (.ref b6)])) _
    refine XS.iloadN X10.here hx rfl (hb hby d9_29) rfl ?_
    show Steps p.tables e below (T10.setTop (mkF m 30 #[.val (.ref a1), .val (.int p2), .val (.int (5 : Int32))] [(.int p2), (.int (0 : Int32)), (.ref b6)])) _
    refine st11 _ ?_
    show Steps p.tables e below (T11.setTop (mkF m 31 #[.val (.ref a1), .val (.int p2), .val (.int (5 : Int32))] [])) _
    exact X11.returnOut hx Bd.returns (hb hby d9_31) hr
  · show Q9f Z a1 p2 h0 n0 _ T11.heap _
    rw [e11]
    have hne6 : a1 ≠ b6 := Nat.ne_of_lt (Nat.lt_of_lt_of_le E_a1.lt sz_b6)
    exact ⟨rfl, N11, b6, k6, sz_b6, K11, (((E_a1.ext E6).wr W7).wr W10).wr W11, (Fw7.other W10 (Or.inr (slot_ne (Or.inl (hw _ (List.mem_of_getElem? (i := 32) rfl))) (Or.inl (hw _ (List.mem_of_getElem? (i := 34) rfl))) (by decide) (t := (.array .char)) (t' := .int) (by decide) (by decide)))).other W11 (Or.inl hne6), (by rw [show (1 : Int32) = (0 : Int32) + 1 by decide]; exact Fw10.other W11 (Or.inl hne6)), V_b6_11, hne6⟩
def Q9t (Z : State) (a1 : Addr) (p2 : Int32) (w4' : Int32) (w6 : Addr) (k : ClassId) (z : Int32) (vs : List Value) (i : Nat) (h0 : Heap) (n0 : Nat) (v : Option Value) (h : Heap) (L : List Loc) : Prop := v = none ∧ Fr n0 L ∧ Keep h0 h [a1, w6] ∧ AC Z h a1 w6 k z (vs.set i (.int (nar .char p2))) w4'
set_option maxRecDepth 65536 in
set_option maxHeartbeats 40000000 in
theorem rm9t (l : Launch) (Z : State) (a0 : Array Value) (hw : ∀ d ∈ tables_1, d.before a0 Z = true) (ws : List Jvm.Cond) (a1 : Addr) (p2 : Int32) (p3 : Int32) (w4 w4' : Int32) (w6 : Addr) (k : ClassId) (z : Int32) (vs : List Value) (i : Nat) (h0 : Heap) (n0 : Nat) (Z0 : n0 ≤ h0.size) (B : AC Z h0 a1 w6 k z vs w4) (g_a1 : n0 ≤ a1) (g_w6 : n0 ≤ w6) (hn : ¬ w4 < 0 ∧ w4 < z) (hc4 : ¬ (w4 = (0 : Int32))) (hi : w4.toNatClampNeg = i) (hl : i < vs.length) (hn' : w4 + 1 = w4') :
    MetFree l (⟨"bitcove/ArrayContainer", "append", "(CI)V"⟩ : MethodName) (head1 (Jvm.Cond.code (⟨"bitcove/ArrayContainer", "append", "(CI)V"⟩ : MethodName) prog_1_method_12_code 3 none :: ws) ({ frames := 0, cells := 0, slots := 0, locals := 0 } : Room)) (fun a U => a = #[(.ref a1), (.int p2), (.int p3)] ∧ Z.Warmed39 U.vm ∧ U.heap = h0) (fun _ _ _ _ _ => True) (fun _ U o U' => ∃ v L, o = .returned v ∧ Q9t Z a1 p2 w4' w6 k z vs i h0 n0 v U'.heap L ∧ FrameEnd U o U' L ({ frames := 0, cells := 0, slots := 0, locals := 0 } : Room).cells ({ frames := 0, cells := 0, slots := 0, locals := 0 } : Room).slots) := by
  refine MetFree.of_bodySF (plainFor_of_name pn_9) hisR ?_
  intro p e s m args below meth c s₁ Bd hml0 hP hK
  obtain ⟨rfl, hZ, hh⟩ := hP
  have hx := Bd.exec
  have hby := Bd.bytes
  have hml : c.maxLocals = 3 := hml0
  have hown : s.vm.findClass "bitcove/ArrayContainer" = some m.cls := findClass_of_methodNamed Bd.named
  have hnm := (name_of_methodNamed Bd.named Bd.method).1
  have X0 : Stand p l e ({ frames := 0, cells := 0, slots := 0, locals := 0 } : Room) s m #[(.ref a1), (.int p2), (.int p3)] below meth c s₁ [] 0 0 := Stand.of_body Bd
  have e0 : s₁.heap = h0 := by rw [← hh, Bd.state]; rfl
  have N0 := Fr.nil n0
  obtain ⟨E_a1, F_values_a1, F_cardinality_a1, V, hne⟩ := B
  obtain ⟨cl_w6, Ar_w6, q_w6, S_w6, N_w6, H_w6, G_w6⟩ := V
  have hin30 : ¬ (w4 < 0 ∨ cl_w6.slots.size ≤ (w4).toNatClampNeg) := inb_of S_w6 hn
  have pre0 : ∀ t, Steps p.tables e below (s₁.setTop (mkF m 0 #[.val (.ref a1), .val (.int p2), .val (.int p3)] [])) t → Steps p.tables e below (s₁.setTop (entryFrame m #[(.ref a1), (.int p2), (.int p3)] 3)) t := fun t k => castTop (ef_9 m a1 p2 p3) k
  obtain ⟨T5, X5, e5, st5⟩ := getF X0 hx hZ hown (host := "") (Or.inl (hw _ (List.mem_of_getElem? (i := 33) rfl))) Via.refl e0 F_cardinality_a1 (g := (mkF m 1 #[.val (.ref a1), .val (.int p2), .val (.int p3)] [(.ref a1)])) rfl rfl (hb hby d9_1)
  obtain ⟨T7, X7, e7, st7⟩ := getF X5 hx hZ hown (host := "") (Or.inl (hw _ (List.mem_of_getElem? (i := 31) rfl))) Via.refl e5 F_values_a1 (g := (mkF m 15 #[.val (.ref a1), .val (.int p2), .val (.int p3)] [(.ref a1)])) rfl rfl (hb hby d9_15)
  obtain ⟨T8, X8, e8, st8⟩ := getF X7 hx hZ hown (host := "") (Or.inl (hw _ (List.mem_of_getElem? (i := 33) rfl))) Via.refl e7 F_cardinality_a1 (g := (mkF m 20 #[.val (.ref a1), .val (.int p2), .val (.int p3)] [(.ref a1), (.ref a1), (.ref w6)])) rfl rfl (hb hby d9_20)
  obtain ⟨T9, h9, X9, e9, W9, st9⟩ := putF X8 hx hZ hown (host := "") (Or.inl (hw _ (List.mem_of_getElem? (i := 33) rfl))) Via.refl e8 F_cardinality_a1 E_a1 (Or.inl (hw _ (List.mem_of_getElem? (i := 34) rfl))) (hw _ (List.mem_of_getElem? (i := 4) rfl)) (ty := .int) (by decide) rfl rfl (g := (mkF m 26 #[.val (.ref a1), .val (.int p2), .val (.int p3)] [(.int (w4 + (1 : Int32))), (.ref a1), (.int w4), (.ref w6)])) rfl rfl (hb hby d9_26)
  have Fw9 := F_cardinality_a1.same W9
  have K9 : Keep h0 h9 [a1, w6] := (Keep.refl h0 [a1, w6]).wr W9 (Or.inl (List.mem_of_getElem? (i := 0) rfl))
  have N9 := Fr.snoc X9 N0 g_a1
  obtain ⟨T10, h10, X10, e10, W10, st10⟩ := stC X9 hx hZ e9 (Ar_w6.other W9 hne.symm) (j := w4) hin30 (g := (mkF m 30 #[.val (.ref a1), .val (.int p2), .val (.int p3)] [(.int p2), (.int w4), (.ref w6)])) rfl rfl (hb hby d9_30)
  have N10 := Fr.snoc X10 N9 g_w6
  have K10 : Keep h0 h10 [a1, w6] := K9.wr W10 (Or.inl (List.mem_of_getElem? (i := 1) rfl))
  obtain ⟨fs, hr, hrun, hended, hW, hsame⟩ := X10.leave (v := none) (fun _ => rfl)
  refine ⟨_, _, pre0 _ ?_, hrun, hended, _, _, rfl, ?_, ⟨_, rfl⟩, hW, hsame.mono (by decide) (by decide)⟩
  · show Steps p.tables e below (s₁.setTop (mkF m 0 #[.val (.ref a1), .val (.int p2), .val (.int p3)] [])) _
    refine XS.aloadN X0.here hx rfl (hb hby d9_0) rfl rfl ?_
    show Steps p.tables e below (s₁.setTop (mkF m 1 #[.val (.ref a1), .val (.int p2), .val (.int p3)] [(.ref a1)])) _
    refine st5 _ ?_
    show Steps p.tables e below (T5.setTop (mkF m 4 #[.val (.ref a1), .val (.int p2), .val (.int p3)] [(.int w4)])) _
    refine XS.ifYes X5.here hx rfl (pc0 := 4) (pc' := 14) rfl (hb hby d9_4) rfl ((if0 _ _).trans (feq hc4).2) (by decide) (by decide) ?_
    show Steps p.tables e below (T5.setTop (mkF m 14 #[.val (.ref a1), .val (.int p2), .val (.int p3)] [])) _
    refine XS.aloadN X5.here hx rfl (hb hby d9_14) rfl rfl ?_
    show Steps p.tables e below (T5.setTop (mkF m 15 #[.val (.ref a1), .val (.int p2), .val (.int p3)] [(.ref a1)])) _
    refine st7 _ ?_
    show Steps p.tables e below (T7.setTop (mkF m 18 #[.val (.ref a1), .val (.int p2), .val (.int p3)] [(.ref w6)])) _
    refine XS.aloadN X7.here hx rfl (hb hby d9_18) rfl rfl ?_
    show Steps p.tables e below (T7.setTop (mkF m 19 #[.val (.ref a1), .val (.int p2), .val (.int p3)] [(.ref a1), (.ref w6)])) _
    refine XS.dup X7.here hx rfl (hb hby d9_19) rfl rfl ?_
    show Steps p.tables e below (T7.setTop (mkF m 20 #[.val (.ref a1), .val (.int p2), .val (.int p3)] [(.ref a1), (.ref a1), (.ref w6)])) _
    refine st8 _ ?_
    show Steps p.tables e below (T8.setTop (mkF m 23 #[.val (.ref a1), .val (.int p2), .val (.int p3)] [(.int w4), (.ref a1), (.ref w6)])) _
    refine XS.dupX1 X8.here hx rfl (hb hby d9_23) rfl rfl rfl ?_
    show Steps p.tables e below (T8.setTop (mkF m 24 #[.val (.ref a1), .val (.int p2), .val (.int p3)] [(.int w4), (.ref a1), (.int w4), (.ref w6)])) _
    refine XS.iconst X8.here hx rfl (hb hby d9_24) ?_
    show Steps p.tables e below (T8.setTop (mkF m 25 #[.val (.ref a1), .val (.int p2), .val (.int p3)] [(.int (1 : Int32)), (.int w4), (.ref a1), (.int w4), (.ref w6)])) _
    refine XS.iadd X8.here hx rfl (hb hby d9_25) rfl ?_
    show Steps p.tables e below (T8.setTop (mkF m 26 #[.val (.ref a1), .val (.int p2), .val (.int p3)] [(.int (w4 + (1 : Int32))), (.ref a1), (.int w4), (.ref w6)])) _
    refine st9 _ ?_
    show Steps p.tables e below (T9.setTop (mkF m 29 #[.val (.ref a1), .val (.int p2), .val (.int p3)] [(.int w4), (.ref w6)])) _
    refine XS.iloadN X9.here hx rfl (hb hby d9_29) rfl ?_
    show Steps p.tables e below (T9.setTop (mkF m 30 #[.val (.ref a1), .val (.int p2), .val (.int p3)] [(.int p2), (.int w4), (.ref w6)])) _
    refine st10 _ ?_
    show Steps p.tables e below (T10.setTop (mkF m 31 #[.val (.ref a1), .val (.int p2), .val (.int p3)] [])) _
    exact X10.returnOut hx Bd.returns (hb hby d9_31) hr
  · show Q9t Z a1 p2 w4' w6 k z vs i h0 n0 _ T10.heap _
    rw [e10]
    exact ⟨rfl, N10, K10, (E_a1.wr W9).wr W10, (F_values_a1.other W9 (Or.inr (slot_ne (Or.inl (hw _ (List.mem_of_getElem? (i := 32) rfl))) (Or.inl (hw _ (List.mem_of_getElem? (i := 34) rfl))) (by decide) (t := (.array .char)) (t' := .int) (by decide) (by decide)))).other W10 (Or.inl hne), (by rw [← hn']; exact Fw9.other W10 (Or.inl hne)), Arv.set (Ar_w6.other W9 hne.symm) q_w6 S_w6 N_w6 H_w6 G_w6 (fits_nar_char _) W10 i hi hl, hne⟩
theorem d8_0 : decode prog_1_method_23_code 0 = .ok (.aload_n 0, 1) := by decide +kernel
theorem d8_1 : decode prog_1_method_23_code 1 = .ok (.getfield 16, 3) := by decide +kernel
theorem d8_4 : decode prog_1_method_23_code 4 = .ok (.ireturn, 1) := by decide +kernel
theorem pn_8 : plainName "bitcove/ArrayContainer" = true := by first | (simp [plainName, overriddenIn]; done) | decide +kernel
theorem ef_8 (m : MethodId) (x0 : Addr) : entryFrame m #[(.ref x0)] 1 = mkF m 0 #[.val (.ref x0)] [] := by first | (simp [entryFrame, mkF, argsToLocals, Value.category]; done) | rfl
def Q8 (Z : State) (a1 : Addr) (w2 : Int32) (h0 : Heap) (n0 : Nat) (v : Option Value) (h : Heap) (L : List Loc) : Prop := v = some (.int w2) ∧ Fr n0 L ∧ h = h0
set_option maxRecDepth 65536 in
set_option maxHeartbeats 40000000 in
theorem rm8 (l : Launch) (Z : State) (a0 : Array Value) (hw : ∀ d ∈ tables_1, d.before a0 Z = true) (ws : List Jvm.Cond) (a1 : Addr) (w2 : Int32) (h0 : Heap) (n0 : Nat) (Z0 : n0 ≤ h0.size) (F_cardinality_a1 : Fld Z h0 a1 "bitcove/ArrayContainer" "cardinality" "I" (.int w2)) :
    MetFree l (⟨"bitcove/ArrayContainer", "cardinality", "()I"⟩ : MethodName) (head1 (Jvm.Cond.code (⟨"bitcove/ArrayContainer", "cardinality", "()I"⟩ : MethodName) prog_1_method_23_code 1 (some .int) :: ws) ({ frames := 0, cells := 0, slots := 0, locals := 0 } : Room)) (fun a U => a = #[(.ref a1)] ∧ Z.Warmed39 U.vm ∧ U.heap = h0) (fun _ _ _ _ _ => True) (fun _ U o U' => ∃ v L, o = .returned v ∧ Q8 Z a1 w2 h0 n0 v U'.heap L ∧ FrameEnd U o U' L ({ frames := 0, cells := 0, slots := 0, locals := 0 } : Room).cells ({ frames := 0, cells := 0, slots := 0, locals := 0 } : Room).slots) := by
  refine MetFree.of_bodySF (plainFor_of_name pn_8) hisR ?_
  intro p e s m args below meth c s₁ Bd hml0 hP hK
  obtain ⟨rfl, hZ, hh⟩ := hP
  have hx := Bd.exec
  have hby := Bd.bytes
  have hml : c.maxLocals = 1 := hml0
  have hown : s.vm.findClass "bitcove/ArrayContainer" = some m.cls := findClass_of_methodNamed Bd.named
  have hnm := (name_of_methodNamed Bd.named Bd.method).1
  have X0 : Stand p l e ({ frames := 0, cells := 0, slots := 0, locals := 0 } : Room) s m #[(.ref a1)] below meth c s₁ [] 0 0 := Stand.of_body Bd
  have e0 : s₁.heap = h0 := by rw [← hh, Bd.state]; rfl
  have N0 := Fr.nil n0
  have pre0 : ∀ t, Steps p.tables e below (s₁.setTop (mkF m 0 #[.val (.ref a1)] [])) t → Steps p.tables e below (s₁.setTop (entryFrame m #[(.ref a1)] 1)) t := fun t k => castTop (ef_8 m a1) k
  obtain ⟨T3, X3, e3, st3⟩ := getF X0 hx hZ hown (host := "") (Or.inl (hw _ (List.mem_of_getElem? (i := 33) rfl))) Via.refl e0 F_cardinality_a1 (g := (mkF m 1 #[.val (.ref a1)] [(.ref a1)])) rfl rfl (hb hby d8_1)
  obtain ⟨fs, hr, hrun, hended, hW, hsame⟩ := X3.leave (v := some (.int w2)) (fun h => by rw [Bd.returns] at h; cases h)
  refine ⟨_, _, pre0 _ ?_, hrun, hended, _, _, rfl, ?_, ⟨_, rfl⟩, hW, hsame.mono (by decide) (by decide)⟩
  · show Steps p.tables e below (s₁.setTop (mkF m 0 #[.val (.ref a1)] [])) _
    refine XS.aloadN X0.here hx rfl (hb hby d8_0) rfl rfl ?_
    show Steps p.tables e below (s₁.setTop (mkF m 1 #[.val (.ref a1)] [(.ref a1)])) _
    refine st3 _ ?_
    show Steps p.tables e below (T3.setTop (mkF m 4 #[.val (.ref a1)] [(.int w2)])) _
    exact retI X3 hx Bd.returns (hb hby d8_4) hr
  · show Q8 Z a1 w2 h0 n0 _ T3.heap _
    rw [e3]
    exact ⟨rfl, N0, rfl⟩
theorem d7_7 : decode prog_1_method_26_code 7 = .ok (.iload_n 2, 1) := by decide +kernel
theorem d7_8 : decode prog_1_method_26_code 8 = .ok (.aload_n 0, 1) := by decide +kernel
theorem d7_9 : decode prog_1_method_26_code 9 = .ok (.getfield 16, 3) := by decide +kernel
theorem d7_12 : decode prog_1_method_26_code 12 = .ok (.if_icmp .ge 31, 3) := by decide +kernel
theorem d7_15 : decode prog_1_method_26_code 15 = .ok (.aload_n 0, 1) := by decide +kernel
theorem d7_16 : decode prog_1_method_26_code 16 = .ok (.getfield 12, 3) := by decide +kernel
theorem d7_19 : decode prog_1_method_26_code 19 = .ok (.iload_n 2, 1) := by decide +kernel
theorem d7_20 : decode prog_1_method_26_code 20 = .ok (.caload, 1) := by decide +kernel
theorem d7_21 : decode prog_1_method_26_code 21 = .ok (.aload_n 0, 1) := by decide +kernel
theorem d7_22 : decode prog_1_method_26_code 22 = .ok (.getfield 12, 3) := by decide +kernel
theorem d7_25 : decode prog_1_method_26_code 25 = .ok (.iload_n 2, 1) := by decide +kernel
theorem d7_26 : decode prog_1_method_26_code 26 = .ok (.iconst 1, 1) := by decide +kernel
theorem d7_27 : decode prog_1_method_26_code 27 = .ok (.isub, 1) := by decide +kernel
theorem d7_28 : decode prog_1_method_26_code 28 = .ok (.caload, 1) := by decide +kernel
theorem d7_29 : decode prog_1_method_26_code 29 = .ok (.iconst 1, 1) := by decide +kernel
theorem d7_30 : decode prog_1_method_26_code 30 = .ok (.iadd, 1) := by decide +kernel
theorem d7_31 : decode prog_1_method_26_code 31 = .ok (.if_icmp .ne 6, 3) := by decide +kernel
theorem d7_34 : decode prog_1_method_26_code 34 = .ok (.iinc 1 (-1), 3) := by decide +kernel
theorem d7_37 : decode prog_1_method_26_code 37 = .ok (.iinc 2 1, 3) := by decide +kernel
theorem d7_40 : decode prog_1_method_26_code 40 = .ok (.goto (-33), 3) := by decide +kernel
set_option maxRecDepth 65536 in
set_option maxHeartbeats 40000000 in
theorem tn7_eq {p : Program} {l : Launch} {e : Env} {R : Room} {s : State} {m : MethodId} {args : Array Value} {below : List Frame} {meth : Method} {c : Code} {T0 : State} {locs : List Loc} {cells slots : Nat} {Z : State} {a0 : Array Value} {h0 : Heap} (o0 : Addr) (i1 : Int32) (i2 : Int32) (w2 : Int32) (w4 : Addr) (w6 : Int32) (cl_w4 : Cell) (w8 : Int32)
    (X0 : Stand p l e R s m args below meth c T0 locs cells slots) (hx : p.tables.exec = Jvm.exec) (hZ : Z.Warmed39 s.vm) (hw : ∀ d ∈ tables_1, d.before a0 Z = true) (hby : c.code = prog_1_method_26_code) (hml : c.maxLocals = 3) (hown : s.vm.findClass "bitcove/ArrayContainer" = some m.cls) (e0 : T0.heap = h0) (F_cardinality_o0 : Fld Z h0 o0 "bitcove/ArrayContainer" "cardinality" "I" (.int w2)) (F_values_o0 : Fld Z h0 o0 "bitcove/ArrayContainer" "values" "[C" (.ref w4)) (Ar_w4 : Arr Z h0 w4 cl_w4 .char) (hin20 : ¬ (i2 < 0 ∨ cl_w4.slots.size ≤ (i2).toNatClampNeg)) (hat20 : cl_w4.slots[(i2).toNatClampNeg]? = some (.int w6)) (hin28 : ¬ ((i2 - (1 : Int32)) < 0 ∨ cl_w4.slots.size ≤ ((i2 - (1 : Int32))).toNatClampNeg)) (hat28 : cl_w4.slots[((i2 - (1 : Int32))).toNatClampNeg]? = some (.int w8)) (hc12 : i2 < w2) (hc31 : w6 = (w8 + (1 : Int32))) :
    ∃ (T' : State), Stand p l e R s m args below meth c T' locs cells slots ∧ T'.heap = h0 ∧
      ∀ target, Steps p.tables e below (T'.setTop (mkF m 7 #[.val (.ref o0), .val (.int (i1 + (-1 : Int32))), .val (.int (i2 + (1 : Int32)))] [])) target → Steps p.tables e below (T0.setTop (mkF m 7 #[.val (.ref o0), .val (.int i1), .val (.int i2)] [])) target := by
  obtain ⟨T3, X3, e3, st3⟩ := getF X0 hx hZ hown (host := "") (Or.inl (hw _ (List.mem_of_getElem? (i := 33) rfl))) Via.refl e0 F_cardinality_o0 (g := (mkF m 9 #[.val (.ref o0), .val (.int i1), .val (.int i2)] [(.ref o0), (.int i2)])) rfl rfl (hb hby d7_9)
  obtain ⟨T5, X5, e5, st5⟩ := getF X3 hx hZ hown (host := "") (Or.inl (hw _ (List.mem_of_getElem? (i := 31) rfl))) Via.refl e3 F_values_o0 (g := (mkF m 16 #[.val (.ref o0), .val (.int i1), .val (.int i2)] [(.ref o0)])) rfl rfl (hb hby d7_16)
  obtain ⟨T7, X7, e7, st7⟩ := getF X5 hx hZ hown (host := "") (Or.inl (hw _ (List.mem_of_getElem? (i := 31) rfl))) Via.refl e5 F_values_o0 (g := (mkF m 22 #[.val (.ref o0), .val (.int i1), .val (.int i2)] [(.ref o0), (.int w6)])) rfl rfl (hb hby d7_22)
  refine ⟨T7, X7, e7, fun target kt => ?_⟩
  show Steps p.tables e below (T0.setTop (mkF m 7 #[.val (.ref o0), .val (.int i1), .val (.int i2)] [])) _
  refine XS.iloadN X0.here hx rfl (hb hby d7_7) rfl ?_
  show Steps p.tables e below (T0.setTop (mkF m 8 #[.val (.ref o0), .val (.int i1), .val (.int i2)] [(.int i2)])) _
  refine XS.aloadN X0.here hx rfl (hb hby d7_8) rfl rfl ?_
  show Steps p.tables e below (T0.setTop (mkF m 9 #[.val (.ref o0), .val (.int i1), .val (.int i2)] [(.ref o0), (.int i2)])) _
  refine st3 _ ?_
  show Steps p.tables e below (T3.setTop (mkF m 12 #[.val (.ref o0), .val (.int i1), .val (.int i2)] [(.int w2), (.int i2)])) _
  refine XS.icmpNo X3.here hx rfl (hb hby d7_12) rfl (tlt hc12).2.1 ?_
  show Steps p.tables e below (T3.setTop (mkF m 15 #[.val (.ref o0), .val (.int i1), .val (.int i2)] [])) _
  refine XS.aloadN X3.here hx rfl (hb hby d7_15) rfl rfl ?_
  show Steps p.tables e below (T3.setTop (mkF m 16 #[.val (.ref o0), .val (.int i1), .val (.int i2)] [(.ref o0)])) _
  refine st5 _ ?_
  show Steps p.tables e below (T5.setTop (mkF m 19 #[.val (.ref o0), .val (.int i1), .val (.int i2)] [(.ref w4)])) _
  refine XS.iloadN X5.here hx rfl (hb hby d7_19) rfl ?_
  show Steps p.tables e below (T5.setTop (mkF m 20 #[.val (.ref o0), .val (.int i1), .val (.int i2)] [(.int i2), (.ref w4)])) _
  refine X5.caload hx (j := i2) (v := (.int w6)) (by rw [e5]; exact Ar_w4.1) (State.isArrayOf_alike hZ.alike Ar_w4.2.1) Ar_w4.2.2 hin20 hat20 (g := (mkF m 20 #[.val (.ref o0), .val (.int i1), .val (.int i2)] [(.int i2), (.ref w4)])) rfl rfl (hb hby d7_20) _ ?_
  show Steps p.tables e below (T5.setTop (mkF m 21 #[.val (.ref o0), .val (.int i1), .val (.int i2)] [(.int w6)])) _
  refine XS.aloadN X5.here hx rfl (hb hby d7_21) rfl rfl ?_
  show Steps p.tables e below (T5.setTop (mkF m 22 #[.val (.ref o0), .val (.int i1), .val (.int i2)] [(.ref o0), (.int w6)])) _
  refine st7 _ ?_
  show Steps p.tables e below (T7.setTop (mkF m 25 #[.val (.ref o0), .val (.int i1), .val (.int i2)] [(.ref w4), (.int w6)])) _
  refine XS.iloadN X7.here hx rfl (hb hby d7_25) rfl ?_
  show Steps p.tables e below (T7.setTop (mkF m 26 #[.val (.ref o0), .val (.int i1), .val (.int i2)] [(.int i2), (.ref w4), (.int w6)])) _
  refine XS.iconst X7.here hx rfl (hb hby d7_26) ?_
  show Steps p.tables e below (T7.setTop (mkF m 27 #[.val (.ref o0), .val (.int i1), .val (.int i2)] [(.int (1 : Int32)), (.int i2), (.ref w4), (.int w6)])) _
  refine XS.isub X7.here hx rfl (hb hby d7_27) rfl ?_
  show Steps p.tables e below (T7.setTop (mkF m 28 #[.val (.ref o0), .val (.int i1), .val (.int i2)] [(.int (i2 - (1 : Int32))), (.ref w4), (.int w6)])) _
  refine X7.caload hx (j := (i2 - (1 : Int32))) (v := (.int w8)) (by rw [e7]; exact Ar_w4.1) (State.isArrayOf_alike hZ.alike Ar_w4.2.1) Ar_w4.2.2 hin28 hat28 (g := (mkF m 28 #[.val (.ref o0), .val (.int i1), .val (.int i2)] [(.int (i2 - (1 : Int32))), (.ref w4), (.int w6)])) rfl rfl (hb hby d7_28) _ ?_
  show Steps p.tables e below (T7.setTop (mkF m 29 #[.val (.ref o0), .val (.int i1), .val (.int i2)] [(.int w8), (.int w6)])) _
  refine XS.iconst X7.here hx rfl (hb hby d7_29) ?_
  show Steps p.tables e below (T7.setTop (mkF m 30 #[.val (.ref o0), .val (.int i1), .val (.int i2)] [(.int (1 : Int32)), (.int w8), (.int w6)])) _
  refine XS.iadd X7.here hx rfl (hb hby d7_30) rfl ?_
  show Steps p.tables e below (T7.setTop (mkF m 31 #[.val (.ref o0), .val (.int i1), .val (.int i2)] [(.int (w8 + (1 : Int32))), (.int w6)])) _
  refine XS.icmpNo X7.here hx rfl (hb hby d7_31) rfl (teq hc31).2 ?_
  show Steps p.tables e below (T7.setTop (mkF m 34 #[.val (.ref o0), .val (.int i1), .val (.int i2)] [])) _
  refine XS.iinc X7.here hx rfl (hb hby d7_34) rfl (l' := #[.val (.ref o0), .val (.int (i1 + (-1 : Int32))), .val (.int i2)]) rfl ?_
  show Steps p.tables e below (T7.setTop (mkF m 37 #[.val (.ref o0), .val (.int (i1 + (-1 : Int32))), .val (.int i2)] [])) _
  refine XS.iinc X7.here hx rfl (hb hby d7_37) rfl (l' := #[.val (.ref o0), .val (.int (i1 + (-1 : Int32))), .val (.int (i2 + (1 : Int32)))]) rfl ?_
  show Steps p.tables e below (T7.setTop (mkF m 40 #[.val (.ref o0), .val (.int (i1 + (-1 : Int32))), .val (.int (i2 + (1 : Int32)))] [])) _
  refine XS.goto X7.here hx rfl (pc0 := 40) (pc' := 7) rfl (hb hby d7_40) (by decide) (by decide) ?_
  exact kt
set_option maxRecDepth 65536 in
set_option maxHeartbeats 40000000 in
theorem tn7_ne {p : Program} {l : Launch} {e : Env} {R : Room} {s : State} {m : MethodId} {args : Array Value} {below : List Frame} {meth : Method} {c : Code} {T0 : State} {locs : List Loc} {cells slots : Nat} {Z : State} {a0 : Array Value} {h0 : Heap} (o0 : Addr) (s1 : Slot) (i2 : Int32) (w2 : Int32) (w4 : Addr) (w6 : Int32) (cl_w4 : Cell) (w8 : Int32)
    (X0 : Stand p l e R s m args below meth c T0 locs cells slots) (hx : p.tables.exec = Jvm.exec) (hZ : Z.Warmed39 s.vm) (hw : ∀ d ∈ tables_1, d.before a0 Z = true) (hby : c.code = prog_1_method_26_code) (hml : c.maxLocals = 3) (hown : s.vm.findClass "bitcove/ArrayContainer" = some m.cls) (e0 : T0.heap = h0) (F_cardinality_o0 : Fld Z h0 o0 "bitcove/ArrayContainer" "cardinality" "I" (.int w2)) (F_values_o0 : Fld Z h0 o0 "bitcove/ArrayContainer" "values" "[C" (.ref w4)) (Ar_w4 : Arr Z h0 w4 cl_w4 .char) (hin20 : ¬ (i2 < 0 ∨ cl_w4.slots.size ≤ (i2).toNatClampNeg)) (hat20 : cl_w4.slots[(i2).toNatClampNeg]? = some (.int w6)) (hin28 : ¬ ((i2 - (1 : Int32)) < 0 ∨ cl_w4.slots.size ≤ ((i2 - (1 : Int32))).toNatClampNeg)) (hat28 : cl_w4.slots[((i2 - (1 : Int32))).toNatClampNeg]? = some (.int w8)) (hc12 : i2 < w2) (hc31 : ¬ (w6 = (w8 + (1 : Int32)))) :
    ∃ (T' : State), Stand p l e R s m args below meth c T' locs cells slots ∧ T'.heap = h0 ∧
      ∀ target, Steps p.tables e below (T'.setTop (mkF m 7 #[.val (.ref o0), s1, .val (.int (i2 + (1 : Int32)))] [])) target → Steps p.tables e below (T0.setTop (mkF m 7 #[.val (.ref o0), s1, .val (.int i2)] [])) target := by
  obtain ⟨T3, X3, e3, st3⟩ := getF X0 hx hZ hown (host := "") (Or.inl (hw _ (List.mem_of_getElem? (i := 33) rfl))) Via.refl e0 F_cardinality_o0 (g := (mkF m 9 #[.val (.ref o0), s1, .val (.int i2)] [(.ref o0), (.int i2)])) rfl rfl (hb hby d7_9)
  obtain ⟨T5, X5, e5, st5⟩ := getF X3 hx hZ hown (host := "") (Or.inl (hw _ (List.mem_of_getElem? (i := 31) rfl))) Via.refl e3 F_values_o0 (g := (mkF m 16 #[.val (.ref o0), s1, .val (.int i2)] [(.ref o0)])) rfl rfl (hb hby d7_16)
  obtain ⟨T7, X7, e7, st7⟩ := getF X5 hx hZ hown (host := "") (Or.inl (hw _ (List.mem_of_getElem? (i := 31) rfl))) Via.refl e5 F_values_o0 (g := (mkF m 22 #[.val (.ref o0), s1, .val (.int i2)] [(.ref o0), (.int w6)])) rfl rfl (hb hby d7_22)
  refine ⟨T7, X7, e7, fun target kt => ?_⟩
  show Steps p.tables e below (T0.setTop (mkF m 7 #[.val (.ref o0), s1, .val (.int i2)] [])) _
  refine XS.iloadN X0.here hx rfl (hb hby d7_7) rfl ?_
  show Steps p.tables e below (T0.setTop (mkF m 8 #[.val (.ref o0), s1, .val (.int i2)] [(.int i2)])) _
  refine XS.aloadN X0.here hx rfl (hb hby d7_8) rfl rfl ?_
  show Steps p.tables e below (T0.setTop (mkF m 9 #[.val (.ref o0), s1, .val (.int i2)] [(.ref o0), (.int i2)])) _
  refine st3 _ ?_
  show Steps p.tables e below (T3.setTop (mkF m 12 #[.val (.ref o0), s1, .val (.int i2)] [(.int w2), (.int i2)])) _
  refine XS.icmpNo X3.here hx rfl (hb hby d7_12) rfl (tlt hc12).2.1 ?_
  show Steps p.tables e below (T3.setTop (mkF m 15 #[.val (.ref o0), s1, .val (.int i2)] [])) _
  refine XS.aloadN X3.here hx rfl (hb hby d7_15) rfl rfl ?_
  show Steps p.tables e below (T3.setTop (mkF m 16 #[.val (.ref o0), s1, .val (.int i2)] [(.ref o0)])) _
  refine st5 _ ?_
  show Steps p.tables e below (T5.setTop (mkF m 19 #[.val (.ref o0), s1, .val (.int i2)] [(.ref w4)])) _
  refine XS.iloadN X5.here hx rfl (hb hby d7_19) rfl ?_
  show Steps p.tables e below (T5.setTop (mkF m 20 #[.val (.ref o0), s1, .val (.int i2)] [(.int i2), (.ref w4)])) _
  refine X5.caload hx (j := i2) (v := (.int w6)) (by rw [e5]; exact Ar_w4.1) (State.isArrayOf_alike hZ.alike Ar_w4.2.1) Ar_w4.2.2 hin20 hat20 (g := (mkF m 20 #[.val (.ref o0), s1, .val (.int i2)] [(.int i2), (.ref w4)])) rfl rfl (hb hby d7_20) _ ?_
  show Steps p.tables e below (T5.setTop (mkF m 21 #[.val (.ref o0), s1, .val (.int i2)] [(.int w6)])) _
  refine XS.aloadN X5.here hx rfl (hb hby d7_21) rfl rfl ?_
  show Steps p.tables e below (T5.setTop (mkF m 22 #[.val (.ref o0), s1, .val (.int i2)] [(.ref o0), (.int w6)])) _
  refine st7 _ ?_
  show Steps p.tables e below (T7.setTop (mkF m 25 #[.val (.ref o0), s1, .val (.int i2)] [(.ref w4), (.int w6)])) _
  refine XS.iloadN X7.here hx rfl (hb hby d7_25) rfl ?_
  show Steps p.tables e below (T7.setTop (mkF m 26 #[.val (.ref o0), s1, .val (.int i2)] [(.int i2), (.ref w4), (.int w6)])) _
  refine XS.iconst X7.here hx rfl (hb hby d7_26) ?_
  show Steps p.tables e below (T7.setTop (mkF m 27 #[.val (.ref o0), s1, .val (.int i2)] [(.int (1 : Int32)), (.int i2), (.ref w4), (.int w6)])) _
  refine XS.isub X7.here hx rfl (hb hby d7_27) rfl ?_
  show Steps p.tables e below (T7.setTop (mkF m 28 #[.val (.ref o0), s1, .val (.int i2)] [(.int (i2 - (1 : Int32))), (.ref w4), (.int w6)])) _
  refine X7.caload hx (j := (i2 - (1 : Int32))) (v := (.int w8)) (by rw [e7]; exact Ar_w4.1) (State.isArrayOf_alike hZ.alike Ar_w4.2.1) Ar_w4.2.2 hin28 hat28 (g := (mkF m 28 #[.val (.ref o0), s1, .val (.int i2)] [(.int (i2 - (1 : Int32))), (.ref w4), (.int w6)])) rfl rfl (hb hby d7_28) _ ?_
  show Steps p.tables e below (T7.setTop (mkF m 29 #[.val (.ref o0), s1, .val (.int i2)] [(.int w8), (.int w6)])) _
  refine XS.iconst X7.here hx rfl (hb hby d7_29) ?_
  show Steps p.tables e below (T7.setTop (mkF m 30 #[.val (.ref o0), s1, .val (.int i2)] [(.int (1 : Int32)), (.int w8), (.int w6)])) _
  refine XS.iadd X7.here hx rfl (hb hby d7_30) rfl ?_
  show Steps p.tables e below (T7.setTop (mkF m 31 #[.val (.ref o0), s1, .val (.int i2)] [(.int (w8 + (1 : Int32))), (.int w6)])) _
  refine XS.icmpYes X7.here hx rfl (pc0 := 31) (pc' := 37) rfl (hb hby d7_31) rfl (feq hc31).2 (by decide) (by decide) ?_
  show Steps p.tables e below (T7.setTop (mkF m 37 #[.val (.ref o0), s1, .val (.int i2)] [])) _
  refine XS.iinc X7.here hx rfl (hb hby d7_37) rfl (l' := #[.val (.ref o0), s1, .val (.int (i2 + (1 : Int32)))]) rfl ?_
  show Steps p.tables e below (T7.setTop (mkF m 40 #[.val (.ref o0), s1, .val (.int (i2 + (1 : Int32)))] [])) _
  refine XS.goto X7.here hx rfl (pc0 := 40) (pc' := 7) rfl (hb hby d7_40) (by decide) (by decide) ?_
  exact kt
set_option maxRecDepth 65536 in
set_option maxHeartbeats 40000000 in
theorem tn7_7_43 {p : Program} {l : Launch} {e : Env} {R : Room} {s : State} {m : MethodId} {args : Array Value} {below : List Frame} {meth : Method} {c : Code} {T0 : State} {locs : List Loc} {cells slots : Nat} {Z : State} {a0 : Array Value} {h0 : Heap} (o0 : Addr) (s1 : Slot) (i2 : Int32) (w2 : Int32)
    (X0 : Stand p l e R s m args below meth c T0 locs cells slots) (hx : p.tables.exec = Jvm.exec) (hZ : Z.Warmed39 s.vm) (hw : ∀ d ∈ tables_1, d.before a0 Z = true) (hby : c.code = prog_1_method_26_code) (hml : c.maxLocals = 3) (hown : s.vm.findClass "bitcove/ArrayContainer" = some m.cls) (e0 : T0.heap = h0) (F_cardinality_o0 : Fld Z h0 o0 "bitcove/ArrayContainer" "cardinality" "I" (.int w2)) (hc12 : ¬ (i2 < w2)) :
    ∃ (T' : State), Stand p l e R s m args below meth c T' locs cells slots ∧ T'.heap = h0 ∧
      ∀ target, Steps p.tables e below (T'.setTop (mkF m 43 #[.val (.ref o0), s1, .val (.int i2)] [])) target → Steps p.tables e below (T0.setTop (mkF m 7 #[.val (.ref o0), s1, .val (.int i2)] [])) target := by
  obtain ⟨T3, X3, e3, st3⟩ := getF X0 hx hZ hown (host := "") (Or.inl (hw _ (List.mem_of_getElem? (i := 33) rfl))) Via.refl e0 F_cardinality_o0 (g := (mkF m 9 #[.val (.ref o0), s1, .val (.int i2)] [(.ref o0), (.int i2)])) rfl rfl (hb hby d7_9)
  refine ⟨T3, X3, e3, fun target kt => ?_⟩
  show Steps p.tables e below (T0.setTop (mkF m 7 #[.val (.ref o0), s1, .val (.int i2)] [])) _
  refine XS.iloadN X0.here hx rfl (hb hby d7_7) rfl ?_
  show Steps p.tables e below (T0.setTop (mkF m 8 #[.val (.ref o0), s1, .val (.int i2)] [(.int i2)])) _
  refine XS.aloadN X0.here hx rfl (hb hby d7_8) rfl rfl ?_
  show Steps p.tables e below (T0.setTop (mkF m 9 #[.val (.ref o0), s1, .val (.int i2)] [(.ref o0), (.int i2)])) _
  refine st3 _ ?_
  show Steps p.tables e below (T3.setTop (mkF m 12 #[.val (.ref o0), s1, .val (.int i2)] [(.int w2), (.int i2)])) _
  refine XS.icmpYes X3.here hx rfl (pc0 := 12) (pc' := 43) rfl (hb hby d7_12) rfl (flt hc12).2.1 (by decide) (by decide) ?_
  exact kt
theorem loop7 {p : Program} {l : Launch} {e : Env} {R : Room} {s : State} {m : MethodId} {args : Array Value} {below : List Frame} {meth : Method} {c : Code} {locs : List Loc} {cells slots : Nat} {Z : State} {a0 : Array Value} {h0 : Heap} (o0 w4 : Addr) (kc : ClassId) (z : Int32) (vs : List Value) (x : Nat → Int32) (cnt : Nat) (hcnt : cnt ≤ 1000)
    (hx : p.tables.exec = Jvm.exec) (hZ : Z.Warmed39 s.vm) (hw : ∀ d ∈ tables_1, d.before a0 Z = true) (hby : c.code = prog_1_method_26_code) (hml : c.maxLocals = 3) (hown : s.vm.findClass "bitcove/ArrayContainer" = some m.cls)
    (B : AC Z h0 o0 w4 kc z vs (Int32.ofNat cnt)) (hz : cnt ≤ z.toNatClampNeg) (hv : ∀ i, i < cnt → vs.getD i (.int (0 : Int32)) = .int (x i)) :
    ∀ (k i : Nat) (r : Int32) (T0 : State), 1 ≤ i → i ≤ 1001 → (i + k = cnt ∨ (k = 0 ∧ cnt ≤ i)) → Stand p l e R s m args below meth c T0 locs cells slots → T0.heap = h0 →
    ∃ (T' : State) (i' : Int32), Stand p l e R s m args below meth c T' locs cells slots ∧ T'.heap = h0 ∧
      ∀ target, Steps p.tables e below (T'.setTop (mkF m 43 #[.val (.ref o0), .val (.int (runs x k i r)), .val (.int i')] [])) target → Steps p.tables e below (T0.setTop (mkF m 7 #[.val (.ref o0), .val (.int r), .val (.int (Int32.ofNat i))] [])) target := by
  obtain ⟨EB, FV, FC, V, hne⟩ := B
  obtain ⟨cl, Ar, qk, S, N, H, G⟩ := V
  intro k
  induction k with
  | zero =>
    intro i r T0 h1 h1' h2 X0 e0
    obtain ⟨T', X', e', st⟩ := tn7_7_43 (T0 := T0) o0 (.val (.int r)) (Int32.ofNat i) (Int32.ofNat cnt) X0 hx hZ hw hby hml hown e0 FC (fun q => by
      rw [own_lt i cnt (by omega) (by omega)] at q; omega)
    exact ⟨T', _, X', e', st⟩
  | succ k ih =>
    intro i r T0 h1 h1' h2 X0 e0
    have hi : i < cnt := by omega
    obtain ⟨j, rfl⟩ : ∃ j, i = j + 1 := ⟨i - 1, by omega⟩
    have c1 := own_clamp (j + 1) (by omega)
    have c0 := own_clamp j (by omega)
    have hin : ∀ y : Nat, y < cnt → ¬ (Int32.ofNat y < 0 ∨ cl.slots.size ≤ (Int32.ofNat y).toNatClampNeg) := fun y hy => by
      rw [own_clamp y (by omega), S, Int32.lt_iff_toInt_lt, own_ofNat y (by omega), show (0 : Int32).toInt = 0 by decide]; omega
    have hat : ∀ y : Nat, y < cnt → cl.slots[(Int32.ofNat y).toNatClampNeg]? = some (.int (x y)) := fun y hy => by
      rw [own_clamp y (by omega), H y (by omega), hv y hy]
    have hp := own_pred j (by omega)
    have hs := own_succ (j + 1) (by omega)
    have hc12 : Int32.ofNat (j + 1) < Int32.ofNat cnt := (own_lt _ _ (by omega) (by omega)).mpr hi
    by_cases hq : x (j + 1) = x j + 1
    · obtain ⟨T1, X1, e1, st1⟩ := tn7_eq (T0 := T0) o0 r (Int32.ofNat (j + 1)) (Int32.ofNat cnt) w4 (x (j + 1)) cl (x j) X0 hx hZ hw hby hml hown e0 FC FV Ar (hin _ hi) (hat _ hi) (by rw [hp]; exact hin j (by omega)) (by rw [hp]; exact hat j (by omega)) hc12 hq
      rw [hs] at st1
      obtain ⟨T2, i2, X2, e2, st2⟩ := ih (j + 1 + 1) (r + (-1 : Int32)) T1 (by omega) (by omega) (by omega) X1 e1
      refine ⟨T2, i2, X2, e2, fun target kt => st1 target (st2 target ?_)⟩
      have hr : runs x (k + 1) (j + 1) r = runs x k (j + 1 + 1) (r + (-1 : Int32)) := by simp only [runs, Nat.add_sub_cancel, hq, if_true]
      rw [← hr]; exact kt
    · obtain ⟨T1, X1, e1, st1⟩ := tn7_ne (T0 := T0) o0 (.val (.int r)) (Int32.ofNat (j + 1)) (Int32.ofNat cnt) w4 (x (j + 1)) cl (x j) X0 hx hZ hw hby hml hown e0 FC FV Ar (hin _ hi) (hat _ hi) (by rw [hp]; exact hin j (by omega)) (by rw [hp]; exact hat j (by omega)) hc12 hq
      rw [hs] at st1
      obtain ⟨T2, i2, X2, e2, st2⟩ := ih (j + 1 + 1) r T1 (by omega) (by omega) (by omega) X1 e1
      refine ⟨T2, i2, X2, e2, fun target kt => st1 target (st2 target ?_)⟩
      have hr : runs x (k + 1) (j + 1) r = runs x k (j + 1 + 1) r := by simp only [runs, Nat.add_sub_cancel, hq, if_false]
      rw [← hr]; exact kt
def Q7 (Z : State) (x : Nat → Int32) (cnt : Nat) (w2 : Int32) (h0 : Heap) (n0 : Nat) (v : Option Value) (h : Heap) (L : List Loc) : Prop := v = some (.int (runs x (cnt - 1) 1 w2)) ∧ Fr n0 L ∧ h = h0
theorem d7_0 : decode prog_1_method_26_code 0 = .ok (.aload_n 0, 1) := by decide +kernel
theorem d7_1 : decode prog_1_method_26_code 1 = .ok (.getfield 16, 3) := by decide +kernel
theorem d7_4 : decode prog_1_method_26_code 4 = .ok (.istore_n 1, 1) := by decide +kernel
theorem d7_5 : decode prog_1_method_26_code 5 = .ok (.iconst 1, 1) := by decide +kernel
theorem d7_6 : decode prog_1_method_26_code 6 = .ok (.istore_n 2, 1) := by decide +kernel
theorem d7_43 : decode prog_1_method_26_code 43 = .ok (.iload_n 1, 1) := by decide +kernel
theorem d7_44 : decode prog_1_method_26_code 44 = .ok (.ireturn, 1) := by decide +kernel
theorem pn_7 : plainName "bitcove/ArrayContainer" = true := by first | (simp [plainName, overriddenIn]; done) | decide +kernel
theorem ef_7 (m : MethodId) (x0 : Addr) : entryFrame m #[(.ref x0)] 3 = mkF m 0 #[.val (.ref x0), .unset, .unset] [] := by first | (simp [entryFrame, mkF, argsToLocals, Value.category]; done) | rfl
set_option maxRecDepth 65536 in
set_option maxHeartbeats 40000000 in
theorem rm7 (l : Launch) (Z : State) (a0 : Array Value) (hw : ∀ d ∈ tables_1, d.before a0 Z = true) (ws : List Jvm.Cond) (a1 : Addr) (w2 : Int32) (t : Addr) (kc : ClassId) (z : Int32) (vs : List Value) (x : Nat → Int32) (cnt : Nat) (h0 : Heap) (n0 : Nat) (Z0 : n0 ≤ h0.size) (B : AC Z h0 a1 t kc z vs w2) (hw2 : w2 = Int32.ofNat cnt) (hcnt : cnt ≤ 1000) (hz : cnt ≤ z.toNatClampNeg) (hv : ∀ i, i < cnt → vs.getD i (.int (0 : Int32)) = .int (x i)) :
    MetFree l (⟨"bitcove/ArrayContainer", "runCount", "()I"⟩ : MethodName) (head1 (Jvm.Cond.code (⟨"bitcove/ArrayContainer", "runCount", "()I"⟩ : MethodName) prog_1_method_26_code 3 (some .int) :: ws) ({ frames := 0, cells := 0, slots := 0, locals := 0 } : Room)) (fun a U => a = #[(.ref a1)] ∧ Z.Warmed39 U.vm ∧ U.heap = h0) (fun _ _ _ _ _ => True) (fun _ U o U' => ∃ v L, o = .returned v ∧ Q7 Z x cnt w2 h0 n0 v U'.heap L ∧ FrameEnd U o U' L ({ frames := 0, cells := 0, slots := 0, locals := 0 } : Room).cells ({ frames := 0, cells := 0, slots := 0, locals := 0 } : Room).slots) := by
  refine MetFree.of_bodySF (plainFor_of_name pn_7) hisR ?_
  intro p e s m args below meth c s₁ Bd hml0 hP hK
  obtain ⟨rfl, hZ, hh⟩ := hP
  have hx := Bd.exec
  have hby := Bd.bytes
  have hml : c.maxLocals = 3 := hml0
  have hown : s.vm.findClass "bitcove/ArrayContainer" = some m.cls := findClass_of_methodNamed Bd.named
  have hnm := (name_of_methodNamed Bd.named Bd.method).1
  have X0 : Stand p l e ({ frames := 0, cells := 0, slots := 0, locals := 0 } : Room) s m #[(.ref a1)] below meth c s₁ [] 0 0 := Stand.of_body Bd
  have e0 : s₁.heap = h0 := by rw [← hh, Bd.state]; rfl
  have N0 := Fr.nil n0
  have F_cardinality_a1 := B.2.2.1
  have pre0 : ∀ t, Steps p.tables e below (s₁.setTop (mkF m 0 #[.val (.ref a1), .unset, .unset] [])) t → Steps p.tables e below (s₁.setTop (entryFrame m #[(.ref a1)] 3)) t := fun t k => castTop (ef_7 m a1) k
  obtain ⟨T3, X3, e3, st3⟩ := getF X0 hx hZ hown (host := "") (Or.inl (hw _ (List.mem_of_getElem? (i := 33) rfl))) Via.refl e0 F_cardinality_a1 (g := (mkF m 1 #[.val (.ref a1), .unset, .unset] [(.ref a1)])) rfl rfl (hb hby d7_1)
  obtain ⟨T4, i4, X4, e4, st4⟩ := loop7 a1 t kc z vs x cnt hcnt hx hZ hw hby hml hown (hw2 ▸ B) hz hv (cnt - 1) 1 w2 T3 (by omega) (by omega) (by omega) X3 e3
  obtain ⟨fs, hr, hrun, hended, hW, hsame⟩ := X4.leave (v := some (.int (runs x (cnt - 1) 1 w2))) (fun h => by rw [Bd.returns] at h; cases h)
  refine ⟨_, _, pre0 _ ?_, hrun, hended, _, _, rfl, ?_, ⟨_, rfl⟩, hW, hsame.mono (by decide) (by decide)⟩
  · show Steps p.tables e below (s₁.setTop (mkF m 0 #[.val (.ref a1), .unset, .unset] [])) _
    refine XS.aloadN X0.here hx rfl (hb hby d7_0) rfl rfl ?_
    show Steps p.tables e below (s₁.setTop (mkF m 1 #[.val (.ref a1), .unset, .unset] [(.ref a1)])) _
    refine st3 _ ?_
    show Steps p.tables e below (T3.setTop (mkF m 4 #[.val (.ref a1), .unset, .unset] [(.int w2)])) _
    refine XS.istoreN X3.here hx rfl (hb hby d7_4) rfl (l' := #[.val (.ref a1), .val (.int w2), .unset]) rfl ?_
    show Steps p.tables e below (T3.setTop (mkF m 5 #[.val (.ref a1), .val (.int w2), .unset] [])) _
    refine XS.iconst X3.here hx rfl (hb hby d7_5) ?_
    show Steps p.tables e below (T3.setTop (mkF m 6 #[.val (.ref a1), .val (.int w2), .unset] [(.int (1 : Int32))])) _
    refine XS.istoreN X3.here hx rfl (hb hby d7_6) rfl (l' := #[.val (.ref a1), .val (.int w2), .val (.int (1 : Int32))]) rfl ?_
    show Steps p.tables e below (T3.setTop (mkF m 7 #[.val (.ref a1), .val (.int w2), .val (.int (1 : Int32))] [])) _
    refine st4 _ ?_
    show Steps p.tables e below (T4.setTop (mkF m 43 #[.val (.ref a1), .val (.int (runs x (cnt - 1) 1 w2)), .val (.int i4)] [])) _
    refine XS.iloadN X4.here hx rfl (hb hby d7_43) rfl ?_
    show Steps p.tables e below (T4.setTop (mkF m 44 #[.val (.ref a1), .val (.int (runs x (cnt - 1) 1 w2)), .val (.int i4)] [(.int (runs x (cnt - 1) 1 w2))])) _
    exact retI X4 hx Bd.returns (hb hby d7_44) hr
  · show Q7 Z x cnt w2 h0 n0 _ T4.heap _
    rw [e4]
    exact ⟨rfl, N0, rfl⟩
set_option maxRecDepth 65536 in
set_option maxHeartbeats 40000000 in
theorem sg_0 {p : Program} {l : Launch} {e : Env} {R : Room} {s : State} {m : MethodId} {args : Array Value} {below : List Frame} {meth : Method} {c : Code} {T : State} {locs : List Loc} {cells slots : Nat} {Z : State} {a0 : Array Value} (p1 p2 : Int32) (q3 : Int64) (X : Stand p l e R s m args below meth c T locs cells slots) (hx : p.tables.exec = Jvm.exec) (hZ : Z.Warmed39 s.vm) (hw : ∀ d ∈ tables_1, d.before a0 Z = true) (hby : c.code = code) (hown : s.vm.findClass "bitcove/ArrayContainerRunCountPinLaw" = some m.cls) :
    ∀ target, Steps p.tables e below (T.setTop (mkF m 50 #[.val (.int p1), .val (.int p2), .val (.long q3), .second, .val (.int (NF p1)), .val (.int (G0 q3)), .val (.int (G1 q3)), .val (.int (G2 q3)), .val (.int (G3 q3)), .unset, .unset, .unset, .unset, .unset, .unset, .unset, .unset, .unset, .unset, .unset, .unset] [])) target → Steps p.tables e below (T.setTop (mkF m 0 #[.val (.int p1), .val (.int p2), .val (.long q3), .second, .unset, .unset, .unset, .unset, .unset, .unset, .unset, .unset, .unset, .unset, .unset, .unset, .unset, .unset, .unset, .unset, .unset] [])) target := by
  intro target kt
  have hnz6 : ¬ ((6 : Int32) = (0 : Int32)) := by decide
  refine XS.iloadN X.here hx rfl (hb hby at_0) rfl ?_
  show Steps p.tables e below (T.setTop (mkF m 1 #[.val (.int p1), .val (.int p2), .val (.long q3), .second, .unset, .unset, .unset, .unset, .unset, .unset, .unset, .unset, .unset, .unset, .unset, .unset, .unset, .unset, .unset, .unset, .unset] [(.int p1)])) _
  refine X.ldcInt hx hown (mvT hZ (hw _ (List.mem_of_getElem? (i := 0) rfl))) (g := (mkF m 1 #[.val (.int p1), .val (.int p2), .val (.long q3), .second, .unset, .unset, .unset, .unset, .unset, .unset, .unset, .unset, .unset, .unset, .unset, .unset, .unset, .unset, .unset, .unset, .unset] [(.int p1)])) rfl (hb hby at_1) _ ?_
  show Steps p.tables e below (T.setTop (mkF m 3 #[.val (.int p1), .val (.int p2), .val (.long q3), .second, .unset, .unset, .unset, .unset, .unset, .unset, .unset, .unset, .unset, .unset, .unset, .unset, .unset, .unset, .unset, .unset, .unset] [(.int (2147483647 : Int32)), (.int p1)])) _
  refine XS.iand X.here hx rfl (hb hby at_3) rfl ?_
  show Steps p.tables e below (T.setTop (mkF m 4 #[.val (.int p1), .val (.int p2), .val (.long q3), .second, .unset, .unset, .unset, .unset, .unset, .unset, .unset, .unset, .unset, .unset, .unset, .unset, .unset, .unset, .unset, .unset, .unset] [(.int (p1 &&& (2147483647 : Int32)))])) _
  refine XS.bipush X.here hx rfl (hb hby at_4) ?_
  show Steps p.tables e below (T.setTop (mkF m 6 #[.val (.int p1), .val (.int p2), .val (.long q3), .second, .unset, .unset, .unset, .unset, .unset, .unset, .unset, .unset, .unset, .unset, .unset, .unset, .unset, .unset, .unset, .unset, .unset] [(.int (6 : Int32)), (.int (p1 &&& (2147483647 : Int32)))])) _
  refine XS.irem X.here hx rfl (hb hby at_6) rfl hnz6 ?_
  show Steps p.tables e below (T.setTop (mkF m 7 #[.val (.int p1), .val (.int p2), .val (.long q3), .second, .unset, .unset, .unset, .unset, .unset, .unset, .unset, .unset, .unset, .unset, .unset, .unset, .unset, .unset, .unset, .unset, .unset] [(.int (NF p1))])) _
  refine XS.istore X.here hx rfl (hb hby at_7) rfl (l' := #[.val (.int p1), .val (.int p2), .val (.long q3), .second, .val (.int (NF p1)), .unset, .unset, .unset, .unset, .unset, .unset, .unset, .unset, .unset, .unset, .unset, .unset, .unset, .unset, .unset, .unset]) rfl ?_
  show Steps p.tables e below (T.setTop (mkF m 9 #[.val (.int p1), .val (.int p2), .val (.long q3), .second, .val (.int (NF p1)), .unset, .unset, .unset, .unset, .unset, .unset, .unset, .unset, .unset, .unset, .unset, .unset, .unset, .unset, .unset, .unset] [])) _
  refine XS.lloadN X.here hx rfl (hb hby at_9) rfl ?_
  show Steps p.tables e below (T.setTop (mkF m 10 #[.val (.int p1), .val (.int p2), .val (.long q3), .second, .val (.int (NF p1)), .unset, .unset, .unset, .unset, .unset, .unset, .unset, .unset, .unset, .unset, .unset, .unset, .unset, .unset, .unset, .unset] [(.long q3)])) _
  refine X.ldc2Long hx hown (mvT hZ (hw _ (List.mem_of_getElem? (i := 1) rfl))) (g := (mkF m 10 #[.val (.int p1), .val (.int p2), .val (.long q3), .second, .val (.int (NF p1)), .unset, .unset, .unset, .unset, .unset, .unset, .unset, .unset, .unset, .unset, .unset, .unset, .unset, .unset, .unset, .unset] [(.long q3)])) rfl (hb hby at_10) _ ?_
  show Steps p.tables e below (T.setTop (mkF m 13 #[.val (.int p1), .val (.int p2), .val (.long q3), .second, .val (.int (NF p1)), .unset, .unset, .unset, .unset, .unset, .unset, .unset, .unset, .unset, .unset, .unset, .unset, .unset, .unset, .unset, .unset] [(.long (4095 : Int64)), (.long q3)])) _
  refine XS.land X.here hx rfl (hb hby at_13) rfl ?_
  show Steps p.tables e below (T.setTop (mkF m 14 #[.val (.int p1), .val (.int p2), .val (.long q3), .second, .val (.int (NF p1)), .unset, .unset, .unset, .unset, .unset, .unset, .unset, .unset, .unset, .unset, .unset, .unset, .unset, .unset, .unset, .unset] [(.long (q3 &&& (4095 : Int64)))])) _
  refine XS.l2i X.here hx rfl (hb hby at_14) rfl ?_
  show Steps p.tables e below (T.setTop (mkF m 15 #[.val (.int p1), .val (.int p2), .val (.long q3), .second, .val (.int (NF p1)), .unset, .unset, .unset, .unset, .unset, .unset, .unset, .unset, .unset, .unset, .unset, .unset, .unset, .unset, .unset, .unset] [(.int (G0 q3))])) _
  refine XS.istore X.here hx rfl (hb hby at_15) rfl (l' := #[.val (.int p1), .val (.int p2), .val (.long q3), .second, .val (.int (NF p1)), .val (.int (G0 q3)), .unset, .unset, .unset, .unset, .unset, .unset, .unset, .unset, .unset, .unset, .unset, .unset, .unset, .unset, .unset]) rfl ?_
  show Steps p.tables e below (T.setTop (mkF m 17 #[.val (.int p1), .val (.int p2), .val (.long q3), .second, .val (.int (NF p1)), .val (.int (G0 q3)), .unset, .unset, .unset, .unset, .unset, .unset, .unset, .unset, .unset, .unset, .unset, .unset, .unset, .unset, .unset] [])) _
  refine XS.lloadN X.here hx rfl (hb hby at_17) rfl ?_
  show Steps p.tables e below (T.setTop (mkF m 18 #[.val (.int p1), .val (.int p2), .val (.long q3), .second, .val (.int (NF p1)), .val (.int (G0 q3)), .unset, .unset, .unset, .unset, .unset, .unset, .unset, .unset, .unset, .unset, .unset, .unset, .unset, .unset, .unset] [(.long q3)])) _
  refine XS.bipush X.here hx rfl (hb hby at_18) ?_
  show Steps p.tables e below (T.setTop (mkF m 20 #[.val (.int p1), .val (.int p2), .val (.long q3), .second, .val (.int (NF p1)), .val (.int (G0 q3)), .unset, .unset, .unset, .unset, .unset, .unset, .unset, .unset, .unset, .unset, .unset, .unset, .unset, .unset, .unset] [(.int (12 : Int32)), (.long q3)])) _
  refine XS.lushr X.here hx rfl (hb hby at_20) rfl ?_
  show Steps p.tables e below (T.setTop (mkF m 21 #[.val (.int p1), .val (.int p2), .val (.long q3), .second, .val (.int (NF p1)), .val (.int (G0 q3)), .unset, .unset, .unset, .unset, .unset, .unset, .unset, .unset, .unset, .unset, .unset, .unset, .unset, .unset, .unset] [(.long ((q3.toUInt64 >>> ((12 : Int32) &&& 0x3f).toInt64.toUInt64).toInt64))])) _
  refine X.ldc2Long hx hown (mvT hZ (hw _ (List.mem_of_getElem? (i := 1) rfl))) (g := (mkF m 21 #[.val (.int p1), .val (.int p2), .val (.long q3), .second, .val (.int (NF p1)), .val (.int (G0 q3)), .unset, .unset, .unset, .unset, .unset, .unset, .unset, .unset, .unset, .unset, .unset, .unset, .unset, .unset, .unset] [(.long ((q3.toUInt64 >>> ((12 : Int32) &&& 0x3f).toInt64.toUInt64).toInt64))])) rfl (hb hby at_21) _ ?_
  show Steps p.tables e below (T.setTop (mkF m 24 #[.val (.int p1), .val (.int p2), .val (.long q3), .second, .val (.int (NF p1)), .val (.int (G0 q3)), .unset, .unset, .unset, .unset, .unset, .unset, .unset, .unset, .unset, .unset, .unset, .unset, .unset, .unset, .unset] [(.long (4095 : Int64)), (.long ((q3.toUInt64 >>> ((12 : Int32) &&& 0x3f).toInt64.toUInt64).toInt64))])) _
  refine XS.land X.here hx rfl (hb hby at_24) rfl ?_
  show Steps p.tables e below (T.setTop (mkF m 25 #[.val (.int p1), .val (.int p2), .val (.long q3), .second, .val (.int (NF p1)), .val (.int (G0 q3)), .unset, .unset, .unset, .unset, .unset, .unset, .unset, .unset, .unset, .unset, .unset, .unset, .unset, .unset, .unset] [(.long (((q3.toUInt64 >>> ((12 : Int32) &&& 0x3f).toInt64.toUInt64).toInt64) &&& (4095 : Int64)))])) _
  refine XS.l2i X.here hx rfl (hb hby at_25) rfl ?_
  show Steps p.tables e below (T.setTop (mkF m 26 #[.val (.int p1), .val (.int p2), .val (.long q3), .second, .val (.int (NF p1)), .val (.int (G0 q3)), .unset, .unset, .unset, .unset, .unset, .unset, .unset, .unset, .unset, .unset, .unset, .unset, .unset, .unset, .unset] [(.int (G1 q3))])) _
  refine XS.istore X.here hx rfl (hb hby at_26) rfl (l' := #[.val (.int p1), .val (.int p2), .val (.long q3), .second, .val (.int (NF p1)), .val (.int (G0 q3)), .val (.int (G1 q3)), .unset, .unset, .unset, .unset, .unset, .unset, .unset, .unset, .unset, .unset, .unset, .unset, .unset, .unset]) rfl ?_
  show Steps p.tables e below (T.setTop (mkF m 28 #[.val (.int p1), .val (.int p2), .val (.long q3), .second, .val (.int (NF p1)), .val (.int (G0 q3)), .val (.int (G1 q3)), .unset, .unset, .unset, .unset, .unset, .unset, .unset, .unset, .unset, .unset, .unset, .unset, .unset, .unset] [])) _
  refine XS.lloadN X.here hx rfl (hb hby at_28) rfl ?_
  show Steps p.tables e below (T.setTop (mkF m 29 #[.val (.int p1), .val (.int p2), .val (.long q3), .second, .val (.int (NF p1)), .val (.int (G0 q3)), .val (.int (G1 q3)), .unset, .unset, .unset, .unset, .unset, .unset, .unset, .unset, .unset, .unset, .unset, .unset, .unset, .unset] [(.long q3)])) _
  refine XS.bipush X.here hx rfl (hb hby at_29) ?_
  show Steps p.tables e below (T.setTop (mkF m 31 #[.val (.int p1), .val (.int p2), .val (.long q3), .second, .val (.int (NF p1)), .val (.int (G0 q3)), .val (.int (G1 q3)), .unset, .unset, .unset, .unset, .unset, .unset, .unset, .unset, .unset, .unset, .unset, .unset, .unset, .unset] [(.int (24 : Int32)), (.long q3)])) _
  refine XS.lushr X.here hx rfl (hb hby at_31) rfl ?_
  show Steps p.tables e below (T.setTop (mkF m 32 #[.val (.int p1), .val (.int p2), .val (.long q3), .second, .val (.int (NF p1)), .val (.int (G0 q3)), .val (.int (G1 q3)), .unset, .unset, .unset, .unset, .unset, .unset, .unset, .unset, .unset, .unset, .unset, .unset, .unset, .unset] [(.long ((q3.toUInt64 >>> ((24 : Int32) &&& 0x3f).toInt64.toUInt64).toInt64))])) _
  refine X.ldc2Long hx hown (mvT hZ (hw _ (List.mem_of_getElem? (i := 1) rfl))) (g := (mkF m 32 #[.val (.int p1), .val (.int p2), .val (.long q3), .second, .val (.int (NF p1)), .val (.int (G0 q3)), .val (.int (G1 q3)), .unset, .unset, .unset, .unset, .unset, .unset, .unset, .unset, .unset, .unset, .unset, .unset, .unset, .unset] [(.long ((q3.toUInt64 >>> ((24 : Int32) &&& 0x3f).toInt64.toUInt64).toInt64))])) rfl (hb hby at_32) _ ?_
  show Steps p.tables e below (T.setTop (mkF m 35 #[.val (.int p1), .val (.int p2), .val (.long q3), .second, .val (.int (NF p1)), .val (.int (G0 q3)), .val (.int (G1 q3)), .unset, .unset, .unset, .unset, .unset, .unset, .unset, .unset, .unset, .unset, .unset, .unset, .unset, .unset] [(.long (4095 : Int64)), (.long ((q3.toUInt64 >>> ((24 : Int32) &&& 0x3f).toInt64.toUInt64).toInt64))])) _
  refine XS.land X.here hx rfl (hb hby at_35) rfl ?_
  show Steps p.tables e below (T.setTop (mkF m 36 #[.val (.int p1), .val (.int p2), .val (.long q3), .second, .val (.int (NF p1)), .val (.int (G0 q3)), .val (.int (G1 q3)), .unset, .unset, .unset, .unset, .unset, .unset, .unset, .unset, .unset, .unset, .unset, .unset, .unset, .unset] [(.long (((q3.toUInt64 >>> ((24 : Int32) &&& 0x3f).toInt64.toUInt64).toInt64) &&& (4095 : Int64)))])) _
  refine XS.l2i X.here hx rfl (hb hby at_36) rfl ?_
  show Steps p.tables e below (T.setTop (mkF m 37 #[.val (.int p1), .val (.int p2), .val (.long q3), .second, .val (.int (NF p1)), .val (.int (G0 q3)), .val (.int (G1 q3)), .unset, .unset, .unset, .unset, .unset, .unset, .unset, .unset, .unset, .unset, .unset, .unset, .unset, .unset] [(.int (G2 q3))])) _
  refine XS.istore X.here hx rfl (hb hby at_37) rfl (l' := #[.val (.int p1), .val (.int p2), .val (.long q3), .second, .val (.int (NF p1)), .val (.int (G0 q3)), .val (.int (G1 q3)), .val (.int (G2 q3)), .unset, .unset, .unset, .unset, .unset, .unset, .unset, .unset, .unset, .unset, .unset, .unset, .unset]) rfl ?_
  show Steps p.tables e below (T.setTop (mkF m 39 #[.val (.int p1), .val (.int p2), .val (.long q3), .second, .val (.int (NF p1)), .val (.int (G0 q3)), .val (.int (G1 q3)), .val (.int (G2 q3)), .unset, .unset, .unset, .unset, .unset, .unset, .unset, .unset, .unset, .unset, .unset, .unset, .unset] [])) _
  refine XS.lloadN X.here hx rfl (hb hby at_39) rfl ?_
  show Steps p.tables e below (T.setTop (mkF m 40 #[.val (.int p1), .val (.int p2), .val (.long q3), .second, .val (.int (NF p1)), .val (.int (G0 q3)), .val (.int (G1 q3)), .val (.int (G2 q3)), .unset, .unset, .unset, .unset, .unset, .unset, .unset, .unset, .unset, .unset, .unset, .unset, .unset] [(.long q3)])) _
  refine XS.bipush X.here hx rfl (hb hby at_40) ?_
  show Steps p.tables e below (T.setTop (mkF m 42 #[.val (.int p1), .val (.int p2), .val (.long q3), .second, .val (.int (NF p1)), .val (.int (G0 q3)), .val (.int (G1 q3)), .val (.int (G2 q3)), .unset, .unset, .unset, .unset, .unset, .unset, .unset, .unset, .unset, .unset, .unset, .unset, .unset] [(.int (36 : Int32)), (.long q3)])) _
  refine XS.lushr X.here hx rfl (hb hby at_42) rfl ?_
  show Steps p.tables e below (T.setTop (mkF m 43 #[.val (.int p1), .val (.int p2), .val (.long q3), .second, .val (.int (NF p1)), .val (.int (G0 q3)), .val (.int (G1 q3)), .val (.int (G2 q3)), .unset, .unset, .unset, .unset, .unset, .unset, .unset, .unset, .unset, .unset, .unset, .unset, .unset] [(.long ((q3.toUInt64 >>> ((36 : Int32) &&& 0x3f).toInt64.toUInt64).toInt64))])) _
  refine X.ldc2Long hx hown (mvT hZ (hw _ (List.mem_of_getElem? (i := 1) rfl))) (g := (mkF m 43 #[.val (.int p1), .val (.int p2), .val (.long q3), .second, .val (.int (NF p1)), .val (.int (G0 q3)), .val (.int (G1 q3)), .val (.int (G2 q3)), .unset, .unset, .unset, .unset, .unset, .unset, .unset, .unset, .unset, .unset, .unset, .unset, .unset] [(.long ((q3.toUInt64 >>> ((36 : Int32) &&& 0x3f).toInt64.toUInt64).toInt64))])) rfl (hb hby at_43) _ ?_
  show Steps p.tables e below (T.setTop (mkF m 46 #[.val (.int p1), .val (.int p2), .val (.long q3), .second, .val (.int (NF p1)), .val (.int (G0 q3)), .val (.int (G1 q3)), .val (.int (G2 q3)), .unset, .unset, .unset, .unset, .unset, .unset, .unset, .unset, .unset, .unset, .unset, .unset, .unset] [(.long (4095 : Int64)), (.long ((q3.toUInt64 >>> ((36 : Int32) &&& 0x3f).toInt64.toUInt64).toInt64))])) _
  refine XS.land X.here hx rfl (hb hby at_46) rfl ?_
  show Steps p.tables e below (T.setTop (mkF m 47 #[.val (.int p1), .val (.int p2), .val (.long q3), .second, .val (.int (NF p1)), .val (.int (G0 q3)), .val (.int (G1 q3)), .val (.int (G2 q3)), .unset, .unset, .unset, .unset, .unset, .unset, .unset, .unset, .unset, .unset, .unset, .unset, .unset] [(.long (((q3.toUInt64 >>> ((36 : Int32) &&& 0x3f).toInt64.toUInt64).toInt64) &&& (4095 : Int64)))])) _
  refine XS.l2i X.here hx rfl (hb hby at_47) rfl ?_
  show Steps p.tables e below (T.setTop (mkF m 48 #[.val (.int p1), .val (.int p2), .val (.long q3), .second, .val (.int (NF p1)), .val (.int (G0 q3)), .val (.int (G1 q3)), .val (.int (G2 q3)), .unset, .unset, .unset, .unset, .unset, .unset, .unset, .unset, .unset, .unset, .unset, .unset, .unset] [(.int (G3 q3))])) _
  refine XS.istore X.here hx rfl (hb hby at_48) rfl (l' := #[.val (.int p1), .val (.int p2), .val (.long q3), .second, .val (.int (NF p1)), .val (.int (G0 q3)), .val (.int (G1 q3)), .val (.int (G2 q3)), .val (.int (G3 q3)), .unset, .unset, .unset, .unset, .unset, .unset, .unset, .unset, .unset, .unset, .unset, .unset]) rfl ?_
  show Steps p.tables e below (T.setTop (mkF m 50 #[.val (.int p1), .val (.int p2), .val (.long q3), .second, .val (.int (NF p1)), .val (.int (G0 q3)), .val (.int (G1 q3)), .val (.int (G2 q3)), .val (.int (G3 q3)), .unset, .unset, .unset, .unset, .unset, .unset, .unset, .unset, .unset, .unset, .unset, .unset] [])) _
  exact kt
set_option maxRecDepth 65536 in
set_option maxHeartbeats 40000000 in
theorem sg_50 {p : Program} {l : Launch} {e : Env} {R : Room} {s : State} {m : MethodId} {args : Array Value} {below : List Frame} {meth : Method} {c : Code} {T : State} {locs : List Loc} {cells slots : Nat} {Z : State} {a0 : Array Value} (p1 p2 : Int32) (q3 : Int64) (X : Stand p l e R s m args below meth c T locs cells slots) (hx : p.tables.exec = Jvm.exec) (hZ : Z.Warmed39 s.vm) (hw : ∀ d ∈ tables_1, d.before a0 Z = true) (hby : c.code = code) (hown : s.vm.findClass "bitcove/ArrayContainerRunCountPinLaw" = some m.cls) :
    ∀ target, Steps p.tables e below (T.setTop (mkF m 65 #[.val (.int p1), .val (.int p2), .val (.long q3), .second, .val (.int (NF p1)), .val (.int (G0 q3)), .val (.int (G1 q3)), .val (.int (G2 q3)), .val (.int (G3 q3)), .val (.int (E0 p1 q3)), .unset, .unset, .unset, .unset, .unset, .unset, .unset, .unset, .unset, .unset, .unset] [])) target → Steps p.tables e below (T.setTop (mkF m 50 #[.val (.int p1), .val (.int p2), .val (.long q3), .second, .val (.int (NF p1)), .val (.int (G0 q3)), .val (.int (G1 q3)), .val (.int (G2 q3)), .val (.int (G3 q3)), .unset, .unset, .unset, .unset, .unset, .unset, .unset, .unset, .unset, .unset, .unset, .unset] [])) target := by
  intro target kt
  by_cases hc : (0 : Int32) < (NF p1) - (1 : Int32)
  case pos =>
    refine XS.iload X.here hx rfl (hb hby at_50) rfl ?_
    show Steps p.tables e below (T.setTop (mkF m 52 #[.val (.int p1), .val (.int p2), .val (.long q3), .second, .val (.int (NF p1)), .val (.int (G0 q3)), .val (.int (G1 q3)), .val (.int (G2 q3)), .val (.int (G3 q3)), .unset, .unset, .unset, .unset, .unset, .unset, .unset, .unset, .unset, .unset, .unset, .unset] [(.int (NF p1))])) _
    refine XS.iconst X.here hx rfl (hb hby at_52) ?_
    show Steps p.tables e below (T.setTop (mkF m 53 #[.val (.int p1), .val (.int p2), .val (.long q3), .second, .val (.int (NF p1)), .val (.int (G0 q3)), .val (.int (G1 q3)), .val (.int (G2 q3)), .val (.int (G3 q3)), .unset, .unset, .unset, .unset, .unset, .unset, .unset, .unset, .unset, .unset, .unset, .unset] [(.int (1 : Int32)), (.int (NF p1))])) _
    refine XS.isub X.here hx rfl (hb hby at_53) rfl ?_
    show Steps p.tables e below (T.setTop (mkF m 54 #[.val (.int p1), .val (.int p2), .val (.long q3), .second, .val (.int (NF p1)), .val (.int (G0 q3)), .val (.int (G1 q3)), .val (.int (G2 q3)), .val (.int (G3 q3)), .unset, .unset, .unset, .unset, .unset, .unset, .unset, .unset, .unset, .unset, .unset, .unset] [(.int ((NF p1) - (1 : Int32)))])) _
    refine XS.ifNo X.here hx rfl (hb hby at_54) rfl ((if0 _ _).trans (tlt hc).2.2.2) ?_
    show Steps p.tables e below (T.setTop (mkF m 57 #[.val (.int p1), .val (.int p2), .val (.long q3), .second, .val (.int (NF p1)), .val (.int (G0 q3)), .val (.int (G1 q3)), .val (.int (G2 q3)), .val (.int (G3 q3)), .unset, .unset, .unset, .unset, .unset, .unset, .unset, .unset, .unset, .unset, .unset, .unset] [])) _
    refine XS.iload X.here hx rfl (hb hby at_57) rfl ?_
    show Steps p.tables e below (T.setTop (mkF m 59 #[.val (.int p1), .val (.int p2), .val (.long q3), .second, .val (.int (NF p1)), .val (.int (G0 q3)), .val (.int (G1 q3)), .val (.int (G2 q3)), .val (.int (G3 q3)), .unset, .unset, .unset, .unset, .unset, .unset, .unset, .unset, .unset, .unset, .unset, .unset] [(.int (G0 q3))])) _
    refine XS.goto X.here hx rfl (pc0 := 59) (pc' := 63) rfl (hb hby at_59) (by decide) (by decide) ?_
    show Steps p.tables e below (T.setTop (mkF m 63 #[.val (.int p1), .val (.int p2), .val (.long q3), .second, .val (.int (NF p1)), .val (.int (G0 q3)), .val (.int (G1 q3)), .val (.int (G2 q3)), .val (.int (G3 q3)), .unset, .unset, .unset, .unset, .unset, .unset, .unset, .unset, .unset, .unset, .unset, .unset] [(.int (G0 q3))])) _
    refine XS.istore X.here hx rfl (hb hby at_63) rfl (l' := #[.val (.int p1), .val (.int p2), .val (.long q3), .second, .val (.int (NF p1)), .val (.int (G0 q3)), .val (.int (G1 q3)), .val (.int (G2 q3)), .val (.int (G3 q3)), .val (.int (G0 q3)), .unset, .unset, .unset, .unset, .unset, .unset, .unset, .unset, .unset, .unset, .unset]) rfl ?_
    rw [show E0 p1 q3 = (G0 q3) by rw [E0, if_pos hc]] at kt
    exact kt
  case neg =>
    refine XS.iload X.here hx rfl (hb hby at_50) rfl ?_
    show Steps p.tables e below (T.setTop (mkF m 52 #[.val (.int p1), .val (.int p2), .val (.long q3), .second, .val (.int (NF p1)), .val (.int (G0 q3)), .val (.int (G1 q3)), .val (.int (G2 q3)), .val (.int (G3 q3)), .unset, .unset, .unset, .unset, .unset, .unset, .unset, .unset, .unset, .unset, .unset, .unset] [(.int (NF p1))])) _
    refine XS.iconst X.here hx rfl (hb hby at_52) ?_
    show Steps p.tables e below (T.setTop (mkF m 53 #[.val (.int p1), .val (.int p2), .val (.long q3), .second, .val (.int (NF p1)), .val (.int (G0 q3)), .val (.int (G1 q3)), .val (.int (G2 q3)), .val (.int (G3 q3)), .unset, .unset, .unset, .unset, .unset, .unset, .unset, .unset, .unset, .unset, .unset, .unset] [(.int (1 : Int32)), (.int (NF p1))])) _
    refine XS.isub X.here hx rfl (hb hby at_53) rfl ?_
    show Steps p.tables e below (T.setTop (mkF m 54 #[.val (.int p1), .val (.int p2), .val (.long q3), .second, .val (.int (NF p1)), .val (.int (G0 q3)), .val (.int (G1 q3)), .val (.int (G2 q3)), .val (.int (G3 q3)), .unset, .unset, .unset, .unset, .unset, .unset, .unset, .unset, .unset, .unset, .unset, .unset] [(.int ((NF p1) - (1 : Int32)))])) _
    refine XS.ifYes X.here hx rfl (pc0 := 54) (pc' := 62) rfl (hb hby at_54) rfl ((if0 _ _).trans (flt hc).2.2.2) (by decide) (by decide) ?_
    show Steps p.tables e below (T.setTop (mkF m 62 #[.val (.int p1), .val (.int p2), .val (.long q3), .second, .val (.int (NF p1)), .val (.int (G0 q3)), .val (.int (G1 q3)), .val (.int (G2 q3)), .val (.int (G3 q3)), .unset, .unset, .unset, .unset, .unset, .unset, .unset, .unset, .unset, .unset, .unset, .unset] [])) _
    refine XS.iconst X.here hx rfl (hb hby at_62) ?_
    show Steps p.tables e below (T.setTop (mkF m 63 #[.val (.int p1), .val (.int p2), .val (.long q3), .second, .val (.int (NF p1)), .val (.int (G0 q3)), .val (.int (G1 q3)), .val (.int (G2 q3)), .val (.int (G3 q3)), .unset, .unset, .unset, .unset, .unset, .unset, .unset, .unset, .unset, .unset, .unset, .unset] [(.int (0 : Int32))])) _
    refine XS.istore X.here hx rfl (hb hby at_63) rfl (l' := #[.val (.int p1), .val (.int p2), .val (.long q3), .second, .val (.int (NF p1)), .val (.int (G0 q3)), .val (.int (G1 q3)), .val (.int (G2 q3)), .val (.int (G3 q3)), .val (.int (0 : Int32)), .unset, .unset, .unset, .unset, .unset, .unset, .unset, .unset, .unset, .unset, .unset]) rfl ?_
    rw [show E0 p1 q3 = (0 : Int32) by rw [E0, if_neg hc]] at kt
    exact kt
set_option maxRecDepth 65536 in
set_option maxHeartbeats 40000000 in
theorem sg_65 {p : Program} {l : Launch} {e : Env} {R : Room} {s : State} {m : MethodId} {args : Array Value} {below : List Frame} {meth : Method} {c : Code} {T : State} {locs : List Loc} {cells slots : Nat} {Z : State} {a0 : Array Value} (p1 p2 : Int32) (q3 : Int64) (X : Stand p l e R s m args below meth c T locs cells slots) (hx : p.tables.exec = Jvm.exec) (hZ : Z.Warmed39 s.vm) (hw : ∀ d ∈ tables_1, d.before a0 Z = true) (hby : c.code = code) (hown : s.vm.findClass "bitcove/ArrayContainerRunCountPinLaw" = some m.cls) :
    ∀ target, Steps p.tables e below (T.setTop (mkF m 81 #[.val (.int p1), .val (.int p2), .val (.long q3), .second, .val (.int (NF p1)), .val (.int (G0 q3)), .val (.int (G1 q3)), .val (.int (G2 q3)), .val (.int (G3 q3)), .val (.int (E0 p1 q3)), .val (.int (E1 p1 q3)), .unset, .unset, .unset, .unset, .unset, .unset, .unset, .unset, .unset, .unset] [])) target → Steps p.tables e below (T.setTop (mkF m 65 #[.val (.int p1), .val (.int p2), .val (.long q3), .second, .val (.int (NF p1)), .val (.int (G0 q3)), .val (.int (G1 q3)), .val (.int (G2 q3)), .val (.int (G3 q3)), .val (.int (E0 p1 q3)), .unset, .unset, .unset, .unset, .unset, .unset, .unset, .unset, .unset, .unset, .unset] [])) target := by
  intro target kt
  by_cases hc : (1 : Int32) < (NF p1) - (1 : Int32)
  case pos =>
    refine XS.iload X.here hx rfl (hb hby at_65) rfl ?_
    show Steps p.tables e below (T.setTop (mkF m 67 #[.val (.int p1), .val (.int p2), .val (.long q3), .second, .val (.int (NF p1)), .val (.int (G0 q3)), .val (.int (G1 q3)), .val (.int (G2 q3)), .val (.int (G3 q3)), .val (.int (E0 p1 q3)), .unset, .unset, .unset, .unset, .unset, .unset, .unset, .unset, .unset, .unset, .unset] [(.int (NF p1))])) _
    refine XS.iconst X.here hx rfl (hb hby at_67) ?_
    show Steps p.tables e below (T.setTop (mkF m 68 #[.val (.int p1), .val (.int p2), .val (.long q3), .second, .val (.int (NF p1)), .val (.int (G0 q3)), .val (.int (G1 q3)), .val (.int (G2 q3)), .val (.int (G3 q3)), .val (.int (E0 p1 q3)), .unset, .unset, .unset, .unset, .unset, .unset, .unset, .unset, .unset, .unset, .unset] [(.int (1 : Int32)), (.int (NF p1))])) _
    refine XS.isub X.here hx rfl (hb hby at_68) rfl ?_
    show Steps p.tables e below (T.setTop (mkF m 69 #[.val (.int p1), .val (.int p2), .val (.long q3), .second, .val (.int (NF p1)), .val (.int (G0 q3)), .val (.int (G1 q3)), .val (.int (G2 q3)), .val (.int (G3 q3)), .val (.int (E0 p1 q3)), .unset, .unset, .unset, .unset, .unset, .unset, .unset, .unset, .unset, .unset, .unset] [(.int ((NF p1) - (1 : Int32)))])) _
    refine XS.iconst X.here hx rfl (hb hby at_69) ?_
    show Steps p.tables e below (T.setTop (mkF m 70 #[.val (.int p1), .val (.int p2), .val (.long q3), .second, .val (.int (NF p1)), .val (.int (G0 q3)), .val (.int (G1 q3)), .val (.int (G2 q3)), .val (.int (G3 q3)), .val (.int (E0 p1 q3)), .unset, .unset, .unset, .unset, .unset, .unset, .unset, .unset, .unset, .unset, .unset] [(.int (1 : Int32)), (.int ((NF p1) - (1 : Int32)))])) _
    refine XS.icmpNo X.here hx rfl (hb hby at_70) rfl (tlt hc).2.2.2 ?_
    show Steps p.tables e below (T.setTop (mkF m 73 #[.val (.int p1), .val (.int p2), .val (.long q3), .second, .val (.int (NF p1)), .val (.int (G0 q3)), .val (.int (G1 q3)), .val (.int (G2 q3)), .val (.int (G3 q3)), .val (.int (E0 p1 q3)), .unset, .unset, .unset, .unset, .unset, .unset, .unset, .unset, .unset, .unset, .unset] [])) _
    refine XS.iload X.here hx rfl (hb hby at_73) rfl ?_
    show Steps p.tables e below (T.setTop (mkF m 75 #[.val (.int p1), .val (.int p2), .val (.long q3), .second, .val (.int (NF p1)), .val (.int (G0 q3)), .val (.int (G1 q3)), .val (.int (G2 q3)), .val (.int (G3 q3)), .val (.int (E0 p1 q3)), .unset, .unset, .unset, .unset, .unset, .unset, .unset, .unset, .unset, .unset, .unset] [(.int (G1 q3))])) _
    refine XS.goto X.here hx rfl (pc0 := 75) (pc' := 79) rfl (hb hby at_75) (by decide) (by decide) ?_
    show Steps p.tables e below (T.setTop (mkF m 79 #[.val (.int p1), .val (.int p2), .val (.long q3), .second, .val (.int (NF p1)), .val (.int (G0 q3)), .val (.int (G1 q3)), .val (.int (G2 q3)), .val (.int (G3 q3)), .val (.int (E0 p1 q3)), .unset, .unset, .unset, .unset, .unset, .unset, .unset, .unset, .unset, .unset, .unset] [(.int (G1 q3))])) _
    refine XS.istore X.here hx rfl (hb hby at_79) rfl (l' := #[.val (.int p1), .val (.int p2), .val (.long q3), .second, .val (.int (NF p1)), .val (.int (G0 q3)), .val (.int (G1 q3)), .val (.int (G2 q3)), .val (.int (G3 q3)), .val (.int (E0 p1 q3)), .val (.int (G1 q3)), .unset, .unset, .unset, .unset, .unset, .unset, .unset, .unset, .unset, .unset]) rfl ?_
    rw [show E1 p1 q3 = (G1 q3) by rw [E1, if_pos hc]] at kt
    exact kt
  case neg =>
    refine XS.iload X.here hx rfl (hb hby at_65) rfl ?_
    show Steps p.tables e below (T.setTop (mkF m 67 #[.val (.int p1), .val (.int p2), .val (.long q3), .second, .val (.int (NF p1)), .val (.int (G0 q3)), .val (.int (G1 q3)), .val (.int (G2 q3)), .val (.int (G3 q3)), .val (.int (E0 p1 q3)), .unset, .unset, .unset, .unset, .unset, .unset, .unset, .unset, .unset, .unset, .unset] [(.int (NF p1))])) _
    refine XS.iconst X.here hx rfl (hb hby at_67) ?_
    show Steps p.tables e below (T.setTop (mkF m 68 #[.val (.int p1), .val (.int p2), .val (.long q3), .second, .val (.int (NF p1)), .val (.int (G0 q3)), .val (.int (G1 q3)), .val (.int (G2 q3)), .val (.int (G3 q3)), .val (.int (E0 p1 q3)), .unset, .unset, .unset, .unset, .unset, .unset, .unset, .unset, .unset, .unset, .unset] [(.int (1 : Int32)), (.int (NF p1))])) _
    refine XS.isub X.here hx rfl (hb hby at_68) rfl ?_
    show Steps p.tables e below (T.setTop (mkF m 69 #[.val (.int p1), .val (.int p2), .val (.long q3), .second, .val (.int (NF p1)), .val (.int (G0 q3)), .val (.int (G1 q3)), .val (.int (G2 q3)), .val (.int (G3 q3)), .val (.int (E0 p1 q3)), .unset, .unset, .unset, .unset, .unset, .unset, .unset, .unset, .unset, .unset, .unset] [(.int ((NF p1) - (1 : Int32)))])) _
    refine XS.iconst X.here hx rfl (hb hby at_69) ?_
    show Steps p.tables e below (T.setTop (mkF m 70 #[.val (.int p1), .val (.int p2), .val (.long q3), .second, .val (.int (NF p1)), .val (.int (G0 q3)), .val (.int (G1 q3)), .val (.int (G2 q3)), .val (.int (G3 q3)), .val (.int (E0 p1 q3)), .unset, .unset, .unset, .unset, .unset, .unset, .unset, .unset, .unset, .unset, .unset] [(.int (1 : Int32)), (.int ((NF p1) - (1 : Int32)))])) _
    refine XS.icmpYes X.here hx rfl (pc0 := 70) (pc' := 78) rfl (hb hby at_70) rfl (flt hc).2.2.2 (by decide) (by decide) ?_
    show Steps p.tables e below (T.setTop (mkF m 78 #[.val (.int p1), .val (.int p2), .val (.long q3), .second, .val (.int (NF p1)), .val (.int (G0 q3)), .val (.int (G1 q3)), .val (.int (G2 q3)), .val (.int (G3 q3)), .val (.int (E0 p1 q3)), .unset, .unset, .unset, .unset, .unset, .unset, .unset, .unset, .unset, .unset, .unset] [])) _
    refine XS.iconst X.here hx rfl (hb hby at_78) ?_
    show Steps p.tables e below (T.setTop (mkF m 79 #[.val (.int p1), .val (.int p2), .val (.long q3), .second, .val (.int (NF p1)), .val (.int (G0 q3)), .val (.int (G1 q3)), .val (.int (G2 q3)), .val (.int (G3 q3)), .val (.int (E0 p1 q3)), .unset, .unset, .unset, .unset, .unset, .unset, .unset, .unset, .unset, .unset, .unset] [(.int (0 : Int32))])) _
    refine XS.istore X.here hx rfl (hb hby at_79) rfl (l' := #[.val (.int p1), .val (.int p2), .val (.long q3), .second, .val (.int (NF p1)), .val (.int (G0 q3)), .val (.int (G1 q3)), .val (.int (G2 q3)), .val (.int (G3 q3)), .val (.int (E0 p1 q3)), .val (.int (0 : Int32)), .unset, .unset, .unset, .unset, .unset, .unset, .unset, .unset, .unset, .unset]) rfl ?_
    rw [show E1 p1 q3 = (0 : Int32) by rw [E1, if_neg hc]] at kt
    exact kt
set_option maxRecDepth 65536 in
set_option maxHeartbeats 40000000 in
theorem sg_81 {p : Program} {l : Launch} {e : Env} {R : Room} {s : State} {m : MethodId} {args : Array Value} {below : List Frame} {meth : Method} {c : Code} {T : State} {locs : List Loc} {cells slots : Nat} {Z : State} {a0 : Array Value} (p1 p2 : Int32) (q3 : Int64) (X : Stand p l e R s m args below meth c T locs cells slots) (hx : p.tables.exec = Jvm.exec) (hZ : Z.Warmed39 s.vm) (hw : ∀ d ∈ tables_1, d.before a0 Z = true) (hby : c.code = code) (hown : s.vm.findClass "bitcove/ArrayContainerRunCountPinLaw" = some m.cls) :
    ∀ target, Steps p.tables e below (T.setTop (mkF m 97 #[.val (.int p1), .val (.int p2), .val (.long q3), .second, .val (.int (NF p1)), .val (.int (G0 q3)), .val (.int (G1 q3)), .val (.int (G2 q3)), .val (.int (G3 q3)), .val (.int (E0 p1 q3)), .val (.int (E1 p1 q3)), .val (.int (E2 p1 q3)), .unset, .unset, .unset, .unset, .unset, .unset, .unset, .unset, .unset] [])) target → Steps p.tables e below (T.setTop (mkF m 81 #[.val (.int p1), .val (.int p2), .val (.long q3), .second, .val (.int (NF p1)), .val (.int (G0 q3)), .val (.int (G1 q3)), .val (.int (G2 q3)), .val (.int (G3 q3)), .val (.int (E0 p1 q3)), .val (.int (E1 p1 q3)), .unset, .unset, .unset, .unset, .unset, .unset, .unset, .unset, .unset, .unset] [])) target := by
  intro target kt
  by_cases hc : (2 : Int32) < (NF p1) - (1 : Int32)
  case pos =>
    refine XS.iload X.here hx rfl (hb hby at_81) rfl ?_
    show Steps p.tables e below (T.setTop (mkF m 83 #[.val (.int p1), .val (.int p2), .val (.long q3), .second, .val (.int (NF p1)), .val (.int (G0 q3)), .val (.int (G1 q3)), .val (.int (G2 q3)), .val (.int (G3 q3)), .val (.int (E0 p1 q3)), .val (.int (E1 p1 q3)), .unset, .unset, .unset, .unset, .unset, .unset, .unset, .unset, .unset, .unset] [(.int (NF p1))])) _
    refine XS.iconst X.here hx rfl (hb hby at_83) ?_
    show Steps p.tables e below (T.setTop (mkF m 84 #[.val (.int p1), .val (.int p2), .val (.long q3), .second, .val (.int (NF p1)), .val (.int (G0 q3)), .val (.int (G1 q3)), .val (.int (G2 q3)), .val (.int (G3 q3)), .val (.int (E0 p1 q3)), .val (.int (E1 p1 q3)), .unset, .unset, .unset, .unset, .unset, .unset, .unset, .unset, .unset, .unset] [(.int (1 : Int32)), (.int (NF p1))])) _
    refine XS.isub X.here hx rfl (hb hby at_84) rfl ?_
    show Steps p.tables e below (T.setTop (mkF m 85 #[.val (.int p1), .val (.int p2), .val (.long q3), .second, .val (.int (NF p1)), .val (.int (G0 q3)), .val (.int (G1 q3)), .val (.int (G2 q3)), .val (.int (G3 q3)), .val (.int (E0 p1 q3)), .val (.int (E1 p1 q3)), .unset, .unset, .unset, .unset, .unset, .unset, .unset, .unset, .unset, .unset] [(.int ((NF p1) - (1 : Int32)))])) _
    refine XS.iconst X.here hx rfl (hb hby at_85) ?_
    show Steps p.tables e below (T.setTop (mkF m 86 #[.val (.int p1), .val (.int p2), .val (.long q3), .second, .val (.int (NF p1)), .val (.int (G0 q3)), .val (.int (G1 q3)), .val (.int (G2 q3)), .val (.int (G3 q3)), .val (.int (E0 p1 q3)), .val (.int (E1 p1 q3)), .unset, .unset, .unset, .unset, .unset, .unset, .unset, .unset, .unset, .unset] [(.int (2 : Int32)), (.int ((NF p1) - (1 : Int32)))])) _
    refine XS.icmpNo X.here hx rfl (hb hby at_86) rfl (tlt hc).2.2.2 ?_
    show Steps p.tables e below (T.setTop (mkF m 89 #[.val (.int p1), .val (.int p2), .val (.long q3), .second, .val (.int (NF p1)), .val (.int (G0 q3)), .val (.int (G1 q3)), .val (.int (G2 q3)), .val (.int (G3 q3)), .val (.int (E0 p1 q3)), .val (.int (E1 p1 q3)), .unset, .unset, .unset, .unset, .unset, .unset, .unset, .unset, .unset, .unset] [])) _
    refine XS.iload X.here hx rfl (hb hby at_89) rfl ?_
    show Steps p.tables e below (T.setTop (mkF m 91 #[.val (.int p1), .val (.int p2), .val (.long q3), .second, .val (.int (NF p1)), .val (.int (G0 q3)), .val (.int (G1 q3)), .val (.int (G2 q3)), .val (.int (G3 q3)), .val (.int (E0 p1 q3)), .val (.int (E1 p1 q3)), .unset, .unset, .unset, .unset, .unset, .unset, .unset, .unset, .unset, .unset] [(.int (G2 q3))])) _
    refine XS.goto X.here hx rfl (pc0 := 91) (pc' := 95) rfl (hb hby at_91) (by decide) (by decide) ?_
    show Steps p.tables e below (T.setTop (mkF m 95 #[.val (.int p1), .val (.int p2), .val (.long q3), .second, .val (.int (NF p1)), .val (.int (G0 q3)), .val (.int (G1 q3)), .val (.int (G2 q3)), .val (.int (G3 q3)), .val (.int (E0 p1 q3)), .val (.int (E1 p1 q3)), .unset, .unset, .unset, .unset, .unset, .unset, .unset, .unset, .unset, .unset] [(.int (G2 q3))])) _
    refine XS.istore X.here hx rfl (hb hby at_95) rfl (l' := #[.val (.int p1), .val (.int p2), .val (.long q3), .second, .val (.int (NF p1)), .val (.int (G0 q3)), .val (.int (G1 q3)), .val (.int (G2 q3)), .val (.int (G3 q3)), .val (.int (E0 p1 q3)), .val (.int (E1 p1 q3)), .val (.int (G2 q3)), .unset, .unset, .unset, .unset, .unset, .unset, .unset, .unset, .unset]) rfl ?_
    rw [show E2 p1 q3 = (G2 q3) by rw [E2, if_pos hc]] at kt
    exact kt
  case neg =>
    refine XS.iload X.here hx rfl (hb hby at_81) rfl ?_
    show Steps p.tables e below (T.setTop (mkF m 83 #[.val (.int p1), .val (.int p2), .val (.long q3), .second, .val (.int (NF p1)), .val (.int (G0 q3)), .val (.int (G1 q3)), .val (.int (G2 q3)), .val (.int (G3 q3)), .val (.int (E0 p1 q3)), .val (.int (E1 p1 q3)), .unset, .unset, .unset, .unset, .unset, .unset, .unset, .unset, .unset, .unset] [(.int (NF p1))])) _
    refine XS.iconst X.here hx rfl (hb hby at_83) ?_
    show Steps p.tables e below (T.setTop (mkF m 84 #[.val (.int p1), .val (.int p2), .val (.long q3), .second, .val (.int (NF p1)), .val (.int (G0 q3)), .val (.int (G1 q3)), .val (.int (G2 q3)), .val (.int (G3 q3)), .val (.int (E0 p1 q3)), .val (.int (E1 p1 q3)), .unset, .unset, .unset, .unset, .unset, .unset, .unset, .unset, .unset, .unset] [(.int (1 : Int32)), (.int (NF p1))])) _
    refine XS.isub X.here hx rfl (hb hby at_84) rfl ?_
    show Steps p.tables e below (T.setTop (mkF m 85 #[.val (.int p1), .val (.int p2), .val (.long q3), .second, .val (.int (NF p1)), .val (.int (G0 q3)), .val (.int (G1 q3)), .val (.int (G2 q3)), .val (.int (G3 q3)), .val (.int (E0 p1 q3)), .val (.int (E1 p1 q3)), .unset, .unset, .unset, .unset, .unset, .unset, .unset, .unset, .unset, .unset] [(.int ((NF p1) - (1 : Int32)))])) _
    refine XS.iconst X.here hx rfl (hb hby at_85) ?_
    show Steps p.tables e below (T.setTop (mkF m 86 #[.val (.int p1), .val (.int p2), .val (.long q3), .second, .val (.int (NF p1)), .val (.int (G0 q3)), .val (.int (G1 q3)), .val (.int (G2 q3)), .val (.int (G3 q3)), .val (.int (E0 p1 q3)), .val (.int (E1 p1 q3)), .unset, .unset, .unset, .unset, .unset, .unset, .unset, .unset, .unset, .unset] [(.int (2 : Int32)), (.int ((NF p1) - (1 : Int32)))])) _
    refine XS.icmpYes X.here hx rfl (pc0 := 86) (pc' := 94) rfl (hb hby at_86) rfl (flt hc).2.2.2 (by decide) (by decide) ?_
    show Steps p.tables e below (T.setTop (mkF m 94 #[.val (.int p1), .val (.int p2), .val (.long q3), .second, .val (.int (NF p1)), .val (.int (G0 q3)), .val (.int (G1 q3)), .val (.int (G2 q3)), .val (.int (G3 q3)), .val (.int (E0 p1 q3)), .val (.int (E1 p1 q3)), .unset, .unset, .unset, .unset, .unset, .unset, .unset, .unset, .unset, .unset] [])) _
    refine XS.iconst X.here hx rfl (hb hby at_94) ?_
    show Steps p.tables e below (T.setTop (mkF m 95 #[.val (.int p1), .val (.int p2), .val (.long q3), .second, .val (.int (NF p1)), .val (.int (G0 q3)), .val (.int (G1 q3)), .val (.int (G2 q3)), .val (.int (G3 q3)), .val (.int (E0 p1 q3)), .val (.int (E1 p1 q3)), .unset, .unset, .unset, .unset, .unset, .unset, .unset, .unset, .unset, .unset] [(.int (0 : Int32))])) _
    refine XS.istore X.here hx rfl (hb hby at_95) rfl (l' := #[.val (.int p1), .val (.int p2), .val (.long q3), .second, .val (.int (NF p1)), .val (.int (G0 q3)), .val (.int (G1 q3)), .val (.int (G2 q3)), .val (.int (G3 q3)), .val (.int (E0 p1 q3)), .val (.int (E1 p1 q3)), .val (.int (0 : Int32)), .unset, .unset, .unset, .unset, .unset, .unset, .unset, .unset, .unset]) rfl ?_
    rw [show E2 p1 q3 = (0 : Int32) by rw [E2, if_neg hc]] at kt
    exact kt
set_option maxRecDepth 65536 in
set_option maxHeartbeats 40000000 in
theorem sg_97 {p : Program} {l : Launch} {e : Env} {R : Room} {s : State} {m : MethodId} {args : Array Value} {below : List Frame} {meth : Method} {c : Code} {T : State} {locs : List Loc} {cells slots : Nat} {Z : State} {a0 : Array Value} (p1 p2 : Int32) (q3 : Int64) (X : Stand p l e R s m args below meth c T locs cells slots) (hx : p.tables.exec = Jvm.exec) (hZ : Z.Warmed39 s.vm) (hw : ∀ d ∈ tables_1, d.before a0 Z = true) (hby : c.code = code) (hown : s.vm.findClass "bitcove/ArrayContainerRunCountPinLaw" = some m.cls) :
    ∀ target, Steps p.tables e below (T.setTop (mkF m 113 #[.val (.int p1), .val (.int p2), .val (.long q3), .second, .val (.int (NF p1)), .val (.int (G0 q3)), .val (.int (G1 q3)), .val (.int (G2 q3)), .val (.int (G3 q3)), .val (.int (E0 p1 q3)), .val (.int (E1 p1 q3)), .val (.int (E2 p1 q3)), .val (.int (E3 p1 q3)), .unset, .unset, .unset, .unset, .unset, .unset, .unset, .unset] [])) target → Steps p.tables e below (T.setTop (mkF m 97 #[.val (.int p1), .val (.int p2), .val (.long q3), .second, .val (.int (NF p1)), .val (.int (G0 q3)), .val (.int (G1 q3)), .val (.int (G2 q3)), .val (.int (G3 q3)), .val (.int (E0 p1 q3)), .val (.int (E1 p1 q3)), .val (.int (E2 p1 q3)), .unset, .unset, .unset, .unset, .unset, .unset, .unset, .unset, .unset] [])) target := by
  intro target kt
  by_cases hc : (3 : Int32) < (NF p1) - (1 : Int32)
  case pos =>
    refine XS.iload X.here hx rfl (hb hby at_97) rfl ?_
    show Steps p.tables e below (T.setTop (mkF m 99 #[.val (.int p1), .val (.int p2), .val (.long q3), .second, .val (.int (NF p1)), .val (.int (G0 q3)), .val (.int (G1 q3)), .val (.int (G2 q3)), .val (.int (G3 q3)), .val (.int (E0 p1 q3)), .val (.int (E1 p1 q3)), .val (.int (E2 p1 q3)), .unset, .unset, .unset, .unset, .unset, .unset, .unset, .unset, .unset] [(.int (NF p1))])) _
    refine XS.iconst X.here hx rfl (hb hby at_99) ?_
    show Steps p.tables e below (T.setTop (mkF m 100 #[.val (.int p1), .val (.int p2), .val (.long q3), .second, .val (.int (NF p1)), .val (.int (G0 q3)), .val (.int (G1 q3)), .val (.int (G2 q3)), .val (.int (G3 q3)), .val (.int (E0 p1 q3)), .val (.int (E1 p1 q3)), .val (.int (E2 p1 q3)), .unset, .unset, .unset, .unset, .unset, .unset, .unset, .unset, .unset] [(.int (1 : Int32)), (.int (NF p1))])) _
    refine XS.isub X.here hx rfl (hb hby at_100) rfl ?_
    show Steps p.tables e below (T.setTop (mkF m 101 #[.val (.int p1), .val (.int p2), .val (.long q3), .second, .val (.int (NF p1)), .val (.int (G0 q3)), .val (.int (G1 q3)), .val (.int (G2 q3)), .val (.int (G3 q3)), .val (.int (E0 p1 q3)), .val (.int (E1 p1 q3)), .val (.int (E2 p1 q3)), .unset, .unset, .unset, .unset, .unset, .unset, .unset, .unset, .unset] [(.int ((NF p1) - (1 : Int32)))])) _
    refine XS.iconst X.here hx rfl (hb hby at_101) ?_
    show Steps p.tables e below (T.setTop (mkF m 102 #[.val (.int p1), .val (.int p2), .val (.long q3), .second, .val (.int (NF p1)), .val (.int (G0 q3)), .val (.int (G1 q3)), .val (.int (G2 q3)), .val (.int (G3 q3)), .val (.int (E0 p1 q3)), .val (.int (E1 p1 q3)), .val (.int (E2 p1 q3)), .unset, .unset, .unset, .unset, .unset, .unset, .unset, .unset, .unset] [(.int (3 : Int32)), (.int ((NF p1) - (1 : Int32)))])) _
    refine XS.icmpNo X.here hx rfl (hb hby at_102) rfl (tlt hc).2.2.2 ?_
    show Steps p.tables e below (T.setTop (mkF m 105 #[.val (.int p1), .val (.int p2), .val (.long q3), .second, .val (.int (NF p1)), .val (.int (G0 q3)), .val (.int (G1 q3)), .val (.int (G2 q3)), .val (.int (G3 q3)), .val (.int (E0 p1 q3)), .val (.int (E1 p1 q3)), .val (.int (E2 p1 q3)), .unset, .unset, .unset, .unset, .unset, .unset, .unset, .unset, .unset] [])) _
    refine XS.iload X.here hx rfl (hb hby at_105) rfl ?_
    show Steps p.tables e below (T.setTop (mkF m 107 #[.val (.int p1), .val (.int p2), .val (.long q3), .second, .val (.int (NF p1)), .val (.int (G0 q3)), .val (.int (G1 q3)), .val (.int (G2 q3)), .val (.int (G3 q3)), .val (.int (E0 p1 q3)), .val (.int (E1 p1 q3)), .val (.int (E2 p1 q3)), .unset, .unset, .unset, .unset, .unset, .unset, .unset, .unset, .unset] [(.int (G3 q3))])) _
    refine XS.goto X.here hx rfl (pc0 := 107) (pc' := 111) rfl (hb hby at_107) (by decide) (by decide) ?_
    show Steps p.tables e below (T.setTop (mkF m 111 #[.val (.int p1), .val (.int p2), .val (.long q3), .second, .val (.int (NF p1)), .val (.int (G0 q3)), .val (.int (G1 q3)), .val (.int (G2 q3)), .val (.int (G3 q3)), .val (.int (E0 p1 q3)), .val (.int (E1 p1 q3)), .val (.int (E2 p1 q3)), .unset, .unset, .unset, .unset, .unset, .unset, .unset, .unset, .unset] [(.int (G3 q3))])) _
    refine XS.istore X.here hx rfl (hb hby at_111) rfl (l' := #[.val (.int p1), .val (.int p2), .val (.long q3), .second, .val (.int (NF p1)), .val (.int (G0 q3)), .val (.int (G1 q3)), .val (.int (G2 q3)), .val (.int (G3 q3)), .val (.int (E0 p1 q3)), .val (.int (E1 p1 q3)), .val (.int (E2 p1 q3)), .val (.int (G3 q3)), .unset, .unset, .unset, .unset, .unset, .unset, .unset, .unset]) rfl ?_
    rw [show E3 p1 q3 = (G3 q3) by rw [E3, if_pos hc]] at kt
    exact kt
  case neg =>
    refine XS.iload X.here hx rfl (hb hby at_97) rfl ?_
    show Steps p.tables e below (T.setTop (mkF m 99 #[.val (.int p1), .val (.int p2), .val (.long q3), .second, .val (.int (NF p1)), .val (.int (G0 q3)), .val (.int (G1 q3)), .val (.int (G2 q3)), .val (.int (G3 q3)), .val (.int (E0 p1 q3)), .val (.int (E1 p1 q3)), .val (.int (E2 p1 q3)), .unset, .unset, .unset, .unset, .unset, .unset, .unset, .unset, .unset] [(.int (NF p1))])) _
    refine XS.iconst X.here hx rfl (hb hby at_99) ?_
    show Steps p.tables e below (T.setTop (mkF m 100 #[.val (.int p1), .val (.int p2), .val (.long q3), .second, .val (.int (NF p1)), .val (.int (G0 q3)), .val (.int (G1 q3)), .val (.int (G2 q3)), .val (.int (G3 q3)), .val (.int (E0 p1 q3)), .val (.int (E1 p1 q3)), .val (.int (E2 p1 q3)), .unset, .unset, .unset, .unset, .unset, .unset, .unset, .unset, .unset] [(.int (1 : Int32)), (.int (NF p1))])) _
    refine XS.isub X.here hx rfl (hb hby at_100) rfl ?_
    show Steps p.tables e below (T.setTop (mkF m 101 #[.val (.int p1), .val (.int p2), .val (.long q3), .second, .val (.int (NF p1)), .val (.int (G0 q3)), .val (.int (G1 q3)), .val (.int (G2 q3)), .val (.int (G3 q3)), .val (.int (E0 p1 q3)), .val (.int (E1 p1 q3)), .val (.int (E2 p1 q3)), .unset, .unset, .unset, .unset, .unset, .unset, .unset, .unset, .unset] [(.int ((NF p1) - (1 : Int32)))])) _
    refine XS.iconst X.here hx rfl (hb hby at_101) ?_
    show Steps p.tables e below (T.setTop (mkF m 102 #[.val (.int p1), .val (.int p2), .val (.long q3), .second, .val (.int (NF p1)), .val (.int (G0 q3)), .val (.int (G1 q3)), .val (.int (G2 q3)), .val (.int (G3 q3)), .val (.int (E0 p1 q3)), .val (.int (E1 p1 q3)), .val (.int (E2 p1 q3)), .unset, .unset, .unset, .unset, .unset, .unset, .unset, .unset, .unset] [(.int (3 : Int32)), (.int ((NF p1) - (1 : Int32)))])) _
    refine XS.icmpYes X.here hx rfl (pc0 := 102) (pc' := 110) rfl (hb hby at_102) rfl (flt hc).2.2.2 (by decide) (by decide) ?_
    show Steps p.tables e below (T.setTop (mkF m 110 #[.val (.int p1), .val (.int p2), .val (.long q3), .second, .val (.int (NF p1)), .val (.int (G0 q3)), .val (.int (G1 q3)), .val (.int (G2 q3)), .val (.int (G3 q3)), .val (.int (E0 p1 q3)), .val (.int (E1 p1 q3)), .val (.int (E2 p1 q3)), .unset, .unset, .unset, .unset, .unset, .unset, .unset, .unset, .unset] [])) _
    refine XS.iconst X.here hx rfl (hb hby at_110) ?_
    show Steps p.tables e below (T.setTop (mkF m 111 #[.val (.int p1), .val (.int p2), .val (.long q3), .second, .val (.int (NF p1)), .val (.int (G0 q3)), .val (.int (G1 q3)), .val (.int (G2 q3)), .val (.int (G3 q3)), .val (.int (E0 p1 q3)), .val (.int (E1 p1 q3)), .val (.int (E2 p1 q3)), .unset, .unset, .unset, .unset, .unset, .unset, .unset, .unset, .unset] [(.int (0 : Int32))])) _
    refine XS.istore X.here hx rfl (hb hby at_111) rfl (l' := #[.val (.int p1), .val (.int p2), .val (.long q3), .second, .val (.int (NF p1)), .val (.int (G0 q3)), .val (.int (G1 q3)), .val (.int (G2 q3)), .val (.int (G3 q3)), .val (.int (E0 p1 q3)), .val (.int (E1 p1 q3)), .val (.int (E2 p1 q3)), .val (.int (0 : Int32)), .unset, .unset, .unset, .unset, .unset, .unset, .unset, .unset]) rfl ?_
    rw [show E3 p1 q3 = (0 : Int32) by rw [E3, if_neg hc]] at kt
    exact kt
set_option maxRecDepth 65536 in
set_option maxHeartbeats 40000000 in
theorem sg_113 {p : Program} {l : Launch} {e : Env} {R : Room} {s : State} {m : MethodId} {args : Array Value} {below : List Frame} {meth : Method} {c : Code} {T : State} {locs : List Loc} {cells slots : Nat} {Z : State} {a0 : Array Value} (p1 p2 : Int32) (q3 : Int64) (X : Stand p l e R s m args below meth c T locs cells slots) (hx : p.tables.exec = Jvm.exec) (hZ : Z.Warmed39 s.vm) (hw : ∀ d ∈ tables_1, d.before a0 Z = true) (hby : c.code = code) (hown : s.vm.findClass "bitcove/ArrayContainerRunCountPinLaw" = some m.cls) :
    ∀ target, Steps p.tables e below (T.setTop (mkF m 146 #[.val (.int p1), .val (.int p2), .val (.long q3), .second, .val (.int (NF p1)), .val (.int (G0 q3)), .val (.int (G1 q3)), .val (.int (G2 q3)), .val (.int (G3 q3)), .val (.int (E0 p1 q3)), .val (.int (E1 p1 q3)), .val (.int (E2 p1 q3)), .val (.int (E3 p1 q3)), .val (.int (O1 p1 q3)), .val (.int (O2 p1 q3)), .val (.int (O3 p1 q3)), .val (.int (O4 p1 q3)), .unset, .unset, .unset, .unset] [])) target → Steps p.tables e below (T.setTop (mkF m 113 #[.val (.int p1), .val (.int p2), .val (.long q3), .second, .val (.int (NF p1)), .val (.int (G0 q3)), .val (.int (G1 q3)), .val (.int (G2 q3)), .val (.int (G3 q3)), .val (.int (E0 p1 q3)), .val (.int (E1 p1 q3)), .val (.int (E2 p1 q3)), .val (.int (E3 p1 q3)), .unset, .unset, .unset, .unset, .unset, .unset, .unset, .unset] [])) target := by
  intro target kt
  refine XS.iconst X.here hx rfl (hb hby at_113) ?_
  show Steps p.tables e below (T.setTop (mkF m 114 #[.val (.int p1), .val (.int p2), .val (.long q3), .second, .val (.int (NF p1)), .val (.int (G0 q3)), .val (.int (G1 q3)), .val (.int (G2 q3)), .val (.int (G3 q3)), .val (.int (E0 p1 q3)), .val (.int (E1 p1 q3)), .val (.int (E2 p1 q3)), .val (.int (E3 p1 q3)), .unset, .unset, .unset, .unset, .unset, .unset, .unset, .unset] [(.int (1 : Int32))])) _
  refine XS.iload X.here hx rfl (hb hby at_114) rfl ?_
  show Steps p.tables e below (T.setTop (mkF m 116 #[.val (.int p1), .val (.int p2), .val (.long q3), .second, .val (.int (NF p1)), .val (.int (G0 q3)), .val (.int (G1 q3)), .val (.int (G2 q3)), .val (.int (G3 q3)), .val (.int (E0 p1 q3)), .val (.int (E1 p1 q3)), .val (.int (E2 p1 q3)), .val (.int (E3 p1 q3)), .unset, .unset, .unset, .unset, .unset, .unset, .unset, .unset] [(.int (E0 p1 q3)), (.int (1 : Int32))])) _
  refine XS.iadd X.here hx rfl (hb hby at_116) rfl ?_
  show Steps p.tables e below (T.setTop (mkF m 117 #[.val (.int p1), .val (.int p2), .val (.long q3), .second, .val (.int (NF p1)), .val (.int (G0 q3)), .val (.int (G1 q3)), .val (.int (G2 q3)), .val (.int (G3 q3)), .val (.int (E0 p1 q3)), .val (.int (E1 p1 q3)), .val (.int (E2 p1 q3)), .val (.int (E3 p1 q3)), .unset, .unset, .unset, .unset, .unset, .unset, .unset, .unset] [(.int (O1 p1 q3))])) _
  refine XS.istore X.here hx rfl (hb hby at_117) rfl (l' := #[.val (.int p1), .val (.int p2), .val (.long q3), .second, .val (.int (NF p1)), .val (.int (G0 q3)), .val (.int (G1 q3)), .val (.int (G2 q3)), .val (.int (G3 q3)), .val (.int (E0 p1 q3)), .val (.int (E1 p1 q3)), .val (.int (E2 p1 q3)), .val (.int (E3 p1 q3)), .val (.int (O1 p1 q3)), .unset, .unset, .unset, .unset, .unset, .unset, .unset]) rfl ?_
  show Steps p.tables e below (T.setTop (mkF m 119 #[.val (.int p1), .val (.int p2), .val (.long q3), .second, .val (.int (NF p1)), .val (.int (G0 q3)), .val (.int (G1 q3)), .val (.int (G2 q3)), .val (.int (G3 q3)), .val (.int (E0 p1 q3)), .val (.int (E1 p1 q3)), .val (.int (E2 p1 q3)), .val (.int (E3 p1 q3)), .val (.int (O1 p1 q3)), .unset, .unset, .unset, .unset, .unset, .unset, .unset] [])) _
  refine XS.iload X.here hx rfl (hb hby at_119) rfl ?_
  show Steps p.tables e below (T.setTop (mkF m 121 #[.val (.int p1), .val (.int p2), .val (.long q3), .second, .val (.int (NF p1)), .val (.int (G0 q3)), .val (.int (G1 q3)), .val (.int (G2 q3)), .val (.int (G3 q3)), .val (.int (E0 p1 q3)), .val (.int (E1 p1 q3)), .val (.int (E2 p1 q3)), .val (.int (E3 p1 q3)), .val (.int (O1 p1 q3)), .unset, .unset, .unset, .unset, .unset, .unset, .unset] [(.int (O1 p1 q3))])) _
  refine XS.iconst X.here hx rfl (hb hby at_121) ?_
  show Steps p.tables e below (T.setTop (mkF m 122 #[.val (.int p1), .val (.int p2), .val (.long q3), .second, .val (.int (NF p1)), .val (.int (G0 q3)), .val (.int (G1 q3)), .val (.int (G2 q3)), .val (.int (G3 q3)), .val (.int (E0 p1 q3)), .val (.int (E1 p1 q3)), .val (.int (E2 p1 q3)), .val (.int (E3 p1 q3)), .val (.int (O1 p1 q3)), .unset, .unset, .unset, .unset, .unset, .unset, .unset] [(.int (1 : Int32)), (.int (O1 p1 q3))])) _
  refine XS.iadd X.here hx rfl (hb hby at_122) rfl ?_
  show Steps p.tables e below (T.setTop (mkF m 123 #[.val (.int p1), .val (.int p2), .val (.long q3), .second, .val (.int (NF p1)), .val (.int (G0 q3)), .val (.int (G1 q3)), .val (.int (G2 q3)), .val (.int (G3 q3)), .val (.int (E0 p1 q3)), .val (.int (E1 p1 q3)), .val (.int (E2 p1 q3)), .val (.int (E3 p1 q3)), .val (.int (O1 p1 q3)), .unset, .unset, .unset, .unset, .unset, .unset, .unset] [(.int ((O1 p1 q3) + (1 : Int32)))])) _
  refine XS.iload X.here hx rfl (hb hby at_123) rfl ?_
  show Steps p.tables e below (T.setTop (mkF m 125 #[.val (.int p1), .val (.int p2), .val (.long q3), .second, .val (.int (NF p1)), .val (.int (G0 q3)), .val (.int (G1 q3)), .val (.int (G2 q3)), .val (.int (G3 q3)), .val (.int (E0 p1 q3)), .val (.int (E1 p1 q3)), .val (.int (E2 p1 q3)), .val (.int (E3 p1 q3)), .val (.int (O1 p1 q3)), .unset, .unset, .unset, .unset, .unset, .unset, .unset] [(.int (E1 p1 q3)), (.int ((O1 p1 q3) + (1 : Int32)))])) _
  refine XS.iadd X.here hx rfl (hb hby at_125) rfl ?_
  show Steps p.tables e below (T.setTop (mkF m 126 #[.val (.int p1), .val (.int p2), .val (.long q3), .second, .val (.int (NF p1)), .val (.int (G0 q3)), .val (.int (G1 q3)), .val (.int (G2 q3)), .val (.int (G3 q3)), .val (.int (E0 p1 q3)), .val (.int (E1 p1 q3)), .val (.int (E2 p1 q3)), .val (.int (E3 p1 q3)), .val (.int (O1 p1 q3)), .unset, .unset, .unset, .unset, .unset, .unset, .unset] [(.int (O2 p1 q3))])) _
  refine XS.istore X.here hx rfl (hb hby at_126) rfl (l' := #[.val (.int p1), .val (.int p2), .val (.long q3), .second, .val (.int (NF p1)), .val (.int (G0 q3)), .val (.int (G1 q3)), .val (.int (G2 q3)), .val (.int (G3 q3)), .val (.int (E0 p1 q3)), .val (.int (E1 p1 q3)), .val (.int (E2 p1 q3)), .val (.int (E3 p1 q3)), .val (.int (O1 p1 q3)), .val (.int (O2 p1 q3)), .unset, .unset, .unset, .unset, .unset, .unset]) rfl ?_
  show Steps p.tables e below (T.setTop (mkF m 128 #[.val (.int p1), .val (.int p2), .val (.long q3), .second, .val (.int (NF p1)), .val (.int (G0 q3)), .val (.int (G1 q3)), .val (.int (G2 q3)), .val (.int (G3 q3)), .val (.int (E0 p1 q3)), .val (.int (E1 p1 q3)), .val (.int (E2 p1 q3)), .val (.int (E3 p1 q3)), .val (.int (O1 p1 q3)), .val (.int (O2 p1 q3)), .unset, .unset, .unset, .unset, .unset, .unset] [])) _
  refine XS.iload X.here hx rfl (hb hby at_128) rfl ?_
  show Steps p.tables e below (T.setTop (mkF m 130 #[.val (.int p1), .val (.int p2), .val (.long q3), .second, .val (.int (NF p1)), .val (.int (G0 q3)), .val (.int (G1 q3)), .val (.int (G2 q3)), .val (.int (G3 q3)), .val (.int (E0 p1 q3)), .val (.int (E1 p1 q3)), .val (.int (E2 p1 q3)), .val (.int (E3 p1 q3)), .val (.int (O1 p1 q3)), .val (.int (O2 p1 q3)), .unset, .unset, .unset, .unset, .unset, .unset] [(.int (O2 p1 q3))])) _
  refine XS.iconst X.here hx rfl (hb hby at_130) ?_
  show Steps p.tables e below (T.setTop (mkF m 131 #[.val (.int p1), .val (.int p2), .val (.long q3), .second, .val (.int (NF p1)), .val (.int (G0 q3)), .val (.int (G1 q3)), .val (.int (G2 q3)), .val (.int (G3 q3)), .val (.int (E0 p1 q3)), .val (.int (E1 p1 q3)), .val (.int (E2 p1 q3)), .val (.int (E3 p1 q3)), .val (.int (O1 p1 q3)), .val (.int (O2 p1 q3)), .unset, .unset, .unset, .unset, .unset, .unset] [(.int (1 : Int32)), (.int (O2 p1 q3))])) _
  refine XS.iadd X.here hx rfl (hb hby at_131) rfl ?_
  show Steps p.tables e below (T.setTop (mkF m 132 #[.val (.int p1), .val (.int p2), .val (.long q3), .second, .val (.int (NF p1)), .val (.int (G0 q3)), .val (.int (G1 q3)), .val (.int (G2 q3)), .val (.int (G3 q3)), .val (.int (E0 p1 q3)), .val (.int (E1 p1 q3)), .val (.int (E2 p1 q3)), .val (.int (E3 p1 q3)), .val (.int (O1 p1 q3)), .val (.int (O2 p1 q3)), .unset, .unset, .unset, .unset, .unset, .unset] [(.int ((O2 p1 q3) + (1 : Int32)))])) _
  refine XS.iload X.here hx rfl (hb hby at_132) rfl ?_
  show Steps p.tables e below (T.setTop (mkF m 134 #[.val (.int p1), .val (.int p2), .val (.long q3), .second, .val (.int (NF p1)), .val (.int (G0 q3)), .val (.int (G1 q3)), .val (.int (G2 q3)), .val (.int (G3 q3)), .val (.int (E0 p1 q3)), .val (.int (E1 p1 q3)), .val (.int (E2 p1 q3)), .val (.int (E3 p1 q3)), .val (.int (O1 p1 q3)), .val (.int (O2 p1 q3)), .unset, .unset, .unset, .unset, .unset, .unset] [(.int (E2 p1 q3)), (.int ((O2 p1 q3) + (1 : Int32)))])) _
  refine XS.iadd X.here hx rfl (hb hby at_134) rfl ?_
  show Steps p.tables e below (T.setTop (mkF m 135 #[.val (.int p1), .val (.int p2), .val (.long q3), .second, .val (.int (NF p1)), .val (.int (G0 q3)), .val (.int (G1 q3)), .val (.int (G2 q3)), .val (.int (G3 q3)), .val (.int (E0 p1 q3)), .val (.int (E1 p1 q3)), .val (.int (E2 p1 q3)), .val (.int (E3 p1 q3)), .val (.int (O1 p1 q3)), .val (.int (O2 p1 q3)), .unset, .unset, .unset, .unset, .unset, .unset] [(.int (O3 p1 q3))])) _
  refine XS.istore X.here hx rfl (hb hby at_135) rfl (l' := #[.val (.int p1), .val (.int p2), .val (.long q3), .second, .val (.int (NF p1)), .val (.int (G0 q3)), .val (.int (G1 q3)), .val (.int (G2 q3)), .val (.int (G3 q3)), .val (.int (E0 p1 q3)), .val (.int (E1 p1 q3)), .val (.int (E2 p1 q3)), .val (.int (E3 p1 q3)), .val (.int (O1 p1 q3)), .val (.int (O2 p1 q3)), .val (.int (O3 p1 q3)), .unset, .unset, .unset, .unset, .unset]) rfl ?_
  show Steps p.tables e below (T.setTop (mkF m 137 #[.val (.int p1), .val (.int p2), .val (.long q3), .second, .val (.int (NF p1)), .val (.int (G0 q3)), .val (.int (G1 q3)), .val (.int (G2 q3)), .val (.int (G3 q3)), .val (.int (E0 p1 q3)), .val (.int (E1 p1 q3)), .val (.int (E2 p1 q3)), .val (.int (E3 p1 q3)), .val (.int (O1 p1 q3)), .val (.int (O2 p1 q3)), .val (.int (O3 p1 q3)), .unset, .unset, .unset, .unset, .unset] [])) _
  refine XS.iload X.here hx rfl (hb hby at_137) rfl ?_
  show Steps p.tables e below (T.setTop (mkF m 139 #[.val (.int p1), .val (.int p2), .val (.long q3), .second, .val (.int (NF p1)), .val (.int (G0 q3)), .val (.int (G1 q3)), .val (.int (G2 q3)), .val (.int (G3 q3)), .val (.int (E0 p1 q3)), .val (.int (E1 p1 q3)), .val (.int (E2 p1 q3)), .val (.int (E3 p1 q3)), .val (.int (O1 p1 q3)), .val (.int (O2 p1 q3)), .val (.int (O3 p1 q3)), .unset, .unset, .unset, .unset, .unset] [(.int (O3 p1 q3))])) _
  refine XS.iconst X.here hx rfl (hb hby at_139) ?_
  show Steps p.tables e below (T.setTop (mkF m 140 #[.val (.int p1), .val (.int p2), .val (.long q3), .second, .val (.int (NF p1)), .val (.int (G0 q3)), .val (.int (G1 q3)), .val (.int (G2 q3)), .val (.int (G3 q3)), .val (.int (E0 p1 q3)), .val (.int (E1 p1 q3)), .val (.int (E2 p1 q3)), .val (.int (E3 p1 q3)), .val (.int (O1 p1 q3)), .val (.int (O2 p1 q3)), .val (.int (O3 p1 q3)), .unset, .unset, .unset, .unset, .unset] [(.int (1 : Int32)), (.int (O3 p1 q3))])) _
  refine XS.iadd X.here hx rfl (hb hby at_140) rfl ?_
  show Steps p.tables e below (T.setTop (mkF m 141 #[.val (.int p1), .val (.int p2), .val (.long q3), .second, .val (.int (NF p1)), .val (.int (G0 q3)), .val (.int (G1 q3)), .val (.int (G2 q3)), .val (.int (G3 q3)), .val (.int (E0 p1 q3)), .val (.int (E1 p1 q3)), .val (.int (E2 p1 q3)), .val (.int (E3 p1 q3)), .val (.int (O1 p1 q3)), .val (.int (O2 p1 q3)), .val (.int (O3 p1 q3)), .unset, .unset, .unset, .unset, .unset] [(.int ((O3 p1 q3) + (1 : Int32)))])) _
  refine XS.iload X.here hx rfl (hb hby at_141) rfl ?_
  show Steps p.tables e below (T.setTop (mkF m 143 #[.val (.int p1), .val (.int p2), .val (.long q3), .second, .val (.int (NF p1)), .val (.int (G0 q3)), .val (.int (G1 q3)), .val (.int (G2 q3)), .val (.int (G3 q3)), .val (.int (E0 p1 q3)), .val (.int (E1 p1 q3)), .val (.int (E2 p1 q3)), .val (.int (E3 p1 q3)), .val (.int (O1 p1 q3)), .val (.int (O2 p1 q3)), .val (.int (O3 p1 q3)), .unset, .unset, .unset, .unset, .unset] [(.int (E3 p1 q3)), (.int ((O3 p1 q3) + (1 : Int32)))])) _
  refine XS.iadd X.here hx rfl (hb hby at_143) rfl ?_
  show Steps p.tables e below (T.setTop (mkF m 144 #[.val (.int p1), .val (.int p2), .val (.long q3), .second, .val (.int (NF p1)), .val (.int (G0 q3)), .val (.int (G1 q3)), .val (.int (G2 q3)), .val (.int (G3 q3)), .val (.int (E0 p1 q3)), .val (.int (E1 p1 q3)), .val (.int (E2 p1 q3)), .val (.int (E3 p1 q3)), .val (.int (O1 p1 q3)), .val (.int (O2 p1 q3)), .val (.int (O3 p1 q3)), .unset, .unset, .unset, .unset, .unset] [(.int (O4 p1 q3))])) _
  refine XS.istore X.here hx rfl (hb hby at_144) rfl (l' := #[.val (.int p1), .val (.int p2), .val (.long q3), .second, .val (.int (NF p1)), .val (.int (G0 q3)), .val (.int (G1 q3)), .val (.int (G2 q3)), .val (.int (G3 q3)), .val (.int (E0 p1 q3)), .val (.int (E1 p1 q3)), .val (.int (E2 p1 q3)), .val (.int (E3 p1 q3)), .val (.int (O1 p1 q3)), .val (.int (O2 p1 q3)), .val (.int (O3 p1 q3)), .val (.int (O4 p1 q3)), .unset, .unset, .unset, .unset]) rfl ?_
  show Steps p.tables e below (T.setTop (mkF m 146 #[.val (.int p1), .val (.int p2), .val (.long q3), .second, .val (.int (NF p1)), .val (.int (G0 q3)), .val (.int (G1 q3)), .val (.int (G2 q3)), .val (.int (G3 q3)), .val (.int (E0 p1 q3)), .val (.int (E1 p1 q3)), .val (.int (E2 p1 q3)), .val (.int (E3 p1 q3)), .val (.int (O1 p1 q3)), .val (.int (O2 p1 q3)), .val (.int (O3 p1 q3)), .val (.int (O4 p1 q3)), .unset, .unset, .unset, .unset] [])) _
  exact kt
set_option maxRecDepth 65536 in
set_option maxHeartbeats 40000000 in
theorem sg_146 {p : Program} {l : Launch} {e : Env} {R : Room} {s : State} {m : MethodId} {args : Array Value} {below : List Frame} {meth : Method} {c : Code} {T : State} {locs : List Loc} {cells slots : Nat} {Z : State} {a0 : Array Value} (p1 p2 : Int32) (q3 : Int64) (X : Stand p l e R s m args below meth c T locs cells slots) (hx : p.tables.exec = Jvm.exec) (hZ : Z.Warmed39 s.vm) (hw : ∀ d ∈ tables_1, d.before a0 Z = true) (hby : c.code = code) (hown : s.vm.findClass "bitcove/ArrayContainerRunCountPinLaw" = some m.cls) :
    ∀ target, Steps p.tables e below (T.setTop (mkF m 201 #[.val (.int p1), .val (.int p2), .val (.long q3), .second, .val (.int (NF p1)), .val (.int (G0 q3)), .val (.int (G1 q3)), .val (.int (G2 q3)), .val (.int (G3 q3)), .val (.int (E0 p1 q3)), .val (.int (E1 p1 q3)), .val (.int (E2 p1 q3)), .val (.int (E3 p1 q3)), .val (.int (O1 p1 q3)), .val (.int (O2 p1 q3)), .val (.int (O3 p1 q3)), .val (.int (O4 p1 q3)), .val (.int (TF p1 q3)), .unset, .unset, .unset] [])) target → Steps p.tables e below (T.setTop (mkF m 146 #[.val (.int p1), .val (.int p2), .val (.long q3), .second, .val (.int (NF p1)), .val (.int (G0 q3)), .val (.int (G1 q3)), .val (.int (G2 q3)), .val (.int (G3 q3)), .val (.int (E0 p1 q3)), .val (.int (E1 p1 q3)), .val (.int (E2 p1 q3)), .val (.int (E3 p1 q3)), .val (.int (O1 p1 q3)), .val (.int (O2 p1 q3)), .val (.int (O3 p1 q3)), .val (.int (O4 p1 q3)), .unset, .unset, .unset, .unset] [])) target := by
  intro target kt
  by_cases h1 : (1 : Int32) < NF p1
  case neg =>
    refine XS.iload X.here hx rfl (hb hby at_146) rfl ?_
    show Steps p.tables e below (T.setTop (mkF m 148 #[.val (.int p1), .val (.int p2), .val (.long q3), .second, .val (.int (NF p1)), .val (.int (G0 q3)), .val (.int (G1 q3)), .val (.int (G2 q3)), .val (.int (G3 q3)), .val (.int (E0 p1 q3)), .val (.int (E1 p1 q3)), .val (.int (E2 p1 q3)), .val (.int (E3 p1 q3)), .val (.int (O1 p1 q3)), .val (.int (O2 p1 q3)), .val (.int (O3 p1 q3)), .val (.int (O4 p1 q3)), .unset, .unset, .unset, .unset] [(.int (NF p1))])) _
    refine XS.iconst X.here hx rfl (hb hby at_148) ?_
    show Steps p.tables e below (T.setTop (mkF m 149 #[.val (.int p1), .val (.int p2), .val (.long q3), .second, .val (.int (NF p1)), .val (.int (G0 q3)), .val (.int (G1 q3)), .val (.int (G2 q3)), .val (.int (G3 q3)), .val (.int (E0 p1 q3)), .val (.int (E1 p1 q3)), .val (.int (E2 p1 q3)), .val (.int (E3 p1 q3)), .val (.int (O1 p1 q3)), .val (.int (O2 p1 q3)), .val (.int (O3 p1 q3)), .val (.int (O4 p1 q3)), .unset, .unset, .unset, .unset] [(.int (1 : Int32)), (.int (NF p1))])) _
    refine XS.icmpNo X.here hx rfl (hb hby at_149) rfl (flt h1).2.2.1 ?_
    show Steps p.tables e below (T.setTop (mkF m 152 #[.val (.int p1), .val (.int p2), .val (.long q3), .second, .val (.int (NF p1)), .val (.int (G0 q3)), .val (.int (G1 q3)), .val (.int (G2 q3)), .val (.int (G3 q3)), .val (.int (E0 p1 q3)), .val (.int (E1 p1 q3)), .val (.int (E2 p1 q3)), .val (.int (E3 p1 q3)), .val (.int (O1 p1 q3)), .val (.int (O2 p1 q3)), .val (.int (O3 p1 q3)), .val (.int (O4 p1 q3)), .unset, .unset, .unset, .unset] [])) _
    refine XS.iconst X.here hx rfl (hb hby at_152) ?_
    show Steps p.tables e below (T.setTop (mkF m 153 #[.val (.int p1), .val (.int p2), .val (.long q3), .second, .val (.int (NF p1)), .val (.int (G0 q3)), .val (.int (G1 q3)), .val (.int (G2 q3)), .val (.int (G3 q3)), .val (.int (E0 p1 q3)), .val (.int (E1 p1 q3)), .val (.int (E2 p1 q3)), .val (.int (E3 p1 q3)), .val (.int (O1 p1 q3)), .val (.int (O2 p1 q3)), .val (.int (O3 p1 q3)), .val (.int (O4 p1 q3)), .unset, .unset, .unset, .unset] [(.int (0 : Int32))])) _
    refine XS.istore X.here hx rfl (hb hby at_153) rfl (l' := #[.val (.int p1), .val (.int p2), .val (.long q3), .second, .val (.int (NF p1)), .val (.int (G0 q3)), .val (.int (G1 q3)), .val (.int (G2 q3)), .val (.int (G3 q3)), .val (.int (E0 p1 q3)), .val (.int (E1 p1 q3)), .val (.int (E2 p1 q3)), .val (.int (E3 p1 q3)), .val (.int (O1 p1 q3)), .val (.int (O2 p1 q3)), .val (.int (O3 p1 q3)), .val (.int (O4 p1 q3)), .val (.int (0 : Int32)), .unset, .unset, .unset]) rfl ?_
    show Steps p.tables e below (T.setTop (mkF m 155 #[.val (.int p1), .val (.int p2), .val (.long q3), .second, .val (.int (NF p1)), .val (.int (G0 q3)), .val (.int (G1 q3)), .val (.int (G2 q3)), .val (.int (G3 q3)), .val (.int (E0 p1 q3)), .val (.int (E1 p1 q3)), .val (.int (E2 p1 q3)), .val (.int (E3 p1 q3)), .val (.int (O1 p1 q3)), .val (.int (O2 p1 q3)), .val (.int (O3 p1 q3)), .val (.int (O4 p1 q3)), .val (.int (0 : Int32)), .unset, .unset, .unset] [])) _
    refine XS.goto X.here hx rfl (pc0 := 155) (pc' := 201) rfl (hb hby at_155) (by decide) (by decide) ?_
    show Steps p.tables e below (T.setTop (mkF m 201 #[.val (.int p1), .val (.int p2), .val (.long q3), .second, .val (.int (NF p1)), .val (.int (G0 q3)), .val (.int (G1 q3)), .val (.int (G2 q3)), .val (.int (G3 q3)), .val (.int (E0 p1 q3)), .val (.int (E1 p1 q3)), .val (.int (E2 p1 q3)), .val (.int (E3 p1 q3)), .val (.int (O1 p1 q3)), .val (.int (O2 p1 q3)), .val (.int (O3 p1 q3)), .val (.int (O4 p1 q3)), .val (.int (0 : Int32)), .unset, .unset, .unset] [])) _
    rw [show TF p1 q3 = 0 by rw [TF, if_neg h1]] at kt
    exact kt
  by_cases h2 : NF p1 = 2
  case pos =>
    refine XS.iload X.here hx rfl (hb hby at_146) rfl ?_
    show Steps p.tables e below (T.setTop (mkF m 148 #[.val (.int p1), .val (.int p2), .val (.long q3), .second, .val (.int (NF p1)), .val (.int (G0 q3)), .val (.int (G1 q3)), .val (.int (G2 q3)), .val (.int (G3 q3)), .val (.int (E0 p1 q3)), .val (.int (E1 p1 q3)), .val (.int (E2 p1 q3)), .val (.int (E3 p1 q3)), .val (.int (O1 p1 q3)), .val (.int (O2 p1 q3)), .val (.int (O3 p1 q3)), .val (.int (O4 p1 q3)), .unset, .unset, .unset, .unset] [(.int (NF p1))])) _
    refine XS.iconst X.here hx rfl (hb hby at_148) ?_
    show Steps p.tables e below (T.setTop (mkF m 149 #[.val (.int p1), .val (.int p2), .val (.long q3), .second, .val (.int (NF p1)), .val (.int (G0 q3)), .val (.int (G1 q3)), .val (.int (G2 q3)), .val (.int (G3 q3)), .val (.int (E0 p1 q3)), .val (.int (E1 p1 q3)), .val (.int (E2 p1 q3)), .val (.int (E3 p1 q3)), .val (.int (O1 p1 q3)), .val (.int (O2 p1 q3)), .val (.int (O3 p1 q3)), .val (.int (O4 p1 q3)), .unset, .unset, .unset, .unset] [(.int (1 : Int32)), (.int (NF p1))])) _
    refine XS.icmpYes X.here hx rfl (pc0 := 149) (pc' := 158) rfl (hb hby at_149) rfl (tlt h1).2.2.1 (by decide) (by decide) ?_
    show Steps p.tables e below (T.setTop (mkF m 158 #[.val (.int p1), .val (.int p2), .val (.long q3), .second, .val (.int (NF p1)), .val (.int (G0 q3)), .val (.int (G1 q3)), .val (.int (G2 q3)), .val (.int (G3 q3)), .val (.int (E0 p1 q3)), .val (.int (E1 p1 q3)), .val (.int (E2 p1 q3)), .val (.int (E3 p1 q3)), .val (.int (O1 p1 q3)), .val (.int (O2 p1 q3)), .val (.int (O3 p1 q3)), .val (.int (O4 p1 q3)), .unset, .unset, .unset, .unset] [])) _
    refine XS.iload X.here hx rfl (hb hby at_158) rfl ?_
    show Steps p.tables e below (T.setTop (mkF m 160 #[.val (.int p1), .val (.int p2), .val (.long q3), .second, .val (.int (NF p1)), .val (.int (G0 q3)), .val (.int (G1 q3)), .val (.int (G2 q3)), .val (.int (G3 q3)), .val (.int (E0 p1 q3)), .val (.int (E1 p1 q3)), .val (.int (E2 p1 q3)), .val (.int (E3 p1 q3)), .val (.int (O1 p1 q3)), .val (.int (O2 p1 q3)), .val (.int (O3 p1 q3)), .val (.int (O4 p1 q3)), .unset, .unset, .unset, .unset] [(.int (NF p1))])) _
    refine XS.iconst X.here hx rfl (hb hby at_160) ?_
    show Steps p.tables e below (T.setTop (mkF m 161 #[.val (.int p1), .val (.int p2), .val (.long q3), .second, .val (.int (NF p1)), .val (.int (G0 q3)), .val (.int (G1 q3)), .val (.int (G2 q3)), .val (.int (G3 q3)), .val (.int (E0 p1 q3)), .val (.int (E1 p1 q3)), .val (.int (E2 p1 q3)), .val (.int (E3 p1 q3)), .val (.int (O1 p1 q3)), .val (.int (O2 p1 q3)), .val (.int (O3 p1 q3)), .val (.int (O4 p1 q3)), .unset, .unset, .unset, .unset] [(.int (2 : Int32)), (.int (NF p1))])) _
    refine XS.icmpNo X.here hx rfl (hb hby at_161) rfl (teq h2).2 ?_
    show Steps p.tables e below (T.setTop (mkF m 164 #[.val (.int p1), .val (.int p2), .val (.long q3), .second, .val (.int (NF p1)), .val (.int (G0 q3)), .val (.int (G1 q3)), .val (.int (G2 q3)), .val (.int (G3 q3)), .val (.int (E0 p1 q3)), .val (.int (E1 p1 q3)), .val (.int (E2 p1 q3)), .val (.int (E3 p1 q3)), .val (.int (O1 p1 q3)), .val (.int (O2 p1 q3)), .val (.int (O3 p1 q3)), .val (.int (O4 p1 q3)), .unset, .unset, .unset, .unset] [])) _
    refine XS.iload X.here hx rfl (hb hby at_164) rfl ?_
    show Steps p.tables e below (T.setTop (mkF m 166 #[.val (.int p1), .val (.int p2), .val (.long q3), .second, .val (.int (NF p1)), .val (.int (G0 q3)), .val (.int (G1 q3)), .val (.int (G2 q3)), .val (.int (G3 q3)), .val (.int (E0 p1 q3)), .val (.int (E1 p1 q3)), .val (.int (E2 p1 q3)), .val (.int (E3 p1 q3)), .val (.int (O1 p1 q3)), .val (.int (O2 p1 q3)), .val (.int (O3 p1 q3)), .val (.int (O4 p1 q3)), .unset, .unset, .unset, .unset] [(.int (O1 p1 q3))])) _
    refine XS.istore X.here hx rfl (hb hby at_166) rfl (l' := #[.val (.int p1), .val (.int p2), .val (.long q3), .second, .val (.int (NF p1)), .val (.int (G0 q3)), .val (.int (G1 q3)), .val (.int (G2 q3)), .val (.int (G3 q3)), .val (.int (E0 p1 q3)), .val (.int (E1 p1 q3)), .val (.int (E2 p1 q3)), .val (.int (E3 p1 q3)), .val (.int (O1 p1 q3)), .val (.int (O2 p1 q3)), .val (.int (O3 p1 q3)), .val (.int (O4 p1 q3)), .val (.int (O1 p1 q3)), .unset, .unset, .unset]) rfl ?_
    show Steps p.tables e below (T.setTop (mkF m 168 #[.val (.int p1), .val (.int p2), .val (.long q3), .second, .val (.int (NF p1)), .val (.int (G0 q3)), .val (.int (G1 q3)), .val (.int (G2 q3)), .val (.int (G3 q3)), .val (.int (E0 p1 q3)), .val (.int (E1 p1 q3)), .val (.int (E2 p1 q3)), .val (.int (E3 p1 q3)), .val (.int (O1 p1 q3)), .val (.int (O2 p1 q3)), .val (.int (O3 p1 q3)), .val (.int (O4 p1 q3)), .val (.int (O1 p1 q3)), .unset, .unset, .unset] [])) _
    refine XS.goto X.here hx rfl (pc0 := 168) (pc' := 201) rfl (hb hby at_168) (by decide) (by decide) ?_
    show Steps p.tables e below (T.setTop (mkF m 201 #[.val (.int p1), .val (.int p2), .val (.long q3), .second, .val (.int (NF p1)), .val (.int (G0 q3)), .val (.int (G1 q3)), .val (.int (G2 q3)), .val (.int (G3 q3)), .val (.int (E0 p1 q3)), .val (.int (E1 p1 q3)), .val (.int (E2 p1 q3)), .val (.int (E3 p1 q3)), .val (.int (O1 p1 q3)), .val (.int (O2 p1 q3)), .val (.int (O3 p1 q3)), .val (.int (O4 p1 q3)), .val (.int (O1 p1 q3)), .unset, .unset, .unset] [])) _
    rw [show TF p1 q3 = O1 p1 q3 by rw [TF, if_pos h1, if_pos h2]] at kt
    exact kt
  by_cases h3 : NF p1 = 3
  case pos =>
    refine XS.iload X.here hx rfl (hb hby at_146) rfl ?_
    show Steps p.tables e below (T.setTop (mkF m 148 #[.val (.int p1), .val (.int p2), .val (.long q3), .second, .val (.int (NF p1)), .val (.int (G0 q3)), .val (.int (G1 q3)), .val (.int (G2 q3)), .val (.int (G3 q3)), .val (.int (E0 p1 q3)), .val (.int (E1 p1 q3)), .val (.int (E2 p1 q3)), .val (.int (E3 p1 q3)), .val (.int (O1 p1 q3)), .val (.int (O2 p1 q3)), .val (.int (O3 p1 q3)), .val (.int (O4 p1 q3)), .unset, .unset, .unset, .unset] [(.int (NF p1))])) _
    refine XS.iconst X.here hx rfl (hb hby at_148) ?_
    show Steps p.tables e below (T.setTop (mkF m 149 #[.val (.int p1), .val (.int p2), .val (.long q3), .second, .val (.int (NF p1)), .val (.int (G0 q3)), .val (.int (G1 q3)), .val (.int (G2 q3)), .val (.int (G3 q3)), .val (.int (E0 p1 q3)), .val (.int (E1 p1 q3)), .val (.int (E2 p1 q3)), .val (.int (E3 p1 q3)), .val (.int (O1 p1 q3)), .val (.int (O2 p1 q3)), .val (.int (O3 p1 q3)), .val (.int (O4 p1 q3)), .unset, .unset, .unset, .unset] [(.int (1 : Int32)), (.int (NF p1))])) _
    refine XS.icmpYes X.here hx rfl (pc0 := 149) (pc' := 158) rfl (hb hby at_149) rfl (tlt h1).2.2.1 (by decide) (by decide) ?_
    show Steps p.tables e below (T.setTop (mkF m 158 #[.val (.int p1), .val (.int p2), .val (.long q3), .second, .val (.int (NF p1)), .val (.int (G0 q3)), .val (.int (G1 q3)), .val (.int (G2 q3)), .val (.int (G3 q3)), .val (.int (E0 p1 q3)), .val (.int (E1 p1 q3)), .val (.int (E2 p1 q3)), .val (.int (E3 p1 q3)), .val (.int (O1 p1 q3)), .val (.int (O2 p1 q3)), .val (.int (O3 p1 q3)), .val (.int (O4 p1 q3)), .unset, .unset, .unset, .unset] [])) _
    refine XS.iload X.here hx rfl (hb hby at_158) rfl ?_
    show Steps p.tables e below (T.setTop (mkF m 160 #[.val (.int p1), .val (.int p2), .val (.long q3), .second, .val (.int (NF p1)), .val (.int (G0 q3)), .val (.int (G1 q3)), .val (.int (G2 q3)), .val (.int (G3 q3)), .val (.int (E0 p1 q3)), .val (.int (E1 p1 q3)), .val (.int (E2 p1 q3)), .val (.int (E3 p1 q3)), .val (.int (O1 p1 q3)), .val (.int (O2 p1 q3)), .val (.int (O3 p1 q3)), .val (.int (O4 p1 q3)), .unset, .unset, .unset, .unset] [(.int (NF p1))])) _
    refine XS.iconst X.here hx rfl (hb hby at_160) ?_
    show Steps p.tables e below (T.setTop (mkF m 161 #[.val (.int p1), .val (.int p2), .val (.long q3), .second, .val (.int (NF p1)), .val (.int (G0 q3)), .val (.int (G1 q3)), .val (.int (G2 q3)), .val (.int (G3 q3)), .val (.int (E0 p1 q3)), .val (.int (E1 p1 q3)), .val (.int (E2 p1 q3)), .val (.int (E3 p1 q3)), .val (.int (O1 p1 q3)), .val (.int (O2 p1 q3)), .val (.int (O3 p1 q3)), .val (.int (O4 p1 q3)), .unset, .unset, .unset, .unset] [(.int (2 : Int32)), (.int (NF p1))])) _
    refine XS.icmpYes X.here hx rfl (pc0 := 161) (pc' := 171) rfl (hb hby at_161) rfl (feq h2).2 (by decide) (by decide) ?_
    show Steps p.tables e below (T.setTop (mkF m 171 #[.val (.int p1), .val (.int p2), .val (.long q3), .second, .val (.int (NF p1)), .val (.int (G0 q3)), .val (.int (G1 q3)), .val (.int (G2 q3)), .val (.int (G3 q3)), .val (.int (E0 p1 q3)), .val (.int (E1 p1 q3)), .val (.int (E2 p1 q3)), .val (.int (E3 p1 q3)), .val (.int (O1 p1 q3)), .val (.int (O2 p1 q3)), .val (.int (O3 p1 q3)), .val (.int (O4 p1 q3)), .unset, .unset, .unset, .unset] [])) _
    refine XS.iload X.here hx rfl (hb hby at_171) rfl ?_
    show Steps p.tables e below (T.setTop (mkF m 173 #[.val (.int p1), .val (.int p2), .val (.long q3), .second, .val (.int (NF p1)), .val (.int (G0 q3)), .val (.int (G1 q3)), .val (.int (G2 q3)), .val (.int (G3 q3)), .val (.int (E0 p1 q3)), .val (.int (E1 p1 q3)), .val (.int (E2 p1 q3)), .val (.int (E3 p1 q3)), .val (.int (O1 p1 q3)), .val (.int (O2 p1 q3)), .val (.int (O3 p1 q3)), .val (.int (O4 p1 q3)), .unset, .unset, .unset, .unset] [(.int (NF p1))])) _
    refine XS.iconst X.here hx rfl (hb hby at_173) ?_
    show Steps p.tables e below (T.setTop (mkF m 174 #[.val (.int p1), .val (.int p2), .val (.long q3), .second, .val (.int (NF p1)), .val (.int (G0 q3)), .val (.int (G1 q3)), .val (.int (G2 q3)), .val (.int (G3 q3)), .val (.int (E0 p1 q3)), .val (.int (E1 p1 q3)), .val (.int (E2 p1 q3)), .val (.int (E3 p1 q3)), .val (.int (O1 p1 q3)), .val (.int (O2 p1 q3)), .val (.int (O3 p1 q3)), .val (.int (O4 p1 q3)), .unset, .unset, .unset, .unset] [(.int (3 : Int32)), (.int (NF p1))])) _
    refine XS.icmpNo X.here hx rfl (hb hby at_174) rfl (teq h3).2 ?_
    show Steps p.tables e below (T.setTop (mkF m 177 #[.val (.int p1), .val (.int p2), .val (.long q3), .second, .val (.int (NF p1)), .val (.int (G0 q3)), .val (.int (G1 q3)), .val (.int (G2 q3)), .val (.int (G3 q3)), .val (.int (E0 p1 q3)), .val (.int (E1 p1 q3)), .val (.int (E2 p1 q3)), .val (.int (E3 p1 q3)), .val (.int (O1 p1 q3)), .val (.int (O2 p1 q3)), .val (.int (O3 p1 q3)), .val (.int (O4 p1 q3)), .unset, .unset, .unset, .unset] [])) _
    refine XS.iload X.here hx rfl (hb hby at_177) rfl ?_
    show Steps p.tables e below (T.setTop (mkF m 179 #[.val (.int p1), .val (.int p2), .val (.long q3), .second, .val (.int (NF p1)), .val (.int (G0 q3)), .val (.int (G1 q3)), .val (.int (G2 q3)), .val (.int (G3 q3)), .val (.int (E0 p1 q3)), .val (.int (E1 p1 q3)), .val (.int (E2 p1 q3)), .val (.int (E3 p1 q3)), .val (.int (O1 p1 q3)), .val (.int (O2 p1 q3)), .val (.int (O3 p1 q3)), .val (.int (O4 p1 q3)), .unset, .unset, .unset, .unset] [(.int (O2 p1 q3))])) _
    refine XS.istore X.here hx rfl (hb hby at_179) rfl (l' := #[.val (.int p1), .val (.int p2), .val (.long q3), .second, .val (.int (NF p1)), .val (.int (G0 q3)), .val (.int (G1 q3)), .val (.int (G2 q3)), .val (.int (G3 q3)), .val (.int (E0 p1 q3)), .val (.int (E1 p1 q3)), .val (.int (E2 p1 q3)), .val (.int (E3 p1 q3)), .val (.int (O1 p1 q3)), .val (.int (O2 p1 q3)), .val (.int (O3 p1 q3)), .val (.int (O4 p1 q3)), .val (.int (O2 p1 q3)), .unset, .unset, .unset]) rfl ?_
    show Steps p.tables e below (T.setTop (mkF m 181 #[.val (.int p1), .val (.int p2), .val (.long q3), .second, .val (.int (NF p1)), .val (.int (G0 q3)), .val (.int (G1 q3)), .val (.int (G2 q3)), .val (.int (G3 q3)), .val (.int (E0 p1 q3)), .val (.int (E1 p1 q3)), .val (.int (E2 p1 q3)), .val (.int (E3 p1 q3)), .val (.int (O1 p1 q3)), .val (.int (O2 p1 q3)), .val (.int (O3 p1 q3)), .val (.int (O4 p1 q3)), .val (.int (O2 p1 q3)), .unset, .unset, .unset] [])) _
    refine XS.goto X.here hx rfl (pc0 := 181) (pc' := 201) rfl (hb hby at_181) (by decide) (by decide) ?_
    show Steps p.tables e below (T.setTop (mkF m 201 #[.val (.int p1), .val (.int p2), .val (.long q3), .second, .val (.int (NF p1)), .val (.int (G0 q3)), .val (.int (G1 q3)), .val (.int (G2 q3)), .val (.int (G3 q3)), .val (.int (E0 p1 q3)), .val (.int (E1 p1 q3)), .val (.int (E2 p1 q3)), .val (.int (E3 p1 q3)), .val (.int (O1 p1 q3)), .val (.int (O2 p1 q3)), .val (.int (O3 p1 q3)), .val (.int (O4 p1 q3)), .val (.int (O2 p1 q3)), .unset, .unset, .unset] [])) _
    rw [show TF p1 q3 = O2 p1 q3 by rw [TF, if_pos h1, if_neg h2, if_pos h3]] at kt
    exact kt
  by_cases h4 : NF p1 = 4
  case pos =>
    refine XS.iload X.here hx rfl (hb hby at_146) rfl ?_
    show Steps p.tables e below (T.setTop (mkF m 148 #[.val (.int p1), .val (.int p2), .val (.long q3), .second, .val (.int (NF p1)), .val (.int (G0 q3)), .val (.int (G1 q3)), .val (.int (G2 q3)), .val (.int (G3 q3)), .val (.int (E0 p1 q3)), .val (.int (E1 p1 q3)), .val (.int (E2 p1 q3)), .val (.int (E3 p1 q3)), .val (.int (O1 p1 q3)), .val (.int (O2 p1 q3)), .val (.int (O3 p1 q3)), .val (.int (O4 p1 q3)), .unset, .unset, .unset, .unset] [(.int (NF p1))])) _
    refine XS.iconst X.here hx rfl (hb hby at_148) ?_
    show Steps p.tables e below (T.setTop (mkF m 149 #[.val (.int p1), .val (.int p2), .val (.long q3), .second, .val (.int (NF p1)), .val (.int (G0 q3)), .val (.int (G1 q3)), .val (.int (G2 q3)), .val (.int (G3 q3)), .val (.int (E0 p1 q3)), .val (.int (E1 p1 q3)), .val (.int (E2 p1 q3)), .val (.int (E3 p1 q3)), .val (.int (O1 p1 q3)), .val (.int (O2 p1 q3)), .val (.int (O3 p1 q3)), .val (.int (O4 p1 q3)), .unset, .unset, .unset, .unset] [(.int (1 : Int32)), (.int (NF p1))])) _
    refine XS.icmpYes X.here hx rfl (pc0 := 149) (pc' := 158) rfl (hb hby at_149) rfl (tlt h1).2.2.1 (by decide) (by decide) ?_
    show Steps p.tables e below (T.setTop (mkF m 158 #[.val (.int p1), .val (.int p2), .val (.long q3), .second, .val (.int (NF p1)), .val (.int (G0 q3)), .val (.int (G1 q3)), .val (.int (G2 q3)), .val (.int (G3 q3)), .val (.int (E0 p1 q3)), .val (.int (E1 p1 q3)), .val (.int (E2 p1 q3)), .val (.int (E3 p1 q3)), .val (.int (O1 p1 q3)), .val (.int (O2 p1 q3)), .val (.int (O3 p1 q3)), .val (.int (O4 p1 q3)), .unset, .unset, .unset, .unset] [])) _
    refine XS.iload X.here hx rfl (hb hby at_158) rfl ?_
    show Steps p.tables e below (T.setTop (mkF m 160 #[.val (.int p1), .val (.int p2), .val (.long q3), .second, .val (.int (NF p1)), .val (.int (G0 q3)), .val (.int (G1 q3)), .val (.int (G2 q3)), .val (.int (G3 q3)), .val (.int (E0 p1 q3)), .val (.int (E1 p1 q3)), .val (.int (E2 p1 q3)), .val (.int (E3 p1 q3)), .val (.int (O1 p1 q3)), .val (.int (O2 p1 q3)), .val (.int (O3 p1 q3)), .val (.int (O4 p1 q3)), .unset, .unset, .unset, .unset] [(.int (NF p1))])) _
    refine XS.iconst X.here hx rfl (hb hby at_160) ?_
    show Steps p.tables e below (T.setTop (mkF m 161 #[.val (.int p1), .val (.int p2), .val (.long q3), .second, .val (.int (NF p1)), .val (.int (G0 q3)), .val (.int (G1 q3)), .val (.int (G2 q3)), .val (.int (G3 q3)), .val (.int (E0 p1 q3)), .val (.int (E1 p1 q3)), .val (.int (E2 p1 q3)), .val (.int (E3 p1 q3)), .val (.int (O1 p1 q3)), .val (.int (O2 p1 q3)), .val (.int (O3 p1 q3)), .val (.int (O4 p1 q3)), .unset, .unset, .unset, .unset] [(.int (2 : Int32)), (.int (NF p1))])) _
    refine XS.icmpYes X.here hx rfl (pc0 := 161) (pc' := 171) rfl (hb hby at_161) rfl (feq h2).2 (by decide) (by decide) ?_
    show Steps p.tables e below (T.setTop (mkF m 171 #[.val (.int p1), .val (.int p2), .val (.long q3), .second, .val (.int (NF p1)), .val (.int (G0 q3)), .val (.int (G1 q3)), .val (.int (G2 q3)), .val (.int (G3 q3)), .val (.int (E0 p1 q3)), .val (.int (E1 p1 q3)), .val (.int (E2 p1 q3)), .val (.int (E3 p1 q3)), .val (.int (O1 p1 q3)), .val (.int (O2 p1 q3)), .val (.int (O3 p1 q3)), .val (.int (O4 p1 q3)), .unset, .unset, .unset, .unset] [])) _
    refine XS.iload X.here hx rfl (hb hby at_171) rfl ?_
    show Steps p.tables e below (T.setTop (mkF m 173 #[.val (.int p1), .val (.int p2), .val (.long q3), .second, .val (.int (NF p1)), .val (.int (G0 q3)), .val (.int (G1 q3)), .val (.int (G2 q3)), .val (.int (G3 q3)), .val (.int (E0 p1 q3)), .val (.int (E1 p1 q3)), .val (.int (E2 p1 q3)), .val (.int (E3 p1 q3)), .val (.int (O1 p1 q3)), .val (.int (O2 p1 q3)), .val (.int (O3 p1 q3)), .val (.int (O4 p1 q3)), .unset, .unset, .unset, .unset] [(.int (NF p1))])) _
    refine XS.iconst X.here hx rfl (hb hby at_173) ?_
    show Steps p.tables e below (T.setTop (mkF m 174 #[.val (.int p1), .val (.int p2), .val (.long q3), .second, .val (.int (NF p1)), .val (.int (G0 q3)), .val (.int (G1 q3)), .val (.int (G2 q3)), .val (.int (G3 q3)), .val (.int (E0 p1 q3)), .val (.int (E1 p1 q3)), .val (.int (E2 p1 q3)), .val (.int (E3 p1 q3)), .val (.int (O1 p1 q3)), .val (.int (O2 p1 q3)), .val (.int (O3 p1 q3)), .val (.int (O4 p1 q3)), .unset, .unset, .unset, .unset] [(.int (3 : Int32)), (.int (NF p1))])) _
    refine XS.icmpYes X.here hx rfl (pc0 := 174) (pc' := 184) rfl (hb hby at_174) rfl (feq h3).2 (by decide) (by decide) ?_
    show Steps p.tables e below (T.setTop (mkF m 184 #[.val (.int p1), .val (.int p2), .val (.long q3), .second, .val (.int (NF p1)), .val (.int (G0 q3)), .val (.int (G1 q3)), .val (.int (G2 q3)), .val (.int (G3 q3)), .val (.int (E0 p1 q3)), .val (.int (E1 p1 q3)), .val (.int (E2 p1 q3)), .val (.int (E3 p1 q3)), .val (.int (O1 p1 q3)), .val (.int (O2 p1 q3)), .val (.int (O3 p1 q3)), .val (.int (O4 p1 q3)), .unset, .unset, .unset, .unset] [])) _
    refine XS.iload X.here hx rfl (hb hby at_184) rfl ?_
    show Steps p.tables e below (T.setTop (mkF m 186 #[.val (.int p1), .val (.int p2), .val (.long q3), .second, .val (.int (NF p1)), .val (.int (G0 q3)), .val (.int (G1 q3)), .val (.int (G2 q3)), .val (.int (G3 q3)), .val (.int (E0 p1 q3)), .val (.int (E1 p1 q3)), .val (.int (E2 p1 q3)), .val (.int (E3 p1 q3)), .val (.int (O1 p1 q3)), .val (.int (O2 p1 q3)), .val (.int (O3 p1 q3)), .val (.int (O4 p1 q3)), .unset, .unset, .unset, .unset] [(.int (NF p1))])) _
    refine XS.iconst X.here hx rfl (hb hby at_186) ?_
    show Steps p.tables e below (T.setTop (mkF m 187 #[.val (.int p1), .val (.int p2), .val (.long q3), .second, .val (.int (NF p1)), .val (.int (G0 q3)), .val (.int (G1 q3)), .val (.int (G2 q3)), .val (.int (G3 q3)), .val (.int (E0 p1 q3)), .val (.int (E1 p1 q3)), .val (.int (E2 p1 q3)), .val (.int (E3 p1 q3)), .val (.int (O1 p1 q3)), .val (.int (O2 p1 q3)), .val (.int (O3 p1 q3)), .val (.int (O4 p1 q3)), .unset, .unset, .unset, .unset] [(.int (4 : Int32)), (.int (NF p1))])) _
    refine XS.icmpNo X.here hx rfl (hb hby at_187) rfl (teq h4).2 ?_
    show Steps p.tables e below (T.setTop (mkF m 190 #[.val (.int p1), .val (.int p2), .val (.long q3), .second, .val (.int (NF p1)), .val (.int (G0 q3)), .val (.int (G1 q3)), .val (.int (G2 q3)), .val (.int (G3 q3)), .val (.int (E0 p1 q3)), .val (.int (E1 p1 q3)), .val (.int (E2 p1 q3)), .val (.int (E3 p1 q3)), .val (.int (O1 p1 q3)), .val (.int (O2 p1 q3)), .val (.int (O3 p1 q3)), .val (.int (O4 p1 q3)), .unset, .unset, .unset, .unset] [])) _
    refine XS.iload X.here hx rfl (hb hby at_190) rfl ?_
    show Steps p.tables e below (T.setTop (mkF m 192 #[.val (.int p1), .val (.int p2), .val (.long q3), .second, .val (.int (NF p1)), .val (.int (G0 q3)), .val (.int (G1 q3)), .val (.int (G2 q3)), .val (.int (G3 q3)), .val (.int (E0 p1 q3)), .val (.int (E1 p1 q3)), .val (.int (E2 p1 q3)), .val (.int (E3 p1 q3)), .val (.int (O1 p1 q3)), .val (.int (O2 p1 q3)), .val (.int (O3 p1 q3)), .val (.int (O4 p1 q3)), .unset, .unset, .unset, .unset] [(.int (O3 p1 q3))])) _
    refine XS.istore X.here hx rfl (hb hby at_192) rfl (l' := #[.val (.int p1), .val (.int p2), .val (.long q3), .second, .val (.int (NF p1)), .val (.int (G0 q3)), .val (.int (G1 q3)), .val (.int (G2 q3)), .val (.int (G3 q3)), .val (.int (E0 p1 q3)), .val (.int (E1 p1 q3)), .val (.int (E2 p1 q3)), .val (.int (E3 p1 q3)), .val (.int (O1 p1 q3)), .val (.int (O2 p1 q3)), .val (.int (O3 p1 q3)), .val (.int (O4 p1 q3)), .val (.int (O3 p1 q3)), .unset, .unset, .unset]) rfl ?_
    show Steps p.tables e below (T.setTop (mkF m 194 #[.val (.int p1), .val (.int p2), .val (.long q3), .second, .val (.int (NF p1)), .val (.int (G0 q3)), .val (.int (G1 q3)), .val (.int (G2 q3)), .val (.int (G3 q3)), .val (.int (E0 p1 q3)), .val (.int (E1 p1 q3)), .val (.int (E2 p1 q3)), .val (.int (E3 p1 q3)), .val (.int (O1 p1 q3)), .val (.int (O2 p1 q3)), .val (.int (O3 p1 q3)), .val (.int (O4 p1 q3)), .val (.int (O3 p1 q3)), .unset, .unset, .unset] [])) _
    refine XS.goto X.here hx rfl (pc0 := 194) (pc' := 201) rfl (hb hby at_194) (by decide) (by decide) ?_
    show Steps p.tables e below (T.setTop (mkF m 201 #[.val (.int p1), .val (.int p2), .val (.long q3), .second, .val (.int (NF p1)), .val (.int (G0 q3)), .val (.int (G1 q3)), .val (.int (G2 q3)), .val (.int (G3 q3)), .val (.int (E0 p1 q3)), .val (.int (E1 p1 q3)), .val (.int (E2 p1 q3)), .val (.int (E3 p1 q3)), .val (.int (O1 p1 q3)), .val (.int (O2 p1 q3)), .val (.int (O3 p1 q3)), .val (.int (O4 p1 q3)), .val (.int (O3 p1 q3)), .unset, .unset, .unset] [])) _
    rw [show TF p1 q3 = O3 p1 q3 by rw [TF, if_pos h1, if_neg h2, if_neg h3, if_pos h4]] at kt
    exact kt
  refine XS.iload X.here hx rfl (hb hby at_146) rfl ?_
  show Steps p.tables e below (T.setTop (mkF m 148 #[.val (.int p1), .val (.int p2), .val (.long q3), .second, .val (.int (NF p1)), .val (.int (G0 q3)), .val (.int (G1 q3)), .val (.int (G2 q3)), .val (.int (G3 q3)), .val (.int (E0 p1 q3)), .val (.int (E1 p1 q3)), .val (.int (E2 p1 q3)), .val (.int (E3 p1 q3)), .val (.int (O1 p1 q3)), .val (.int (O2 p1 q3)), .val (.int (O3 p1 q3)), .val (.int (O4 p1 q3)), .unset, .unset, .unset, .unset] [(.int (NF p1))])) _
  refine XS.iconst X.here hx rfl (hb hby at_148) ?_
  show Steps p.tables e below (T.setTop (mkF m 149 #[.val (.int p1), .val (.int p2), .val (.long q3), .second, .val (.int (NF p1)), .val (.int (G0 q3)), .val (.int (G1 q3)), .val (.int (G2 q3)), .val (.int (G3 q3)), .val (.int (E0 p1 q3)), .val (.int (E1 p1 q3)), .val (.int (E2 p1 q3)), .val (.int (E3 p1 q3)), .val (.int (O1 p1 q3)), .val (.int (O2 p1 q3)), .val (.int (O3 p1 q3)), .val (.int (O4 p1 q3)), .unset, .unset, .unset, .unset] [(.int (1 : Int32)), (.int (NF p1))])) _
  refine XS.icmpYes X.here hx rfl (pc0 := 149) (pc' := 158) rfl (hb hby at_149) rfl (tlt h1).2.2.1 (by decide) (by decide) ?_
  show Steps p.tables e below (T.setTop (mkF m 158 #[.val (.int p1), .val (.int p2), .val (.long q3), .second, .val (.int (NF p1)), .val (.int (G0 q3)), .val (.int (G1 q3)), .val (.int (G2 q3)), .val (.int (G3 q3)), .val (.int (E0 p1 q3)), .val (.int (E1 p1 q3)), .val (.int (E2 p1 q3)), .val (.int (E3 p1 q3)), .val (.int (O1 p1 q3)), .val (.int (O2 p1 q3)), .val (.int (O3 p1 q3)), .val (.int (O4 p1 q3)), .unset, .unset, .unset, .unset] [])) _
  refine XS.iload X.here hx rfl (hb hby at_158) rfl ?_
  show Steps p.tables e below (T.setTop (mkF m 160 #[.val (.int p1), .val (.int p2), .val (.long q3), .second, .val (.int (NF p1)), .val (.int (G0 q3)), .val (.int (G1 q3)), .val (.int (G2 q3)), .val (.int (G3 q3)), .val (.int (E0 p1 q3)), .val (.int (E1 p1 q3)), .val (.int (E2 p1 q3)), .val (.int (E3 p1 q3)), .val (.int (O1 p1 q3)), .val (.int (O2 p1 q3)), .val (.int (O3 p1 q3)), .val (.int (O4 p1 q3)), .unset, .unset, .unset, .unset] [(.int (NF p1))])) _
  refine XS.iconst X.here hx rfl (hb hby at_160) ?_
  show Steps p.tables e below (T.setTop (mkF m 161 #[.val (.int p1), .val (.int p2), .val (.long q3), .second, .val (.int (NF p1)), .val (.int (G0 q3)), .val (.int (G1 q3)), .val (.int (G2 q3)), .val (.int (G3 q3)), .val (.int (E0 p1 q3)), .val (.int (E1 p1 q3)), .val (.int (E2 p1 q3)), .val (.int (E3 p1 q3)), .val (.int (O1 p1 q3)), .val (.int (O2 p1 q3)), .val (.int (O3 p1 q3)), .val (.int (O4 p1 q3)), .unset, .unset, .unset, .unset] [(.int (2 : Int32)), (.int (NF p1))])) _
  refine XS.icmpYes X.here hx rfl (pc0 := 161) (pc' := 171) rfl (hb hby at_161) rfl (feq h2).2 (by decide) (by decide) ?_
  show Steps p.tables e below (T.setTop (mkF m 171 #[.val (.int p1), .val (.int p2), .val (.long q3), .second, .val (.int (NF p1)), .val (.int (G0 q3)), .val (.int (G1 q3)), .val (.int (G2 q3)), .val (.int (G3 q3)), .val (.int (E0 p1 q3)), .val (.int (E1 p1 q3)), .val (.int (E2 p1 q3)), .val (.int (E3 p1 q3)), .val (.int (O1 p1 q3)), .val (.int (O2 p1 q3)), .val (.int (O3 p1 q3)), .val (.int (O4 p1 q3)), .unset, .unset, .unset, .unset] [])) _
  refine XS.iload X.here hx rfl (hb hby at_171) rfl ?_
  show Steps p.tables e below (T.setTop (mkF m 173 #[.val (.int p1), .val (.int p2), .val (.long q3), .second, .val (.int (NF p1)), .val (.int (G0 q3)), .val (.int (G1 q3)), .val (.int (G2 q3)), .val (.int (G3 q3)), .val (.int (E0 p1 q3)), .val (.int (E1 p1 q3)), .val (.int (E2 p1 q3)), .val (.int (E3 p1 q3)), .val (.int (O1 p1 q3)), .val (.int (O2 p1 q3)), .val (.int (O3 p1 q3)), .val (.int (O4 p1 q3)), .unset, .unset, .unset, .unset] [(.int (NF p1))])) _
  refine XS.iconst X.here hx rfl (hb hby at_173) ?_
  show Steps p.tables e below (T.setTop (mkF m 174 #[.val (.int p1), .val (.int p2), .val (.long q3), .second, .val (.int (NF p1)), .val (.int (G0 q3)), .val (.int (G1 q3)), .val (.int (G2 q3)), .val (.int (G3 q3)), .val (.int (E0 p1 q3)), .val (.int (E1 p1 q3)), .val (.int (E2 p1 q3)), .val (.int (E3 p1 q3)), .val (.int (O1 p1 q3)), .val (.int (O2 p1 q3)), .val (.int (O3 p1 q3)), .val (.int (O4 p1 q3)), .unset, .unset, .unset, .unset] [(.int (3 : Int32)), (.int (NF p1))])) _
  refine XS.icmpYes X.here hx rfl (pc0 := 174) (pc' := 184) rfl (hb hby at_174) rfl (feq h3).2 (by decide) (by decide) ?_
  show Steps p.tables e below (T.setTop (mkF m 184 #[.val (.int p1), .val (.int p2), .val (.long q3), .second, .val (.int (NF p1)), .val (.int (G0 q3)), .val (.int (G1 q3)), .val (.int (G2 q3)), .val (.int (G3 q3)), .val (.int (E0 p1 q3)), .val (.int (E1 p1 q3)), .val (.int (E2 p1 q3)), .val (.int (E3 p1 q3)), .val (.int (O1 p1 q3)), .val (.int (O2 p1 q3)), .val (.int (O3 p1 q3)), .val (.int (O4 p1 q3)), .unset, .unset, .unset, .unset] [])) _
  refine XS.iload X.here hx rfl (hb hby at_184) rfl ?_
  show Steps p.tables e below (T.setTop (mkF m 186 #[.val (.int p1), .val (.int p2), .val (.long q3), .second, .val (.int (NF p1)), .val (.int (G0 q3)), .val (.int (G1 q3)), .val (.int (G2 q3)), .val (.int (G3 q3)), .val (.int (E0 p1 q3)), .val (.int (E1 p1 q3)), .val (.int (E2 p1 q3)), .val (.int (E3 p1 q3)), .val (.int (O1 p1 q3)), .val (.int (O2 p1 q3)), .val (.int (O3 p1 q3)), .val (.int (O4 p1 q3)), .unset, .unset, .unset, .unset] [(.int (NF p1))])) _
  refine XS.iconst X.here hx rfl (hb hby at_186) ?_
  show Steps p.tables e below (T.setTop (mkF m 187 #[.val (.int p1), .val (.int p2), .val (.long q3), .second, .val (.int (NF p1)), .val (.int (G0 q3)), .val (.int (G1 q3)), .val (.int (G2 q3)), .val (.int (G3 q3)), .val (.int (E0 p1 q3)), .val (.int (E1 p1 q3)), .val (.int (E2 p1 q3)), .val (.int (E3 p1 q3)), .val (.int (O1 p1 q3)), .val (.int (O2 p1 q3)), .val (.int (O3 p1 q3)), .val (.int (O4 p1 q3)), .unset, .unset, .unset, .unset] [(.int (4 : Int32)), (.int (NF p1))])) _
  refine XS.icmpYes X.here hx rfl (pc0 := 187) (pc' := 197) rfl (hb hby at_187) rfl (feq h4).2 (by decide) (by decide) ?_
  show Steps p.tables e below (T.setTop (mkF m 197 #[.val (.int p1), .val (.int p2), .val (.long q3), .second, .val (.int (NF p1)), .val (.int (G0 q3)), .val (.int (G1 q3)), .val (.int (G2 q3)), .val (.int (G3 q3)), .val (.int (E0 p1 q3)), .val (.int (E1 p1 q3)), .val (.int (E2 p1 q3)), .val (.int (E3 p1 q3)), .val (.int (O1 p1 q3)), .val (.int (O2 p1 q3)), .val (.int (O3 p1 q3)), .val (.int (O4 p1 q3)), .unset, .unset, .unset, .unset] [])) _
  refine XS.iload X.here hx rfl (hb hby at_197) rfl ?_
  show Steps p.tables e below (T.setTop (mkF m 199 #[.val (.int p1), .val (.int p2), .val (.long q3), .second, .val (.int (NF p1)), .val (.int (G0 q3)), .val (.int (G1 q3)), .val (.int (G2 q3)), .val (.int (G3 q3)), .val (.int (E0 p1 q3)), .val (.int (E1 p1 q3)), .val (.int (E2 p1 q3)), .val (.int (E3 p1 q3)), .val (.int (O1 p1 q3)), .val (.int (O2 p1 q3)), .val (.int (O3 p1 q3)), .val (.int (O4 p1 q3)), .unset, .unset, .unset, .unset] [(.int (O4 p1 q3))])) _
  refine XS.istore X.here hx rfl (hb hby at_199) rfl (l' := #[.val (.int p1), .val (.int p2), .val (.long q3), .second, .val (.int (NF p1)), .val (.int (G0 q3)), .val (.int (G1 q3)), .val (.int (G2 q3)), .val (.int (G3 q3)), .val (.int (E0 p1 q3)), .val (.int (E1 p1 q3)), .val (.int (E2 p1 q3)), .val (.int (E3 p1 q3)), .val (.int (O1 p1 q3)), .val (.int (O2 p1 q3)), .val (.int (O3 p1 q3)), .val (.int (O4 p1 q3)), .val (.int (O4 p1 q3)), .unset, .unset, .unset]) rfl ?_
  show Steps p.tables e below (T.setTop (mkF m 201 #[.val (.int p1), .val (.int p2), .val (.long q3), .second, .val (.int (NF p1)), .val (.int (G0 q3)), .val (.int (G1 q3)), .val (.int (G2 q3)), .val (.int (G3 q3)), .val (.int (E0 p1 q3)), .val (.int (E1 p1 q3)), .val (.int (E2 p1 q3)), .val (.int (E3 p1 q3)), .val (.int (O1 p1 q3)), .val (.int (O2 p1 q3)), .val (.int (O3 p1 q3)), .val (.int (O4 p1 q3)), .val (.int (O4 p1 q3)), .unset, .unset, .unset] [])) _
  rw [show TF p1 q3 = O4 p1 q3 by rw [TF, if_pos h1, if_neg h2, if_neg h3, if_neg h4]] at kt
  exact kt
set_option maxRecDepth 65536 in
set_option maxHeartbeats 40000000 in
theorem sg_201 {p : Program} {l : Launch} {e : Env} {R : Room} {s : State} {m : MethodId} {args : Array Value} {below : List Frame} {meth : Method} {c : Code} {T : State} {locs : List Loc} {cells slots : Nat} {Z : State} {a0 : Array Value} (p1 p2 : Int32) (q3 : Int64) (X : Stand p l e R s m args below meth c T locs cells slots) (hx : p.tables.exec = Jvm.exec) (hZ : Z.Warmed39 s.vm) (hw : ∀ d ∈ tables_1, d.before a0 Z = true) (hby : c.code = code) (hown : s.vm.findClass "bitcove/ArrayContainerRunCountPinLaw" = some m.cls) :
    ∀ target, Steps p.tables e below (T.setTop (mkF m 213 #[.val (.int p1), .val (.int p2), .val (.long q3), .second, .val (.int (NF p1)), .val (.int (G0 q3)), .val (.int (G1 q3)), .val (.int (G2 q3)), .val (.int (G3 q3)), .val (.int (E0 p1 q3)), .val (.int (E1 p1 q3)), .val (.int (E2 p1 q3)), .val (.int (E3 p1 q3)), .val (.int (O1 p1 q3)), .val (.int (O2 p1 q3)), .val (.int (O3 p1 q3)), .val (.int (O4 p1 q3)), .val (.int (TF p1 q3)), .val (.int (VF p1 p2 q3)), .unset, .unset] [])) target → Steps p.tables e below (T.setTop (mkF m 201 #[.val (.int p1), .val (.int p2), .val (.long q3), .second, .val (.int (NF p1)), .val (.int (G0 q3)), .val (.int (G1 q3)), .val (.int (G2 q3)), .val (.int (G3 q3)), .val (.int (E0 p1 q3)), .val (.int (E1 p1 q3)), .val (.int (E2 p1 q3)), .val (.int (E3 p1 q3)), .val (.int (O1 p1 q3)), .val (.int (O2 p1 q3)), .val (.int (O3 p1 q3)), .val (.int (O4 p1 q3)), .val (.int (TF p1 q3)), .unset, .unset, .unset] [])) target := by
  intro target kt
  have hnz210 := own_Tz p1 q3
  refine XS.iloadN X.here hx rfl (hb hby at_201) rfl ?_
  show Steps p.tables e below (T.setTop (mkF m 202 #[.val (.int p1), .val (.int p2), .val (.long q3), .second, .val (.int (NF p1)), .val (.int (G0 q3)), .val (.int (G1 q3)), .val (.int (G2 q3)), .val (.int (G3 q3)), .val (.int (E0 p1 q3)), .val (.int (E1 p1 q3)), .val (.int (E2 p1 q3)), .val (.int (E3 p1 q3)), .val (.int (O1 p1 q3)), .val (.int (O2 p1 q3)), .val (.int (O3 p1 q3)), .val (.int (O4 p1 q3)), .val (.int (TF p1 q3)), .unset, .unset, .unset] [(.int p2)])) _
  refine X.ldcInt hx hown (mvT hZ (hw _ (List.mem_of_getElem? (i := 0) rfl))) (g := (mkF m 202 #[.val (.int p1), .val (.int p2), .val (.long q3), .second, .val (.int (NF p1)), .val (.int (G0 q3)), .val (.int (G1 q3)), .val (.int (G2 q3)), .val (.int (G3 q3)), .val (.int (E0 p1 q3)), .val (.int (E1 p1 q3)), .val (.int (E2 p1 q3)), .val (.int (E3 p1 q3)), .val (.int (O1 p1 q3)), .val (.int (O2 p1 q3)), .val (.int (O3 p1 q3)), .val (.int (O4 p1 q3)), .val (.int (TF p1 q3)), .unset, .unset, .unset] [(.int p2)])) rfl (hb hby at_202) _ ?_
  show Steps p.tables e below (T.setTop (mkF m 204 #[.val (.int p1), .val (.int p2), .val (.long q3), .second, .val (.int (NF p1)), .val (.int (G0 q3)), .val (.int (G1 q3)), .val (.int (G2 q3)), .val (.int (G3 q3)), .val (.int (E0 p1 q3)), .val (.int (E1 p1 q3)), .val (.int (E2 p1 q3)), .val (.int (E3 p1 q3)), .val (.int (O1 p1 q3)), .val (.int (O2 p1 q3)), .val (.int (O3 p1 q3)), .val (.int (O4 p1 q3)), .val (.int (TF p1 q3)), .unset, .unset, .unset] [(.int (2147483647 : Int32)), (.int p2)])) _
  refine XS.iand X.here hx rfl (hb hby at_204) rfl ?_
  show Steps p.tables e below (T.setTop (mkF m 205 #[.val (.int p1), .val (.int p2), .val (.long q3), .second, .val (.int (NF p1)), .val (.int (G0 q3)), .val (.int (G1 q3)), .val (.int (G2 q3)), .val (.int (G3 q3)), .val (.int (E0 p1 q3)), .val (.int (E1 p1 q3)), .val (.int (E2 p1 q3)), .val (.int (E3 p1 q3)), .val (.int (O1 p1 q3)), .val (.int (O2 p1 q3)), .val (.int (O3 p1 q3)), .val (.int (O4 p1 q3)), .val (.int (TF p1 q3)), .unset, .unset, .unset] [(.int (p2 &&& (2147483647 : Int32)))])) _
  refine X.ldcInt hx hown (mvT hZ (hw _ (List.mem_of_getElem? (i := 2) rfl))) (g := (mkF m 205 #[.val (.int p1), .val (.int p2), .val (.long q3), .second, .val (.int (NF p1)), .val (.int (G0 q3)), .val (.int (G1 q3)), .val (.int (G2 q3)), .val (.int (G3 q3)), .val (.int (E0 p1 q3)), .val (.int (E1 p1 q3)), .val (.int (E2 p1 q3)), .val (.int (E3 p1 q3)), .val (.int (O1 p1 q3)), .val (.int (O2 p1 q3)), .val (.int (O3 p1 q3)), .val (.int (O4 p1 q3)), .val (.int (TF p1 q3)), .unset, .unset, .unset] [(.int (p2 &&& (2147483647 : Int32)))])) rfl (hb hby at_205) _ ?_
  show Steps p.tables e below (T.setTop (mkF m 207 #[.val (.int p1), .val (.int p2), .val (.long q3), .second, .val (.int (NF p1)), .val (.int (G0 q3)), .val (.int (G1 q3)), .val (.int (G2 q3)), .val (.int (G3 q3)), .val (.int (E0 p1 q3)), .val (.int (E1 p1 q3)), .val (.int (E2 p1 q3)), .val (.int (E3 p1 q3)), .val (.int (O1 p1 q3)), .val (.int (O2 p1 q3)), .val (.int (O3 p1 q3)), .val (.int (O4 p1 q3)), .val (.int (TF p1 q3)), .unset, .unset, .unset] [(.int (65536 : Int32)), (.int (p2 &&& (2147483647 : Int32)))])) _
  refine XS.iload X.here hx rfl (hb hby at_207) rfl ?_
  show Steps p.tables e below (T.setTop (mkF m 209 #[.val (.int p1), .val (.int p2), .val (.long q3), .second, .val (.int (NF p1)), .val (.int (G0 q3)), .val (.int (G1 q3)), .val (.int (G2 q3)), .val (.int (G3 q3)), .val (.int (E0 p1 q3)), .val (.int (E1 p1 q3)), .val (.int (E2 p1 q3)), .val (.int (E3 p1 q3)), .val (.int (O1 p1 q3)), .val (.int (O2 p1 q3)), .val (.int (O3 p1 q3)), .val (.int (O4 p1 q3)), .val (.int (TF p1 q3)), .unset, .unset, .unset] [(.int (TF p1 q3)), (.int (65536 : Int32)), (.int (p2 &&& (2147483647 : Int32)))])) _
  refine XS.isub X.here hx rfl (hb hby at_209) rfl ?_
  show Steps p.tables e below (T.setTop (mkF m 210 #[.val (.int p1), .val (.int p2), .val (.long q3), .second, .val (.int (NF p1)), .val (.int (G0 q3)), .val (.int (G1 q3)), .val (.int (G2 q3)), .val (.int (G3 q3)), .val (.int (E0 p1 q3)), .val (.int (E1 p1 q3)), .val (.int (E2 p1 q3)), .val (.int (E3 p1 q3)), .val (.int (O1 p1 q3)), .val (.int (O2 p1 q3)), .val (.int (O3 p1 q3)), .val (.int (O4 p1 q3)), .val (.int (TF p1 q3)), .unset, .unset, .unset] [(.int ((65536 : Int32) - (TF p1 q3))), (.int (p2 &&& (2147483647 : Int32)))])) _
  refine XS.irem X.here hx rfl (hb hby at_210) rfl hnz210 ?_
  show Steps p.tables e below (T.setTop (mkF m 211 #[.val (.int p1), .val (.int p2), .val (.long q3), .second, .val (.int (NF p1)), .val (.int (G0 q3)), .val (.int (G1 q3)), .val (.int (G2 q3)), .val (.int (G3 q3)), .val (.int (E0 p1 q3)), .val (.int (E1 p1 q3)), .val (.int (E2 p1 q3)), .val (.int (E3 p1 q3)), .val (.int (O1 p1 q3)), .val (.int (O2 p1 q3)), .val (.int (O3 p1 q3)), .val (.int (O4 p1 q3)), .val (.int (TF p1 q3)), .unset, .unset, .unset] [(.int (VF p1 p2 q3))])) _
  refine XS.istore X.here hx rfl (hb hby at_211) rfl (l' := #[.val (.int p1), .val (.int p2), .val (.long q3), .second, .val (.int (NF p1)), .val (.int (G0 q3)), .val (.int (G1 q3)), .val (.int (G2 q3)), .val (.int (G3 q3)), .val (.int (E0 p1 q3)), .val (.int (E1 p1 q3)), .val (.int (E2 p1 q3)), .val (.int (E3 p1 q3)), .val (.int (O1 p1 q3)), .val (.int (O2 p1 q3)), .val (.int (O3 p1 q3)), .val (.int (O4 p1 q3)), .val (.int (TF p1 q3)), .val (.int (VF p1 p2 q3)), .unset, .unset]) rfl ?_
  show Steps p.tables e below (T.setTop (mkF m 213 #[.val (.int p1), .val (.int p2), .val (.long q3), .second, .val (.int (NF p1)), .val (.int (G0 q3)), .val (.int (G1 q3)), .val (.int (G2 q3)), .val (.int (G3 q3)), .val (.int (E0 p1 q3)), .val (.int (E1 p1 q3)), .val (.int (E2 p1 q3)), .val (.int (E3 p1 q3)), .val (.int (O1 p1 q3)), .val (.int (O2 p1 q3)), .val (.int (O3 p1 q3)), .val (.int (O4 p1 q3)), .val (.int (TF p1 q3)), .val (.int (VF p1 p2 q3)), .unset, .unset] [])) _
  exact kt
theorem sg_pre {p : Program} {l : Launch} {e : Env} {R : Room} {s : State} {m : MethodId} {args : Array Value} {below : List Frame} {meth : Method} {c : Code} {T : State} {locs : List Loc} {cells slots : Nat} {Z : State} {a0 : Array Value} (p1 p2 : Int32) (q3 : Int64) (X : Stand p l e R s m args below meth c T locs cells slots) (hx : p.tables.exec = Jvm.exec) (hZ : Z.Warmed39 s.vm) (hw : ∀ d ∈ tables_1, d.before a0 Z = true) (hby : c.code = code) (hown : s.vm.findClass "bitcove/ArrayContainerRunCountPinLaw" = some m.cls) :
    ∀ target, Steps p.tables e below (T.setTop (mkF m 213 #[.val (.int p1), .val (.int p2), .val (.long q3), .second, .val (.int (NF p1)), .val (.int (G0 q3)), .val (.int (G1 q3)), .val (.int (G2 q3)), .val (.int (G3 q3)), .val (.int (E0 p1 q3)), .val (.int (E1 p1 q3)), .val (.int (E2 p1 q3)), .val (.int (E3 p1 q3)), .val (.int (O1 p1 q3)), .val (.int (O2 p1 q3)), .val (.int (O3 p1 q3)), .val (.int (O4 p1 q3)), .val (.int (TF p1 q3)), .val (.int (VF p1 p2 q3)), .unset, .unset] [])) target → Steps p.tables e below (T.setTop (mkF m 0 #[.val (.int p1), .val (.int p2), .val (.long q3), .second, .unset, .unset, .unset, .unset, .unset, .unset, .unset, .unset, .unset, .unset, .unset, .unset, .unset, .unset, .unset, .unset, .unset] [])) target := fun target kt =>
  sg_0 p1 p2 q3 X hx hZ hw hby hown _ (sg_50 p1 p2 q3 X hx hZ hw hby hown _ (sg_65 p1 p2 q3 X hx hZ hw hby hown _ (sg_81 p1 p2 q3 X hx hZ hw hby hown _ (sg_97 p1 p2 q3 X hx hZ hw hby hown _ (sg_113 p1 p2 q3 X hx hZ hw hby hown _ (sg_146 p1 p2 q3 X hx hZ hw hby hown _ (sg_201 p1 p2 q3 X hx hZ hw hby hown _ kt)))))))
set_option maxRecDepth 65536 in
set_option maxHeartbeats 40000000 in
theorem sg_318 {p : Program} {l : Launch} {e : Env} {R : Room} {s : State} {m : MethodId} {args : Array Value} {below : List Frame} {meth : Method} {c : Code} {T : State} {locs : List Loc} {cells slots : Nat} {Z : State} {a0 : Array Value} (p1 p2 : Int32) (q3 : Int64) (b : Addr) (u : Int32) (X : Stand p l e R s m args below meth c T locs cells slots) (hx : p.tables.exec = Jvm.exec) (hZ : Z.Warmed39 s.vm) (hw : ∀ d ∈ tables_1, d.before a0 Z = true) (hby : c.code = code) (hown : s.vm.findClass "bitcove/ArrayContainerRunCountPinLaw" = some m.cls) :
    ∀ target, Steps p.tables e below (T.setTop (mkF m 328 #[.val (.int p1), .val (.int p2), .val (.long q3), .second, .val (.int (NF p1)), .val (.int (G0 q3)), .val (.int (G1 q3)), .val (.int (G2 q3)), .val (.int (G3 q3)), .val (.int (E0 p1 q3)), .val (.int (E1 p1 q3)), .val (.int (E2 p1 q3)), .val (.int (E3 p1 q3)), .val (.int (O1 p1 q3)), .val (.int (O2 p1 q3)), .val (.int (O3 p1 q3)), .val (.int (O4 p1 q3)), .val (.int (TF p1 q3)), .val (.int (VF p1 p2 q3)), .val (.ref b), .unset] [(.int (DF (E0 p1 q3))), (.int u)])) target → Steps p.tables e below (T.setTop (mkF m 318 #[.val (.int p1), .val (.int p2), .val (.long q3), .second, .val (.int (NF p1)), .val (.int (G0 q3)), .val (.int (G1 q3)), .val (.int (G2 q3)), .val (.int (G3 q3)), .val (.int (E0 p1 q3)), .val (.int (E1 p1 q3)), .val (.int (E2 p1 q3)), .val (.int (E3 p1 q3)), .val (.int (O1 p1 q3)), .val (.int (O2 p1 q3)), .val (.int (O3 p1 q3)), .val (.int (O4 p1 q3)), .val (.int (TF p1 q3)), .val (.int (VF p1 p2 q3)), .val (.ref b), .unset] [(.int u)])) target := by
  intro target kt
  by_cases hc : E0 p1 q3 = 0
  case pos =>
    refine XS.iload X.here hx rfl (hb hby at_318) rfl ?_
    show Steps p.tables e below (T.setTop (mkF m 320 #[.val (.int p1), .val (.int p2), .val (.long q3), .second, .val (.int (NF p1)), .val (.int (G0 q3)), .val (.int (G1 q3)), .val (.int (G2 q3)), .val (.int (G3 q3)), .val (.int (E0 p1 q3)), .val (.int (E1 p1 q3)), .val (.int (E2 p1 q3)), .val (.int (E3 p1 q3)), .val (.int (O1 p1 q3)), .val (.int (O2 p1 q3)), .val (.int (O3 p1 q3)), .val (.int (O4 p1 q3)), .val (.int (TF p1 q3)), .val (.int (VF p1 p2 q3)), .val (.ref b), .unset] [(.int (E0 p1 q3)), (.int u)])) _
    refine XS.ifYes X.here hx rfl (pc0 := 320) (pc' := 327) rfl (hb hby at_320) rfl ((if0 _ _).trans (teq hc).1) (by decide) (by decide) ?_
    show Steps p.tables e below (T.setTop (mkF m 327 #[.val (.int p1), .val (.int p2), .val (.long q3), .second, .val (.int (NF p1)), .val (.int (G0 q3)), .val (.int (G1 q3)), .val (.int (G2 q3)), .val (.int (G3 q3)), .val (.int (E0 p1 q3)), .val (.int (E1 p1 q3)), .val (.int (E2 p1 q3)), .val (.int (E3 p1 q3)), .val (.int (O1 p1 q3)), .val (.int (O2 p1 q3)), .val (.int (O3 p1 q3)), .val (.int (O4 p1 q3)), .val (.int (TF p1 q3)), .val (.int (VF p1 p2 q3)), .val (.ref b), .unset] [(.int u)])) _
    refine XS.iconst X.here hx rfl (hb hby at_327) ?_
    show Steps p.tables e below (T.setTop (mkF m 328 #[.val (.int p1), .val (.int p2), .val (.long q3), .second, .val (.int (NF p1)), .val (.int (G0 q3)), .val (.int (G1 q3)), .val (.int (G2 q3)), .val (.int (G3 q3)), .val (.int (E0 p1 q3)), .val (.int (E1 p1 q3)), .val (.int (E2 p1 q3)), .val (.int (E3 p1 q3)), .val (.int (O1 p1 q3)), .val (.int (O2 p1 q3)), .val (.int (O3 p1 q3)), .val (.int (O4 p1 q3)), .val (.int (TF p1 q3)), .val (.int (VF p1 p2 q3)), .val (.ref b), .unset] [(.int (0 : Int32)), (.int u)])) _
    rw [show DF (E0 p1 q3) = 0 by rw [DF, if_pos hc]] at kt
    exact kt
  case neg =>
    refine XS.iload X.here hx rfl (hb hby at_318) rfl ?_
    show Steps p.tables e below (T.setTop (mkF m 320 #[.val (.int p1), .val (.int p2), .val (.long q3), .second, .val (.int (NF p1)), .val (.int (G0 q3)), .val (.int (G1 q3)), .val (.int (G2 q3)), .val (.int (G3 q3)), .val (.int (E0 p1 q3)), .val (.int (E1 p1 q3)), .val (.int (E2 p1 q3)), .val (.int (E3 p1 q3)), .val (.int (O1 p1 q3)), .val (.int (O2 p1 q3)), .val (.int (O3 p1 q3)), .val (.int (O4 p1 q3)), .val (.int (TF p1 q3)), .val (.int (VF p1 p2 q3)), .val (.ref b), .unset] [(.int (E0 p1 q3)), (.int u)])) _
    refine XS.ifNo X.here hx rfl (hb hby at_320) rfl ((if0 _ _).trans (feq hc).1) ?_
    show Steps p.tables e below (T.setTop (mkF m 323 #[.val (.int p1), .val (.int p2), .val (.long q3), .second, .val (.int (NF p1)), .val (.int (G0 q3)), .val (.int (G1 q3)), .val (.int (G2 q3)), .val (.int (G3 q3)), .val (.int (E0 p1 q3)), .val (.int (E1 p1 q3)), .val (.int (E2 p1 q3)), .val (.int (E3 p1 q3)), .val (.int (O1 p1 q3)), .val (.int (O2 p1 q3)), .val (.int (O3 p1 q3)), .val (.int (O4 p1 q3)), .val (.int (TF p1 q3)), .val (.int (VF p1 p2 q3)), .val (.ref b), .unset] [(.int u)])) _
    refine XS.iconst X.here hx rfl (hb hby at_323) ?_
    show Steps p.tables e below (T.setTop (mkF m 324 #[.val (.int p1), .val (.int p2), .val (.long q3), .second, .val (.int (NF p1)), .val (.int (G0 q3)), .val (.int (G1 q3)), .val (.int (G2 q3)), .val (.int (G3 q3)), .val (.int (E0 p1 q3)), .val (.int (E1 p1 q3)), .val (.int (E2 p1 q3)), .val (.int (E3 p1 q3)), .val (.int (O1 p1 q3)), .val (.int (O2 p1 q3)), .val (.int (O3 p1 q3)), .val (.int (O4 p1 q3)), .val (.int (TF p1 q3)), .val (.int (VF p1 p2 q3)), .val (.ref b), .unset] [(.int (1 : Int32)), (.int u)])) _
    refine XS.goto X.here hx rfl (pc0 := 324) (pc' := 328) rfl (hb hby at_324) (by decide) (by decide) ?_
    show Steps p.tables e below (T.setTop (mkF m 328 #[.val (.int p1), .val (.int p2), .val (.long q3), .second, .val (.int (NF p1)), .val (.int (G0 q3)), .val (.int (G1 q3)), .val (.int (G2 q3)), .val (.int (G3 q3)), .val (.int (E0 p1 q3)), .val (.int (E1 p1 q3)), .val (.int (E2 p1 q3)), .val (.int (E3 p1 q3)), .val (.int (O1 p1 q3)), .val (.int (O2 p1 q3)), .val (.int (O3 p1 q3)), .val (.int (O4 p1 q3)), .val (.int (TF p1 q3)), .val (.int (VF p1 p2 q3)), .val (.ref b), .unset] [(.int (1 : Int32)), (.int u)])) _
    rw [show DF (E0 p1 q3) = 1 by rw [DF, if_neg hc]] at kt
    exact kt
set_option maxRecDepth 65536 in
set_option maxHeartbeats 40000000 in
theorem sg_329 {p : Program} {l : Launch} {e : Env} {R : Room} {s : State} {m : MethodId} {args : Array Value} {below : List Frame} {meth : Method} {c : Code} {T : State} {locs : List Loc} {cells slots : Nat} {Z : State} {a0 : Array Value} (p1 p2 : Int32) (q3 : Int64) (b : Addr) (u : Int32) (X : Stand p l e R s m args below meth c T locs cells slots) (hx : p.tables.exec = Jvm.exec) (hZ : Z.Warmed39 s.vm) (hw : ∀ d ∈ tables_1, d.before a0 Z = true) (hby : c.code = code) (hown : s.vm.findClass "bitcove/ArrayContainerRunCountPinLaw" = some m.cls) :
    ∀ target, Steps p.tables e below (T.setTop (mkF m 339 #[.val (.int p1), .val (.int p2), .val (.long q3), .second, .val (.int (NF p1)), .val (.int (G0 q3)), .val (.int (G1 q3)), .val (.int (G2 q3)), .val (.int (G3 q3)), .val (.int (E0 p1 q3)), .val (.int (E1 p1 q3)), .val (.int (E2 p1 q3)), .val (.int (E3 p1 q3)), .val (.int (O1 p1 q3)), .val (.int (O2 p1 q3)), .val (.int (O3 p1 q3)), .val (.int (O4 p1 q3)), .val (.int (TF p1 q3)), .val (.int (VF p1 p2 q3)), .val (.ref b), .unset] [(.int (DF (E1 p1 q3))), (.int u)])) target → Steps p.tables e below (T.setTop (mkF m 329 #[.val (.int p1), .val (.int p2), .val (.long q3), .second, .val (.int (NF p1)), .val (.int (G0 q3)), .val (.int (G1 q3)), .val (.int (G2 q3)), .val (.int (G3 q3)), .val (.int (E0 p1 q3)), .val (.int (E1 p1 q3)), .val (.int (E2 p1 q3)), .val (.int (E3 p1 q3)), .val (.int (O1 p1 q3)), .val (.int (O2 p1 q3)), .val (.int (O3 p1 q3)), .val (.int (O4 p1 q3)), .val (.int (TF p1 q3)), .val (.int (VF p1 p2 q3)), .val (.ref b), .unset] [(.int u)])) target := by
  intro target kt
  by_cases hc : E1 p1 q3 = 0
  case pos =>
    refine XS.iload X.here hx rfl (hb hby at_329) rfl ?_
    show Steps p.tables e below (T.setTop (mkF m 331 #[.val (.int p1), .val (.int p2), .val (.long q3), .second, .val (.int (NF p1)), .val (.int (G0 q3)), .val (.int (G1 q3)), .val (.int (G2 q3)), .val (.int (G3 q3)), .val (.int (E0 p1 q3)), .val (.int (E1 p1 q3)), .val (.int (E2 p1 q3)), .val (.int (E3 p1 q3)), .val (.int (O1 p1 q3)), .val (.int (O2 p1 q3)), .val (.int (O3 p1 q3)), .val (.int (O4 p1 q3)), .val (.int (TF p1 q3)), .val (.int (VF p1 p2 q3)), .val (.ref b), .unset] [(.int (E1 p1 q3)), (.int u)])) _
    refine XS.ifYes X.here hx rfl (pc0 := 331) (pc' := 338) rfl (hb hby at_331) rfl ((if0 _ _).trans (teq hc).1) (by decide) (by decide) ?_
    show Steps p.tables e below (T.setTop (mkF m 338 #[.val (.int p1), .val (.int p2), .val (.long q3), .second, .val (.int (NF p1)), .val (.int (G0 q3)), .val (.int (G1 q3)), .val (.int (G2 q3)), .val (.int (G3 q3)), .val (.int (E0 p1 q3)), .val (.int (E1 p1 q3)), .val (.int (E2 p1 q3)), .val (.int (E3 p1 q3)), .val (.int (O1 p1 q3)), .val (.int (O2 p1 q3)), .val (.int (O3 p1 q3)), .val (.int (O4 p1 q3)), .val (.int (TF p1 q3)), .val (.int (VF p1 p2 q3)), .val (.ref b), .unset] [(.int u)])) _
    refine XS.iconst X.here hx rfl (hb hby at_338) ?_
    show Steps p.tables e below (T.setTop (mkF m 339 #[.val (.int p1), .val (.int p2), .val (.long q3), .second, .val (.int (NF p1)), .val (.int (G0 q3)), .val (.int (G1 q3)), .val (.int (G2 q3)), .val (.int (G3 q3)), .val (.int (E0 p1 q3)), .val (.int (E1 p1 q3)), .val (.int (E2 p1 q3)), .val (.int (E3 p1 q3)), .val (.int (O1 p1 q3)), .val (.int (O2 p1 q3)), .val (.int (O3 p1 q3)), .val (.int (O4 p1 q3)), .val (.int (TF p1 q3)), .val (.int (VF p1 p2 q3)), .val (.ref b), .unset] [(.int (0 : Int32)), (.int u)])) _
    rw [show DF (E1 p1 q3) = 0 by rw [DF, if_pos hc]] at kt
    exact kt
  case neg =>
    refine XS.iload X.here hx rfl (hb hby at_329) rfl ?_
    show Steps p.tables e below (T.setTop (mkF m 331 #[.val (.int p1), .val (.int p2), .val (.long q3), .second, .val (.int (NF p1)), .val (.int (G0 q3)), .val (.int (G1 q3)), .val (.int (G2 q3)), .val (.int (G3 q3)), .val (.int (E0 p1 q3)), .val (.int (E1 p1 q3)), .val (.int (E2 p1 q3)), .val (.int (E3 p1 q3)), .val (.int (O1 p1 q3)), .val (.int (O2 p1 q3)), .val (.int (O3 p1 q3)), .val (.int (O4 p1 q3)), .val (.int (TF p1 q3)), .val (.int (VF p1 p2 q3)), .val (.ref b), .unset] [(.int (E1 p1 q3)), (.int u)])) _
    refine XS.ifNo X.here hx rfl (hb hby at_331) rfl ((if0 _ _).trans (feq hc).1) ?_
    show Steps p.tables e below (T.setTop (mkF m 334 #[.val (.int p1), .val (.int p2), .val (.long q3), .second, .val (.int (NF p1)), .val (.int (G0 q3)), .val (.int (G1 q3)), .val (.int (G2 q3)), .val (.int (G3 q3)), .val (.int (E0 p1 q3)), .val (.int (E1 p1 q3)), .val (.int (E2 p1 q3)), .val (.int (E3 p1 q3)), .val (.int (O1 p1 q3)), .val (.int (O2 p1 q3)), .val (.int (O3 p1 q3)), .val (.int (O4 p1 q3)), .val (.int (TF p1 q3)), .val (.int (VF p1 p2 q3)), .val (.ref b), .unset] [(.int u)])) _
    refine XS.iconst X.here hx rfl (hb hby at_334) ?_
    show Steps p.tables e below (T.setTop (mkF m 335 #[.val (.int p1), .val (.int p2), .val (.long q3), .second, .val (.int (NF p1)), .val (.int (G0 q3)), .val (.int (G1 q3)), .val (.int (G2 q3)), .val (.int (G3 q3)), .val (.int (E0 p1 q3)), .val (.int (E1 p1 q3)), .val (.int (E2 p1 q3)), .val (.int (E3 p1 q3)), .val (.int (O1 p1 q3)), .val (.int (O2 p1 q3)), .val (.int (O3 p1 q3)), .val (.int (O4 p1 q3)), .val (.int (TF p1 q3)), .val (.int (VF p1 p2 q3)), .val (.ref b), .unset] [(.int (1 : Int32)), (.int u)])) _
    refine XS.goto X.here hx rfl (pc0 := 335) (pc' := 339) rfl (hb hby at_335) (by decide) (by decide) ?_
    show Steps p.tables e below (T.setTop (mkF m 339 #[.val (.int p1), .val (.int p2), .val (.long q3), .second, .val (.int (NF p1)), .val (.int (G0 q3)), .val (.int (G1 q3)), .val (.int (G2 q3)), .val (.int (G3 q3)), .val (.int (E0 p1 q3)), .val (.int (E1 p1 q3)), .val (.int (E2 p1 q3)), .val (.int (E3 p1 q3)), .val (.int (O1 p1 q3)), .val (.int (O2 p1 q3)), .val (.int (O3 p1 q3)), .val (.int (O4 p1 q3)), .val (.int (TF p1 q3)), .val (.int (VF p1 p2 q3)), .val (.ref b), .unset] [(.int (1 : Int32)), (.int u)])) _
    rw [show DF (E1 p1 q3) = 1 by rw [DF, if_neg hc]] at kt
    exact kt
set_option maxRecDepth 65536 in
set_option maxHeartbeats 40000000 in
theorem sg_340 {p : Program} {l : Launch} {e : Env} {R : Room} {s : State} {m : MethodId} {args : Array Value} {below : List Frame} {meth : Method} {c : Code} {T : State} {locs : List Loc} {cells slots : Nat} {Z : State} {a0 : Array Value} (p1 p2 : Int32) (q3 : Int64) (b : Addr) (u : Int32) (X : Stand p l e R s m args below meth c T locs cells slots) (hx : p.tables.exec = Jvm.exec) (hZ : Z.Warmed39 s.vm) (hw : ∀ d ∈ tables_1, d.before a0 Z = true) (hby : c.code = code) (hown : s.vm.findClass "bitcove/ArrayContainerRunCountPinLaw" = some m.cls) :
    ∀ target, Steps p.tables e below (T.setTop (mkF m 350 #[.val (.int p1), .val (.int p2), .val (.long q3), .second, .val (.int (NF p1)), .val (.int (G0 q3)), .val (.int (G1 q3)), .val (.int (G2 q3)), .val (.int (G3 q3)), .val (.int (E0 p1 q3)), .val (.int (E1 p1 q3)), .val (.int (E2 p1 q3)), .val (.int (E3 p1 q3)), .val (.int (O1 p1 q3)), .val (.int (O2 p1 q3)), .val (.int (O3 p1 q3)), .val (.int (O4 p1 q3)), .val (.int (TF p1 q3)), .val (.int (VF p1 p2 q3)), .val (.ref b), .unset] [(.int (DF (E2 p1 q3))), (.int u)])) target → Steps p.tables e below (T.setTop (mkF m 340 #[.val (.int p1), .val (.int p2), .val (.long q3), .second, .val (.int (NF p1)), .val (.int (G0 q3)), .val (.int (G1 q3)), .val (.int (G2 q3)), .val (.int (G3 q3)), .val (.int (E0 p1 q3)), .val (.int (E1 p1 q3)), .val (.int (E2 p1 q3)), .val (.int (E3 p1 q3)), .val (.int (O1 p1 q3)), .val (.int (O2 p1 q3)), .val (.int (O3 p1 q3)), .val (.int (O4 p1 q3)), .val (.int (TF p1 q3)), .val (.int (VF p1 p2 q3)), .val (.ref b), .unset] [(.int u)])) target := by
  intro target kt
  by_cases hc : E2 p1 q3 = 0
  case pos =>
    refine XS.iload X.here hx rfl (hb hby at_340) rfl ?_
    show Steps p.tables e below (T.setTop (mkF m 342 #[.val (.int p1), .val (.int p2), .val (.long q3), .second, .val (.int (NF p1)), .val (.int (G0 q3)), .val (.int (G1 q3)), .val (.int (G2 q3)), .val (.int (G3 q3)), .val (.int (E0 p1 q3)), .val (.int (E1 p1 q3)), .val (.int (E2 p1 q3)), .val (.int (E3 p1 q3)), .val (.int (O1 p1 q3)), .val (.int (O2 p1 q3)), .val (.int (O3 p1 q3)), .val (.int (O4 p1 q3)), .val (.int (TF p1 q3)), .val (.int (VF p1 p2 q3)), .val (.ref b), .unset] [(.int (E2 p1 q3)), (.int u)])) _
    refine XS.ifYes X.here hx rfl (pc0 := 342) (pc' := 349) rfl (hb hby at_342) rfl ((if0 _ _).trans (teq hc).1) (by decide) (by decide) ?_
    show Steps p.tables e below (T.setTop (mkF m 349 #[.val (.int p1), .val (.int p2), .val (.long q3), .second, .val (.int (NF p1)), .val (.int (G0 q3)), .val (.int (G1 q3)), .val (.int (G2 q3)), .val (.int (G3 q3)), .val (.int (E0 p1 q3)), .val (.int (E1 p1 q3)), .val (.int (E2 p1 q3)), .val (.int (E3 p1 q3)), .val (.int (O1 p1 q3)), .val (.int (O2 p1 q3)), .val (.int (O3 p1 q3)), .val (.int (O4 p1 q3)), .val (.int (TF p1 q3)), .val (.int (VF p1 p2 q3)), .val (.ref b), .unset] [(.int u)])) _
    refine XS.iconst X.here hx rfl (hb hby at_349) ?_
    show Steps p.tables e below (T.setTop (mkF m 350 #[.val (.int p1), .val (.int p2), .val (.long q3), .second, .val (.int (NF p1)), .val (.int (G0 q3)), .val (.int (G1 q3)), .val (.int (G2 q3)), .val (.int (G3 q3)), .val (.int (E0 p1 q3)), .val (.int (E1 p1 q3)), .val (.int (E2 p1 q3)), .val (.int (E3 p1 q3)), .val (.int (O1 p1 q3)), .val (.int (O2 p1 q3)), .val (.int (O3 p1 q3)), .val (.int (O4 p1 q3)), .val (.int (TF p1 q3)), .val (.int (VF p1 p2 q3)), .val (.ref b), .unset] [(.int (0 : Int32)), (.int u)])) _
    rw [show DF (E2 p1 q3) = 0 by rw [DF, if_pos hc]] at kt
    exact kt
  case neg =>
    refine XS.iload X.here hx rfl (hb hby at_340) rfl ?_
    show Steps p.tables e below (T.setTop (mkF m 342 #[.val (.int p1), .val (.int p2), .val (.long q3), .second, .val (.int (NF p1)), .val (.int (G0 q3)), .val (.int (G1 q3)), .val (.int (G2 q3)), .val (.int (G3 q3)), .val (.int (E0 p1 q3)), .val (.int (E1 p1 q3)), .val (.int (E2 p1 q3)), .val (.int (E3 p1 q3)), .val (.int (O1 p1 q3)), .val (.int (O2 p1 q3)), .val (.int (O3 p1 q3)), .val (.int (O4 p1 q3)), .val (.int (TF p1 q3)), .val (.int (VF p1 p2 q3)), .val (.ref b), .unset] [(.int (E2 p1 q3)), (.int u)])) _
    refine XS.ifNo X.here hx rfl (hb hby at_342) rfl ((if0 _ _).trans (feq hc).1) ?_
    show Steps p.tables e below (T.setTop (mkF m 345 #[.val (.int p1), .val (.int p2), .val (.long q3), .second, .val (.int (NF p1)), .val (.int (G0 q3)), .val (.int (G1 q3)), .val (.int (G2 q3)), .val (.int (G3 q3)), .val (.int (E0 p1 q3)), .val (.int (E1 p1 q3)), .val (.int (E2 p1 q3)), .val (.int (E3 p1 q3)), .val (.int (O1 p1 q3)), .val (.int (O2 p1 q3)), .val (.int (O3 p1 q3)), .val (.int (O4 p1 q3)), .val (.int (TF p1 q3)), .val (.int (VF p1 p2 q3)), .val (.ref b), .unset] [(.int u)])) _
    refine XS.iconst X.here hx rfl (hb hby at_345) ?_
    show Steps p.tables e below (T.setTop (mkF m 346 #[.val (.int p1), .val (.int p2), .val (.long q3), .second, .val (.int (NF p1)), .val (.int (G0 q3)), .val (.int (G1 q3)), .val (.int (G2 q3)), .val (.int (G3 q3)), .val (.int (E0 p1 q3)), .val (.int (E1 p1 q3)), .val (.int (E2 p1 q3)), .val (.int (E3 p1 q3)), .val (.int (O1 p1 q3)), .val (.int (O2 p1 q3)), .val (.int (O3 p1 q3)), .val (.int (O4 p1 q3)), .val (.int (TF p1 q3)), .val (.int (VF p1 p2 q3)), .val (.ref b), .unset] [(.int (1 : Int32)), (.int u)])) _
    refine XS.goto X.here hx rfl (pc0 := 346) (pc' := 350) rfl (hb hby at_346) (by decide) (by decide) ?_
    show Steps p.tables e below (T.setTop (mkF m 350 #[.val (.int p1), .val (.int p2), .val (.long q3), .second, .val (.int (NF p1)), .val (.int (G0 q3)), .val (.int (G1 q3)), .val (.int (G2 q3)), .val (.int (G3 q3)), .val (.int (E0 p1 q3)), .val (.int (E1 p1 q3)), .val (.int (E2 p1 q3)), .val (.int (E3 p1 q3)), .val (.int (O1 p1 q3)), .val (.int (O2 p1 q3)), .val (.int (O3 p1 q3)), .val (.int (O4 p1 q3)), .val (.int (TF p1 q3)), .val (.int (VF p1 p2 q3)), .val (.ref b), .unset] [(.int (1 : Int32)), (.int u)])) _
    rw [show DF (E2 p1 q3) = 1 by rw [DF, if_neg hc]] at kt
    exact kt
set_option maxRecDepth 65536 in
set_option maxHeartbeats 40000000 in
theorem sg_351 {p : Program} {l : Launch} {e : Env} {R : Room} {s : State} {m : MethodId} {args : Array Value} {below : List Frame} {meth : Method} {c : Code} {T : State} {locs : List Loc} {cells slots : Nat} {Z : State} {a0 : Array Value} (p1 p2 : Int32) (q3 : Int64) (b : Addr) (u : Int32) (X : Stand p l e R s m args below meth c T locs cells slots) (hx : p.tables.exec = Jvm.exec) (hZ : Z.Warmed39 s.vm) (hw : ∀ d ∈ tables_1, d.before a0 Z = true) (hby : c.code = code) (hown : s.vm.findClass "bitcove/ArrayContainerRunCountPinLaw" = some m.cls) :
    ∀ target, Steps p.tables e below (T.setTop (mkF m 361 #[.val (.int p1), .val (.int p2), .val (.long q3), .second, .val (.int (NF p1)), .val (.int (G0 q3)), .val (.int (G1 q3)), .val (.int (G2 q3)), .val (.int (G3 q3)), .val (.int (E0 p1 q3)), .val (.int (E1 p1 q3)), .val (.int (E2 p1 q3)), .val (.int (E3 p1 q3)), .val (.int (O1 p1 q3)), .val (.int (O2 p1 q3)), .val (.int (O3 p1 q3)), .val (.int (O4 p1 q3)), .val (.int (TF p1 q3)), .val (.int (VF p1 p2 q3)), .val (.ref b), .unset] [(.int (DF (E3 p1 q3))), (.int u)])) target → Steps p.tables e below (T.setTop (mkF m 351 #[.val (.int p1), .val (.int p2), .val (.long q3), .second, .val (.int (NF p1)), .val (.int (G0 q3)), .val (.int (G1 q3)), .val (.int (G2 q3)), .val (.int (G3 q3)), .val (.int (E0 p1 q3)), .val (.int (E1 p1 q3)), .val (.int (E2 p1 q3)), .val (.int (E3 p1 q3)), .val (.int (O1 p1 q3)), .val (.int (O2 p1 q3)), .val (.int (O3 p1 q3)), .val (.int (O4 p1 q3)), .val (.int (TF p1 q3)), .val (.int (VF p1 p2 q3)), .val (.ref b), .unset] [(.int u)])) target := by
  intro target kt
  by_cases hc : E3 p1 q3 = 0
  case pos =>
    refine XS.iload X.here hx rfl (hb hby at_351) rfl ?_
    show Steps p.tables e below (T.setTop (mkF m 353 #[.val (.int p1), .val (.int p2), .val (.long q3), .second, .val (.int (NF p1)), .val (.int (G0 q3)), .val (.int (G1 q3)), .val (.int (G2 q3)), .val (.int (G3 q3)), .val (.int (E0 p1 q3)), .val (.int (E1 p1 q3)), .val (.int (E2 p1 q3)), .val (.int (E3 p1 q3)), .val (.int (O1 p1 q3)), .val (.int (O2 p1 q3)), .val (.int (O3 p1 q3)), .val (.int (O4 p1 q3)), .val (.int (TF p1 q3)), .val (.int (VF p1 p2 q3)), .val (.ref b), .unset] [(.int (E3 p1 q3)), (.int u)])) _
    refine XS.ifYes X.here hx rfl (pc0 := 353) (pc' := 360) rfl (hb hby at_353) rfl ((if0 _ _).trans (teq hc).1) (by decide) (by decide) ?_
    show Steps p.tables e below (T.setTop (mkF m 360 #[.val (.int p1), .val (.int p2), .val (.long q3), .second, .val (.int (NF p1)), .val (.int (G0 q3)), .val (.int (G1 q3)), .val (.int (G2 q3)), .val (.int (G3 q3)), .val (.int (E0 p1 q3)), .val (.int (E1 p1 q3)), .val (.int (E2 p1 q3)), .val (.int (E3 p1 q3)), .val (.int (O1 p1 q3)), .val (.int (O2 p1 q3)), .val (.int (O3 p1 q3)), .val (.int (O4 p1 q3)), .val (.int (TF p1 q3)), .val (.int (VF p1 p2 q3)), .val (.ref b), .unset] [(.int u)])) _
    refine XS.iconst X.here hx rfl (hb hby at_360) ?_
    show Steps p.tables e below (T.setTop (mkF m 361 #[.val (.int p1), .val (.int p2), .val (.long q3), .second, .val (.int (NF p1)), .val (.int (G0 q3)), .val (.int (G1 q3)), .val (.int (G2 q3)), .val (.int (G3 q3)), .val (.int (E0 p1 q3)), .val (.int (E1 p1 q3)), .val (.int (E2 p1 q3)), .val (.int (E3 p1 q3)), .val (.int (O1 p1 q3)), .val (.int (O2 p1 q3)), .val (.int (O3 p1 q3)), .val (.int (O4 p1 q3)), .val (.int (TF p1 q3)), .val (.int (VF p1 p2 q3)), .val (.ref b), .unset] [(.int (0 : Int32)), (.int u)])) _
    rw [show DF (E3 p1 q3) = 0 by rw [DF, if_pos hc]] at kt
    exact kt
  case neg =>
    refine XS.iload X.here hx rfl (hb hby at_351) rfl ?_
    show Steps p.tables e below (T.setTop (mkF m 353 #[.val (.int p1), .val (.int p2), .val (.long q3), .second, .val (.int (NF p1)), .val (.int (G0 q3)), .val (.int (G1 q3)), .val (.int (G2 q3)), .val (.int (G3 q3)), .val (.int (E0 p1 q3)), .val (.int (E1 p1 q3)), .val (.int (E2 p1 q3)), .val (.int (E3 p1 q3)), .val (.int (O1 p1 q3)), .val (.int (O2 p1 q3)), .val (.int (O3 p1 q3)), .val (.int (O4 p1 q3)), .val (.int (TF p1 q3)), .val (.int (VF p1 p2 q3)), .val (.ref b), .unset] [(.int (E3 p1 q3)), (.int u)])) _
    refine XS.ifNo X.here hx rfl (hb hby at_353) rfl ((if0 _ _).trans (feq hc).1) ?_
    show Steps p.tables e below (T.setTop (mkF m 356 #[.val (.int p1), .val (.int p2), .val (.long q3), .second, .val (.int (NF p1)), .val (.int (G0 q3)), .val (.int (G1 q3)), .val (.int (G2 q3)), .val (.int (G3 q3)), .val (.int (E0 p1 q3)), .val (.int (E1 p1 q3)), .val (.int (E2 p1 q3)), .val (.int (E3 p1 q3)), .val (.int (O1 p1 q3)), .val (.int (O2 p1 q3)), .val (.int (O3 p1 q3)), .val (.int (O4 p1 q3)), .val (.int (TF p1 q3)), .val (.int (VF p1 p2 q3)), .val (.ref b), .unset] [(.int u)])) _
    refine XS.iconst X.here hx rfl (hb hby at_356) ?_
    show Steps p.tables e below (T.setTop (mkF m 357 #[.val (.int p1), .val (.int p2), .val (.long q3), .second, .val (.int (NF p1)), .val (.int (G0 q3)), .val (.int (G1 q3)), .val (.int (G2 q3)), .val (.int (G3 q3)), .val (.int (E0 p1 q3)), .val (.int (E1 p1 q3)), .val (.int (E2 p1 q3)), .val (.int (E3 p1 q3)), .val (.int (O1 p1 q3)), .val (.int (O2 p1 q3)), .val (.int (O3 p1 q3)), .val (.int (O4 p1 q3)), .val (.int (TF p1 q3)), .val (.int (VF p1 p2 q3)), .val (.ref b), .unset] [(.int (1 : Int32)), (.int u)])) _
    refine XS.goto X.here hx rfl (pc0 := 357) (pc' := 361) rfl (hb hby at_357) (by decide) (by decide) ?_
    show Steps p.tables e below (T.setTop (mkF m 361 #[.val (.int p1), .val (.int p2), .val (.long q3), .second, .val (.int (NF p1)), .val (.int (G0 q3)), .val (.int (G1 q3)), .val (.int (G2 q3)), .val (.int (G3 q3)), .val (.int (E0 p1 q3)), .val (.int (E1 p1 q3)), .val (.int (E2 p1 q3)), .val (.int (E3 p1 q3)), .val (.int (O1 p1 q3)), .val (.int (O2 p1 q3)), .val (.int (O3 p1 q3)), .val (.int (O4 p1 q3)), .val (.int (TF p1 q3)), .val (.int (VF p1 p2 q3)), .val (.ref b), .unset] [(.int (1 : Int32)), (.int u)])) _
    rw [show DF (E3 p1 q3) = 1 by rw [DF, if_neg hc]] at kt
    exact kt
set_option maxRecDepth 65536 in
set_option maxHeartbeats 40000000 in
theorem sg_308 {p : Program} {l : Launch} {e : Env} {R : Room} {s : State} {m : MethodId} {args : Array Value} {below : List Frame} {meth : Method} {c : Code} {T : State} {locs : List Loc} {cells slots : Nat} {Z : State} {a0 : Array Value} (p1 p2 : Int32) (q3 : Int64) (b : Addr) (X : Stand p l e R s m args below meth c T locs cells slots) (hx : p.tables.exec = Jvm.exec) (hZ : Z.Warmed39 s.vm) (hw : ∀ d ∈ tables_1, d.before a0 Z = true) (hby : c.code = code) (hown : s.vm.findClass "bitcove/ArrayContainerRunCountPinLaw" = some m.cls) :
    ∀ target, Steps p.tables e below (T.setTop (mkF m 364 #[.val (.int p1), .val (.int p2), .val (.long q3), .second, .val (.int (NF p1)), .val (.int (G0 q3)), .val (.int (G1 q3)), .val (.int (G2 q3)), .val (.int (G3 q3)), .val (.int (E0 p1 q3)), .val (.int (E1 p1 q3)), .val (.int (E2 p1 q3)), .val (.int (E3 p1 q3)), .val (.int (O1 p1 q3)), .val (.int (O2 p1 q3)), .val (.int (O3 p1 q3)), .val (.int (O4 p1 q3)), .val (.int (TF p1 q3)), .val (.int (VF p1 p2 q3)), .val (.ref b), .val (.int (XF p1 q3))] [])) target → Steps p.tables e below (T.setTop (mkF m 308 #[.val (.int p1), .val (.int p2), .val (.long q3), .second, .val (.int (NF p1)), .val (.int (G0 q3)), .val (.int (G1 q3)), .val (.int (G2 q3)), .val (.int (G3 q3)), .val (.int (E0 p1 q3)), .val (.int (E1 p1 q3)), .val (.int (E2 p1 q3)), .val (.int (E3 p1 q3)), .val (.int (O1 p1 q3)), .val (.int (O2 p1 q3)), .val (.int (O3 p1 q3)), .val (.int (O4 p1 q3)), .val (.int (TF p1 q3)), .val (.int (VF p1 p2 q3)), .val (.ref b), .unset] [])) target := by
  intro target kt
  by_cases hc : NF p1 = 0
  case pos =>
    refine XS.iload X.here hx rfl (hb hby at_308) rfl ?_
    show Steps p.tables e below (T.setTop (mkF m 310 #[.val (.int p1), .val (.int p2), .val (.long q3), .second, .val (.int (NF p1)), .val (.int (G0 q3)), .val (.int (G1 q3)), .val (.int (G2 q3)), .val (.int (G3 q3)), .val (.int (E0 p1 q3)), .val (.int (E1 p1 q3)), .val (.int (E2 p1 q3)), .val (.int (E3 p1 q3)), .val (.int (O1 p1 q3)), .val (.int (O2 p1 q3)), .val (.int (O3 p1 q3)), .val (.int (O4 p1 q3)), .val (.int (TF p1 q3)), .val (.int (VF p1 p2 q3)), .val (.ref b), .unset] [(.int (NF p1))])) _
    refine XS.ifNo X.here hx rfl (hb hby at_310) rfl ((if0 _ _).trans (teq hc).2) ?_
    show Steps p.tables e below (T.setTop (mkF m 313 #[.val (.int p1), .val (.int p2), .val (.long q3), .second, .val (.int (NF p1)), .val (.int (G0 q3)), .val (.int (G1 q3)), .val (.int (G2 q3)), .val (.int (G3 q3)), .val (.int (E0 p1 q3)), .val (.int (E1 p1 q3)), .val (.int (E2 p1 q3)), .val (.int (E3 p1 q3)), .val (.int (O1 p1 q3)), .val (.int (O2 p1 q3)), .val (.int (O3 p1 q3)), .val (.int (O4 p1 q3)), .val (.int (TF p1 q3)), .val (.int (VF p1 p2 q3)), .val (.ref b), .unset] [])) _
    refine XS.iconst X.here hx rfl (hb hby at_313) ?_
    show Steps p.tables e below (T.setTop (mkF m 314 #[.val (.int p1), .val (.int p2), .val (.long q3), .second, .val (.int (NF p1)), .val (.int (G0 q3)), .val (.int (G1 q3)), .val (.int (G2 q3)), .val (.int (G3 q3)), .val (.int (E0 p1 q3)), .val (.int (E1 p1 q3)), .val (.int (E2 p1 q3)), .val (.int (E3 p1 q3)), .val (.int (O1 p1 q3)), .val (.int (O2 p1 q3)), .val (.int (O3 p1 q3)), .val (.int (O4 p1 q3)), .val (.int (TF p1 q3)), .val (.int (VF p1 p2 q3)), .val (.ref b), .unset] [(.int (0 : Int32))])) _
    refine XS.goto X.here hx rfl (pc0 := 314) (pc' := 362) rfl (hb hby at_314) (by decide) (by decide) ?_
    show Steps p.tables e below (T.setTop (mkF m 362 #[.val (.int p1), .val (.int p2), .val (.long q3), .second, .val (.int (NF p1)), .val (.int (G0 q3)), .val (.int (G1 q3)), .val (.int (G2 q3)), .val (.int (G3 q3)), .val (.int (E0 p1 q3)), .val (.int (E1 p1 q3)), .val (.int (E2 p1 q3)), .val (.int (E3 p1 q3)), .val (.int (O1 p1 q3)), .val (.int (O2 p1 q3)), .val (.int (O3 p1 q3)), .val (.int (O4 p1 q3)), .val (.int (TF p1 q3)), .val (.int (VF p1 p2 q3)), .val (.ref b), .unset] [(.int (0 : Int32))])) _
    refine XS.istore X.here hx rfl (hb hby at_362) rfl (l' := #[.val (.int p1), .val (.int p2), .val (.long q3), .second, .val (.int (NF p1)), .val (.int (G0 q3)), .val (.int (G1 q3)), .val (.int (G2 q3)), .val (.int (G3 q3)), .val (.int (E0 p1 q3)), .val (.int (E1 p1 q3)), .val (.int (E2 p1 q3)), .val (.int (E3 p1 q3)), .val (.int (O1 p1 q3)), .val (.int (O2 p1 q3)), .val (.int (O3 p1 q3)), .val (.int (O4 p1 q3)), .val (.int (TF p1 q3)), .val (.int (VF p1 p2 q3)), .val (.ref b), .val (.int (0 : Int32))]) rfl ?_
    show Steps p.tables e below (T.setTop (mkF m 364 #[.val (.int p1), .val (.int p2), .val (.long q3), .second, .val (.int (NF p1)), .val (.int (G0 q3)), .val (.int (G1 q3)), .val (.int (G2 q3)), .val (.int (G3 q3)), .val (.int (E0 p1 q3)), .val (.int (E1 p1 q3)), .val (.int (E2 p1 q3)), .val (.int (E3 p1 q3)), .val (.int (O1 p1 q3)), .val (.int (O2 p1 q3)), .val (.int (O3 p1 q3)), .val (.int (O4 p1 q3)), .val (.int (TF p1 q3)), .val (.int (VF p1 p2 q3)), .val (.ref b), .val (.int (0 : Int32))] [])) _
    rw [show XF p1 q3 = 0 by rw [XF, if_pos hc]] at kt
    exact kt
  case neg =>
    refine XS.iload X.here hx rfl (hb hby at_308) rfl ?_
    show Steps p.tables e below (T.setTop (mkF m 310 #[.val (.int p1), .val (.int p2), .val (.long q3), .second, .val (.int (NF p1)), .val (.int (G0 q3)), .val (.int (G1 q3)), .val (.int (G2 q3)), .val (.int (G3 q3)), .val (.int (E0 p1 q3)), .val (.int (E1 p1 q3)), .val (.int (E2 p1 q3)), .val (.int (E3 p1 q3)), .val (.int (O1 p1 q3)), .val (.int (O2 p1 q3)), .val (.int (O3 p1 q3)), .val (.int (O4 p1 q3)), .val (.int (TF p1 q3)), .val (.int (VF p1 p2 q3)), .val (.ref b), .unset] [(.int (NF p1))])) _
    refine XS.ifYes X.here hx rfl (pc0 := 310) (pc' := 317) rfl (hb hby at_310) rfl ((if0 _ _).trans (feq hc).2) (by decide) (by decide) ?_
    show Steps p.tables e below (T.setTop (mkF m 317 #[.val (.int p1), .val (.int p2), .val (.long q3), .second, .val (.int (NF p1)), .val (.int (G0 q3)), .val (.int (G1 q3)), .val (.int (G2 q3)), .val (.int (G3 q3)), .val (.int (E0 p1 q3)), .val (.int (E1 p1 q3)), .val (.int (E2 p1 q3)), .val (.int (E3 p1 q3)), .val (.int (O1 p1 q3)), .val (.int (O2 p1 q3)), .val (.int (O3 p1 q3)), .val (.int (O4 p1 q3)), .val (.int (TF p1 q3)), .val (.int (VF p1 p2 q3)), .val (.ref b), .unset] [])) _
    refine XS.iconst X.here hx rfl (hb hby at_317) ?_
    show Steps p.tables e below (T.setTop (mkF m 318 #[.val (.int p1), .val (.int p2), .val (.long q3), .second, .val (.int (NF p1)), .val (.int (G0 q3)), .val (.int (G1 q3)), .val (.int (G2 q3)), .val (.int (G3 q3)), .val (.int (E0 p1 q3)), .val (.int (E1 p1 q3)), .val (.int (E2 p1 q3)), .val (.int (E3 p1 q3)), .val (.int (O1 p1 q3)), .val (.int (O2 p1 q3)), .val (.int (O3 p1 q3)), .val (.int (O4 p1 q3)), .val (.int (TF p1 q3)), .val (.int (VF p1 p2 q3)), .val (.ref b), .unset] [(.int (1 : Int32))])) _
    refine sg_318 p1 p2 q3 b (1 : Int32) X hx hZ hw hby hown _ ?_
    show Steps p.tables e below (T.setTop (mkF m 328 #[.val (.int p1), .val (.int p2), .val (.long q3), .second, .val (.int (NF p1)), .val (.int (G0 q3)), .val (.int (G1 q3)), .val (.int (G2 q3)), .val (.int (G3 q3)), .val (.int (E0 p1 q3)), .val (.int (E1 p1 q3)), .val (.int (E2 p1 q3)), .val (.int (E3 p1 q3)), .val (.int (O1 p1 q3)), .val (.int (O2 p1 q3)), .val (.int (O3 p1 q3)), .val (.int (O4 p1 q3)), .val (.int (TF p1 q3)), .val (.int (VF p1 p2 q3)), .val (.ref b), .unset] [(.int (DF (E0 p1 q3))), (.int (1 : Int32))])) _
    refine XS.iadd X.here hx rfl (hb hby at_328) rfl ?_
    show Steps p.tables e below (T.setTop (mkF m 329 #[.val (.int p1), .val (.int p2), .val (.long q3), .second, .val (.int (NF p1)), .val (.int (G0 q3)), .val (.int (G1 q3)), .val (.int (G2 q3)), .val (.int (G3 q3)), .val (.int (E0 p1 q3)), .val (.int (E1 p1 q3)), .val (.int (E2 p1 q3)), .val (.int (E3 p1 q3)), .val (.int (O1 p1 q3)), .val (.int (O2 p1 q3)), .val (.int (O3 p1 q3)), .val (.int (O4 p1 q3)), .val (.int (TF p1 q3)), .val (.int (VF p1 p2 q3)), .val (.ref b), .unset] [(.int ((1 : Int32) + (DF (E0 p1 q3))))])) _
    refine sg_329 p1 p2 q3 b ((1 : Int32) + (DF (E0 p1 q3))) X hx hZ hw hby hown _ ?_
    show Steps p.tables e below (T.setTop (mkF m 339 #[.val (.int p1), .val (.int p2), .val (.long q3), .second, .val (.int (NF p1)), .val (.int (G0 q3)), .val (.int (G1 q3)), .val (.int (G2 q3)), .val (.int (G3 q3)), .val (.int (E0 p1 q3)), .val (.int (E1 p1 q3)), .val (.int (E2 p1 q3)), .val (.int (E3 p1 q3)), .val (.int (O1 p1 q3)), .val (.int (O2 p1 q3)), .val (.int (O3 p1 q3)), .val (.int (O4 p1 q3)), .val (.int (TF p1 q3)), .val (.int (VF p1 p2 q3)), .val (.ref b), .unset] [(.int (DF (E1 p1 q3))), (.int ((1 : Int32) + (DF (E0 p1 q3))))])) _
    refine XS.iadd X.here hx rfl (hb hby at_339) rfl ?_
    show Steps p.tables e below (T.setTop (mkF m 340 #[.val (.int p1), .val (.int p2), .val (.long q3), .second, .val (.int (NF p1)), .val (.int (G0 q3)), .val (.int (G1 q3)), .val (.int (G2 q3)), .val (.int (G3 q3)), .val (.int (E0 p1 q3)), .val (.int (E1 p1 q3)), .val (.int (E2 p1 q3)), .val (.int (E3 p1 q3)), .val (.int (O1 p1 q3)), .val (.int (O2 p1 q3)), .val (.int (O3 p1 q3)), .val (.int (O4 p1 q3)), .val (.int (TF p1 q3)), .val (.int (VF p1 p2 q3)), .val (.ref b), .unset] [(.int (((1 : Int32) + (DF (E0 p1 q3))) + (DF (E1 p1 q3))))])) _
    refine sg_340 p1 p2 q3 b (((1 : Int32) + (DF (E0 p1 q3))) + (DF (E1 p1 q3))) X hx hZ hw hby hown _ ?_
    show Steps p.tables e below (T.setTop (mkF m 350 #[.val (.int p1), .val (.int p2), .val (.long q3), .second, .val (.int (NF p1)), .val (.int (G0 q3)), .val (.int (G1 q3)), .val (.int (G2 q3)), .val (.int (G3 q3)), .val (.int (E0 p1 q3)), .val (.int (E1 p1 q3)), .val (.int (E2 p1 q3)), .val (.int (E3 p1 q3)), .val (.int (O1 p1 q3)), .val (.int (O2 p1 q3)), .val (.int (O3 p1 q3)), .val (.int (O4 p1 q3)), .val (.int (TF p1 q3)), .val (.int (VF p1 p2 q3)), .val (.ref b), .unset] [(.int (DF (E2 p1 q3))), (.int (((1 : Int32) + (DF (E0 p1 q3))) + (DF (E1 p1 q3))))])) _
    refine XS.iadd X.here hx rfl (hb hby at_350) rfl ?_
    show Steps p.tables e below (T.setTop (mkF m 351 #[.val (.int p1), .val (.int p2), .val (.long q3), .second, .val (.int (NF p1)), .val (.int (G0 q3)), .val (.int (G1 q3)), .val (.int (G2 q3)), .val (.int (G3 q3)), .val (.int (E0 p1 q3)), .val (.int (E1 p1 q3)), .val (.int (E2 p1 q3)), .val (.int (E3 p1 q3)), .val (.int (O1 p1 q3)), .val (.int (O2 p1 q3)), .val (.int (O3 p1 q3)), .val (.int (O4 p1 q3)), .val (.int (TF p1 q3)), .val (.int (VF p1 p2 q3)), .val (.ref b), .unset] [(.int ((((1 : Int32) + (DF (E0 p1 q3))) + (DF (E1 p1 q3))) + (DF (E2 p1 q3))))])) _
    refine sg_351 p1 p2 q3 b ((((1 : Int32) + (DF (E0 p1 q3))) + (DF (E1 p1 q3))) + (DF (E2 p1 q3))) X hx hZ hw hby hown _ ?_
    show Steps p.tables e below (T.setTop (mkF m 361 #[.val (.int p1), .val (.int p2), .val (.long q3), .second, .val (.int (NF p1)), .val (.int (G0 q3)), .val (.int (G1 q3)), .val (.int (G2 q3)), .val (.int (G3 q3)), .val (.int (E0 p1 q3)), .val (.int (E1 p1 q3)), .val (.int (E2 p1 q3)), .val (.int (E3 p1 q3)), .val (.int (O1 p1 q3)), .val (.int (O2 p1 q3)), .val (.int (O3 p1 q3)), .val (.int (O4 p1 q3)), .val (.int (TF p1 q3)), .val (.int (VF p1 p2 q3)), .val (.ref b), .unset] [(.int (DF (E3 p1 q3))), (.int ((((1 : Int32) + (DF (E0 p1 q3))) + (DF (E1 p1 q3))) + (DF (E2 p1 q3))))])) _
    refine XS.iadd X.here hx rfl (hb hby at_361) rfl ?_
    show Steps p.tables e below (T.setTop (mkF m 362 #[.val (.int p1), .val (.int p2), .val (.long q3), .second, .val (.int (NF p1)), .val (.int (G0 q3)), .val (.int (G1 q3)), .val (.int (G2 q3)), .val (.int (G3 q3)), .val (.int (E0 p1 q3)), .val (.int (E1 p1 q3)), .val (.int (E2 p1 q3)), .val (.int (E3 p1 q3)), .val (.int (O1 p1 q3)), .val (.int (O2 p1 q3)), .val (.int (O3 p1 q3)), .val (.int (O4 p1 q3)), .val (.int (TF p1 q3)), .val (.int (VF p1 p2 q3)), .val (.ref b), .unset] [(.int (((((1 : Int32) + (DF (E0 p1 q3))) + (DF (E1 p1 q3))) + (DF (E2 p1 q3))) + (DF (E3 p1 q3))))])) _
    refine XS.istore X.here hx rfl (hb hby at_362) rfl (l' := #[.val (.int p1), .val (.int p2), .val (.long q3), .second, .val (.int (NF p1)), .val (.int (G0 q3)), .val (.int (G1 q3)), .val (.int (G2 q3)), .val (.int (G3 q3)), .val (.int (E0 p1 q3)), .val (.int (E1 p1 q3)), .val (.int (E2 p1 q3)), .val (.int (E3 p1 q3)), .val (.int (O1 p1 q3)), .val (.int (O2 p1 q3)), .val (.int (O3 p1 q3)), .val (.int (O4 p1 q3)), .val (.int (TF p1 q3)), .val (.int (VF p1 p2 q3)), .val (.ref b), .val (.int (((((1 : Int32) + (DF (E0 p1 q3))) + (DF (E1 p1 q3))) + (DF (E2 p1 q3))) + (DF (E3 p1 q3))))]) rfl ?_
    show Steps p.tables e below (T.setTop (mkF m 364 #[.val (.int p1), .val (.int p2), .val (.long q3), .second, .val (.int (NF p1)), .val (.int (G0 q3)), .val (.int (G1 q3)), .val (.int (G2 q3)), .val (.int (G3 q3)), .val (.int (E0 p1 q3)), .val (.int (E1 p1 q3)), .val (.int (E2 p1 q3)), .val (.int (E3 p1 q3)), .val (.int (O1 p1 q3)), .val (.int (O2 p1 q3)), .val (.int (O3 p1 q3)), .val (.int (O4 p1 q3)), .val (.int (TF p1 q3)), .val (.int (VF p1 p2 q3)), .val (.ref b), .val (.int (((((1 : Int32) + (DF (E0 p1 q3))) + (DF (E1 p1 q3))) + (DF (E2 p1 q3))) + (DF (E3 p1 q3))))] [])) _
    rw [show XF p1 q3 = (((((1 : Int32) + (DF (E0 p1 q3))) + (DF (E1 p1 q3))) + (DF (E2 p1 q3))) + (DF (E3 p1 q3))) by rw [XF, if_neg hc]] at kt
    exact kt
theorem pn_0 : plainName "bitcove/ArrayContainerRunCountPinLaw" = true := by first | (simp [plainName, overriddenIn]; done) | decide +kernel
theorem ef_0 (m : MethodId) (x0 : Int32) (x1 : Int32) (x2 : Int64) : entryFrame m #[(.int x0), (.int x1), (.long x2)] maxLocals = mkF m 0 #[.val (.int x0), .val (.int x1), .val (.long x2), .second, .unset, .unset, .unset, .unset, .unset, .unset, .unset, .unset, .unset, .unset, .unset, .unset, .unset, .unset, .unset, .unset, .unset] [] := by first | (simp [entryFrame, mkF, argsToLocals, Value.category, maxLocals]; done) | rfl
theorem pd_v : parseMethodDescriptor "()V" = some ⟨[], none⟩ := by decide +kernel
theorem pd_a : parseMethodDescriptor "(CI)V" = some ⟨[.char, .int], none⟩ := by decide +kernel
theorem pd_i : parseMethodDescriptor "()I" = some ⟨[], some .int⟩ := by decide +kernel
def Q0 (Z : State) (p1 : Int32) (p2 : Int32) (q3 : Int64) (h0 : Heap) (n0 : Nat) (v : Option Value) (h : Heap) (L : List Loc) : Prop := v = some (.int (1 : Int32)) ∧ Fr n0 L
set_option maxRecDepth 65536 in
set_option maxHeartbeats 40000000 in
theorem rm0_0 (l : Launch) (Z : State) (a0 : Array Value) (hw : ∀ d ∈ tables_1, d.before a0 Z = true) (ws : List Jvm.Cond) (p1 : Int32) (p2 : Int32) (q3 : Int64) (h0 : Heap) (n0 : Nat) (Z0 : n0 ≤ h0.size) (hn : NF p1 = 0) :
    MetFree l x (head1 (Jvm.Cond.code x code maxLocals ret :: ws) room_1) (fun a U => a = #[(.int p1), (.int p2), (.long q3)] ∧ Z.Warmed39 U.vm ∧ U.heap = h0) (fun _ _ _ _ _ => True) (fun _ U o U' => ∃ v L, o = .returned v ∧ Q0 Z p1 p2 q3 h0 n0 v U'.heap L ∧ FrameEnd U o U' L room_1.cells room_1.slots) := by
  refine MetFree.of_bodySF (plainFor_of_name pn_0) hisR ?_
  intro p e s m args below meth c s₁ Bd hml0 hP hK
  obtain ⟨rfl, hZ, hh⟩ := hP
  have hx := Bd.exec
  have hby := Bd.bytes
  have hml : c.maxLocals = 21 := hml0
  have hown : s.vm.findClass "bitcove/ArrayContainerRunCountPinLaw" = some m.cls := findClass_of_methodNamed Bd.named
  have hnm := (name_of_methodNamed Bd.named Bd.method).1
  have X0 : Stand p l e room_1 s m #[(.int p1), (.int p2), (.long q3)] below meth c s₁ [] 0 0 := Stand.of_body Bd
  have e0 : s₁.heap = h0 := by rw [← hh, Bd.state]; rfl
  have N0 := Fr.nil n0
  have pre0 : ∀ t, Steps p.tables e below (s₁.setTop (mkF m 0 #[.val (.int p1), .val (.int p2), .val (.long q3), .second, .unset, .unset, .unset, .unset, .unset, .unset, .unset, .unset, .unset, .unset, .unset, .unset, .unset, .unset, .unset, .unset, .unset] [])) t → Steps p.tables e below (s₁.setTop (entryFrame m #[(.int p1), (.int p2), (.long q3)] maxLocals)) t := fun t k => castTop (ef_0 m p1 p2 q3) k
  obtain ⟨T2, h2, X2, e2, Ex2, A2, D2, -, st2⟩ := newO X0 hx hZ hown (hw _ (List.mem_of_getElem? (i := 3) rfl)) (hw _ (List.mem_of_getElem? (i := 4) rfl)) (hw _ (List.mem_of_getElem? (i := 5) rfl)) e0 (g := (mkF m 213 #[.val (.int p1), .val (.int p2), .val (.long q3), .second, .val (.int (NF p1)), .val (.int (G0 q3)), .val (.int (G1 q3)), .val (.int (G2 q3)), .val (.int (G3 q3)), .val (.int (E0 p1 q3)), .val (.int (E1 p1 q3)), .val (.int (E2 p1 q3)), .val (.int (E3 p1 q3)), .val (.int (O1 p1 q3)), .val (.int (O2 p1 q3)), .val (.int (O3 p1 q3)), .val (.int (O4 p1 q3)), .val (.int (TF p1 q3)), .val (.int (VF p1 p2 q3)), .unset, .unset] [])) rfl (hb hby at_213) (by decide) (by decide)
  obtain ⟨b2, g2⟩ : ∃ z, z = h0.size := ⟨_, rfl⟩
  rw [← g2] at A2 D2 st2
  have Fv2 : Fld Z h2 b2 "bitcove/ArrayContainer" "values" "[C" .null := D2 (Or.inl (hw _ (List.mem_of_getElem? (i := 32) rfl))) (ty := (.array .char)) (by decide)
  have Fc2 : Fld Z h2 b2 "bitcove/ArrayContainer" "cardinality" "I" (.int (0 : Int32)) := D2 (Or.inl (hw _ (List.mem_of_getElem? (i := 34) rfl))) (ty := .int) (by decide)
  have g_b2 : n0 ≤ b2 := Nat.le_trans Z0 (Nat.le_of_eq g2.symm)
  have Z2 : n0 ≤ h2.size := Nat.le_trans Z0 Ex2.1
  obtain ⟨_, _, ⟨T3, L3, k3, n3⟩, -, X3, ⟨Lc3, hQ3, l3, y3, z3⟩, st3⟩ := X2.specialBack hx (y := (⟨"bitcove/ArrayContainer", "<init>", "()V"⟩ : MethodName)) rfl hown (mvT hZ (hw _ (List.mem_of_getElem? (i := 6) rfl))) (mvT hZ (hw _ (List.mem_of_getElem? (i := 7) rfl))) (mvT hZ (hw _ (List.mem_of_getElem? (i := 8) rfl))) (by decide) (backOf (W := 1) (rm1 l Z a0 hw [] b2 h2 n0 Z2 _ _ A2 Fv2 Fc2 g_b2) hZ (hw _ (List.mem_of_getElem? (i := 8) rfl)) (hw _ (List.mem_of_getElem? (i := 5) rfl)) (by decide) (by decide)) (g := (mkF m 217 #[.val (.int p1), .val (.int p2), .val (.long q3), .second, .val (.int (NF p1)), .val (.int (G0 q3)), .val (.int (G1 q3)), .val (.int (G2 q3)), .val (.int (G3 q3)), .val (.int (E0 p1 q3)), .val (.int (E1 p1 q3)), .val (.int (E2 p1 q3)), .val (.int (E3 p1 q3)), .val (.int (O1 p1 q3)), .val (.int (O2 p1 q3)), .val (.int (O3 p1 q3)), .val (.int (O4 p1 q3)), .val (.int (TF p1 q3)), .val (.int (VF p1 p2 q3)), .unset, .unset] [(.ref b2), (.ref b2)])) rfl (by rw [hml]; rfl) (Steps.refl _) (a := b2) (argsL := []) (rest := [(.ref b2)]) (lenOf pd_v rfl) rfl (by show 2 * 0 + _ ≤ _; exact Nat.le_of_eq rfl) (hb hby at_217) (fun _ _ => ⟨rfl, e2, (by decide : 1 + 1 ≤ _), (by decide : 2 + 4 ≤ _)⟩)
  dsimp only [Pt.U, Pt.locs, Pt.cells, Pt.slots] at X3 l3 y3 z3 st3 hQ3
  subst l3 y3 z3
  obtain ⟨rfl, N3q, K3, t3, kk3, gt3, B3⟩ := hQ3
  have N3 := Fr.app N0 N3q
  have Z3 : n0 ≤ T3.heap.size := Nat.le_trans Z2 K3.1
  obtain ⟨cq4, kq4, q4a, q4b, q4c⟩ := isOf hZ rfl B3.1
  have hv : ∀ i, i < 0 → ([(.int (0 : Int32)), (.int (0 : Int32)), (.int (0 : Int32)), (.int (0 : Int32))] : List Value).getD i (.int (0 : Int32)) = .int (xs0 p1 p2 q3 i) := fun i hi => absurd hi (Nat.not_lt_zero i)
  obtain ⟨_, _, ⟨T4, L4, k4, n4⟩, -, X4, ⟨Lc4, hQ4, l4, y4, z4⟩, st4⟩ := X3.virtualBack hx (y := (⟨"bitcove/ArrayContainer", "runCount", "()I"⟩ : MethodName)) (z := (⟨"bitcove/ArrayContainer", "runCount", "()I"⟩ : MethodName)) hown (mvT hZ (hw _ (List.mem_of_getElem? (i := 35) rfl))) (mvT hZ (hw _ (List.mem_of_getElem? (i := 36) rfl))) (notFace_of_selects (args := #[]) (mvT hZ (hw _ (List.mem_of_getElem? (i := 38) rfl)))) (mvT hZ (hw _ (List.mem_of_getElem? (i := 38) rfl))) (mvT hZ (hw _ (List.mem_of_getElem? (i := 37) rfl))) (by decide) (backOf (W := 0) (rm7 l Z a0 hw [] b2 (0 : Int32) t3 kk3 (4 : Int32) [(.int (0 : Int32)), (.int (0 : Int32)), (.int (0 : Int32)), (.int (0 : Int32))] (xs0 p1 p2 q3) 0 T3.heap n0 Z3 B3 (by decide) (by decide) (by decide) hv) hZ (hw _ (List.mem_of_getElem? (i := 39) rfl)) (hw _ (List.mem_of_getElem? (i := 5) rfl)) (by decide) (by decide)) q4a q4c (g := (mkF m 366 #[.val (.int p1), .val (.int p2), .val (.long q3), .second, .val (.int (NF p1)), .val (.int (G0 q3)), .val (.int (G1 q3)), .val (.int (G2 q3)), .val (.int (G3 q3)), .val (.int (E0 p1 q3)), .val (.int (E1 p1 q3)), .val (.int (E2 p1 q3)), .val (.int (E3 p1 q3)), .val (.int (O1 p1 q3)), .val (.int (O2 p1 q3)), .val (.int (O3 p1 q3)), .val (.int (O4 p1 q3)), .val (.int (TF p1 q3)), .val (.int (VF p1 p2 q3)), .val (.ref b2), .val (.int (XF p1 q3))] [(.ref b2)])) rfl (by rw [hml]; rfl) (Steps.refl _) (argsL := []) (rest := []) (lenOf pd_i rfl) rfl (by show 2 * 0 + _ ≤ _; exact Nat.le_of_eq rfl) (hb hby at_366) (fun _ _ => ⟨rfl, rfl, (by decide : 2 + 0 ≤ _), (by decide : 6 + 0 ≤ _)⟩)
  dsimp only [Pt.U, Pt.locs, Pt.cells, Pt.slots] at X4 l4 y4 z4 st4 hQ4
  subst l4 y4 z4
  obtain ⟨rfl, N4q, eq4⟩ := hQ4
  have N4 := Fr.app N3 N4q
  obtain ⟨cq5, kq5, q5a, q5b, q5c⟩ := isOf hZ rfl (show Exa Z T4.heap b2 "bitcove/ArrayContainer" by rw [eq4]; exact B3.1)
  obtain ⟨_, _, ⟨T5, L5, k5, n5⟩, -, X5, ⟨Lc5, hQ5, l5, y5, z5⟩, st5⟩ := X4.virtualBack hx (y := (⟨"bitcove/ArrayContainer", "cardinality", "()I"⟩ : MethodName)) (z := (⟨"bitcove/ArrayContainer", "cardinality", "()I"⟩ : MethodName)) hown (mvT hZ (hw _ (List.mem_of_getElem? (i := 40) rfl))) (mvT hZ (hw _ (List.mem_of_getElem? (i := 41) rfl))) (notFace_of_selects (args := #[]) (mvT hZ (hw _ (List.mem_of_getElem? (i := 43) rfl)))) (mvT hZ (hw _ (List.mem_of_getElem? (i := 43) rfl))) (mvT hZ (hw _ (List.mem_of_getElem? (i := 42) rfl))) (by decide) (backOf (W := 0) (rm8 l Z a0 hw [] b2 (0 : Int32) T4.heap n0 (by rw [eq4]; exact Z3) (by rw [eq4]; exact B3.2.2.1)) hZ (hw _ (List.mem_of_getElem? (i := 44) rfl)) (hw _ (List.mem_of_getElem? (i := 5) rfl)) (by decide) (by decide)) q5a q5c (g := (mkF m 376 #[.val (.int p1), .val (.int p2), .val (.long q3), .second, .val (.int (NF p1)), .val (.int (G0 q3)), .val (.int (G1 q3)), .val (.int (G2 q3)), .val (.int (G3 q3)), .val (.int (E0 p1 q3)), .val (.int (E1 p1 q3)), .val (.int (E2 p1 q3)), .val (.int (E3 p1 q3)), .val (.int (O1 p1 q3)), .val (.int (O2 p1 q3)), .val (.int (O3 p1 q3)), .val (.int (O4 p1 q3)), .val (.int (TF p1 q3)), .val (.int (VF p1 p2 q3)), .val (.ref b2), .val (.int (XF p1 q3))] [(.ref b2)])) rfl (by rw [hml]; rfl) (Steps.refl _) (argsL := []) (rest := []) (lenOf pd_i rfl) rfl (by show 2 * 0 + _ ≤ _; exact Nat.le_of_eq rfl) (hb hby at_376) (fun _ _ => ⟨rfl, rfl, (by decide : 2 + 0 ≤ _), (by decide : 6 + 0 ≤ _)⟩)
  dsimp only [Pt.U, Pt.locs, Pt.cells, Pt.slots] at X5 l5 y5 z5 st5 hQ5
  subst l5 y5 z5
  obtain ⟨rfl, N5q, eq5⟩ := hQ5
  have N5 := Fr.app N4 N5q
  obtain ⟨fs, hr, hrun, hended, hW, hsame⟩ := X5.leave (v := some (.int (1 : Int32))) (fun h => by rw [Bd.returns] at h; cases h)
  refine ⟨_, _, pre0 _ ?_, hrun, hended, _, _, rfl, ?_, ⟨_, rfl⟩, hW, hsame.mono (by decide) (by decide)⟩
  case refine_2 =>
    show Q0 Z p1 p2 q3 h0 n0 _ T5.heap _
    exact ⟨rfl, N5⟩
  have c0 : ¬ ((0 : Int32) < NF p1) := by rw [hn]; decide
  have c1 : ¬ ((1 : Int32) < NF p1) := by rw [hn]; decide
  have c2 : ¬ ((2 : Int32) < NF p1) := by rw [hn]; decide
  have c3 : ¬ ((3 : Int32) < NF p1) := by rw [hn]; decide
  have c4 : ¬ ((4 : Int32) < NF p1) := by rw [hn]; decide
  refine sg_pre p1 p2 q3 X0 hx hZ hw hby hown _ ?_
  show Steps p.tables e below (s₁.setTop (mkF m 213 #[.val (.int p1), .val (.int p2), .val (.long q3), .second, .val (.int (NF p1)), .val (.int (G0 q3)), .val (.int (G1 q3)), .val (.int (G2 q3)), .val (.int (G3 q3)), .val (.int (E0 p1 q3)), .val (.int (E1 p1 q3)), .val (.int (E2 p1 q3)), .val (.int (E3 p1 q3)), .val (.int (O1 p1 q3)), .val (.int (O2 p1 q3)), .val (.int (O3 p1 q3)), .val (.int (O4 p1 q3)), .val (.int (TF p1 q3)), .val (.int (VF p1 p2 q3)), .unset, .unset] [])) _
  refine st2 _ ?_
  show Steps p.tables e below (T2.setTop (mkF m 216 #[.val (.int p1), .val (.int p2), .val (.long q3), .second, .val (.int (NF p1)), .val (.int (G0 q3)), .val (.int (G1 q3)), .val (.int (G2 q3)), .val (.int (G3 q3)), .val (.int (E0 p1 q3)), .val (.int (E1 p1 q3)), .val (.int (E2 p1 q3)), .val (.int (E3 p1 q3)), .val (.int (O1 p1 q3)), .val (.int (O2 p1 q3)), .val (.int (O3 p1 q3)), .val (.int (O4 p1 q3)), .val (.int (TF p1 q3)), .val (.int (VF p1 p2 q3)), .unset, .unset] [(.ref b2)])) _
  refine XS.dup X2.here hx rfl (hb hby at_216) rfl rfl ?_
  show Steps p.tables e below (T2.setTop (mkF m 217 #[.val (.int p1), .val (.int p2), .val (.long q3), .second, .val (.int (NF p1)), .val (.int (G0 q3)), .val (.int (G1 q3)), .val (.int (G2 q3)), .val (.int (G3 q3)), .val (.int (E0 p1 q3)), .val (.int (E1 p1 q3)), .val (.int (E2 p1 q3)), .val (.int (E3 p1 q3)), .val (.int (O1 p1 q3)), .val (.int (O2 p1 q3)), .val (.int (O3 p1 q3)), .val (.int (O4 p1 q3)), .val (.int (TF p1 q3)), .val (.int (VF p1 p2 q3)), .unset, .unset] [(.ref b2), (.ref b2)])) _
  refine st3.trans ?_
  show Steps p.tables e below (T3.setTop (mkF m 220 #[.val (.int p1), .val (.int p2), .val (.long q3), .second, .val (.int (NF p1)), .val (.int (G0 q3)), .val (.int (G1 q3)), .val (.int (G2 q3)), .val (.int (G3 q3)), .val (.int (E0 p1 q3)), .val (.int (E1 p1 q3)), .val (.int (E2 p1 q3)), .val (.int (E3 p1 q3)), .val (.int (O1 p1 q3)), .val (.int (O2 p1 q3)), .val (.int (O3 p1 q3)), .val (.int (O4 p1 q3)), .val (.int (TF p1 q3)), .val (.int (VF p1 p2 q3)), .unset, .unset] [(.ref b2)])) _
  refine XS.astore X3.here hx rfl (hb hby at_220) rfl rfl (l' := #[.val (.int p1), .val (.int p2), .val (.long q3), .second, .val (.int (NF p1)), .val (.int (G0 q3)), .val (.int (G1 q3)), .val (.int (G2 q3)), .val (.int (G3 q3)), .val (.int (E0 p1 q3)), .val (.int (E1 p1 q3)), .val (.int (E2 p1 q3)), .val (.int (E3 p1 q3)), .val (.int (O1 p1 q3)), .val (.int (O2 p1 q3)), .val (.int (O3 p1 q3)), .val (.int (O4 p1 q3)), .val (.int (TF p1 q3)), .val (.int (VF p1 p2 q3)), .val (.ref b2), .unset]) rfl ?_
  show Steps p.tables e below (T3.setTop (mkF m 222 #[.val (.int p1), .val (.int p2), .val (.long q3), .second, .val (.int (NF p1)), .val (.int (G0 q3)), .val (.int (G1 q3)), .val (.int (G2 q3)), .val (.int (G3 q3)), .val (.int (E0 p1 q3)), .val (.int (E1 p1 q3)), .val (.int (E2 p1 q3)), .val (.int (E3 p1 q3)), .val (.int (O1 p1 q3)), .val (.int (O2 p1 q3)), .val (.int (O3 p1 q3)), .val (.int (O4 p1 q3)), .val (.int (TF p1 q3)), .val (.int (VF p1 p2 q3)), .val (.ref b2), .unset] [])) _
  refine XS.iload X3.here hx rfl (hb hby at_222) rfl ?_
  show Steps p.tables e below (T3.setTop (mkF m 224 #[.val (.int p1), .val (.int p2), .val (.long q3), .second, .val (.int (NF p1)), .val (.int (G0 q3)), .val (.int (G1 q3)), .val (.int (G2 q3)), .val (.int (G3 q3)), .val (.int (E0 p1 q3)), .val (.int (E1 p1 q3)), .val (.int (E2 p1 q3)), .val (.int (E3 p1 q3)), .val (.int (O1 p1 q3)), .val (.int (O2 p1 q3)), .val (.int (O3 p1 q3)), .val (.int (O4 p1 q3)), .val (.int (TF p1 q3)), .val (.int (VF p1 p2 q3)), .val (.ref b2), .unset] [(.int (NF p1))])) _
  refine XS.ifYes X3.here hx rfl (pc0 := 224) (pc' := 236) rfl (hb hby at_224) rfl ((if0 _ _).trans (flt c0).2.2.2) (by decide) (by decide) ?_
  show Steps p.tables e below (T3.setTop (mkF m 236 #[.val (.int p1), .val (.int p2), .val (.long q3), .second, .val (.int (NF p1)), .val (.int (G0 q3)), .val (.int (G1 q3)), .val (.int (G2 q3)), .val (.int (G3 q3)), .val (.int (E0 p1 q3)), .val (.int (E1 p1 q3)), .val (.int (E2 p1 q3)), .val (.int (E3 p1 q3)), .val (.int (O1 p1 q3)), .val (.int (O2 p1 q3)), .val (.int (O3 p1 q3)), .val (.int (O4 p1 q3)), .val (.int (TF p1 q3)), .val (.int (VF p1 p2 q3)), .val (.ref b2), .unset] [])) _
  refine XS.iload X3.here hx rfl (hb hby at_236) rfl ?_
  show Steps p.tables e below (T3.setTop (mkF m 238 #[.val (.int p1), .val (.int p2), .val (.long q3), .second, .val (.int (NF p1)), .val (.int (G0 q3)), .val (.int (G1 q3)), .val (.int (G2 q3)), .val (.int (G3 q3)), .val (.int (E0 p1 q3)), .val (.int (E1 p1 q3)), .val (.int (E2 p1 q3)), .val (.int (E3 p1 q3)), .val (.int (O1 p1 q3)), .val (.int (O2 p1 q3)), .val (.int (O3 p1 q3)), .val (.int (O4 p1 q3)), .val (.int (TF p1 q3)), .val (.int (VF p1 p2 q3)), .val (.ref b2), .unset] [(.int (NF p1))])) _
  refine XS.iconst X3.here hx rfl (hb hby at_238) ?_
  show Steps p.tables e below (T3.setTop (mkF m 239 #[.val (.int p1), .val (.int p2), .val (.long q3), .second, .val (.int (NF p1)), .val (.int (G0 q3)), .val (.int (G1 q3)), .val (.int (G2 q3)), .val (.int (G3 q3)), .val (.int (E0 p1 q3)), .val (.int (E1 p1 q3)), .val (.int (E2 p1 q3)), .val (.int (E3 p1 q3)), .val (.int (O1 p1 q3)), .val (.int (O2 p1 q3)), .val (.int (O3 p1 q3)), .val (.int (O4 p1 q3)), .val (.int (TF p1 q3)), .val (.int (VF p1 p2 q3)), .val (.ref b2), .unset] [(.int (1 : Int32)), (.int (NF p1))])) _
  refine XS.icmpYes X3.here hx rfl (pc0 := 239) (pc' := 254) rfl (hb hby at_239) rfl (flt c1).2.2.2 (by decide) (by decide) ?_
  show Steps p.tables e below (T3.setTop (mkF m 254 #[.val (.int p1), .val (.int p2), .val (.long q3), .second, .val (.int (NF p1)), .val (.int (G0 q3)), .val (.int (G1 q3)), .val (.int (G2 q3)), .val (.int (G3 q3)), .val (.int (E0 p1 q3)), .val (.int (E1 p1 q3)), .val (.int (E2 p1 q3)), .val (.int (E3 p1 q3)), .val (.int (O1 p1 q3)), .val (.int (O2 p1 q3)), .val (.int (O3 p1 q3)), .val (.int (O4 p1 q3)), .val (.int (TF p1 q3)), .val (.int (VF p1 p2 q3)), .val (.ref b2), .unset] [])) _
  refine XS.iload X3.here hx rfl (hb hby at_254) rfl ?_
  show Steps p.tables e below (T3.setTop (mkF m 256 #[.val (.int p1), .val (.int p2), .val (.long q3), .second, .val (.int (NF p1)), .val (.int (G0 q3)), .val (.int (G1 q3)), .val (.int (G2 q3)), .val (.int (G3 q3)), .val (.int (E0 p1 q3)), .val (.int (E1 p1 q3)), .val (.int (E2 p1 q3)), .val (.int (E3 p1 q3)), .val (.int (O1 p1 q3)), .val (.int (O2 p1 q3)), .val (.int (O3 p1 q3)), .val (.int (O4 p1 q3)), .val (.int (TF p1 q3)), .val (.int (VF p1 p2 q3)), .val (.ref b2), .unset] [(.int (NF p1))])) _
  refine XS.iconst X3.here hx rfl (hb hby at_256) ?_
  show Steps p.tables e below (T3.setTop (mkF m 257 #[.val (.int p1), .val (.int p2), .val (.long q3), .second, .val (.int (NF p1)), .val (.int (G0 q3)), .val (.int (G1 q3)), .val (.int (G2 q3)), .val (.int (G3 q3)), .val (.int (E0 p1 q3)), .val (.int (E1 p1 q3)), .val (.int (E2 p1 q3)), .val (.int (E3 p1 q3)), .val (.int (O1 p1 q3)), .val (.int (O2 p1 q3)), .val (.int (O3 p1 q3)), .val (.int (O4 p1 q3)), .val (.int (TF p1 q3)), .val (.int (VF p1 p2 q3)), .val (.ref b2), .unset] [(.int (2 : Int32)), (.int (NF p1))])) _
  refine XS.icmpYes X3.here hx rfl (pc0 := 257) (pc' := 272) rfl (hb hby at_257) rfl (flt c2).2.2.2 (by decide) (by decide) ?_
  show Steps p.tables e below (T3.setTop (mkF m 272 #[.val (.int p1), .val (.int p2), .val (.long q3), .second, .val (.int (NF p1)), .val (.int (G0 q3)), .val (.int (G1 q3)), .val (.int (G2 q3)), .val (.int (G3 q3)), .val (.int (E0 p1 q3)), .val (.int (E1 p1 q3)), .val (.int (E2 p1 q3)), .val (.int (E3 p1 q3)), .val (.int (O1 p1 q3)), .val (.int (O2 p1 q3)), .val (.int (O3 p1 q3)), .val (.int (O4 p1 q3)), .val (.int (TF p1 q3)), .val (.int (VF p1 p2 q3)), .val (.ref b2), .unset] [])) _
  refine XS.iload X3.here hx rfl (hb hby at_272) rfl ?_
  show Steps p.tables e below (T3.setTop (mkF m 274 #[.val (.int p1), .val (.int p2), .val (.long q3), .second, .val (.int (NF p1)), .val (.int (G0 q3)), .val (.int (G1 q3)), .val (.int (G2 q3)), .val (.int (G3 q3)), .val (.int (E0 p1 q3)), .val (.int (E1 p1 q3)), .val (.int (E2 p1 q3)), .val (.int (E3 p1 q3)), .val (.int (O1 p1 q3)), .val (.int (O2 p1 q3)), .val (.int (O3 p1 q3)), .val (.int (O4 p1 q3)), .val (.int (TF p1 q3)), .val (.int (VF p1 p2 q3)), .val (.ref b2), .unset] [(.int (NF p1))])) _
  refine XS.iconst X3.here hx rfl (hb hby at_274) ?_
  show Steps p.tables e below (T3.setTop (mkF m 275 #[.val (.int p1), .val (.int p2), .val (.long q3), .second, .val (.int (NF p1)), .val (.int (G0 q3)), .val (.int (G1 q3)), .val (.int (G2 q3)), .val (.int (G3 q3)), .val (.int (E0 p1 q3)), .val (.int (E1 p1 q3)), .val (.int (E2 p1 q3)), .val (.int (E3 p1 q3)), .val (.int (O1 p1 q3)), .val (.int (O2 p1 q3)), .val (.int (O3 p1 q3)), .val (.int (O4 p1 q3)), .val (.int (TF p1 q3)), .val (.int (VF p1 p2 q3)), .val (.ref b2), .unset] [(.int (3 : Int32)), (.int (NF p1))])) _
  refine XS.icmpYes X3.here hx rfl (pc0 := 275) (pc' := 290) rfl (hb hby at_275) rfl (flt c3).2.2.2 (by decide) (by decide) ?_
  show Steps p.tables e below (T3.setTop (mkF m 290 #[.val (.int p1), .val (.int p2), .val (.long q3), .second, .val (.int (NF p1)), .val (.int (G0 q3)), .val (.int (G1 q3)), .val (.int (G2 q3)), .val (.int (G3 q3)), .val (.int (E0 p1 q3)), .val (.int (E1 p1 q3)), .val (.int (E2 p1 q3)), .val (.int (E3 p1 q3)), .val (.int (O1 p1 q3)), .val (.int (O2 p1 q3)), .val (.int (O3 p1 q3)), .val (.int (O4 p1 q3)), .val (.int (TF p1 q3)), .val (.int (VF p1 p2 q3)), .val (.ref b2), .unset] [])) _
  refine XS.iload X3.here hx rfl (hb hby at_290) rfl ?_
  show Steps p.tables e below (T3.setTop (mkF m 292 #[.val (.int p1), .val (.int p2), .val (.long q3), .second, .val (.int (NF p1)), .val (.int (G0 q3)), .val (.int (G1 q3)), .val (.int (G2 q3)), .val (.int (G3 q3)), .val (.int (E0 p1 q3)), .val (.int (E1 p1 q3)), .val (.int (E2 p1 q3)), .val (.int (E3 p1 q3)), .val (.int (O1 p1 q3)), .val (.int (O2 p1 q3)), .val (.int (O3 p1 q3)), .val (.int (O4 p1 q3)), .val (.int (TF p1 q3)), .val (.int (VF p1 p2 q3)), .val (.ref b2), .unset] [(.int (NF p1))])) _
  refine XS.iconst X3.here hx rfl (hb hby at_292) ?_
  show Steps p.tables e below (T3.setTop (mkF m 293 #[.val (.int p1), .val (.int p2), .val (.long q3), .second, .val (.int (NF p1)), .val (.int (G0 q3)), .val (.int (G1 q3)), .val (.int (G2 q3)), .val (.int (G3 q3)), .val (.int (E0 p1 q3)), .val (.int (E1 p1 q3)), .val (.int (E2 p1 q3)), .val (.int (E3 p1 q3)), .val (.int (O1 p1 q3)), .val (.int (O2 p1 q3)), .val (.int (O3 p1 q3)), .val (.int (O4 p1 q3)), .val (.int (TF p1 q3)), .val (.int (VF p1 p2 q3)), .val (.ref b2), .unset] [(.int (4 : Int32)), (.int (NF p1))])) _
  refine XS.icmpYes X3.here hx rfl (pc0 := 293) (pc' := 308) rfl (hb hby at_293) rfl (flt c4).2.2.2 (by decide) (by decide) ?_
  show Steps p.tables e below (T3.setTop (mkF m 308 #[.val (.int p1), .val (.int p2), .val (.long q3), .second, .val (.int (NF p1)), .val (.int (G0 q3)), .val (.int (G1 q3)), .val (.int (G2 q3)), .val (.int (G3 q3)), .val (.int (E0 p1 q3)), .val (.int (E1 p1 q3)), .val (.int (E2 p1 q3)), .val (.int (E3 p1 q3)), .val (.int (O1 p1 q3)), .val (.int (O2 p1 q3)), .val (.int (O3 p1 q3)), .val (.int (O4 p1 q3)), .val (.int (TF p1 q3)), .val (.int (VF p1 p2 q3)), .val (.ref b2), .unset] [])) _
  refine sg_308 p1 p2 q3 b2 X3 hx hZ hw hby hown _ ?_
  show Steps p.tables e below (T3.setTop (mkF m 364 #[.val (.int p1), .val (.int p2), .val (.long q3), .second, .val (.int (NF p1)), .val (.int (G0 q3)), .val (.int (G1 q3)), .val (.int (G2 q3)), .val (.int (G3 q3)), .val (.int (E0 p1 q3)), .val (.int (E1 p1 q3)), .val (.int (E2 p1 q3)), .val (.int (E3 p1 q3)), .val (.int (O1 p1 q3)), .val (.int (O2 p1 q3)), .val (.int (O3 p1 q3)), .val (.int (O4 p1 q3)), .val (.int (TF p1 q3)), .val (.int (VF p1 p2 q3)), .val (.ref b2), .val (.int (XF p1 q3))] [])) _
  refine XS.aload X3.here hx rfl (hb hby at_364) rfl rfl ?_
  show Steps p.tables e below (T3.setTop (mkF m 366 #[.val (.int p1), .val (.int p2), .val (.long q3), .second, .val (.int (NF p1)), .val (.int (G0 q3)), .val (.int (G1 q3)), .val (.int (G2 q3)), .val (.int (G3 q3)), .val (.int (E0 p1 q3)), .val (.int (E1 p1 q3)), .val (.int (E2 p1 q3)), .val (.int (E3 p1 q3)), .val (.int (O1 p1 q3)), .val (.int (O2 p1 q3)), .val (.int (O3 p1 q3)), .val (.int (O4 p1 q3)), .val (.int (TF p1 q3)), .val (.int (VF p1 p2 q3)), .val (.ref b2), .val (.int (XF p1 q3))] [(.ref b2)])) _
  refine st4.trans ?_
  show Steps p.tables e below (T4.setTop (mkF m 369 #[.val (.int p1), .val (.int p2), .val (.long q3), .second, .val (.int (NF p1)), .val (.int (G0 q3)), .val (.int (G1 q3)), .val (.int (G2 q3)), .val (.int (G3 q3)), .val (.int (E0 p1 q3)), .val (.int (E1 p1 q3)), .val (.int (E2 p1 q3)), .val (.int (E3 p1 q3)), .val (.int (O1 p1 q3)), .val (.int (O2 p1 q3)), .val (.int (O3 p1 q3)), .val (.int (O4 p1 q3)), .val (.int (TF p1 q3)), .val (.int (VF p1 p2 q3)), .val (.ref b2), .val (.int (XF p1 q3))] [(.int (runs (xs0 p1 p2 q3) 0 1 (0 : Int32)))])) _
  refine XS.iload X4.here hx rfl (hb hby at_369) rfl ?_
  show Steps p.tables e below (T4.setTop (mkF m 371 #[.val (.int p1), .val (.int p2), .val (.long q3), .second, .val (.int (NF p1)), .val (.int (G0 q3)), .val (.int (G1 q3)), .val (.int (G2 q3)), .val (.int (G3 q3)), .val (.int (E0 p1 q3)), .val (.int (E1 p1 q3)), .val (.int (E2 p1 q3)), .val (.int (E3 p1 q3)), .val (.int (O1 p1 q3)), .val (.int (O2 p1 q3)), .val (.int (O3 p1 q3)), .val (.int (O4 p1 q3)), .val (.int (TF p1 q3)), .val (.int (VF p1 p2 q3)), .val (.ref b2), .val (.int (XF p1 q3))] [(.int (XF p1 q3)), (.int (runs (xs0 p1 p2 q3) 0 1 (0 : Int32)))])) _
  refine XS.icmpNo X4.here hx rfl (hb hby at_371) rfl (teq (own_case0 p1 p2 q3 hn)).2 ?_
  show Steps p.tables e below (T4.setTop (mkF m 374 #[.val (.int p1), .val (.int p2), .val (.long q3), .second, .val (.int (NF p1)), .val (.int (G0 q3)), .val (.int (G1 q3)), .val (.int (G2 q3)), .val (.int (G3 q3)), .val (.int (E0 p1 q3)), .val (.int (E1 p1 q3)), .val (.int (E2 p1 q3)), .val (.int (E3 p1 q3)), .val (.int (O1 p1 q3)), .val (.int (O2 p1 q3)), .val (.int (O3 p1 q3)), .val (.int (O4 p1 q3)), .val (.int (TF p1 q3)), .val (.int (VF p1 p2 q3)), .val (.ref b2), .val (.int (XF p1 q3))] [])) _
  refine XS.aload X4.here hx rfl (hb hby at_374) rfl rfl ?_
  show Steps p.tables e below (T4.setTop (mkF m 376 #[.val (.int p1), .val (.int p2), .val (.long q3), .second, .val (.int (NF p1)), .val (.int (G0 q3)), .val (.int (G1 q3)), .val (.int (G2 q3)), .val (.int (G3 q3)), .val (.int (E0 p1 q3)), .val (.int (E1 p1 q3)), .val (.int (E2 p1 q3)), .val (.int (E3 p1 q3)), .val (.int (O1 p1 q3)), .val (.int (O2 p1 q3)), .val (.int (O3 p1 q3)), .val (.int (O4 p1 q3)), .val (.int (TF p1 q3)), .val (.int (VF p1 p2 q3)), .val (.ref b2), .val (.int (XF p1 q3))] [(.ref b2)])) _
  refine st5.trans ?_
  show Steps p.tables e below (T5.setTop (mkF m 379 #[.val (.int p1), .val (.int p2), .val (.long q3), .second, .val (.int (NF p1)), .val (.int (G0 q3)), .val (.int (G1 q3)), .val (.int (G2 q3)), .val (.int (G3 q3)), .val (.int (E0 p1 q3)), .val (.int (E1 p1 q3)), .val (.int (E2 p1 q3)), .val (.int (E3 p1 q3)), .val (.int (O1 p1 q3)), .val (.int (O2 p1 q3)), .val (.int (O3 p1 q3)), .val (.int (O4 p1 q3)), .val (.int (TF p1 q3)), .val (.int (VF p1 p2 q3)), .val (.ref b2), .val (.int (XF p1 q3))] [(.int (0 : Int32))])) _
  refine XS.iload X5.here hx rfl (hb hby at_379) rfl ?_
  show Steps p.tables e below (T5.setTop (mkF m 381 #[.val (.int p1), .val (.int p2), .val (.long q3), .second, .val (.int (NF p1)), .val (.int (G0 q3)), .val (.int (G1 q3)), .val (.int (G2 q3)), .val (.int (G3 q3)), .val (.int (E0 p1 q3)), .val (.int (E1 p1 q3)), .val (.int (E2 p1 q3)), .val (.int (E3 p1 q3)), .val (.int (O1 p1 q3)), .val (.int (O2 p1 q3)), .val (.int (O3 p1 q3)), .val (.int (O4 p1 q3)), .val (.int (TF p1 q3)), .val (.int (VF p1 p2 q3)), .val (.ref b2), .val (.int (XF p1 q3))] [(.int (NF p1)), (.int (0 : Int32))])) _
  refine XS.icmpNo X5.here hx rfl (hb hby at_381) rfl (teq hn.symm).2 ?_
  show Steps p.tables e below (T5.setTop (mkF m 384 #[.val (.int p1), .val (.int p2), .val (.long q3), .second, .val (.int (NF p1)), .val (.int (G0 q3)), .val (.int (G1 q3)), .val (.int (G2 q3)), .val (.int (G3 q3)), .val (.int (E0 p1 q3)), .val (.int (E1 p1 q3)), .val (.int (E2 p1 q3)), .val (.int (E3 p1 q3)), .val (.int (O1 p1 q3)), .val (.int (O2 p1 q3)), .val (.int (O3 p1 q3)), .val (.int (O4 p1 q3)), .val (.int (TF p1 q3)), .val (.int (VF p1 p2 q3)), .val (.ref b2), .val (.int (XF p1 q3))] [])) _
  refine XS.iconst X5.here hx rfl (hb hby at_384) ?_
  show Steps p.tables e below (T5.setTop (mkF m 385 #[.val (.int p1), .val (.int p2), .val (.long q3), .second, .val (.int (NF p1)), .val (.int (G0 q3)), .val (.int (G1 q3)), .val (.int (G2 q3)), .val (.int (G3 q3)), .val (.int (E0 p1 q3)), .val (.int (E1 p1 q3)), .val (.int (E2 p1 q3)), .val (.int (E3 p1 q3)), .val (.int (O1 p1 q3)), .val (.int (O2 p1 q3)), .val (.int (O3 p1 q3)), .val (.int (O4 p1 q3)), .val (.int (TF p1 q3)), .val (.int (VF p1 p2 q3)), .val (.ref b2), .val (.int (XF p1 q3))] [(.int (1 : Int32))])) _
  refine XS.goto X5.here hx rfl (pc0 := 385) (pc' := 389) rfl (hb hby at_385) (by decide) (by decide) ?_
  show Steps p.tables e below (T5.setTop (mkF m 389 #[.val (.int p1), .val (.int p2), .val (.long q3), .second, .val (.int (NF p1)), .val (.int (G0 q3)), .val (.int (G1 q3)), .val (.int (G2 q3)), .val (.int (G3 q3)), .val (.int (E0 p1 q3)), .val (.int (E1 p1 q3)), .val (.int (E2 p1 q3)), .val (.int (E3 p1 q3)), .val (.int (O1 p1 q3)), .val (.int (O2 p1 q3)), .val (.int (O3 p1 q3)), .val (.int (O4 p1 q3)), .val (.int (TF p1 q3)), .val (.int (VF p1 p2 q3)), .val (.ref b2), .val (.int (XF p1 q3))] [(.int (1 : Int32))])) _
  exact retN X5 hx (t := .boolean) Bd.returns (by simp) (hb hby at_389) hr
set_option maxRecDepth 65536 in
set_option maxHeartbeats 40000000 in
theorem rm0_1 (l : Launch) (Z : State) (a0 : Array Value) (hw : ∀ d ∈ tables_1, d.before a0 Z = true) (ws : List Jvm.Cond) (p1 : Int32) (p2 : Int32) (q3 : Int64) (h0 : Heap) (n0 : Nat) (Z0 : n0 ≤ h0.size) (hn : NF p1 = 1) :
    MetFree l x (head1 (Jvm.Cond.code x code maxLocals ret :: ws) room_1) (fun a U => a = #[(.int p1), (.int p2), (.long q3)] ∧ Z.Warmed39 U.vm ∧ U.heap = h0) (fun _ _ _ _ _ => True) (fun _ U o U' => ∃ v L, o = .returned v ∧ Q0 Z p1 p2 q3 h0 n0 v U'.heap L ∧ FrameEnd U o U' L room_1.cells room_1.slots) := by
  refine MetFree.of_bodySF (plainFor_of_name pn_0) hisR ?_
  intro p e s m args below meth c s₁ Bd hml0 hP hK
  obtain ⟨rfl, hZ, hh⟩ := hP
  have hx := Bd.exec
  have hby := Bd.bytes
  have hml : c.maxLocals = 21 := hml0
  have hown : s.vm.findClass "bitcove/ArrayContainerRunCountPinLaw" = some m.cls := findClass_of_methodNamed Bd.named
  have hnm := (name_of_methodNamed Bd.named Bd.method).1
  have X0 : Stand p l e room_1 s m #[(.int p1), (.int p2), (.long q3)] below meth c s₁ [] 0 0 := Stand.of_body Bd
  have e0 : s₁.heap = h0 := by rw [← hh, Bd.state]; rfl
  have N0 := Fr.nil n0
  have pre0 : ∀ t, Steps p.tables e below (s₁.setTop (mkF m 0 #[.val (.int p1), .val (.int p2), .val (.long q3), .second, .unset, .unset, .unset, .unset, .unset, .unset, .unset, .unset, .unset, .unset, .unset, .unset, .unset, .unset, .unset, .unset, .unset] [])) t → Steps p.tables e below (s₁.setTop (entryFrame m #[(.int p1), (.int p2), (.long q3)] maxLocals)) t := fun t k => castTop (ef_0 m p1 p2 q3) k
  obtain ⟨T2, h2, X2, e2, Ex2, A2, D2, -, st2⟩ := newO X0 hx hZ hown (hw _ (List.mem_of_getElem? (i := 3) rfl)) (hw _ (List.mem_of_getElem? (i := 4) rfl)) (hw _ (List.mem_of_getElem? (i := 5) rfl)) e0 (g := (mkF m 213 #[.val (.int p1), .val (.int p2), .val (.long q3), .second, .val (.int (NF p1)), .val (.int (G0 q3)), .val (.int (G1 q3)), .val (.int (G2 q3)), .val (.int (G3 q3)), .val (.int (E0 p1 q3)), .val (.int (E1 p1 q3)), .val (.int (E2 p1 q3)), .val (.int (E3 p1 q3)), .val (.int (O1 p1 q3)), .val (.int (O2 p1 q3)), .val (.int (O3 p1 q3)), .val (.int (O4 p1 q3)), .val (.int (TF p1 q3)), .val (.int (VF p1 p2 q3)), .unset, .unset] [])) rfl (hb hby at_213) (by decide) (by decide)
  obtain ⟨b2, g2⟩ : ∃ z, z = h0.size := ⟨_, rfl⟩
  rw [← g2] at A2 D2 st2
  have Fv2 : Fld Z h2 b2 "bitcove/ArrayContainer" "values" "[C" .null := D2 (Or.inl (hw _ (List.mem_of_getElem? (i := 32) rfl))) (ty := (.array .char)) (by decide)
  have Fc2 : Fld Z h2 b2 "bitcove/ArrayContainer" "cardinality" "I" (.int (0 : Int32)) := D2 (Or.inl (hw _ (List.mem_of_getElem? (i := 34) rfl))) (ty := .int) (by decide)
  have g_b2 : n0 ≤ b2 := Nat.le_trans Z0 (Nat.le_of_eq g2.symm)
  have Z2 : n0 ≤ h2.size := Nat.le_trans Z0 Ex2.1
  obtain ⟨_, _, ⟨T3, L3, k3, n3⟩, -, X3, ⟨Lc3, hQ3, l3, y3, z3⟩, st3⟩ := X2.specialBack hx (y := (⟨"bitcove/ArrayContainer", "<init>", "()V"⟩ : MethodName)) rfl hown (mvT hZ (hw _ (List.mem_of_getElem? (i := 6) rfl))) (mvT hZ (hw _ (List.mem_of_getElem? (i := 7) rfl))) (mvT hZ (hw _ (List.mem_of_getElem? (i := 8) rfl))) (by decide) (backOf (W := 1) (rm1 l Z a0 hw [] b2 h2 n0 Z2 _ _ A2 Fv2 Fc2 g_b2) hZ (hw _ (List.mem_of_getElem? (i := 8) rfl)) (hw _ (List.mem_of_getElem? (i := 5) rfl)) (by decide) (by decide)) (g := (mkF m 217 #[.val (.int p1), .val (.int p2), .val (.long q3), .second, .val (.int (NF p1)), .val (.int (G0 q3)), .val (.int (G1 q3)), .val (.int (G2 q3)), .val (.int (G3 q3)), .val (.int (E0 p1 q3)), .val (.int (E1 p1 q3)), .val (.int (E2 p1 q3)), .val (.int (E3 p1 q3)), .val (.int (O1 p1 q3)), .val (.int (O2 p1 q3)), .val (.int (O3 p1 q3)), .val (.int (O4 p1 q3)), .val (.int (TF p1 q3)), .val (.int (VF p1 p2 q3)), .unset, .unset] [(.ref b2), (.ref b2)])) rfl (by rw [hml]; rfl) (Steps.refl _) (a := b2) (argsL := []) (rest := [(.ref b2)]) (lenOf pd_v rfl) rfl (by show 2 * 0 + _ ≤ _; exact Nat.le_of_eq rfl) (hb hby at_217) (fun _ _ => ⟨rfl, e2, (by decide : 1 + 1 ≤ _), (by decide : 2 + 4 ≤ _)⟩)
  dsimp only [Pt.U, Pt.locs, Pt.cells, Pt.slots] at X3 l3 y3 z3 st3 hQ3
  subst l3 y3 z3
  obtain ⟨rfl, N3q, K3, t3, kk3, gt3, B3⟩ := hQ3
  have N3 := Fr.app N0 N3q
  have Z3 : n0 ≤ T3.heap.size := Nat.le_trans Z2 K3.1
  obtain ⟨cq4, kq4, q4a, q4b, q4c⟩ := isOf hZ rfl B3.1
  obtain ⟨_, _, ⟨T4, L4, k4, n4⟩, -, X4, ⟨Lc4, hQ4, l4, y4, z4⟩, st4⟩ := X3.virtualBack hx (y := (⟨"bitcove/ArrayContainer", "append", "(CI)V"⟩ : MethodName)) (z := (⟨"bitcove/ArrayContainer", "append", "(CI)V"⟩ : MethodName)) hown (mvT hZ (hw _ (List.mem_of_getElem? (i := 45) rfl))) (mvT hZ (hw _ (List.mem_of_getElem? (i := 46) rfl))) (notFace_of_selects (args := #[]) (mvT hZ (hw _ (List.mem_of_getElem? (i := 48) rfl)))) (mvT hZ (hw _ (List.mem_of_getElem? (i := 48) rfl))) (mvT hZ (hw _ (List.mem_of_getElem? (i := 47) rfl))) (by decide) (backOf (W := 0) (rm9f l Z a0 hw [] b2 (CF (VF p1 p2 q3)) t3 kk3 (4 : Int32) [(.int (0 : Int32)), (.int (0 : Int32)), (.int (0 : Int32)), (.int (0 : Int32))] T3.heap n0 Z3 B3 g_b2) hZ (hw _ (List.mem_of_getElem? (i := 49) rfl)) (hw _ (List.mem_of_getElem? (i := 5) rfl)) (by decide) (by decide)) q4a q4c (g := (mkF m 233 #[.val (.int p1), .val (.int p2), .val (.long q3), .second, .val (.int (NF p1)), .val (.int (G0 q3)), .val (.int (G1 q3)), .val (.int (G2 q3)), .val (.int (G3 q3)), .val (.int (E0 p1 q3)), .val (.int (E1 p1 q3)), .val (.int (E2 p1 q3)), .val (.int (E3 p1 q3)), .val (.int (O1 p1 q3)), .val (.int (O2 p1 q3)), .val (.int (O3 p1 q3)), .val (.int (O4 p1 q3)), .val (.int (TF p1 q3)), .val (.int (VF p1 p2 q3)), .val (.ref b2), .unset] [(.int (5 : Int32)), (.int (CF (VF p1 p2 q3))), (.ref b2)])) rfl (by rw [hml]; rfl) (Steps.refl _) (argsL := [(.int (CF (VF p1 p2 q3))), (.int (5 : Int32))]) (rest := []) (lenOf pd_a rfl) rfl (by show 2 * 0 + _ ≤ _; exact Nat.le_of_eq rfl) (hb hby at_233) (fun _ _ => ⟨rfl, rfl, (by decide : 2 + 1 ≤ _), (by decide : 6 + 5 ≤ _)⟩)
  dsimp only [Pt.U, Pt.locs, Pt.cells, Pt.slots] at X4 l4 y4 z4 st4 hQ4
  subst l4 y4 z4
  obtain ⟨rfl, N4q, t4, kk4, gt4, K4, B4⟩ := hQ4
  have N4 := Fr.app N3 N4q
  have Z4 : n0 ≤ T4.heap.size := Nat.le_trans Z3 K4.1
  have g_t : n0 ≤ t4 := Nat.le_trans Z3 gt4
  obtain ⟨cq5, kq5, q5a, q5b, q5c⟩ := isOf hZ rfl B4.1
  have hv : ∀ i, i < 1 → ([(.int (nar .char (CF (VF p1 p2 q3)))), (.int (0 : Int32)), (.int (0 : Int32)), (.int (0 : Int32)), (.int (0 : Int32))] : List Value).getD i (.int (0 : Int32)) = .int (xs1 p1 p2 q3 i) := fun i hi => by
    match i, hi with
    | 0, _ => rfl
  obtain ⟨_, _, ⟨T5, L5, k5, n5⟩, -, X5, ⟨Lc5, hQ5, l5, y5, z5⟩, st5⟩ := X4.virtualBack hx (y := (⟨"bitcove/ArrayContainer", "runCount", "()I"⟩ : MethodName)) (z := (⟨"bitcove/ArrayContainer", "runCount", "()I"⟩ : MethodName)) hown (mvT hZ (hw _ (List.mem_of_getElem? (i := 35) rfl))) (mvT hZ (hw _ (List.mem_of_getElem? (i := 36) rfl))) (notFace_of_selects (args := #[]) (mvT hZ (hw _ (List.mem_of_getElem? (i := 38) rfl)))) (mvT hZ (hw _ (List.mem_of_getElem? (i := 38) rfl))) (mvT hZ (hw _ (List.mem_of_getElem? (i := 37) rfl))) (by decide) (backOf (W := 0) (rm7 l Z a0 hw [] b2 (1 : Int32) t4 kk4 (5 : Int32) [(.int (nar .char (CF (VF p1 p2 q3)))), (.int (0 : Int32)), (.int (0 : Int32)), (.int (0 : Int32)), (.int (0 : Int32))] (xs1 p1 p2 q3) 1 T4.heap n0 Z4 B4 (by decide) (by decide) (by decide) hv) hZ (hw _ (List.mem_of_getElem? (i := 39) rfl)) (hw _ (List.mem_of_getElem? (i := 5) rfl)) (by decide) (by decide)) q5a q5c (g := (mkF m 366 #[.val (.int p1), .val (.int p2), .val (.long q3), .second, .val (.int (NF p1)), .val (.int (G0 q3)), .val (.int (G1 q3)), .val (.int (G2 q3)), .val (.int (G3 q3)), .val (.int (E0 p1 q3)), .val (.int (E1 p1 q3)), .val (.int (E2 p1 q3)), .val (.int (E3 p1 q3)), .val (.int (O1 p1 q3)), .val (.int (O2 p1 q3)), .val (.int (O3 p1 q3)), .val (.int (O4 p1 q3)), .val (.int (TF p1 q3)), .val (.int (VF p1 p2 q3)), .val (.ref b2), .val (.int (XF p1 q3))] [(.ref b2)])) rfl (by rw [hml]; rfl) (Steps.refl _) (argsL := []) (rest := []) (lenOf pd_i rfl) rfl (by show 2 * 0 + _ ≤ _; exact Nat.le_of_eq rfl) (hb hby at_366) (fun _ _ => ⟨rfl, rfl, (by decide : 3 + 0 ≤ _), (by decide : 11 + 0 ≤ _)⟩)
  dsimp only [Pt.U, Pt.locs, Pt.cells, Pt.slots] at X5 l5 y5 z5 st5 hQ5
  subst l5 y5 z5
  obtain ⟨rfl, N5q, eq5⟩ := hQ5
  have N5 := Fr.app N4 N5q
  obtain ⟨cq6, kq6, q6a, q6b, q6c⟩ := isOf hZ rfl (show Exa Z T5.heap b2 "bitcove/ArrayContainer" by rw [eq5]; exact B4.1)
  obtain ⟨_, _, ⟨T6, L6, k6, n6⟩, -, X6, ⟨Lc6, hQ6, l6, y6, z6⟩, st6⟩ := X5.virtualBack hx (y := (⟨"bitcove/ArrayContainer", "cardinality", "()I"⟩ : MethodName)) (z := (⟨"bitcove/ArrayContainer", "cardinality", "()I"⟩ : MethodName)) hown (mvT hZ (hw _ (List.mem_of_getElem? (i := 40) rfl))) (mvT hZ (hw _ (List.mem_of_getElem? (i := 41) rfl))) (notFace_of_selects (args := #[]) (mvT hZ (hw _ (List.mem_of_getElem? (i := 43) rfl)))) (mvT hZ (hw _ (List.mem_of_getElem? (i := 43) rfl))) (mvT hZ (hw _ (List.mem_of_getElem? (i := 42) rfl))) (by decide) (backOf (W := 0) (rm8 l Z a0 hw [] b2 (1 : Int32) T5.heap n0 (by rw [eq5]; exact Z4) (by rw [eq5]; exact B4.2.2.1)) hZ (hw _ (List.mem_of_getElem? (i := 44) rfl)) (hw _ (List.mem_of_getElem? (i := 5) rfl)) (by decide) (by decide)) q6a q6c (g := (mkF m 376 #[.val (.int p1), .val (.int p2), .val (.long q3), .second, .val (.int (NF p1)), .val (.int (G0 q3)), .val (.int (G1 q3)), .val (.int (G2 q3)), .val (.int (G3 q3)), .val (.int (E0 p1 q3)), .val (.int (E1 p1 q3)), .val (.int (E2 p1 q3)), .val (.int (E3 p1 q3)), .val (.int (O1 p1 q3)), .val (.int (O2 p1 q3)), .val (.int (O3 p1 q3)), .val (.int (O4 p1 q3)), .val (.int (TF p1 q3)), .val (.int (VF p1 p2 q3)), .val (.ref b2), .val (.int (XF p1 q3))] [(.ref b2)])) rfl (by rw [hml]; rfl) (Steps.refl _) (argsL := []) (rest := []) (lenOf pd_i rfl) rfl (by show 2 * 0 + _ ≤ _; exact Nat.le_of_eq rfl) (hb hby at_376) (fun _ _ => ⟨rfl, rfl, (by decide : 3 + 0 ≤ _), (by decide : 11 + 0 ≤ _)⟩)
  dsimp only [Pt.U, Pt.locs, Pt.cells, Pt.slots] at X6 l6 y6 z6 st6 hQ6
  subst l6 y6 z6
  obtain ⟨rfl, N6q, eq6⟩ := hQ6
  have N6 := Fr.app N5 N6q
  obtain ⟨fs, hr, hrun, hended, hW, hsame⟩ := X6.leave (v := some (.int (1 : Int32))) (fun h => by rw [Bd.returns] at h; cases h)
  refine ⟨_, _, pre0 _ ?_, hrun, hended, _, _, rfl, ?_, ⟨_, rfl⟩, hW, hsame.mono (by decide) (by decide)⟩
  case refine_2 =>
    show Q0 Z p1 p2 q3 h0 n0 _ T6.heap _
    exact ⟨rfl, N6⟩
  have c0 : (0 : Int32) < NF p1 := by rw [hn]; decide
  have c1 : ¬ ((1 : Int32) < NF p1) := by rw [hn]; decide
  have c2 : ¬ ((2 : Int32) < NF p1) := by rw [hn]; decide
  have c3 : ¬ ((3 : Int32) < NF p1) := by rw [hn]; decide
  have c4 : ¬ ((4 : Int32) < NF p1) := by rw [hn]; decide
  refine sg_pre p1 p2 q3 X0 hx hZ hw hby hown _ ?_
  show Steps p.tables e below (s₁.setTop (mkF m 213 #[.val (.int p1), .val (.int p2), .val (.long q3), .second, .val (.int (NF p1)), .val (.int (G0 q3)), .val (.int (G1 q3)), .val (.int (G2 q3)), .val (.int (G3 q3)), .val (.int (E0 p1 q3)), .val (.int (E1 p1 q3)), .val (.int (E2 p1 q3)), .val (.int (E3 p1 q3)), .val (.int (O1 p1 q3)), .val (.int (O2 p1 q3)), .val (.int (O3 p1 q3)), .val (.int (O4 p1 q3)), .val (.int (TF p1 q3)), .val (.int (VF p1 p2 q3)), .unset, .unset] [])) _
  refine st2 _ ?_
  show Steps p.tables e below (T2.setTop (mkF m 216 #[.val (.int p1), .val (.int p2), .val (.long q3), .second, .val (.int (NF p1)), .val (.int (G0 q3)), .val (.int (G1 q3)), .val (.int (G2 q3)), .val (.int (G3 q3)), .val (.int (E0 p1 q3)), .val (.int (E1 p1 q3)), .val (.int (E2 p1 q3)), .val (.int (E3 p1 q3)), .val (.int (O1 p1 q3)), .val (.int (O2 p1 q3)), .val (.int (O3 p1 q3)), .val (.int (O4 p1 q3)), .val (.int (TF p1 q3)), .val (.int (VF p1 p2 q3)), .unset, .unset] [(.ref b2)])) _
  refine XS.dup X2.here hx rfl (hb hby at_216) rfl rfl ?_
  show Steps p.tables e below (T2.setTop (mkF m 217 #[.val (.int p1), .val (.int p2), .val (.long q3), .second, .val (.int (NF p1)), .val (.int (G0 q3)), .val (.int (G1 q3)), .val (.int (G2 q3)), .val (.int (G3 q3)), .val (.int (E0 p1 q3)), .val (.int (E1 p1 q3)), .val (.int (E2 p1 q3)), .val (.int (E3 p1 q3)), .val (.int (O1 p1 q3)), .val (.int (O2 p1 q3)), .val (.int (O3 p1 q3)), .val (.int (O4 p1 q3)), .val (.int (TF p1 q3)), .val (.int (VF p1 p2 q3)), .unset, .unset] [(.ref b2), (.ref b2)])) _
  refine st3.trans ?_
  show Steps p.tables e below (T3.setTop (mkF m 220 #[.val (.int p1), .val (.int p2), .val (.long q3), .second, .val (.int (NF p1)), .val (.int (G0 q3)), .val (.int (G1 q3)), .val (.int (G2 q3)), .val (.int (G3 q3)), .val (.int (E0 p1 q3)), .val (.int (E1 p1 q3)), .val (.int (E2 p1 q3)), .val (.int (E3 p1 q3)), .val (.int (O1 p1 q3)), .val (.int (O2 p1 q3)), .val (.int (O3 p1 q3)), .val (.int (O4 p1 q3)), .val (.int (TF p1 q3)), .val (.int (VF p1 p2 q3)), .unset, .unset] [(.ref b2)])) _
  refine XS.astore X3.here hx rfl (hb hby at_220) rfl rfl (l' := #[.val (.int p1), .val (.int p2), .val (.long q3), .second, .val (.int (NF p1)), .val (.int (G0 q3)), .val (.int (G1 q3)), .val (.int (G2 q3)), .val (.int (G3 q3)), .val (.int (E0 p1 q3)), .val (.int (E1 p1 q3)), .val (.int (E2 p1 q3)), .val (.int (E3 p1 q3)), .val (.int (O1 p1 q3)), .val (.int (O2 p1 q3)), .val (.int (O3 p1 q3)), .val (.int (O4 p1 q3)), .val (.int (TF p1 q3)), .val (.int (VF p1 p2 q3)), .val (.ref b2), .unset]) rfl ?_
  show Steps p.tables e below (T3.setTop (mkF m 222 #[.val (.int p1), .val (.int p2), .val (.long q3), .second, .val (.int (NF p1)), .val (.int (G0 q3)), .val (.int (G1 q3)), .val (.int (G2 q3)), .val (.int (G3 q3)), .val (.int (E0 p1 q3)), .val (.int (E1 p1 q3)), .val (.int (E2 p1 q3)), .val (.int (E3 p1 q3)), .val (.int (O1 p1 q3)), .val (.int (O2 p1 q3)), .val (.int (O3 p1 q3)), .val (.int (O4 p1 q3)), .val (.int (TF p1 q3)), .val (.int (VF p1 p2 q3)), .val (.ref b2), .unset] [])) _
  refine XS.iload X3.here hx rfl (hb hby at_222) rfl ?_
  show Steps p.tables e below (T3.setTop (mkF m 224 #[.val (.int p1), .val (.int p2), .val (.long q3), .second, .val (.int (NF p1)), .val (.int (G0 q3)), .val (.int (G1 q3)), .val (.int (G2 q3)), .val (.int (G3 q3)), .val (.int (E0 p1 q3)), .val (.int (E1 p1 q3)), .val (.int (E2 p1 q3)), .val (.int (E3 p1 q3)), .val (.int (O1 p1 q3)), .val (.int (O2 p1 q3)), .val (.int (O3 p1 q3)), .val (.int (O4 p1 q3)), .val (.int (TF p1 q3)), .val (.int (VF p1 p2 q3)), .val (.ref b2), .unset] [(.int (NF p1))])) _
  refine XS.ifNo X3.here hx rfl (hb hby at_224) rfl ((if0 _ _).trans (tlt c0).2.2.2) ?_
  show Steps p.tables e below (T3.setTop (mkF m 227 #[.val (.int p1), .val (.int p2), .val (.long q3), .second, .val (.int (NF p1)), .val (.int (G0 q3)), .val (.int (G1 q3)), .val (.int (G2 q3)), .val (.int (G3 q3)), .val (.int (E0 p1 q3)), .val (.int (E1 p1 q3)), .val (.int (E2 p1 q3)), .val (.int (E3 p1 q3)), .val (.int (O1 p1 q3)), .val (.int (O2 p1 q3)), .val (.int (O3 p1 q3)), .val (.int (O4 p1 q3)), .val (.int (TF p1 q3)), .val (.int (VF p1 p2 q3)), .val (.ref b2), .unset] [])) _
  refine XS.aload X3.here hx rfl (hb hby at_227) rfl rfl ?_
  show Steps p.tables e below (T3.setTop (mkF m 229 #[.val (.int p1), .val (.int p2), .val (.long q3), .second, .val (.int (NF p1)), .val (.int (G0 q3)), .val (.int (G1 q3)), .val (.int (G2 q3)), .val (.int (G3 q3)), .val (.int (E0 p1 q3)), .val (.int (E1 p1 q3)), .val (.int (E2 p1 q3)), .val (.int (E3 p1 q3)), .val (.int (O1 p1 q3)), .val (.int (O2 p1 q3)), .val (.int (O3 p1 q3)), .val (.int (O4 p1 q3)), .val (.int (TF p1 q3)), .val (.int (VF p1 p2 q3)), .val (.ref b2), .unset] [(.ref b2)])) _
  refine XS.iload X3.here hx rfl (hb hby at_229) rfl ?_
  show Steps p.tables e below (T3.setTop (mkF m 231 #[.val (.int p1), .val (.int p2), .val (.long q3), .second, .val (.int (NF p1)), .val (.int (G0 q3)), .val (.int (G1 q3)), .val (.int (G2 q3)), .val (.int (G3 q3)), .val (.int (E0 p1 q3)), .val (.int (E1 p1 q3)), .val (.int (E2 p1 q3)), .val (.int (E3 p1 q3)), .val (.int (O1 p1 q3)), .val (.int (O2 p1 q3)), .val (.int (O3 p1 q3)), .val (.int (O4 p1 q3)), .val (.int (TF p1 q3)), .val (.int (VF p1 p2 q3)), .val (.ref b2), .unset] [(.int (VF p1 p2 q3)), (.ref b2)])) _
  refine XS.i2c X3.here hx rfl (hb hby at_231) rfl ?_
  show Steps p.tables e below (T3.setTop (mkF m 232 #[.val (.int p1), .val (.int p2), .val (.long q3), .second, .val (.int (NF p1)), .val (.int (G0 q3)), .val (.int (G1 q3)), .val (.int (G2 q3)), .val (.int (G3 q3)), .val (.int (E0 p1 q3)), .val (.int (E1 p1 q3)), .val (.int (E2 p1 q3)), .val (.int (E3 p1 q3)), .val (.int (O1 p1 q3)), .val (.int (O2 p1 q3)), .val (.int (O3 p1 q3)), .val (.int (O4 p1 q3)), .val (.int (TF p1 q3)), .val (.int (VF p1 p2 q3)), .val (.ref b2), .unset] [(.int (CF (VF p1 p2 q3))), (.ref b2)])) _
  refine XS.iconst X3.here hx rfl (hb hby at_232) ?_
  show Steps p.tables e below (T3.setTop (mkF m 233 #[.val (.int p1), .val (.int p2), .val (.long q3), .second, .val (.int (NF p1)), .val (.int (G0 q3)), .val (.int (G1 q3)), .val (.int (G2 q3)), .val (.int (G3 q3)), .val (.int (E0 p1 q3)), .val (.int (E1 p1 q3)), .val (.int (E2 p1 q3)), .val (.int (E3 p1 q3)), .val (.int (O1 p1 q3)), .val (.int (O2 p1 q3)), .val (.int (O3 p1 q3)), .val (.int (O4 p1 q3)), .val (.int (TF p1 q3)), .val (.int (VF p1 p2 q3)), .val (.ref b2), .unset] [(.int (5 : Int32)), (.int (CF (VF p1 p2 q3))), (.ref b2)])) _
  refine st4.trans ?_
  show Steps p.tables e below (T4.setTop (mkF m 236 #[.val (.int p1), .val (.int p2), .val (.long q3), .second, .val (.int (NF p1)), .val (.int (G0 q3)), .val (.int (G1 q3)), .val (.int (G2 q3)), .val (.int (G3 q3)), .val (.int (E0 p1 q3)), .val (.int (E1 p1 q3)), .val (.int (E2 p1 q3)), .val (.int (E3 p1 q3)), .val (.int (O1 p1 q3)), .val (.int (O2 p1 q3)), .val (.int (O3 p1 q3)), .val (.int (O4 p1 q3)), .val (.int (TF p1 q3)), .val (.int (VF p1 p2 q3)), .val (.ref b2), .unset] [])) _
  refine XS.iload X4.here hx rfl (hb hby at_236) rfl ?_
  show Steps p.tables e below (T4.setTop (mkF m 238 #[.val (.int p1), .val (.int p2), .val (.long q3), .second, .val (.int (NF p1)), .val (.int (G0 q3)), .val (.int (G1 q3)), .val (.int (G2 q3)), .val (.int (G3 q3)), .val (.int (E0 p1 q3)), .val (.int (E1 p1 q3)), .val (.int (E2 p1 q3)), .val (.int (E3 p1 q3)), .val (.int (O1 p1 q3)), .val (.int (O2 p1 q3)), .val (.int (O3 p1 q3)), .val (.int (O4 p1 q3)), .val (.int (TF p1 q3)), .val (.int (VF p1 p2 q3)), .val (.ref b2), .unset] [(.int (NF p1))])) _
  refine XS.iconst X4.here hx rfl (hb hby at_238) ?_
  show Steps p.tables e below (T4.setTop (mkF m 239 #[.val (.int p1), .val (.int p2), .val (.long q3), .second, .val (.int (NF p1)), .val (.int (G0 q3)), .val (.int (G1 q3)), .val (.int (G2 q3)), .val (.int (G3 q3)), .val (.int (E0 p1 q3)), .val (.int (E1 p1 q3)), .val (.int (E2 p1 q3)), .val (.int (E3 p1 q3)), .val (.int (O1 p1 q3)), .val (.int (O2 p1 q3)), .val (.int (O3 p1 q3)), .val (.int (O4 p1 q3)), .val (.int (TF p1 q3)), .val (.int (VF p1 p2 q3)), .val (.ref b2), .unset] [(.int (1 : Int32)), (.int (NF p1))])) _
  refine XS.icmpYes X4.here hx rfl (pc0 := 239) (pc' := 254) rfl (hb hby at_239) rfl (flt c1).2.2.2 (by decide) (by decide) ?_
  show Steps p.tables e below (T4.setTop (mkF m 254 #[.val (.int p1), .val (.int p2), .val (.long q3), .second, .val (.int (NF p1)), .val (.int (G0 q3)), .val (.int (G1 q3)), .val (.int (G2 q3)), .val (.int (G3 q3)), .val (.int (E0 p1 q3)), .val (.int (E1 p1 q3)), .val (.int (E2 p1 q3)), .val (.int (E3 p1 q3)), .val (.int (O1 p1 q3)), .val (.int (O2 p1 q3)), .val (.int (O3 p1 q3)), .val (.int (O4 p1 q3)), .val (.int (TF p1 q3)), .val (.int (VF p1 p2 q3)), .val (.ref b2), .unset] [])) _
  refine XS.iload X4.here hx rfl (hb hby at_254) rfl ?_
  show Steps p.tables e below (T4.setTop (mkF m 256 #[.val (.int p1), .val (.int p2), .val (.long q3), .second, .val (.int (NF p1)), .val (.int (G0 q3)), .val (.int (G1 q3)), .val (.int (G2 q3)), .val (.int (G3 q3)), .val (.int (E0 p1 q3)), .val (.int (E1 p1 q3)), .val (.int (E2 p1 q3)), .val (.int (E3 p1 q3)), .val (.int (O1 p1 q3)), .val (.int (O2 p1 q3)), .val (.int (O3 p1 q3)), .val (.int (O4 p1 q3)), .val (.int (TF p1 q3)), .val (.int (VF p1 p2 q3)), .val (.ref b2), .unset] [(.int (NF p1))])) _
  refine XS.iconst X4.here hx rfl (hb hby at_256) ?_
  show Steps p.tables e below (T4.setTop (mkF m 257 #[.val (.int p1), .val (.int p2), .val (.long q3), .second, .val (.int (NF p1)), .val (.int (G0 q3)), .val (.int (G1 q3)), .val (.int (G2 q3)), .val (.int (G3 q3)), .val (.int (E0 p1 q3)), .val (.int (E1 p1 q3)), .val (.int (E2 p1 q3)), .val (.int (E3 p1 q3)), .val (.int (O1 p1 q3)), .val (.int (O2 p1 q3)), .val (.int (O3 p1 q3)), .val (.int (O4 p1 q3)), .val (.int (TF p1 q3)), .val (.int (VF p1 p2 q3)), .val (.ref b2), .unset] [(.int (2 : Int32)), (.int (NF p1))])) _
  refine XS.icmpYes X4.here hx rfl (pc0 := 257) (pc' := 272) rfl (hb hby at_257) rfl (flt c2).2.2.2 (by decide) (by decide) ?_
  show Steps p.tables e below (T4.setTop (mkF m 272 #[.val (.int p1), .val (.int p2), .val (.long q3), .second, .val (.int (NF p1)), .val (.int (G0 q3)), .val (.int (G1 q3)), .val (.int (G2 q3)), .val (.int (G3 q3)), .val (.int (E0 p1 q3)), .val (.int (E1 p1 q3)), .val (.int (E2 p1 q3)), .val (.int (E3 p1 q3)), .val (.int (O1 p1 q3)), .val (.int (O2 p1 q3)), .val (.int (O3 p1 q3)), .val (.int (O4 p1 q3)), .val (.int (TF p1 q3)), .val (.int (VF p1 p2 q3)), .val (.ref b2), .unset] [])) _
  refine XS.iload X4.here hx rfl (hb hby at_272) rfl ?_
  show Steps p.tables e below (T4.setTop (mkF m 274 #[.val (.int p1), .val (.int p2), .val (.long q3), .second, .val (.int (NF p1)), .val (.int (G0 q3)), .val (.int (G1 q3)), .val (.int (G2 q3)), .val (.int (G3 q3)), .val (.int (E0 p1 q3)), .val (.int (E1 p1 q3)), .val (.int (E2 p1 q3)), .val (.int (E3 p1 q3)), .val (.int (O1 p1 q3)), .val (.int (O2 p1 q3)), .val (.int (O3 p1 q3)), .val (.int (O4 p1 q3)), .val (.int (TF p1 q3)), .val (.int (VF p1 p2 q3)), .val (.ref b2), .unset] [(.int (NF p1))])) _
  refine XS.iconst X4.here hx rfl (hb hby at_274) ?_
  show Steps p.tables e below (T4.setTop (mkF m 275 #[.val (.int p1), .val (.int p2), .val (.long q3), .second, .val (.int (NF p1)), .val (.int (G0 q3)), .val (.int (G1 q3)), .val (.int (G2 q3)), .val (.int (G3 q3)), .val (.int (E0 p1 q3)), .val (.int (E1 p1 q3)), .val (.int (E2 p1 q3)), .val (.int (E3 p1 q3)), .val (.int (O1 p1 q3)), .val (.int (O2 p1 q3)), .val (.int (O3 p1 q3)), .val (.int (O4 p1 q3)), .val (.int (TF p1 q3)), .val (.int (VF p1 p2 q3)), .val (.ref b2), .unset] [(.int (3 : Int32)), (.int (NF p1))])) _
  refine XS.icmpYes X4.here hx rfl (pc0 := 275) (pc' := 290) rfl (hb hby at_275) rfl (flt c3).2.2.2 (by decide) (by decide) ?_
  show Steps p.tables e below (T4.setTop (mkF m 290 #[.val (.int p1), .val (.int p2), .val (.long q3), .second, .val (.int (NF p1)), .val (.int (G0 q3)), .val (.int (G1 q3)), .val (.int (G2 q3)), .val (.int (G3 q3)), .val (.int (E0 p1 q3)), .val (.int (E1 p1 q3)), .val (.int (E2 p1 q3)), .val (.int (E3 p1 q3)), .val (.int (O1 p1 q3)), .val (.int (O2 p1 q3)), .val (.int (O3 p1 q3)), .val (.int (O4 p1 q3)), .val (.int (TF p1 q3)), .val (.int (VF p1 p2 q3)), .val (.ref b2), .unset] [])) _
  refine XS.iload X4.here hx rfl (hb hby at_290) rfl ?_
  show Steps p.tables e below (T4.setTop (mkF m 292 #[.val (.int p1), .val (.int p2), .val (.long q3), .second, .val (.int (NF p1)), .val (.int (G0 q3)), .val (.int (G1 q3)), .val (.int (G2 q3)), .val (.int (G3 q3)), .val (.int (E0 p1 q3)), .val (.int (E1 p1 q3)), .val (.int (E2 p1 q3)), .val (.int (E3 p1 q3)), .val (.int (O1 p1 q3)), .val (.int (O2 p1 q3)), .val (.int (O3 p1 q3)), .val (.int (O4 p1 q3)), .val (.int (TF p1 q3)), .val (.int (VF p1 p2 q3)), .val (.ref b2), .unset] [(.int (NF p1))])) _
  refine XS.iconst X4.here hx rfl (hb hby at_292) ?_
  show Steps p.tables e below (T4.setTop (mkF m 293 #[.val (.int p1), .val (.int p2), .val (.long q3), .second, .val (.int (NF p1)), .val (.int (G0 q3)), .val (.int (G1 q3)), .val (.int (G2 q3)), .val (.int (G3 q3)), .val (.int (E0 p1 q3)), .val (.int (E1 p1 q3)), .val (.int (E2 p1 q3)), .val (.int (E3 p1 q3)), .val (.int (O1 p1 q3)), .val (.int (O2 p1 q3)), .val (.int (O3 p1 q3)), .val (.int (O4 p1 q3)), .val (.int (TF p1 q3)), .val (.int (VF p1 p2 q3)), .val (.ref b2), .unset] [(.int (4 : Int32)), (.int (NF p1))])) _
  refine XS.icmpYes X4.here hx rfl (pc0 := 293) (pc' := 308) rfl (hb hby at_293) rfl (flt c4).2.2.2 (by decide) (by decide) ?_
  show Steps p.tables e below (T4.setTop (mkF m 308 #[.val (.int p1), .val (.int p2), .val (.long q3), .second, .val (.int (NF p1)), .val (.int (G0 q3)), .val (.int (G1 q3)), .val (.int (G2 q3)), .val (.int (G3 q3)), .val (.int (E0 p1 q3)), .val (.int (E1 p1 q3)), .val (.int (E2 p1 q3)), .val (.int (E3 p1 q3)), .val (.int (O1 p1 q3)), .val (.int (O2 p1 q3)), .val (.int (O3 p1 q3)), .val (.int (O4 p1 q3)), .val (.int (TF p1 q3)), .val (.int (VF p1 p2 q3)), .val (.ref b2), .unset] [])) _
  refine sg_308 p1 p2 q3 b2 X4 hx hZ hw hby hown _ ?_
  show Steps p.tables e below (T4.setTop (mkF m 364 #[.val (.int p1), .val (.int p2), .val (.long q3), .second, .val (.int (NF p1)), .val (.int (G0 q3)), .val (.int (G1 q3)), .val (.int (G2 q3)), .val (.int (G3 q3)), .val (.int (E0 p1 q3)), .val (.int (E1 p1 q3)), .val (.int (E2 p1 q3)), .val (.int (E3 p1 q3)), .val (.int (O1 p1 q3)), .val (.int (O2 p1 q3)), .val (.int (O3 p1 q3)), .val (.int (O4 p1 q3)), .val (.int (TF p1 q3)), .val (.int (VF p1 p2 q3)), .val (.ref b2), .val (.int (XF p1 q3))] [])) _
  refine XS.aload X4.here hx rfl (hb hby at_364) rfl rfl ?_
  show Steps p.tables e below (T4.setTop (mkF m 366 #[.val (.int p1), .val (.int p2), .val (.long q3), .second, .val (.int (NF p1)), .val (.int (G0 q3)), .val (.int (G1 q3)), .val (.int (G2 q3)), .val (.int (G3 q3)), .val (.int (E0 p1 q3)), .val (.int (E1 p1 q3)), .val (.int (E2 p1 q3)), .val (.int (E3 p1 q3)), .val (.int (O1 p1 q3)), .val (.int (O2 p1 q3)), .val (.int (O3 p1 q3)), .val (.int (O4 p1 q3)), .val (.int (TF p1 q3)), .val (.int (VF p1 p2 q3)), .val (.ref b2), .val (.int (XF p1 q3))] [(.ref b2)])) _
  refine st5.trans ?_
  show Steps p.tables e below (T5.setTop (mkF m 369 #[.val (.int p1), .val (.int p2), .val (.long q3), .second, .val (.int (NF p1)), .val (.int (G0 q3)), .val (.int (G1 q3)), .val (.int (G2 q3)), .val (.int (G3 q3)), .val (.int (E0 p1 q3)), .val (.int (E1 p1 q3)), .val (.int (E2 p1 q3)), .val (.int (E3 p1 q3)), .val (.int (O1 p1 q3)), .val (.int (O2 p1 q3)), .val (.int (O3 p1 q3)), .val (.int (O4 p1 q3)), .val (.int (TF p1 q3)), .val (.int (VF p1 p2 q3)), .val (.ref b2), .val (.int (XF p1 q3))] [(.int (runs (xs1 p1 p2 q3) 0 1 (1 : Int32)))])) _
  refine XS.iload X5.here hx rfl (hb hby at_369) rfl ?_
  show Steps p.tables e below (T5.setTop (mkF m 371 #[.val (.int p1), .val (.int p2), .val (.long q3), .second, .val (.int (NF p1)), .val (.int (G0 q3)), .val (.int (G1 q3)), .val (.int (G2 q3)), .val (.int (G3 q3)), .val (.int (E0 p1 q3)), .val (.int (E1 p1 q3)), .val (.int (E2 p1 q3)), .val (.int (E3 p1 q3)), .val (.int (O1 p1 q3)), .val (.int (O2 p1 q3)), .val (.int (O3 p1 q3)), .val (.int (O4 p1 q3)), .val (.int (TF p1 q3)), .val (.int (VF p1 p2 q3)), .val (.ref b2), .val (.int (XF p1 q3))] [(.int (XF p1 q3)), (.int (runs (xs1 p1 p2 q3) 0 1 (1 : Int32)))])) _
  refine XS.icmpNo X5.here hx rfl (hb hby at_371) rfl (teq (own_case1 p1 p2 q3 hn)).2 ?_
  show Steps p.tables e below (T5.setTop (mkF m 374 #[.val (.int p1), .val (.int p2), .val (.long q3), .second, .val (.int (NF p1)), .val (.int (G0 q3)), .val (.int (G1 q3)), .val (.int (G2 q3)), .val (.int (G3 q3)), .val (.int (E0 p1 q3)), .val (.int (E1 p1 q3)), .val (.int (E2 p1 q3)), .val (.int (E3 p1 q3)), .val (.int (O1 p1 q3)), .val (.int (O2 p1 q3)), .val (.int (O3 p1 q3)), .val (.int (O4 p1 q3)), .val (.int (TF p1 q3)), .val (.int (VF p1 p2 q3)), .val (.ref b2), .val (.int (XF p1 q3))] [])) _
  refine XS.aload X5.here hx rfl (hb hby at_374) rfl rfl ?_
  show Steps p.tables e below (T5.setTop (mkF m 376 #[.val (.int p1), .val (.int p2), .val (.long q3), .second, .val (.int (NF p1)), .val (.int (G0 q3)), .val (.int (G1 q3)), .val (.int (G2 q3)), .val (.int (G3 q3)), .val (.int (E0 p1 q3)), .val (.int (E1 p1 q3)), .val (.int (E2 p1 q3)), .val (.int (E3 p1 q3)), .val (.int (O1 p1 q3)), .val (.int (O2 p1 q3)), .val (.int (O3 p1 q3)), .val (.int (O4 p1 q3)), .val (.int (TF p1 q3)), .val (.int (VF p1 p2 q3)), .val (.ref b2), .val (.int (XF p1 q3))] [(.ref b2)])) _
  refine st6.trans ?_
  show Steps p.tables e below (T6.setTop (mkF m 379 #[.val (.int p1), .val (.int p2), .val (.long q3), .second, .val (.int (NF p1)), .val (.int (G0 q3)), .val (.int (G1 q3)), .val (.int (G2 q3)), .val (.int (G3 q3)), .val (.int (E0 p1 q3)), .val (.int (E1 p1 q3)), .val (.int (E2 p1 q3)), .val (.int (E3 p1 q3)), .val (.int (O1 p1 q3)), .val (.int (O2 p1 q3)), .val (.int (O3 p1 q3)), .val (.int (O4 p1 q3)), .val (.int (TF p1 q3)), .val (.int (VF p1 p2 q3)), .val (.ref b2), .val (.int (XF p1 q3))] [(.int (1 : Int32))])) _
  refine XS.iload X6.here hx rfl (hb hby at_379) rfl ?_
  show Steps p.tables e below (T6.setTop (mkF m 381 #[.val (.int p1), .val (.int p2), .val (.long q3), .second, .val (.int (NF p1)), .val (.int (G0 q3)), .val (.int (G1 q3)), .val (.int (G2 q3)), .val (.int (G3 q3)), .val (.int (E0 p1 q3)), .val (.int (E1 p1 q3)), .val (.int (E2 p1 q3)), .val (.int (E3 p1 q3)), .val (.int (O1 p1 q3)), .val (.int (O2 p1 q3)), .val (.int (O3 p1 q3)), .val (.int (O4 p1 q3)), .val (.int (TF p1 q3)), .val (.int (VF p1 p2 q3)), .val (.ref b2), .val (.int (XF p1 q3))] [(.int (NF p1)), (.int (1 : Int32))])) _
  refine XS.icmpNo X6.here hx rfl (hb hby at_381) rfl (teq hn.symm).2 ?_
  show Steps p.tables e below (T6.setTop (mkF m 384 #[.val (.int p1), .val (.int p2), .val (.long q3), .second, .val (.int (NF p1)), .val (.int (G0 q3)), .val (.int (G1 q3)), .val (.int (G2 q3)), .val (.int (G3 q3)), .val (.int (E0 p1 q3)), .val (.int (E1 p1 q3)), .val (.int (E2 p1 q3)), .val (.int (E3 p1 q3)), .val (.int (O1 p1 q3)), .val (.int (O2 p1 q3)), .val (.int (O3 p1 q3)), .val (.int (O4 p1 q3)), .val (.int (TF p1 q3)), .val (.int (VF p1 p2 q3)), .val (.ref b2), .val (.int (XF p1 q3))] [])) _
  refine XS.iconst X6.here hx rfl (hb hby at_384) ?_
  show Steps p.tables e below (T6.setTop (mkF m 385 #[.val (.int p1), .val (.int p2), .val (.long q3), .second, .val (.int (NF p1)), .val (.int (G0 q3)), .val (.int (G1 q3)), .val (.int (G2 q3)), .val (.int (G3 q3)), .val (.int (E0 p1 q3)), .val (.int (E1 p1 q3)), .val (.int (E2 p1 q3)), .val (.int (E3 p1 q3)), .val (.int (O1 p1 q3)), .val (.int (O2 p1 q3)), .val (.int (O3 p1 q3)), .val (.int (O4 p1 q3)), .val (.int (TF p1 q3)), .val (.int (VF p1 p2 q3)), .val (.ref b2), .val (.int (XF p1 q3))] [(.int (1 : Int32))])) _
  refine XS.goto X6.here hx rfl (pc0 := 385) (pc' := 389) rfl (hb hby at_385) (by decide) (by decide) ?_
  show Steps p.tables e below (T6.setTop (mkF m 389 #[.val (.int p1), .val (.int p2), .val (.long q3), .second, .val (.int (NF p1)), .val (.int (G0 q3)), .val (.int (G1 q3)), .val (.int (G2 q3)), .val (.int (G3 q3)), .val (.int (E0 p1 q3)), .val (.int (E1 p1 q3)), .val (.int (E2 p1 q3)), .val (.int (E3 p1 q3)), .val (.int (O1 p1 q3)), .val (.int (O2 p1 q3)), .val (.int (O3 p1 q3)), .val (.int (O4 p1 q3)), .val (.int (TF p1 q3)), .val (.int (VF p1 p2 q3)), .val (.ref b2), .val (.int (XF p1 q3))] [(.int (1 : Int32))])) _
  exact retN X6 hx (t := .boolean) Bd.returns (by simp) (hb hby at_389) hr
set_option maxRecDepth 65536 in
set_option maxHeartbeats 40000000 in
theorem rm0_2 (l : Launch) (Z : State) (a0 : Array Value) (hw : ∀ d ∈ tables_1, d.before a0 Z = true) (ws : List Jvm.Cond) (p1 : Int32) (p2 : Int32) (q3 : Int64) (h0 : Heap) (n0 : Nat) (Z0 : n0 ≤ h0.size) (hn : NF p1 = 2) :
    MetFree l x (head1 (Jvm.Cond.code x code maxLocals ret :: ws) room_1) (fun a U => a = #[(.int p1), (.int p2), (.long q3)] ∧ Z.Warmed39 U.vm ∧ U.heap = h0) (fun _ _ _ _ _ => True) (fun _ U o U' => ∃ v L, o = .returned v ∧ Q0 Z p1 p2 q3 h0 n0 v U'.heap L ∧ FrameEnd U o U' L room_1.cells room_1.slots) := by
  refine MetFree.of_bodySF (plainFor_of_name pn_0) hisR ?_
  intro p e s m args below meth c s₁ Bd hml0 hP hK
  obtain ⟨rfl, hZ, hh⟩ := hP
  have hx := Bd.exec
  have hby := Bd.bytes
  have hml : c.maxLocals = 21 := hml0
  have hown : s.vm.findClass "bitcove/ArrayContainerRunCountPinLaw" = some m.cls := findClass_of_methodNamed Bd.named
  have hnm := (name_of_methodNamed Bd.named Bd.method).1
  have X0 : Stand p l e room_1 s m #[(.int p1), (.int p2), (.long q3)] below meth c s₁ [] 0 0 := Stand.of_body Bd
  have e0 : s₁.heap = h0 := by rw [← hh, Bd.state]; rfl
  have N0 := Fr.nil n0
  have pre0 : ∀ t, Steps p.tables e below (s₁.setTop (mkF m 0 #[.val (.int p1), .val (.int p2), .val (.long q3), .second, .unset, .unset, .unset, .unset, .unset, .unset, .unset, .unset, .unset, .unset, .unset, .unset, .unset, .unset, .unset, .unset, .unset] [])) t → Steps p.tables e below (s₁.setTop (entryFrame m #[(.int p1), (.int p2), (.long q3)] maxLocals)) t := fun t k => castTop (ef_0 m p1 p2 q3) k
  obtain ⟨T2, h2, X2, e2, Ex2, A2, D2, -, st2⟩ := newO X0 hx hZ hown (hw _ (List.mem_of_getElem? (i := 3) rfl)) (hw _ (List.mem_of_getElem? (i := 4) rfl)) (hw _ (List.mem_of_getElem? (i := 5) rfl)) e0 (g := (mkF m 213 #[.val (.int p1), .val (.int p2), .val (.long q3), .second, .val (.int (NF p1)), .val (.int (G0 q3)), .val (.int (G1 q3)), .val (.int (G2 q3)), .val (.int (G3 q3)), .val (.int (E0 p1 q3)), .val (.int (E1 p1 q3)), .val (.int (E2 p1 q3)), .val (.int (E3 p1 q3)), .val (.int (O1 p1 q3)), .val (.int (O2 p1 q3)), .val (.int (O3 p1 q3)), .val (.int (O4 p1 q3)), .val (.int (TF p1 q3)), .val (.int (VF p1 p2 q3)), .unset, .unset] [])) rfl (hb hby at_213) (by decide) (by decide)
  obtain ⟨b2, g2⟩ : ∃ z, z = h0.size := ⟨_, rfl⟩
  rw [← g2] at A2 D2 st2
  have Fv2 : Fld Z h2 b2 "bitcove/ArrayContainer" "values" "[C" .null := D2 (Or.inl (hw _ (List.mem_of_getElem? (i := 32) rfl))) (ty := (.array .char)) (by decide)
  have Fc2 : Fld Z h2 b2 "bitcove/ArrayContainer" "cardinality" "I" (.int (0 : Int32)) := D2 (Or.inl (hw _ (List.mem_of_getElem? (i := 34) rfl))) (ty := .int) (by decide)
  have g_b2 : n0 ≤ b2 := Nat.le_trans Z0 (Nat.le_of_eq g2.symm)
  have Z2 : n0 ≤ h2.size := Nat.le_trans Z0 Ex2.1
  obtain ⟨_, _, ⟨T3, L3, k3, n3⟩, -, X3, ⟨Lc3, hQ3, l3, y3, z3⟩, st3⟩ := X2.specialBack hx (y := (⟨"bitcove/ArrayContainer", "<init>", "()V"⟩ : MethodName)) rfl hown (mvT hZ (hw _ (List.mem_of_getElem? (i := 6) rfl))) (mvT hZ (hw _ (List.mem_of_getElem? (i := 7) rfl))) (mvT hZ (hw _ (List.mem_of_getElem? (i := 8) rfl))) (by decide) (backOf (W := 1) (rm1 l Z a0 hw [] b2 h2 n0 Z2 _ _ A2 Fv2 Fc2 g_b2) hZ (hw _ (List.mem_of_getElem? (i := 8) rfl)) (hw _ (List.mem_of_getElem? (i := 5) rfl)) (by decide) (by decide)) (g := (mkF m 217 #[.val (.int p1), .val (.int p2), .val (.long q3), .second, .val (.int (NF p1)), .val (.int (G0 q3)), .val (.int (G1 q3)), .val (.int (G2 q3)), .val (.int (G3 q3)), .val (.int (E0 p1 q3)), .val (.int (E1 p1 q3)), .val (.int (E2 p1 q3)), .val (.int (E3 p1 q3)), .val (.int (O1 p1 q3)), .val (.int (O2 p1 q3)), .val (.int (O3 p1 q3)), .val (.int (O4 p1 q3)), .val (.int (TF p1 q3)), .val (.int (VF p1 p2 q3)), .unset, .unset] [(.ref b2), (.ref b2)])) rfl (by rw [hml]; rfl) (Steps.refl _) (a := b2) (argsL := []) (rest := [(.ref b2)]) (lenOf pd_v rfl) rfl (by show 2 * 0 + _ ≤ _; exact Nat.le_of_eq rfl) (hb hby at_217) (fun _ _ => ⟨rfl, e2, (by decide : 1 + 1 ≤ _), (by decide : 2 + 4 ≤ _)⟩)
  dsimp only [Pt.U, Pt.locs, Pt.cells, Pt.slots] at X3 l3 y3 z3 st3 hQ3
  subst l3 y3 z3
  obtain ⟨rfl, N3q, K3, t3, kk3, gt3, B3⟩ := hQ3
  have N3 := Fr.app N0 N3q
  have Z3 : n0 ≤ T3.heap.size := Nat.le_trans Z2 K3.1
  obtain ⟨cq4, kq4, q4a, q4b, q4c⟩ := isOf hZ rfl B3.1
  obtain ⟨_, _, ⟨T4, L4, k4, n4⟩, -, X4, ⟨Lc4, hQ4, l4, y4, z4⟩, st4⟩ := X3.virtualBack hx (y := (⟨"bitcove/ArrayContainer", "append", "(CI)V"⟩ : MethodName)) (z := (⟨"bitcove/ArrayContainer", "append", "(CI)V"⟩ : MethodName)) hown (mvT hZ (hw _ (List.mem_of_getElem? (i := 45) rfl))) (mvT hZ (hw _ (List.mem_of_getElem? (i := 46) rfl))) (notFace_of_selects (args := #[]) (mvT hZ (hw _ (List.mem_of_getElem? (i := 48) rfl)))) (mvT hZ (hw _ (List.mem_of_getElem? (i := 48) rfl))) (mvT hZ (hw _ (List.mem_of_getElem? (i := 47) rfl))) (by decide) (backOf (W := 0) (rm9f l Z a0 hw [] b2 (CF (VF p1 p2 q3)) t3 kk3 (4 : Int32) [(.int (0 : Int32)), (.int (0 : Int32)), (.int (0 : Int32)), (.int (0 : Int32))] T3.heap n0 Z3 B3 g_b2) hZ (hw _ (List.mem_of_getElem? (i := 49) rfl)) (hw _ (List.mem_of_getElem? (i := 5) rfl)) (by decide) (by decide)) q4a q4c (g := (mkF m 233 #[.val (.int p1), .val (.int p2), .val (.long q3), .second, .val (.int (NF p1)), .val (.int (G0 q3)), .val (.int (G1 q3)), .val (.int (G2 q3)), .val (.int (G3 q3)), .val (.int (E0 p1 q3)), .val (.int (E1 p1 q3)), .val (.int (E2 p1 q3)), .val (.int (E3 p1 q3)), .val (.int (O1 p1 q3)), .val (.int (O2 p1 q3)), .val (.int (O3 p1 q3)), .val (.int (O4 p1 q3)), .val (.int (TF p1 q3)), .val (.int (VF p1 p2 q3)), .val (.ref b2), .unset] [(.int (5 : Int32)), (.int (CF (VF p1 p2 q3))), (.ref b2)])) rfl (by rw [hml]; rfl) (Steps.refl _) (argsL := [(.int (CF (VF p1 p2 q3))), (.int (5 : Int32))]) (rest := []) (lenOf pd_a rfl) rfl (by show 2 * 0 + _ ≤ _; exact Nat.le_of_eq rfl) (hb hby at_233) (fun _ _ => ⟨rfl, rfl, (by decide : 2 + 1 ≤ _), (by decide : 6 + 5 ≤ _)⟩)
  dsimp only [Pt.U, Pt.locs, Pt.cells, Pt.slots] at X4 l4 y4 z4 st4 hQ4
  subst l4 y4 z4
  obtain ⟨rfl, N4q, t4, kk4, gt4, K4, B4⟩ := hQ4
  have N4 := Fr.app N3 N4q
  have Z4 : n0 ≤ T4.heap.size := Nat.le_trans Z3 K4.1
  have g_t : n0 ≤ t4 := Nat.le_trans Z3 gt4
  obtain ⟨cq5, kq5, q5a, q5b, q5c⟩ := isOf hZ rfl B4.1
  obtain ⟨_, _, ⟨T5, L5, k5, n5⟩, -, X5, ⟨Lc5, hQ5, l5, y5, z5⟩, st5⟩ := X4.virtualBack hx (y := (⟨"bitcove/ArrayContainer", "append", "(CI)V"⟩ : MethodName)) (z := (⟨"bitcove/ArrayContainer", "append", "(CI)V"⟩ : MethodName)) hown (mvT hZ (hw _ (List.mem_of_getElem? (i := 45) rfl))) (mvT hZ (hw _ (List.mem_of_getElem? (i := 46) rfl))) (notFace_of_selects (args := #[]) (mvT hZ (hw _ (List.mem_of_getElem? (i := 48) rfl)))) (mvT hZ (hw _ (List.mem_of_getElem? (i := 48) rfl))) (mvT hZ (hw _ (List.mem_of_getElem? (i := 47) rfl))) (by decide) (backOf (W := 0) (rm9t l Z a0 hw [] b2 (CF ((VF p1 p2 q3) + (O1 p1 q3))) (5 : Int32) (1 : Int32) (2 : Int32) t4 kk4 (5 : Int32) [(.int (nar .char (CF (VF p1 p2 q3)))), (.int (0 : Int32)), (.int (0 : Int32)), (.int (0 : Int32)), (.int (0 : Int32))] 1 T4.heap n0 Z4 B4 g_b2 g_t ⟨by decide, by decide⟩ (by decide) (by decide) (Nat.le_of_ble_eq_true rfl) (by decide)) hZ (hw _ (List.mem_of_getElem? (i := 49) rfl)) (hw _ (List.mem_of_getElem? (i := 5) rfl)) (by decide) (by decide)) q5a q5c (g := (mkF m 251 #[.val (.int p1), .val (.int p2), .val (.long q3), .second, .val (.int (NF p1)), .val (.int (G0 q3)), .val (.int (G1 q3)), .val (.int (G2 q3)), .val (.int (G3 q3)), .val (.int (E0 p1 q3)), .val (.int (E1 p1 q3)), .val (.int (E2 p1 q3)), .val (.int (E3 p1 q3)), .val (.int (O1 p1 q3)), .val (.int (O2 p1 q3)), .val (.int (O3 p1 q3)), .val (.int (O4 p1 q3)), .val (.int (TF p1 q3)), .val (.int (VF p1 p2 q3)), .val (.ref b2), .unset] [(.int (5 : Int32)), (.int (CF ((VF p1 p2 q3) + (O1 p1 q3)))), (.ref b2)])) rfl (by rw [hml]; rfl) (Steps.refl _) (argsL := [(.int (CF ((VF p1 p2 q3) + (O1 p1 q3)))), (.int (5 : Int32))]) (rest := []) (lenOf pd_a rfl) rfl (by show 2 * 0 + _ ≤ _; exact Nat.le_of_eq rfl) (hb hby at_251) (fun _ _ => ⟨rfl, rfl, (by decide : 3 + 0 ≤ _), (by decide : 11 + 0 ≤ _)⟩)
  dsimp only [Pt.U, Pt.locs, Pt.cells, Pt.slots] at X5 l5 y5 z5 st5 hQ5
  subst l5 y5 z5
  obtain ⟨rfl, N5q, K5, B5⟩ := hQ5
  have N5 := Fr.app N4 N5q
  have Z5 : n0 ≤ T5.heap.size := Nat.le_trans Z4 K5.1
  obtain ⟨cq6, kq6, q6a, q6b, q6c⟩ := isOf hZ rfl B5.1
  have hv : ∀ i, i < 2 → ((List.set [(.int (nar .char (CF (VF p1 p2 q3)))), (.int (0 : Int32)), (.int (0 : Int32)), (.int (0 : Int32)), (.int (0 : Int32))] 1 (.int (nar .char (CF ((VF p1 p2 q3) + (O1 p1 q3)))))) : List Value).getD i (.int (0 : Int32)) = .int (xs2 p1 p2 q3 i) := fun i hi => by
    match i, hi with
    | 0, _ => rfl
    | 1, _ => rfl
  obtain ⟨_, _, ⟨T6, L6, k6, n6⟩, -, X6, ⟨Lc6, hQ6, l6, y6, z6⟩, st6⟩ := X5.virtualBack hx (y := (⟨"bitcove/ArrayContainer", "runCount", "()I"⟩ : MethodName)) (z := (⟨"bitcove/ArrayContainer", "runCount", "()I"⟩ : MethodName)) hown (mvT hZ (hw _ (List.mem_of_getElem? (i := 35) rfl))) (mvT hZ (hw _ (List.mem_of_getElem? (i := 36) rfl))) (notFace_of_selects (args := #[]) (mvT hZ (hw _ (List.mem_of_getElem? (i := 38) rfl)))) (mvT hZ (hw _ (List.mem_of_getElem? (i := 38) rfl))) (mvT hZ (hw _ (List.mem_of_getElem? (i := 37) rfl))) (by decide) (backOf (W := 0) (rm7 l Z a0 hw [] b2 (2 : Int32) t4 kk4 (5 : Int32) (List.set [(.int (nar .char (CF (VF p1 p2 q3)))), (.int (0 : Int32)), (.int (0 : Int32)), (.int (0 : Int32)), (.int (0 : Int32))] 1 (.int (nar .char (CF ((VF p1 p2 q3) + (O1 p1 q3)))))) (xs2 p1 p2 q3) 2 T5.heap n0 Z5 B5 (by decide) (by decide) (by decide) hv) hZ (hw _ (List.mem_of_getElem? (i := 39) rfl)) (hw _ (List.mem_of_getElem? (i := 5) rfl)) (by decide) (by decide)) q6a q6c (g := (mkF m 366 #[.val (.int p1), .val (.int p2), .val (.long q3), .second, .val (.int (NF p1)), .val (.int (G0 q3)), .val (.int (G1 q3)), .val (.int (G2 q3)), .val (.int (G3 q3)), .val (.int (E0 p1 q3)), .val (.int (E1 p1 q3)), .val (.int (E2 p1 q3)), .val (.int (E3 p1 q3)), .val (.int (O1 p1 q3)), .val (.int (O2 p1 q3)), .val (.int (O3 p1 q3)), .val (.int (O4 p1 q3)), .val (.int (TF p1 q3)), .val (.int (VF p1 p2 q3)), .val (.ref b2), .val (.int (XF p1 q3))] [(.ref b2)])) rfl (by rw [hml]; rfl) (Steps.refl _) (argsL := []) (rest := []) (lenOf pd_i rfl) rfl (by show 2 * 0 + _ ≤ _; exact Nat.le_of_eq rfl) (hb hby at_366) (fun _ _ => ⟨rfl, rfl, (by decide : 3 + 0 ≤ _), (by decide : 11 + 0 ≤ _)⟩)
  dsimp only [Pt.U, Pt.locs, Pt.cells, Pt.slots] at X6 l6 y6 z6 st6 hQ6
  subst l6 y6 z6
  obtain ⟨rfl, N6q, eq6⟩ := hQ6
  have N6 := Fr.app N5 N6q
  obtain ⟨cq7, kq7, q7a, q7b, q7c⟩ := isOf hZ rfl (show Exa Z T6.heap b2 "bitcove/ArrayContainer" by rw [eq6]; exact B5.1)
  obtain ⟨_, _, ⟨T7, L7, k7, n7⟩, -, X7, ⟨Lc7, hQ7, l7, y7, z7⟩, st7⟩ := X6.virtualBack hx (y := (⟨"bitcove/ArrayContainer", "cardinality", "()I"⟩ : MethodName)) (z := (⟨"bitcove/ArrayContainer", "cardinality", "()I"⟩ : MethodName)) hown (mvT hZ (hw _ (List.mem_of_getElem? (i := 40) rfl))) (mvT hZ (hw _ (List.mem_of_getElem? (i := 41) rfl))) (notFace_of_selects (args := #[]) (mvT hZ (hw _ (List.mem_of_getElem? (i := 43) rfl)))) (mvT hZ (hw _ (List.mem_of_getElem? (i := 43) rfl))) (mvT hZ (hw _ (List.mem_of_getElem? (i := 42) rfl))) (by decide) (backOf (W := 0) (rm8 l Z a0 hw [] b2 (2 : Int32) T6.heap n0 (by rw [eq6]; exact Z5) (by rw [eq6]; exact B5.2.2.1)) hZ (hw _ (List.mem_of_getElem? (i := 44) rfl)) (hw _ (List.mem_of_getElem? (i := 5) rfl)) (by decide) (by decide)) q7a q7c (g := (mkF m 376 #[.val (.int p1), .val (.int p2), .val (.long q3), .second, .val (.int (NF p1)), .val (.int (G0 q3)), .val (.int (G1 q3)), .val (.int (G2 q3)), .val (.int (G3 q3)), .val (.int (E0 p1 q3)), .val (.int (E1 p1 q3)), .val (.int (E2 p1 q3)), .val (.int (E3 p1 q3)), .val (.int (O1 p1 q3)), .val (.int (O2 p1 q3)), .val (.int (O3 p1 q3)), .val (.int (O4 p1 q3)), .val (.int (TF p1 q3)), .val (.int (VF p1 p2 q3)), .val (.ref b2), .val (.int (XF p1 q3))] [(.ref b2)])) rfl (by rw [hml]; rfl) (Steps.refl _) (argsL := []) (rest := []) (lenOf pd_i rfl) rfl (by show 2 * 0 + _ ≤ _; exact Nat.le_of_eq rfl) (hb hby at_376) (fun _ _ => ⟨rfl, rfl, (by decide : 3 + 0 ≤ _), (by decide : 11 + 0 ≤ _)⟩)
  dsimp only [Pt.U, Pt.locs, Pt.cells, Pt.slots] at X7 l7 y7 z7 st7 hQ7
  subst l7 y7 z7
  obtain ⟨rfl, N7q, eq7⟩ := hQ7
  have N7 := Fr.app N6 N7q
  obtain ⟨fs, hr, hrun, hended, hW, hsame⟩ := X7.leave (v := some (.int (1 : Int32))) (fun h => by rw [Bd.returns] at h; cases h)
  refine ⟨_, _, pre0 _ ?_, hrun, hended, _, _, rfl, ?_, ⟨_, rfl⟩, hW, hsame.mono (by decide) (by decide)⟩
  case refine_2 =>
    show Q0 Z p1 p2 q3 h0 n0 _ T7.heap _
    exact ⟨rfl, N7⟩
  have c0 : (0 : Int32) < NF p1 := by rw [hn]; decide
  have c1 : (1 : Int32) < NF p1 := by rw [hn]; decide
  have c2 : ¬ ((2 : Int32) < NF p1) := by rw [hn]; decide
  have c3 : ¬ ((3 : Int32) < NF p1) := by rw [hn]; decide
  have c4 : ¬ ((4 : Int32) < NF p1) := by rw [hn]; decide
  refine sg_pre p1 p2 q3 X0 hx hZ hw hby hown _ ?_
  show Steps p.tables e below (s₁.setTop (mkF m 213 #[.val (.int p1), .val (.int p2), .val (.long q3), .second, .val (.int (NF p1)), .val (.int (G0 q3)), .val (.int (G1 q3)), .val (.int (G2 q3)), .val (.int (G3 q3)), .val (.int (E0 p1 q3)), .val (.int (E1 p1 q3)), .val (.int (E2 p1 q3)), .val (.int (E3 p1 q3)), .val (.int (O1 p1 q3)), .val (.int (O2 p1 q3)), .val (.int (O3 p1 q3)), .val (.int (O4 p1 q3)), .val (.int (TF p1 q3)), .val (.int (VF p1 p2 q3)), .unset, .unset] [])) _
  refine st2 _ ?_
  show Steps p.tables e below (T2.setTop (mkF m 216 #[.val (.int p1), .val (.int p2), .val (.long q3), .second, .val (.int (NF p1)), .val (.int (G0 q3)), .val (.int (G1 q3)), .val (.int (G2 q3)), .val (.int (G3 q3)), .val (.int (E0 p1 q3)), .val (.int (E1 p1 q3)), .val (.int (E2 p1 q3)), .val (.int (E3 p1 q3)), .val (.int (O1 p1 q3)), .val (.int (O2 p1 q3)), .val (.int (O3 p1 q3)), .val (.int (O4 p1 q3)), .val (.int (TF p1 q3)), .val (.int (VF p1 p2 q3)), .unset, .unset] [(.ref b2)])) _
  refine XS.dup X2.here hx rfl (hb hby at_216) rfl rfl ?_
  show Steps p.tables e below (T2.setTop (mkF m 217 #[.val (.int p1), .val (.int p2), .val (.long q3), .second, .val (.int (NF p1)), .val (.int (G0 q3)), .val (.int (G1 q3)), .val (.int (G2 q3)), .val (.int (G3 q3)), .val (.int (E0 p1 q3)), .val (.int (E1 p1 q3)), .val (.int (E2 p1 q3)), .val (.int (E3 p1 q3)), .val (.int (O1 p1 q3)), .val (.int (O2 p1 q3)), .val (.int (O3 p1 q3)), .val (.int (O4 p1 q3)), .val (.int (TF p1 q3)), .val (.int (VF p1 p2 q3)), .unset, .unset] [(.ref b2), (.ref b2)])) _
  refine st3.trans ?_
  show Steps p.tables e below (T3.setTop (mkF m 220 #[.val (.int p1), .val (.int p2), .val (.long q3), .second, .val (.int (NF p1)), .val (.int (G0 q3)), .val (.int (G1 q3)), .val (.int (G2 q3)), .val (.int (G3 q3)), .val (.int (E0 p1 q3)), .val (.int (E1 p1 q3)), .val (.int (E2 p1 q3)), .val (.int (E3 p1 q3)), .val (.int (O1 p1 q3)), .val (.int (O2 p1 q3)), .val (.int (O3 p1 q3)), .val (.int (O4 p1 q3)), .val (.int (TF p1 q3)), .val (.int (VF p1 p2 q3)), .unset, .unset] [(.ref b2)])) _
  refine XS.astore X3.here hx rfl (hb hby at_220) rfl rfl (l' := #[.val (.int p1), .val (.int p2), .val (.long q3), .second, .val (.int (NF p1)), .val (.int (G0 q3)), .val (.int (G1 q3)), .val (.int (G2 q3)), .val (.int (G3 q3)), .val (.int (E0 p1 q3)), .val (.int (E1 p1 q3)), .val (.int (E2 p1 q3)), .val (.int (E3 p1 q3)), .val (.int (O1 p1 q3)), .val (.int (O2 p1 q3)), .val (.int (O3 p1 q3)), .val (.int (O4 p1 q3)), .val (.int (TF p1 q3)), .val (.int (VF p1 p2 q3)), .val (.ref b2), .unset]) rfl ?_
  show Steps p.tables e below (T3.setTop (mkF m 222 #[.val (.int p1), .val (.int p2), .val (.long q3), .second, .val (.int (NF p1)), .val (.int (G0 q3)), .val (.int (G1 q3)), .val (.int (G2 q3)), .val (.int (G3 q3)), .val (.int (E0 p1 q3)), .val (.int (E1 p1 q3)), .val (.int (E2 p1 q3)), .val (.int (E3 p1 q3)), .val (.int (O1 p1 q3)), .val (.int (O2 p1 q3)), .val (.int (O3 p1 q3)), .val (.int (O4 p1 q3)), .val (.int (TF p1 q3)), .val (.int (VF p1 p2 q3)), .val (.ref b2), .unset] [])) _
  refine XS.iload X3.here hx rfl (hb hby at_222) rfl ?_
  show Steps p.tables e below (T3.setTop (mkF m 224 #[.val (.int p1), .val (.int p2), .val (.long q3), .second, .val (.int (NF p1)), .val (.int (G0 q3)), .val (.int (G1 q3)), .val (.int (G2 q3)), .val (.int (G3 q3)), .val (.int (E0 p1 q3)), .val (.int (E1 p1 q3)), .val (.int (E2 p1 q3)), .val (.int (E3 p1 q3)), .val (.int (O1 p1 q3)), .val (.int (O2 p1 q3)), .val (.int (O3 p1 q3)), .val (.int (O4 p1 q3)), .val (.int (TF p1 q3)), .val (.int (VF p1 p2 q3)), .val (.ref b2), .unset] [(.int (NF p1))])) _
  refine XS.ifNo X3.here hx rfl (hb hby at_224) rfl ((if0 _ _).trans (tlt c0).2.2.2) ?_
  show Steps p.tables e below (T3.setTop (mkF m 227 #[.val (.int p1), .val (.int p2), .val (.long q3), .second, .val (.int (NF p1)), .val (.int (G0 q3)), .val (.int (G1 q3)), .val (.int (G2 q3)), .val (.int (G3 q3)), .val (.int (E0 p1 q3)), .val (.int (E1 p1 q3)), .val (.int (E2 p1 q3)), .val (.int (E3 p1 q3)), .val (.int (O1 p1 q3)), .val (.int (O2 p1 q3)), .val (.int (O3 p1 q3)), .val (.int (O4 p1 q3)), .val (.int (TF p1 q3)), .val (.int (VF p1 p2 q3)), .val (.ref b2), .unset] [])) _
  refine XS.aload X3.here hx rfl (hb hby at_227) rfl rfl ?_
  show Steps p.tables e below (T3.setTop (mkF m 229 #[.val (.int p1), .val (.int p2), .val (.long q3), .second, .val (.int (NF p1)), .val (.int (G0 q3)), .val (.int (G1 q3)), .val (.int (G2 q3)), .val (.int (G3 q3)), .val (.int (E0 p1 q3)), .val (.int (E1 p1 q3)), .val (.int (E2 p1 q3)), .val (.int (E3 p1 q3)), .val (.int (O1 p1 q3)), .val (.int (O2 p1 q3)), .val (.int (O3 p1 q3)), .val (.int (O4 p1 q3)), .val (.int (TF p1 q3)), .val (.int (VF p1 p2 q3)), .val (.ref b2), .unset] [(.ref b2)])) _
  refine XS.iload X3.here hx rfl (hb hby at_229) rfl ?_
  show Steps p.tables e below (T3.setTop (mkF m 231 #[.val (.int p1), .val (.int p2), .val (.long q3), .second, .val (.int (NF p1)), .val (.int (G0 q3)), .val (.int (G1 q3)), .val (.int (G2 q3)), .val (.int (G3 q3)), .val (.int (E0 p1 q3)), .val (.int (E1 p1 q3)), .val (.int (E2 p1 q3)), .val (.int (E3 p1 q3)), .val (.int (O1 p1 q3)), .val (.int (O2 p1 q3)), .val (.int (O3 p1 q3)), .val (.int (O4 p1 q3)), .val (.int (TF p1 q3)), .val (.int (VF p1 p2 q3)), .val (.ref b2), .unset] [(.int (VF p1 p2 q3)), (.ref b2)])) _
  refine XS.i2c X3.here hx rfl (hb hby at_231) rfl ?_
  show Steps p.tables e below (T3.setTop (mkF m 232 #[.val (.int p1), .val (.int p2), .val (.long q3), .second, .val (.int (NF p1)), .val (.int (G0 q3)), .val (.int (G1 q3)), .val (.int (G2 q3)), .val (.int (G3 q3)), .val (.int (E0 p1 q3)), .val (.int (E1 p1 q3)), .val (.int (E2 p1 q3)), .val (.int (E3 p1 q3)), .val (.int (O1 p1 q3)), .val (.int (O2 p1 q3)), .val (.int (O3 p1 q3)), .val (.int (O4 p1 q3)), .val (.int (TF p1 q3)), .val (.int (VF p1 p2 q3)), .val (.ref b2), .unset] [(.int (CF (VF p1 p2 q3))), (.ref b2)])) _
  refine XS.iconst X3.here hx rfl (hb hby at_232) ?_
  show Steps p.tables e below (T3.setTop (mkF m 233 #[.val (.int p1), .val (.int p2), .val (.long q3), .second, .val (.int (NF p1)), .val (.int (G0 q3)), .val (.int (G1 q3)), .val (.int (G2 q3)), .val (.int (G3 q3)), .val (.int (E0 p1 q3)), .val (.int (E1 p1 q3)), .val (.int (E2 p1 q3)), .val (.int (E3 p1 q3)), .val (.int (O1 p1 q3)), .val (.int (O2 p1 q3)), .val (.int (O3 p1 q3)), .val (.int (O4 p1 q3)), .val (.int (TF p1 q3)), .val (.int (VF p1 p2 q3)), .val (.ref b2), .unset] [(.int (5 : Int32)), (.int (CF (VF p1 p2 q3))), (.ref b2)])) _
  refine st4.trans ?_
  show Steps p.tables e below (T4.setTop (mkF m 236 #[.val (.int p1), .val (.int p2), .val (.long q3), .second, .val (.int (NF p1)), .val (.int (G0 q3)), .val (.int (G1 q3)), .val (.int (G2 q3)), .val (.int (G3 q3)), .val (.int (E0 p1 q3)), .val (.int (E1 p1 q3)), .val (.int (E2 p1 q3)), .val (.int (E3 p1 q3)), .val (.int (O1 p1 q3)), .val (.int (O2 p1 q3)), .val (.int (O3 p1 q3)), .val (.int (O4 p1 q3)), .val (.int (TF p1 q3)), .val (.int (VF p1 p2 q3)), .val (.ref b2), .unset] [])) _
  refine XS.iload X4.here hx rfl (hb hby at_236) rfl ?_
  show Steps p.tables e below (T4.setTop (mkF m 238 #[.val (.int p1), .val (.int p2), .val (.long q3), .second, .val (.int (NF p1)), .val (.int (G0 q3)), .val (.int (G1 q3)), .val (.int (G2 q3)), .val (.int (G3 q3)), .val (.int (E0 p1 q3)), .val (.int (E1 p1 q3)), .val (.int (E2 p1 q3)), .val (.int (E3 p1 q3)), .val (.int (O1 p1 q3)), .val (.int (O2 p1 q3)), .val (.int (O3 p1 q3)), .val (.int (O4 p1 q3)), .val (.int (TF p1 q3)), .val (.int (VF p1 p2 q3)), .val (.ref b2), .unset] [(.int (NF p1))])) _
  refine XS.iconst X4.here hx rfl (hb hby at_238) ?_
  show Steps p.tables e below (T4.setTop (mkF m 239 #[.val (.int p1), .val (.int p2), .val (.long q3), .second, .val (.int (NF p1)), .val (.int (G0 q3)), .val (.int (G1 q3)), .val (.int (G2 q3)), .val (.int (G3 q3)), .val (.int (E0 p1 q3)), .val (.int (E1 p1 q3)), .val (.int (E2 p1 q3)), .val (.int (E3 p1 q3)), .val (.int (O1 p1 q3)), .val (.int (O2 p1 q3)), .val (.int (O3 p1 q3)), .val (.int (O4 p1 q3)), .val (.int (TF p1 q3)), .val (.int (VF p1 p2 q3)), .val (.ref b2), .unset] [(.int (1 : Int32)), (.int (NF p1))])) _
  refine XS.icmpNo X4.here hx rfl (hb hby at_239) rfl (tlt c1).2.2.2 ?_
  show Steps p.tables e below (T4.setTop (mkF m 242 #[.val (.int p1), .val (.int p2), .val (.long q3), .second, .val (.int (NF p1)), .val (.int (G0 q3)), .val (.int (G1 q3)), .val (.int (G2 q3)), .val (.int (G3 q3)), .val (.int (E0 p1 q3)), .val (.int (E1 p1 q3)), .val (.int (E2 p1 q3)), .val (.int (E3 p1 q3)), .val (.int (O1 p1 q3)), .val (.int (O2 p1 q3)), .val (.int (O3 p1 q3)), .val (.int (O4 p1 q3)), .val (.int (TF p1 q3)), .val (.int (VF p1 p2 q3)), .val (.ref b2), .unset] [])) _
  refine XS.aload X4.here hx rfl (hb hby at_242) rfl rfl ?_
  show Steps p.tables e below (T4.setTop (mkF m 244 #[.val (.int p1), .val (.int p2), .val (.long q3), .second, .val (.int (NF p1)), .val (.int (G0 q3)), .val (.int (G1 q3)), .val (.int (G2 q3)), .val (.int (G3 q3)), .val (.int (E0 p1 q3)), .val (.int (E1 p1 q3)), .val (.int (E2 p1 q3)), .val (.int (E3 p1 q3)), .val (.int (O1 p1 q3)), .val (.int (O2 p1 q3)), .val (.int (O3 p1 q3)), .val (.int (O4 p1 q3)), .val (.int (TF p1 q3)), .val (.int (VF p1 p2 q3)), .val (.ref b2), .unset] [(.ref b2)])) _
  refine XS.iload X4.here hx rfl (hb hby at_244) rfl ?_
  show Steps p.tables e below (T4.setTop (mkF m 246 #[.val (.int p1), .val (.int p2), .val (.long q3), .second, .val (.int (NF p1)), .val (.int (G0 q3)), .val (.int (G1 q3)), .val (.int (G2 q3)), .val (.int (G3 q3)), .val (.int (E0 p1 q3)), .val (.int (E1 p1 q3)), .val (.int (E2 p1 q3)), .val (.int (E3 p1 q3)), .val (.int (O1 p1 q3)), .val (.int (O2 p1 q3)), .val (.int (O3 p1 q3)), .val (.int (O4 p1 q3)), .val (.int (TF p1 q3)), .val (.int (VF p1 p2 q3)), .val (.ref b2), .unset] [(.int (VF p1 p2 q3)), (.ref b2)])) _
  refine XS.iload X4.here hx rfl (hb hby at_246) rfl ?_
  show Steps p.tables e below (T4.setTop (mkF m 248 #[.val (.int p1), .val (.int p2), .val (.long q3), .second, .val (.int (NF p1)), .val (.int (G0 q3)), .val (.int (G1 q3)), .val (.int (G2 q3)), .val (.int (G3 q3)), .val (.int (E0 p1 q3)), .val (.int (E1 p1 q3)), .val (.int (E2 p1 q3)), .val (.int (E3 p1 q3)), .val (.int (O1 p1 q3)), .val (.int (O2 p1 q3)), .val (.int (O3 p1 q3)), .val (.int (O4 p1 q3)), .val (.int (TF p1 q3)), .val (.int (VF p1 p2 q3)), .val (.ref b2), .unset] [(.int (O1 p1 q3)), (.int (VF p1 p2 q3)), (.ref b2)])) _
  refine XS.iadd X4.here hx rfl (hb hby at_248) rfl ?_
  show Steps p.tables e below (T4.setTop (mkF m 249 #[.val (.int p1), .val (.int p2), .val (.long q3), .second, .val (.int (NF p1)), .val (.int (G0 q3)), .val (.int (G1 q3)), .val (.int (G2 q3)), .val (.int (G3 q3)), .val (.int (E0 p1 q3)), .val (.int (E1 p1 q3)), .val (.int (E2 p1 q3)), .val (.int (E3 p1 q3)), .val (.int (O1 p1 q3)), .val (.int (O2 p1 q3)), .val (.int (O3 p1 q3)), .val (.int (O4 p1 q3)), .val (.int (TF p1 q3)), .val (.int (VF p1 p2 q3)), .val (.ref b2), .unset] [(.int ((VF p1 p2 q3) + (O1 p1 q3))), (.ref b2)])) _
  refine XS.i2c X4.here hx rfl (hb hby at_249) rfl ?_
  show Steps p.tables e below (T4.setTop (mkF m 250 #[.val (.int p1), .val (.int p2), .val (.long q3), .second, .val (.int (NF p1)), .val (.int (G0 q3)), .val (.int (G1 q3)), .val (.int (G2 q3)), .val (.int (G3 q3)), .val (.int (E0 p1 q3)), .val (.int (E1 p1 q3)), .val (.int (E2 p1 q3)), .val (.int (E3 p1 q3)), .val (.int (O1 p1 q3)), .val (.int (O2 p1 q3)), .val (.int (O3 p1 q3)), .val (.int (O4 p1 q3)), .val (.int (TF p1 q3)), .val (.int (VF p1 p2 q3)), .val (.ref b2), .unset] [(.int (CF ((VF p1 p2 q3) + (O1 p1 q3)))), (.ref b2)])) _
  refine XS.iconst X4.here hx rfl (hb hby at_250) ?_
  show Steps p.tables e below (T4.setTop (mkF m 251 #[.val (.int p1), .val (.int p2), .val (.long q3), .second, .val (.int (NF p1)), .val (.int (G0 q3)), .val (.int (G1 q3)), .val (.int (G2 q3)), .val (.int (G3 q3)), .val (.int (E0 p1 q3)), .val (.int (E1 p1 q3)), .val (.int (E2 p1 q3)), .val (.int (E3 p1 q3)), .val (.int (O1 p1 q3)), .val (.int (O2 p1 q3)), .val (.int (O3 p1 q3)), .val (.int (O4 p1 q3)), .val (.int (TF p1 q3)), .val (.int (VF p1 p2 q3)), .val (.ref b2), .unset] [(.int (5 : Int32)), (.int (CF ((VF p1 p2 q3) + (O1 p1 q3)))), (.ref b2)])) _
  refine st5.trans ?_
  show Steps p.tables e below (T5.setTop (mkF m 254 #[.val (.int p1), .val (.int p2), .val (.long q3), .second, .val (.int (NF p1)), .val (.int (G0 q3)), .val (.int (G1 q3)), .val (.int (G2 q3)), .val (.int (G3 q3)), .val (.int (E0 p1 q3)), .val (.int (E1 p1 q3)), .val (.int (E2 p1 q3)), .val (.int (E3 p1 q3)), .val (.int (O1 p1 q3)), .val (.int (O2 p1 q3)), .val (.int (O3 p1 q3)), .val (.int (O4 p1 q3)), .val (.int (TF p1 q3)), .val (.int (VF p1 p2 q3)), .val (.ref b2), .unset] [])) _
  refine XS.iload X5.here hx rfl (hb hby at_254) rfl ?_
  show Steps p.tables e below (T5.setTop (mkF m 256 #[.val (.int p1), .val (.int p2), .val (.long q3), .second, .val (.int (NF p1)), .val (.int (G0 q3)), .val (.int (G1 q3)), .val (.int (G2 q3)), .val (.int (G3 q3)), .val (.int (E0 p1 q3)), .val (.int (E1 p1 q3)), .val (.int (E2 p1 q3)), .val (.int (E3 p1 q3)), .val (.int (O1 p1 q3)), .val (.int (O2 p1 q3)), .val (.int (O3 p1 q3)), .val (.int (O4 p1 q3)), .val (.int (TF p1 q3)), .val (.int (VF p1 p2 q3)), .val (.ref b2), .unset] [(.int (NF p1))])) _
  refine XS.iconst X5.here hx rfl (hb hby at_256) ?_
  show Steps p.tables e below (T5.setTop (mkF m 257 #[.val (.int p1), .val (.int p2), .val (.long q3), .second, .val (.int (NF p1)), .val (.int (G0 q3)), .val (.int (G1 q3)), .val (.int (G2 q3)), .val (.int (G3 q3)), .val (.int (E0 p1 q3)), .val (.int (E1 p1 q3)), .val (.int (E2 p1 q3)), .val (.int (E3 p1 q3)), .val (.int (O1 p1 q3)), .val (.int (O2 p1 q3)), .val (.int (O3 p1 q3)), .val (.int (O4 p1 q3)), .val (.int (TF p1 q3)), .val (.int (VF p1 p2 q3)), .val (.ref b2), .unset] [(.int (2 : Int32)), (.int (NF p1))])) _
  refine XS.icmpYes X5.here hx rfl (pc0 := 257) (pc' := 272) rfl (hb hby at_257) rfl (flt c2).2.2.2 (by decide) (by decide) ?_
  show Steps p.tables e below (T5.setTop (mkF m 272 #[.val (.int p1), .val (.int p2), .val (.long q3), .second, .val (.int (NF p1)), .val (.int (G0 q3)), .val (.int (G1 q3)), .val (.int (G2 q3)), .val (.int (G3 q3)), .val (.int (E0 p1 q3)), .val (.int (E1 p1 q3)), .val (.int (E2 p1 q3)), .val (.int (E3 p1 q3)), .val (.int (O1 p1 q3)), .val (.int (O2 p1 q3)), .val (.int (O3 p1 q3)), .val (.int (O4 p1 q3)), .val (.int (TF p1 q3)), .val (.int (VF p1 p2 q3)), .val (.ref b2), .unset] [])) _
  refine XS.iload X5.here hx rfl (hb hby at_272) rfl ?_
  show Steps p.tables e below (T5.setTop (mkF m 274 #[.val (.int p1), .val (.int p2), .val (.long q3), .second, .val (.int (NF p1)), .val (.int (G0 q3)), .val (.int (G1 q3)), .val (.int (G2 q3)), .val (.int (G3 q3)), .val (.int (E0 p1 q3)), .val (.int (E1 p1 q3)), .val (.int (E2 p1 q3)), .val (.int (E3 p1 q3)), .val (.int (O1 p1 q3)), .val (.int (O2 p1 q3)), .val (.int (O3 p1 q3)), .val (.int (O4 p1 q3)), .val (.int (TF p1 q3)), .val (.int (VF p1 p2 q3)), .val (.ref b2), .unset] [(.int (NF p1))])) _
  refine XS.iconst X5.here hx rfl (hb hby at_274) ?_
  show Steps p.tables e below (T5.setTop (mkF m 275 #[.val (.int p1), .val (.int p2), .val (.long q3), .second, .val (.int (NF p1)), .val (.int (G0 q3)), .val (.int (G1 q3)), .val (.int (G2 q3)), .val (.int (G3 q3)), .val (.int (E0 p1 q3)), .val (.int (E1 p1 q3)), .val (.int (E2 p1 q3)), .val (.int (E3 p1 q3)), .val (.int (O1 p1 q3)), .val (.int (O2 p1 q3)), .val (.int (O3 p1 q3)), .val (.int (O4 p1 q3)), .val (.int (TF p1 q3)), .val (.int (VF p1 p2 q3)), .val (.ref b2), .unset] [(.int (3 : Int32)), (.int (NF p1))])) _
  refine XS.icmpYes X5.here hx rfl (pc0 := 275) (pc' := 290) rfl (hb hby at_275) rfl (flt c3).2.2.2 (by decide) (by decide) ?_
  show Steps p.tables e below (T5.setTop (mkF m 290 #[.val (.int p1), .val (.int p2), .val (.long q3), .second, .val (.int (NF p1)), .val (.int (G0 q3)), .val (.int (G1 q3)), .val (.int (G2 q3)), .val (.int (G3 q3)), .val (.int (E0 p1 q3)), .val (.int (E1 p1 q3)), .val (.int (E2 p1 q3)), .val (.int (E3 p1 q3)), .val (.int (O1 p1 q3)), .val (.int (O2 p1 q3)), .val (.int (O3 p1 q3)), .val (.int (O4 p1 q3)), .val (.int (TF p1 q3)), .val (.int (VF p1 p2 q3)), .val (.ref b2), .unset] [])) _
  refine XS.iload X5.here hx rfl (hb hby at_290) rfl ?_
  show Steps p.tables e below (T5.setTop (mkF m 292 #[.val (.int p1), .val (.int p2), .val (.long q3), .second, .val (.int (NF p1)), .val (.int (G0 q3)), .val (.int (G1 q3)), .val (.int (G2 q3)), .val (.int (G3 q3)), .val (.int (E0 p1 q3)), .val (.int (E1 p1 q3)), .val (.int (E2 p1 q3)), .val (.int (E3 p1 q3)), .val (.int (O1 p1 q3)), .val (.int (O2 p1 q3)), .val (.int (O3 p1 q3)), .val (.int (O4 p1 q3)), .val (.int (TF p1 q3)), .val (.int (VF p1 p2 q3)), .val (.ref b2), .unset] [(.int (NF p1))])) _
  refine XS.iconst X5.here hx rfl (hb hby at_292) ?_
  show Steps p.tables e below (T5.setTop (mkF m 293 #[.val (.int p1), .val (.int p2), .val (.long q3), .second, .val (.int (NF p1)), .val (.int (G0 q3)), .val (.int (G1 q3)), .val (.int (G2 q3)), .val (.int (G3 q3)), .val (.int (E0 p1 q3)), .val (.int (E1 p1 q3)), .val (.int (E2 p1 q3)), .val (.int (E3 p1 q3)), .val (.int (O1 p1 q3)), .val (.int (O2 p1 q3)), .val (.int (O3 p1 q3)), .val (.int (O4 p1 q3)), .val (.int (TF p1 q3)), .val (.int (VF p1 p2 q3)), .val (.ref b2), .unset] [(.int (4 : Int32)), (.int (NF p1))])) _
  refine XS.icmpYes X5.here hx rfl (pc0 := 293) (pc' := 308) rfl (hb hby at_293) rfl (flt c4).2.2.2 (by decide) (by decide) ?_
  show Steps p.tables e below (T5.setTop (mkF m 308 #[.val (.int p1), .val (.int p2), .val (.long q3), .second, .val (.int (NF p1)), .val (.int (G0 q3)), .val (.int (G1 q3)), .val (.int (G2 q3)), .val (.int (G3 q3)), .val (.int (E0 p1 q3)), .val (.int (E1 p1 q3)), .val (.int (E2 p1 q3)), .val (.int (E3 p1 q3)), .val (.int (O1 p1 q3)), .val (.int (O2 p1 q3)), .val (.int (O3 p1 q3)), .val (.int (O4 p1 q3)), .val (.int (TF p1 q3)), .val (.int (VF p1 p2 q3)), .val (.ref b2), .unset] [])) _
  refine sg_308 p1 p2 q3 b2 X5 hx hZ hw hby hown _ ?_
  show Steps p.tables e below (T5.setTop (mkF m 364 #[.val (.int p1), .val (.int p2), .val (.long q3), .second, .val (.int (NF p1)), .val (.int (G0 q3)), .val (.int (G1 q3)), .val (.int (G2 q3)), .val (.int (G3 q3)), .val (.int (E0 p1 q3)), .val (.int (E1 p1 q3)), .val (.int (E2 p1 q3)), .val (.int (E3 p1 q3)), .val (.int (O1 p1 q3)), .val (.int (O2 p1 q3)), .val (.int (O3 p1 q3)), .val (.int (O4 p1 q3)), .val (.int (TF p1 q3)), .val (.int (VF p1 p2 q3)), .val (.ref b2), .val (.int (XF p1 q3))] [])) _
  refine XS.aload X5.here hx rfl (hb hby at_364) rfl rfl ?_
  show Steps p.tables e below (T5.setTop (mkF m 366 #[.val (.int p1), .val (.int p2), .val (.long q3), .second, .val (.int (NF p1)), .val (.int (G0 q3)), .val (.int (G1 q3)), .val (.int (G2 q3)), .val (.int (G3 q3)), .val (.int (E0 p1 q3)), .val (.int (E1 p1 q3)), .val (.int (E2 p1 q3)), .val (.int (E3 p1 q3)), .val (.int (O1 p1 q3)), .val (.int (O2 p1 q3)), .val (.int (O3 p1 q3)), .val (.int (O4 p1 q3)), .val (.int (TF p1 q3)), .val (.int (VF p1 p2 q3)), .val (.ref b2), .val (.int (XF p1 q3))] [(.ref b2)])) _
  refine st6.trans ?_
  show Steps p.tables e below (T6.setTop (mkF m 369 #[.val (.int p1), .val (.int p2), .val (.long q3), .second, .val (.int (NF p1)), .val (.int (G0 q3)), .val (.int (G1 q3)), .val (.int (G2 q3)), .val (.int (G3 q3)), .val (.int (E0 p1 q3)), .val (.int (E1 p1 q3)), .val (.int (E2 p1 q3)), .val (.int (E3 p1 q3)), .val (.int (O1 p1 q3)), .val (.int (O2 p1 q3)), .val (.int (O3 p1 q3)), .val (.int (O4 p1 q3)), .val (.int (TF p1 q3)), .val (.int (VF p1 p2 q3)), .val (.ref b2), .val (.int (XF p1 q3))] [(.int (runs (xs2 p1 p2 q3) 1 1 (2 : Int32)))])) _
  refine XS.iload X6.here hx rfl (hb hby at_369) rfl ?_
  show Steps p.tables e below (T6.setTop (mkF m 371 #[.val (.int p1), .val (.int p2), .val (.long q3), .second, .val (.int (NF p1)), .val (.int (G0 q3)), .val (.int (G1 q3)), .val (.int (G2 q3)), .val (.int (G3 q3)), .val (.int (E0 p1 q3)), .val (.int (E1 p1 q3)), .val (.int (E2 p1 q3)), .val (.int (E3 p1 q3)), .val (.int (O1 p1 q3)), .val (.int (O2 p1 q3)), .val (.int (O3 p1 q3)), .val (.int (O4 p1 q3)), .val (.int (TF p1 q3)), .val (.int (VF p1 p2 q3)), .val (.ref b2), .val (.int (XF p1 q3))] [(.int (XF p1 q3)), (.int (runs (xs2 p1 p2 q3) 1 1 (2 : Int32)))])) _
  refine XS.icmpNo X6.here hx rfl (hb hby at_371) rfl (teq (own_case2 p1 p2 q3 hn)).2 ?_
  show Steps p.tables e below (T6.setTop (mkF m 374 #[.val (.int p1), .val (.int p2), .val (.long q3), .second, .val (.int (NF p1)), .val (.int (G0 q3)), .val (.int (G1 q3)), .val (.int (G2 q3)), .val (.int (G3 q3)), .val (.int (E0 p1 q3)), .val (.int (E1 p1 q3)), .val (.int (E2 p1 q3)), .val (.int (E3 p1 q3)), .val (.int (O1 p1 q3)), .val (.int (O2 p1 q3)), .val (.int (O3 p1 q3)), .val (.int (O4 p1 q3)), .val (.int (TF p1 q3)), .val (.int (VF p1 p2 q3)), .val (.ref b2), .val (.int (XF p1 q3))] [])) _
  refine XS.aload X6.here hx rfl (hb hby at_374) rfl rfl ?_
  show Steps p.tables e below (T6.setTop (mkF m 376 #[.val (.int p1), .val (.int p2), .val (.long q3), .second, .val (.int (NF p1)), .val (.int (G0 q3)), .val (.int (G1 q3)), .val (.int (G2 q3)), .val (.int (G3 q3)), .val (.int (E0 p1 q3)), .val (.int (E1 p1 q3)), .val (.int (E2 p1 q3)), .val (.int (E3 p1 q3)), .val (.int (O1 p1 q3)), .val (.int (O2 p1 q3)), .val (.int (O3 p1 q3)), .val (.int (O4 p1 q3)), .val (.int (TF p1 q3)), .val (.int (VF p1 p2 q3)), .val (.ref b2), .val (.int (XF p1 q3))] [(.ref b2)])) _
  refine st7.trans ?_
  show Steps p.tables e below (T7.setTop (mkF m 379 #[.val (.int p1), .val (.int p2), .val (.long q3), .second, .val (.int (NF p1)), .val (.int (G0 q3)), .val (.int (G1 q3)), .val (.int (G2 q3)), .val (.int (G3 q3)), .val (.int (E0 p1 q3)), .val (.int (E1 p1 q3)), .val (.int (E2 p1 q3)), .val (.int (E3 p1 q3)), .val (.int (O1 p1 q3)), .val (.int (O2 p1 q3)), .val (.int (O3 p1 q3)), .val (.int (O4 p1 q3)), .val (.int (TF p1 q3)), .val (.int (VF p1 p2 q3)), .val (.ref b2), .val (.int (XF p1 q3))] [(.int (2 : Int32))])) _
  refine XS.iload X7.here hx rfl (hb hby at_379) rfl ?_
  show Steps p.tables e below (T7.setTop (mkF m 381 #[.val (.int p1), .val (.int p2), .val (.long q3), .second, .val (.int (NF p1)), .val (.int (G0 q3)), .val (.int (G1 q3)), .val (.int (G2 q3)), .val (.int (G3 q3)), .val (.int (E0 p1 q3)), .val (.int (E1 p1 q3)), .val (.int (E2 p1 q3)), .val (.int (E3 p1 q3)), .val (.int (O1 p1 q3)), .val (.int (O2 p1 q3)), .val (.int (O3 p1 q3)), .val (.int (O4 p1 q3)), .val (.int (TF p1 q3)), .val (.int (VF p1 p2 q3)), .val (.ref b2), .val (.int (XF p1 q3))] [(.int (NF p1)), (.int (2 : Int32))])) _
  refine XS.icmpNo X7.here hx rfl (hb hby at_381) rfl (teq hn.symm).2 ?_
  show Steps p.tables e below (T7.setTop (mkF m 384 #[.val (.int p1), .val (.int p2), .val (.long q3), .second, .val (.int (NF p1)), .val (.int (G0 q3)), .val (.int (G1 q3)), .val (.int (G2 q3)), .val (.int (G3 q3)), .val (.int (E0 p1 q3)), .val (.int (E1 p1 q3)), .val (.int (E2 p1 q3)), .val (.int (E3 p1 q3)), .val (.int (O1 p1 q3)), .val (.int (O2 p1 q3)), .val (.int (O3 p1 q3)), .val (.int (O4 p1 q3)), .val (.int (TF p1 q3)), .val (.int (VF p1 p2 q3)), .val (.ref b2), .val (.int (XF p1 q3))] [])) _
  refine XS.iconst X7.here hx rfl (hb hby at_384) ?_
  show Steps p.tables e below (T7.setTop (mkF m 385 #[.val (.int p1), .val (.int p2), .val (.long q3), .second, .val (.int (NF p1)), .val (.int (G0 q3)), .val (.int (G1 q3)), .val (.int (G2 q3)), .val (.int (G3 q3)), .val (.int (E0 p1 q3)), .val (.int (E1 p1 q3)), .val (.int (E2 p1 q3)), .val (.int (E3 p1 q3)), .val (.int (O1 p1 q3)), .val (.int (O2 p1 q3)), .val (.int (O3 p1 q3)), .val (.int (O4 p1 q3)), .val (.int (TF p1 q3)), .val (.int (VF p1 p2 q3)), .val (.ref b2), .val (.int (XF p1 q3))] [(.int (1 : Int32))])) _
  refine XS.goto X7.here hx rfl (pc0 := 385) (pc' := 389) rfl (hb hby at_385) (by decide) (by decide) ?_
  show Steps p.tables e below (T7.setTop (mkF m 389 #[.val (.int p1), .val (.int p2), .val (.long q3), .second, .val (.int (NF p1)), .val (.int (G0 q3)), .val (.int (G1 q3)), .val (.int (G2 q3)), .val (.int (G3 q3)), .val (.int (E0 p1 q3)), .val (.int (E1 p1 q3)), .val (.int (E2 p1 q3)), .val (.int (E3 p1 q3)), .val (.int (O1 p1 q3)), .val (.int (O2 p1 q3)), .val (.int (O3 p1 q3)), .val (.int (O4 p1 q3)), .val (.int (TF p1 q3)), .val (.int (VF p1 p2 q3)), .val (.ref b2), .val (.int (XF p1 q3))] [(.int (1 : Int32))])) _
  exact retN X7 hx (t := .boolean) Bd.returns (by simp) (hb hby at_389) hr
set_option maxRecDepth 65536 in
set_option maxHeartbeats 40000000 in
theorem rm0_3 (l : Launch) (Z : State) (a0 : Array Value) (hw : ∀ d ∈ tables_1, d.before a0 Z = true) (ws : List Jvm.Cond) (p1 : Int32) (p2 : Int32) (q3 : Int64) (h0 : Heap) (n0 : Nat) (Z0 : n0 ≤ h0.size) (hn : NF p1 = 3) :
    MetFree l x (head1 (Jvm.Cond.code x code maxLocals ret :: ws) room_1) (fun a U => a = #[(.int p1), (.int p2), (.long q3)] ∧ Z.Warmed39 U.vm ∧ U.heap = h0) (fun _ _ _ _ _ => True) (fun _ U o U' => ∃ v L, o = .returned v ∧ Q0 Z p1 p2 q3 h0 n0 v U'.heap L ∧ FrameEnd U o U' L room_1.cells room_1.slots) := by
  refine MetFree.of_bodySF (plainFor_of_name pn_0) hisR ?_
  intro p e s m args below meth c s₁ Bd hml0 hP hK
  obtain ⟨rfl, hZ, hh⟩ := hP
  have hx := Bd.exec
  have hby := Bd.bytes
  have hml : c.maxLocals = 21 := hml0
  have hown : s.vm.findClass "bitcove/ArrayContainerRunCountPinLaw" = some m.cls := findClass_of_methodNamed Bd.named
  have hnm := (name_of_methodNamed Bd.named Bd.method).1
  have X0 : Stand p l e room_1 s m #[(.int p1), (.int p2), (.long q3)] below meth c s₁ [] 0 0 := Stand.of_body Bd
  have e0 : s₁.heap = h0 := by rw [← hh, Bd.state]; rfl
  have N0 := Fr.nil n0
  have pre0 : ∀ t, Steps p.tables e below (s₁.setTop (mkF m 0 #[.val (.int p1), .val (.int p2), .val (.long q3), .second, .unset, .unset, .unset, .unset, .unset, .unset, .unset, .unset, .unset, .unset, .unset, .unset, .unset, .unset, .unset, .unset, .unset] [])) t → Steps p.tables e below (s₁.setTop (entryFrame m #[(.int p1), (.int p2), (.long q3)] maxLocals)) t := fun t k => castTop (ef_0 m p1 p2 q3) k
  obtain ⟨T2, h2, X2, e2, Ex2, A2, D2, -, st2⟩ := newO X0 hx hZ hown (hw _ (List.mem_of_getElem? (i := 3) rfl)) (hw _ (List.mem_of_getElem? (i := 4) rfl)) (hw _ (List.mem_of_getElem? (i := 5) rfl)) e0 (g := (mkF m 213 #[.val (.int p1), .val (.int p2), .val (.long q3), .second, .val (.int (NF p1)), .val (.int (G0 q3)), .val (.int (G1 q3)), .val (.int (G2 q3)), .val (.int (G3 q3)), .val (.int (E0 p1 q3)), .val (.int (E1 p1 q3)), .val (.int (E2 p1 q3)), .val (.int (E3 p1 q3)), .val (.int (O1 p1 q3)), .val (.int (O2 p1 q3)), .val (.int (O3 p1 q3)), .val (.int (O4 p1 q3)), .val (.int (TF p1 q3)), .val (.int (VF p1 p2 q3)), .unset, .unset] [])) rfl (hb hby at_213) (by decide) (by decide)
  obtain ⟨b2, g2⟩ : ∃ z, z = h0.size := ⟨_, rfl⟩
  rw [← g2] at A2 D2 st2
  have Fv2 : Fld Z h2 b2 "bitcove/ArrayContainer" "values" "[C" .null := D2 (Or.inl (hw _ (List.mem_of_getElem? (i := 32) rfl))) (ty := (.array .char)) (by decide)
  have Fc2 : Fld Z h2 b2 "bitcove/ArrayContainer" "cardinality" "I" (.int (0 : Int32)) := D2 (Or.inl (hw _ (List.mem_of_getElem? (i := 34) rfl))) (ty := .int) (by decide)
  have g_b2 : n0 ≤ b2 := Nat.le_trans Z0 (Nat.le_of_eq g2.symm)
  have Z2 : n0 ≤ h2.size := Nat.le_trans Z0 Ex2.1
  obtain ⟨_, _, ⟨T3, L3, k3, n3⟩, -, X3, ⟨Lc3, hQ3, l3, y3, z3⟩, st3⟩ := X2.specialBack hx (y := (⟨"bitcove/ArrayContainer", "<init>", "()V"⟩ : MethodName)) rfl hown (mvT hZ (hw _ (List.mem_of_getElem? (i := 6) rfl))) (mvT hZ (hw _ (List.mem_of_getElem? (i := 7) rfl))) (mvT hZ (hw _ (List.mem_of_getElem? (i := 8) rfl))) (by decide) (backOf (W := 1) (rm1 l Z a0 hw [] b2 h2 n0 Z2 _ _ A2 Fv2 Fc2 g_b2) hZ (hw _ (List.mem_of_getElem? (i := 8) rfl)) (hw _ (List.mem_of_getElem? (i := 5) rfl)) (by decide) (by decide)) (g := (mkF m 217 #[.val (.int p1), .val (.int p2), .val (.long q3), .second, .val (.int (NF p1)), .val (.int (G0 q3)), .val (.int (G1 q3)), .val (.int (G2 q3)), .val (.int (G3 q3)), .val (.int (E0 p1 q3)), .val (.int (E1 p1 q3)), .val (.int (E2 p1 q3)), .val (.int (E3 p1 q3)), .val (.int (O1 p1 q3)), .val (.int (O2 p1 q3)), .val (.int (O3 p1 q3)), .val (.int (O4 p1 q3)), .val (.int (TF p1 q3)), .val (.int (VF p1 p2 q3)), .unset, .unset] [(.ref b2), (.ref b2)])) rfl (by rw [hml]; rfl) (Steps.refl _) (a := b2) (argsL := []) (rest := [(.ref b2)]) (lenOf pd_v rfl) rfl (by show 2 * 0 + _ ≤ _; exact Nat.le_of_eq rfl) (hb hby at_217) (fun _ _ => ⟨rfl, e2, (by decide : 1 + 1 ≤ _), (by decide : 2 + 4 ≤ _)⟩)
  dsimp only [Pt.U, Pt.locs, Pt.cells, Pt.slots] at X3 l3 y3 z3 st3 hQ3
  subst l3 y3 z3
  obtain ⟨rfl, N3q, K3, t3, kk3, gt3, B3⟩ := hQ3
  have N3 := Fr.app N0 N3q
  have Z3 : n0 ≤ T3.heap.size := Nat.le_trans Z2 K3.1
  obtain ⟨cq4, kq4, q4a, q4b, q4c⟩ := isOf hZ rfl B3.1
  obtain ⟨_, _, ⟨T4, L4, k4, n4⟩, -, X4, ⟨Lc4, hQ4, l4, y4, z4⟩, st4⟩ := X3.virtualBack hx (y := (⟨"bitcove/ArrayContainer", "append", "(CI)V"⟩ : MethodName)) (z := (⟨"bitcove/ArrayContainer", "append", "(CI)V"⟩ : MethodName)) hown (mvT hZ (hw _ (List.mem_of_getElem? (i := 45) rfl))) (mvT hZ (hw _ (List.mem_of_getElem? (i := 46) rfl))) (notFace_of_selects (args := #[]) (mvT hZ (hw _ (List.mem_of_getElem? (i := 48) rfl)))) (mvT hZ (hw _ (List.mem_of_getElem? (i := 48) rfl))) (mvT hZ (hw _ (List.mem_of_getElem? (i := 47) rfl))) (by decide) (backOf (W := 0) (rm9f l Z a0 hw [] b2 (CF (VF p1 p2 q3)) t3 kk3 (4 : Int32) [(.int (0 : Int32)), (.int (0 : Int32)), (.int (0 : Int32)), (.int (0 : Int32))] T3.heap n0 Z3 B3 g_b2) hZ (hw _ (List.mem_of_getElem? (i := 49) rfl)) (hw _ (List.mem_of_getElem? (i := 5) rfl)) (by decide) (by decide)) q4a q4c (g := (mkF m 233 #[.val (.int p1), .val (.int p2), .val (.long q3), .second, .val (.int (NF p1)), .val (.int (G0 q3)), .val (.int (G1 q3)), .val (.int (G2 q3)), .val (.int (G3 q3)), .val (.int (E0 p1 q3)), .val (.int (E1 p1 q3)), .val (.int (E2 p1 q3)), .val (.int (E3 p1 q3)), .val (.int (O1 p1 q3)), .val (.int (O2 p1 q3)), .val (.int (O3 p1 q3)), .val (.int (O4 p1 q3)), .val (.int (TF p1 q3)), .val (.int (VF p1 p2 q3)), .val (.ref b2), .unset] [(.int (5 : Int32)), (.int (CF (VF p1 p2 q3))), (.ref b2)])) rfl (by rw [hml]; rfl) (Steps.refl _) (argsL := [(.int (CF (VF p1 p2 q3))), (.int (5 : Int32))]) (rest := []) (lenOf pd_a rfl) rfl (by show 2 * 0 + _ ≤ _; exact Nat.le_of_eq rfl) (hb hby at_233) (fun _ _ => ⟨rfl, rfl, (by decide : 2 + 1 ≤ _), (by decide : 6 + 5 ≤ _)⟩)
  dsimp only [Pt.U, Pt.locs, Pt.cells, Pt.slots] at X4 l4 y4 z4 st4 hQ4
  subst l4 y4 z4
  obtain ⟨rfl, N4q, t4, kk4, gt4, K4, B4⟩ := hQ4
  have N4 := Fr.app N3 N4q
  have Z4 : n0 ≤ T4.heap.size := Nat.le_trans Z3 K4.1
  have g_t : n0 ≤ t4 := Nat.le_trans Z3 gt4
  obtain ⟨cq5, kq5, q5a, q5b, q5c⟩ := isOf hZ rfl B4.1
  obtain ⟨_, _, ⟨T5, L5, k5, n5⟩, -, X5, ⟨Lc5, hQ5, l5, y5, z5⟩, st5⟩ := X4.virtualBack hx (y := (⟨"bitcove/ArrayContainer", "append", "(CI)V"⟩ : MethodName)) (z := (⟨"bitcove/ArrayContainer", "append", "(CI)V"⟩ : MethodName)) hown (mvT hZ (hw _ (List.mem_of_getElem? (i := 45) rfl))) (mvT hZ (hw _ (List.mem_of_getElem? (i := 46) rfl))) (notFace_of_selects (args := #[]) (mvT hZ (hw _ (List.mem_of_getElem? (i := 48) rfl)))) (mvT hZ (hw _ (List.mem_of_getElem? (i := 48) rfl))) (mvT hZ (hw _ (List.mem_of_getElem? (i := 47) rfl))) (by decide) (backOf (W := 0) (rm9t l Z a0 hw [] b2 (CF ((VF p1 p2 q3) + (O1 p1 q3))) (5 : Int32) (1 : Int32) (2 : Int32) t4 kk4 (5 : Int32) [(.int (nar .char (CF (VF p1 p2 q3)))), (.int (0 : Int32)), (.int (0 : Int32)), (.int (0 : Int32)), (.int (0 : Int32))] 1 T4.heap n0 Z4 B4 g_b2 g_t ⟨by decide, by decide⟩ (by decide) (by decide) (Nat.le_of_ble_eq_true rfl) (by decide)) hZ (hw _ (List.mem_of_getElem? (i := 49) rfl)) (hw _ (List.mem_of_getElem? (i := 5) rfl)) (by decide) (by decide)) q5a q5c (g := (mkF m 251 #[.val (.int p1), .val (.int p2), .val (.long q3), .second, .val (.int (NF p1)), .val (.int (G0 q3)), .val (.int (G1 q3)), .val (.int (G2 q3)), .val (.int (G3 q3)), .val (.int (E0 p1 q3)), .val (.int (E1 p1 q3)), .val (.int (E2 p1 q3)), .val (.int (E3 p1 q3)), .val (.int (O1 p1 q3)), .val (.int (O2 p1 q3)), .val (.int (O3 p1 q3)), .val (.int (O4 p1 q3)), .val (.int (TF p1 q3)), .val (.int (VF p1 p2 q3)), .val (.ref b2), .unset] [(.int (5 : Int32)), (.int (CF ((VF p1 p2 q3) + (O1 p1 q3)))), (.ref b2)])) rfl (by rw [hml]; rfl) (Steps.refl _) (argsL := [(.int (CF ((VF p1 p2 q3) + (O1 p1 q3)))), (.int (5 : Int32))]) (rest := []) (lenOf pd_a rfl) rfl (by show 2 * 0 + _ ≤ _; exact Nat.le_of_eq rfl) (hb hby at_251) (fun _ _ => ⟨rfl, rfl, (by decide : 3 + 0 ≤ _), (by decide : 11 + 0 ≤ _)⟩)
  dsimp only [Pt.U, Pt.locs, Pt.cells, Pt.slots] at X5 l5 y5 z5 st5 hQ5
  subst l5 y5 z5
  obtain ⟨rfl, N5q, K5, B5⟩ := hQ5
  have N5 := Fr.app N4 N5q
  have Z5 : n0 ≤ T5.heap.size := Nat.le_trans Z4 K5.1
  obtain ⟨cq6, kq6, q6a, q6b, q6c⟩ := isOf hZ rfl B5.1
  obtain ⟨_, _, ⟨T6, L6, k6, n6⟩, -, X6, ⟨Lc6, hQ6, l6, y6, z6⟩, st6⟩ := X5.virtualBack hx (y := (⟨"bitcove/ArrayContainer", "append", "(CI)V"⟩ : MethodName)) (z := (⟨"bitcove/ArrayContainer", "append", "(CI)V"⟩ : MethodName)) hown (mvT hZ (hw _ (List.mem_of_getElem? (i := 45) rfl))) (mvT hZ (hw _ (List.mem_of_getElem? (i := 46) rfl))) (notFace_of_selects (args := #[]) (mvT hZ (hw _ (List.mem_of_getElem? (i := 48) rfl)))) (mvT hZ (hw _ (List.mem_of_getElem? (i := 48) rfl))) (mvT hZ (hw _ (List.mem_of_getElem? (i := 47) rfl))) (by decide) (backOf (W := 0) (rm9t l Z a0 hw [] b2 (CF ((VF p1 p2 q3) + (O2 p1 q3))) (5 : Int32) (2 : Int32) (3 : Int32) t4 kk4 (5 : Int32) (List.set [(.int (nar .char (CF (VF p1 p2 q3)))), (.int (0 : Int32)), (.int (0 : Int32)), (.int (0 : Int32)), (.int (0 : Int32))] 1 (.int (nar .char (CF ((VF p1 p2 q3) + (O1 p1 q3)))))) 2 T5.heap n0 Z5 B5 g_b2 g_t ⟨by decide, by decide⟩ (by decide) (by decide) (Nat.le_of_ble_eq_true rfl) (by decide)) hZ (hw _ (List.mem_of_getElem? (i := 49) rfl)) (hw _ (List.mem_of_getElem? (i := 5) rfl)) (by decide) (by decide)) q6a q6c (g := (mkF m 269 #[.val (.int p1), .val (.int p2), .val (.long q3), .second, .val (.int (NF p1)), .val (.int (G0 q3)), .val (.int (G1 q3)), .val (.int (G2 q3)), .val (.int (G3 q3)), .val (.int (E0 p1 q3)), .val (.int (E1 p1 q3)), .val (.int (E2 p1 q3)), .val (.int (E3 p1 q3)), .val (.int (O1 p1 q3)), .val (.int (O2 p1 q3)), .val (.int (O3 p1 q3)), .val (.int (O4 p1 q3)), .val (.int (TF p1 q3)), .val (.int (VF p1 p2 q3)), .val (.ref b2), .unset] [(.int (5 : Int32)), (.int (CF ((VF p1 p2 q3) + (O2 p1 q3)))), (.ref b2)])) rfl (by rw [hml]; rfl) (Steps.refl _) (argsL := [(.int (CF ((VF p1 p2 q3) + (O2 p1 q3)))), (.int (5 : Int32))]) (rest := []) (lenOf pd_a rfl) rfl (by show 2 * 0 + _ ≤ _; exact Nat.le_of_eq rfl) (hb hby at_269) (fun _ _ => ⟨rfl, rfl, (by decide : 3 + 0 ≤ _), (by decide : 11 + 0 ≤ _)⟩)
  dsimp only [Pt.U, Pt.locs, Pt.cells, Pt.slots] at X6 l6 y6 z6 st6 hQ6
  subst l6 y6 z6
  obtain ⟨rfl, N6q, K6, B6⟩ := hQ6
  have N6 := Fr.app N5 N6q
  have Z6 : n0 ≤ T6.heap.size := Nat.le_trans Z5 K6.1
  obtain ⟨cq7, kq7, q7a, q7b, q7c⟩ := isOf hZ rfl B6.1
  have hv : ∀ i, i < 3 → ((List.set (List.set [(.int (nar .char (CF (VF p1 p2 q3)))), (.int (0 : Int32)), (.int (0 : Int32)), (.int (0 : Int32)), (.int (0 : Int32))] 1 (.int (nar .char (CF ((VF p1 p2 q3) + (O1 p1 q3)))))) 2 (.int (nar .char (CF ((VF p1 p2 q3) + (O2 p1 q3)))))) : List Value).getD i (.int (0 : Int32)) = .int (xs3 p1 p2 q3 i) := fun i hi => by
    match i, hi with
    | 0, _ => rfl
    | 1, _ => rfl
    | 2, _ => rfl
  obtain ⟨_, _, ⟨T7, L7, k7, n7⟩, -, X7, ⟨Lc7, hQ7, l7, y7, z7⟩, st7⟩ := X6.virtualBack hx (y := (⟨"bitcove/ArrayContainer", "runCount", "()I"⟩ : MethodName)) (z := (⟨"bitcove/ArrayContainer", "runCount", "()I"⟩ : MethodName)) hown (mvT hZ (hw _ (List.mem_of_getElem? (i := 35) rfl))) (mvT hZ (hw _ (List.mem_of_getElem? (i := 36) rfl))) (notFace_of_selects (args := #[]) (mvT hZ (hw _ (List.mem_of_getElem? (i := 38) rfl)))) (mvT hZ (hw _ (List.mem_of_getElem? (i := 38) rfl))) (mvT hZ (hw _ (List.mem_of_getElem? (i := 37) rfl))) (by decide) (backOf (W := 0) (rm7 l Z a0 hw [] b2 (3 : Int32) t4 kk4 (5 : Int32) (List.set (List.set [(.int (nar .char (CF (VF p1 p2 q3)))), (.int (0 : Int32)), (.int (0 : Int32)), (.int (0 : Int32)), (.int (0 : Int32))] 1 (.int (nar .char (CF ((VF p1 p2 q3) + (O1 p1 q3)))))) 2 (.int (nar .char (CF ((VF p1 p2 q3) + (O2 p1 q3)))))) (xs3 p1 p2 q3) 3 T6.heap n0 Z6 B6 (by decide) (by decide) (by decide) hv) hZ (hw _ (List.mem_of_getElem? (i := 39) rfl)) (hw _ (List.mem_of_getElem? (i := 5) rfl)) (by decide) (by decide)) q7a q7c (g := (mkF m 366 #[.val (.int p1), .val (.int p2), .val (.long q3), .second, .val (.int (NF p1)), .val (.int (G0 q3)), .val (.int (G1 q3)), .val (.int (G2 q3)), .val (.int (G3 q3)), .val (.int (E0 p1 q3)), .val (.int (E1 p1 q3)), .val (.int (E2 p1 q3)), .val (.int (E3 p1 q3)), .val (.int (O1 p1 q3)), .val (.int (O2 p1 q3)), .val (.int (O3 p1 q3)), .val (.int (O4 p1 q3)), .val (.int (TF p1 q3)), .val (.int (VF p1 p2 q3)), .val (.ref b2), .val (.int (XF p1 q3))] [(.ref b2)])) rfl (by rw [hml]; rfl) (Steps.refl _) (argsL := []) (rest := []) (lenOf pd_i rfl) rfl (by show 2 * 0 + _ ≤ _; exact Nat.le_of_eq rfl) (hb hby at_366) (fun _ _ => ⟨rfl, rfl, (by decide : 3 + 0 ≤ _), (by decide : 11 + 0 ≤ _)⟩)
  dsimp only [Pt.U, Pt.locs, Pt.cells, Pt.slots] at X7 l7 y7 z7 st7 hQ7
  subst l7 y7 z7
  obtain ⟨rfl, N7q, eq7⟩ := hQ7
  have N7 := Fr.app N6 N7q
  obtain ⟨cq8, kq8, q8a, q8b, q8c⟩ := isOf hZ rfl (show Exa Z T7.heap b2 "bitcove/ArrayContainer" by rw [eq7]; exact B6.1)
  obtain ⟨_, _, ⟨T8, L8, k8, n8⟩, -, X8, ⟨Lc8, hQ8, l8, y8, z8⟩, st8⟩ := X7.virtualBack hx (y := (⟨"bitcove/ArrayContainer", "cardinality", "()I"⟩ : MethodName)) (z := (⟨"bitcove/ArrayContainer", "cardinality", "()I"⟩ : MethodName)) hown (mvT hZ (hw _ (List.mem_of_getElem? (i := 40) rfl))) (mvT hZ (hw _ (List.mem_of_getElem? (i := 41) rfl))) (notFace_of_selects (args := #[]) (mvT hZ (hw _ (List.mem_of_getElem? (i := 43) rfl)))) (mvT hZ (hw _ (List.mem_of_getElem? (i := 43) rfl))) (mvT hZ (hw _ (List.mem_of_getElem? (i := 42) rfl))) (by decide) (backOf (W := 0) (rm8 l Z a0 hw [] b2 (3 : Int32) T7.heap n0 (by rw [eq7]; exact Z6) (by rw [eq7]; exact B6.2.2.1)) hZ (hw _ (List.mem_of_getElem? (i := 44) rfl)) (hw _ (List.mem_of_getElem? (i := 5) rfl)) (by decide) (by decide)) q8a q8c (g := (mkF m 376 #[.val (.int p1), .val (.int p2), .val (.long q3), .second, .val (.int (NF p1)), .val (.int (G0 q3)), .val (.int (G1 q3)), .val (.int (G2 q3)), .val (.int (G3 q3)), .val (.int (E0 p1 q3)), .val (.int (E1 p1 q3)), .val (.int (E2 p1 q3)), .val (.int (E3 p1 q3)), .val (.int (O1 p1 q3)), .val (.int (O2 p1 q3)), .val (.int (O3 p1 q3)), .val (.int (O4 p1 q3)), .val (.int (TF p1 q3)), .val (.int (VF p1 p2 q3)), .val (.ref b2), .val (.int (XF p1 q3))] [(.ref b2)])) rfl (by rw [hml]; rfl) (Steps.refl _) (argsL := []) (rest := []) (lenOf pd_i rfl) rfl (by show 2 * 0 + _ ≤ _; exact Nat.le_of_eq rfl) (hb hby at_376) (fun _ _ => ⟨rfl, rfl, (by decide : 3 + 0 ≤ _), (by decide : 11 + 0 ≤ _)⟩)
  dsimp only [Pt.U, Pt.locs, Pt.cells, Pt.slots] at X8 l8 y8 z8 st8 hQ8
  subst l8 y8 z8
  obtain ⟨rfl, N8q, eq8⟩ := hQ8
  have N8 := Fr.app N7 N8q
  obtain ⟨fs, hr, hrun, hended, hW, hsame⟩ := X8.leave (v := some (.int (1 : Int32))) (fun h => by rw [Bd.returns] at h; cases h)
  refine ⟨_, _, pre0 _ ?_, hrun, hended, _, _, rfl, ?_, ⟨_, rfl⟩, hW, hsame.mono (by decide) (by decide)⟩
  case refine_2 =>
    show Q0 Z p1 p2 q3 h0 n0 _ T8.heap _
    exact ⟨rfl, N8⟩
  have c0 : (0 : Int32) < NF p1 := by rw [hn]; decide
  have c1 : (1 : Int32) < NF p1 := by rw [hn]; decide
  have c2 : (2 : Int32) < NF p1 := by rw [hn]; decide
  have c3 : ¬ ((3 : Int32) < NF p1) := by rw [hn]; decide
  have c4 : ¬ ((4 : Int32) < NF p1) := by rw [hn]; decide
  refine sg_pre p1 p2 q3 X0 hx hZ hw hby hown _ ?_
  show Steps p.tables e below (s₁.setTop (mkF m 213 #[.val (.int p1), .val (.int p2), .val (.long q3), .second, .val (.int (NF p1)), .val (.int (G0 q3)), .val (.int (G1 q3)), .val (.int (G2 q3)), .val (.int (G3 q3)), .val (.int (E0 p1 q3)), .val (.int (E1 p1 q3)), .val (.int (E2 p1 q3)), .val (.int (E3 p1 q3)), .val (.int (O1 p1 q3)), .val (.int (O2 p1 q3)), .val (.int (O3 p1 q3)), .val (.int (O4 p1 q3)), .val (.int (TF p1 q3)), .val (.int (VF p1 p2 q3)), .unset, .unset] [])) _
  refine st2 _ ?_
  show Steps p.tables e below (T2.setTop (mkF m 216 #[.val (.int p1), .val (.int p2), .val (.long q3), .second, .val (.int (NF p1)), .val (.int (G0 q3)), .val (.int (G1 q3)), .val (.int (G2 q3)), .val (.int (G3 q3)), .val (.int (E0 p1 q3)), .val (.int (E1 p1 q3)), .val (.int (E2 p1 q3)), .val (.int (E3 p1 q3)), .val (.int (O1 p1 q3)), .val (.int (O2 p1 q3)), .val (.int (O3 p1 q3)), .val (.int (O4 p1 q3)), .val (.int (TF p1 q3)), .val (.int (VF p1 p2 q3)), .unset, .unset] [(.ref b2)])) _
  refine XS.dup X2.here hx rfl (hb hby at_216) rfl rfl ?_
  show Steps p.tables e below (T2.setTop (mkF m 217 #[.val (.int p1), .val (.int p2), .val (.long q3), .second, .val (.int (NF p1)), .val (.int (G0 q3)), .val (.int (G1 q3)), .val (.int (G2 q3)), .val (.int (G3 q3)), .val (.int (E0 p1 q3)), .val (.int (E1 p1 q3)), .val (.int (E2 p1 q3)), .val (.int (E3 p1 q3)), .val (.int (O1 p1 q3)), .val (.int (O2 p1 q3)), .val (.int (O3 p1 q3)), .val (.int (O4 p1 q3)), .val (.int (TF p1 q3)), .val (.int (VF p1 p2 q3)), .unset, .unset] [(.ref b2), (.ref b2)])) _
  refine st3.trans ?_
  show Steps p.tables e below (T3.setTop (mkF m 220 #[.val (.int p1), .val (.int p2), .val (.long q3), .second, .val (.int (NF p1)), .val (.int (G0 q3)), .val (.int (G1 q3)), .val (.int (G2 q3)), .val (.int (G3 q3)), .val (.int (E0 p1 q3)), .val (.int (E1 p1 q3)), .val (.int (E2 p1 q3)), .val (.int (E3 p1 q3)), .val (.int (O1 p1 q3)), .val (.int (O2 p1 q3)), .val (.int (O3 p1 q3)), .val (.int (O4 p1 q3)), .val (.int (TF p1 q3)), .val (.int (VF p1 p2 q3)), .unset, .unset] [(.ref b2)])) _
  refine XS.astore X3.here hx rfl (hb hby at_220) rfl rfl (l' := #[.val (.int p1), .val (.int p2), .val (.long q3), .second, .val (.int (NF p1)), .val (.int (G0 q3)), .val (.int (G1 q3)), .val (.int (G2 q3)), .val (.int (G3 q3)), .val (.int (E0 p1 q3)), .val (.int (E1 p1 q3)), .val (.int (E2 p1 q3)), .val (.int (E3 p1 q3)), .val (.int (O1 p1 q3)), .val (.int (O2 p1 q3)), .val (.int (O3 p1 q3)), .val (.int (O4 p1 q3)), .val (.int (TF p1 q3)), .val (.int (VF p1 p2 q3)), .val (.ref b2), .unset]) rfl ?_
  show Steps p.tables e below (T3.setTop (mkF m 222 #[.val (.int p1), .val (.int p2), .val (.long q3), .second, .val (.int (NF p1)), .val (.int (G0 q3)), .val (.int (G1 q3)), .val (.int (G2 q3)), .val (.int (G3 q3)), .val (.int (E0 p1 q3)), .val (.int (E1 p1 q3)), .val (.int (E2 p1 q3)), .val (.int (E3 p1 q3)), .val (.int (O1 p1 q3)), .val (.int (O2 p1 q3)), .val (.int (O3 p1 q3)), .val (.int (O4 p1 q3)), .val (.int (TF p1 q3)), .val (.int (VF p1 p2 q3)), .val (.ref b2), .unset] [])) _
  refine XS.iload X3.here hx rfl (hb hby at_222) rfl ?_
  show Steps p.tables e below (T3.setTop (mkF m 224 #[.val (.int p1), .val (.int p2), .val (.long q3), .second, .val (.int (NF p1)), .val (.int (G0 q3)), .val (.int (G1 q3)), .val (.int (G2 q3)), .val (.int (G3 q3)), .val (.int (E0 p1 q3)), .val (.int (E1 p1 q3)), .val (.int (E2 p1 q3)), .val (.int (E3 p1 q3)), .val (.int (O1 p1 q3)), .val (.int (O2 p1 q3)), .val (.int (O3 p1 q3)), .val (.int (O4 p1 q3)), .val (.int (TF p1 q3)), .val (.int (VF p1 p2 q3)), .val (.ref b2), .unset] [(.int (NF p1))])) _
  refine XS.ifNo X3.here hx rfl (hb hby at_224) rfl ((if0 _ _).trans (tlt c0).2.2.2) ?_
  show Steps p.tables e below (T3.setTop (mkF m 227 #[.val (.int p1), .val (.int p2), .val (.long q3), .second, .val (.int (NF p1)), .val (.int (G0 q3)), .val (.int (G1 q3)), .val (.int (G2 q3)), .val (.int (G3 q3)), .val (.int (E0 p1 q3)), .val (.int (E1 p1 q3)), .val (.int (E2 p1 q3)), .val (.int (E3 p1 q3)), .val (.int (O1 p1 q3)), .val (.int (O2 p1 q3)), .val (.int (O3 p1 q3)), .val (.int (O4 p1 q3)), .val (.int (TF p1 q3)), .val (.int (VF p1 p2 q3)), .val (.ref b2), .unset] [])) _
  refine XS.aload X3.here hx rfl (hb hby at_227) rfl rfl ?_
  show Steps p.tables e below (T3.setTop (mkF m 229 #[.val (.int p1), .val (.int p2), .val (.long q3), .second, .val (.int (NF p1)), .val (.int (G0 q3)), .val (.int (G1 q3)), .val (.int (G2 q3)), .val (.int (G3 q3)), .val (.int (E0 p1 q3)), .val (.int (E1 p1 q3)), .val (.int (E2 p1 q3)), .val (.int (E3 p1 q3)), .val (.int (O1 p1 q3)), .val (.int (O2 p1 q3)), .val (.int (O3 p1 q3)), .val (.int (O4 p1 q3)), .val (.int (TF p1 q3)), .val (.int (VF p1 p2 q3)), .val (.ref b2), .unset] [(.ref b2)])) _
  refine XS.iload X3.here hx rfl (hb hby at_229) rfl ?_
  show Steps p.tables e below (T3.setTop (mkF m 231 #[.val (.int p1), .val (.int p2), .val (.long q3), .second, .val (.int (NF p1)), .val (.int (G0 q3)), .val (.int (G1 q3)), .val (.int (G2 q3)), .val (.int (G3 q3)), .val (.int (E0 p1 q3)), .val (.int (E1 p1 q3)), .val (.int (E2 p1 q3)), .val (.int (E3 p1 q3)), .val (.int (O1 p1 q3)), .val (.int (O2 p1 q3)), .val (.int (O3 p1 q3)), .val (.int (O4 p1 q3)), .val (.int (TF p1 q3)), .val (.int (VF p1 p2 q3)), .val (.ref b2), .unset] [(.int (VF p1 p2 q3)), (.ref b2)])) _
  refine XS.i2c X3.here hx rfl (hb hby at_231) rfl ?_
  show Steps p.tables e below (T3.setTop (mkF m 232 #[.val (.int p1), .val (.int p2), .val (.long q3), .second, .val (.int (NF p1)), .val (.int (G0 q3)), .val (.int (G1 q3)), .val (.int (G2 q3)), .val (.int (G3 q3)), .val (.int (E0 p1 q3)), .val (.int (E1 p1 q3)), .val (.int (E2 p1 q3)), .val (.int (E3 p1 q3)), .val (.int (O1 p1 q3)), .val (.int (O2 p1 q3)), .val (.int (O3 p1 q3)), .val (.int (O4 p1 q3)), .val (.int (TF p1 q3)), .val (.int (VF p1 p2 q3)), .val (.ref b2), .unset] [(.int (CF (VF p1 p2 q3))), (.ref b2)])) _
  refine XS.iconst X3.here hx rfl (hb hby at_232) ?_
  show Steps p.tables e below (T3.setTop (mkF m 233 #[.val (.int p1), .val (.int p2), .val (.long q3), .second, .val (.int (NF p1)), .val (.int (G0 q3)), .val (.int (G1 q3)), .val (.int (G2 q3)), .val (.int (G3 q3)), .val (.int (E0 p1 q3)), .val (.int (E1 p1 q3)), .val (.int (E2 p1 q3)), .val (.int (E3 p1 q3)), .val (.int (O1 p1 q3)), .val (.int (O2 p1 q3)), .val (.int (O3 p1 q3)), .val (.int (O4 p1 q3)), .val (.int (TF p1 q3)), .val (.int (VF p1 p2 q3)), .val (.ref b2), .unset] [(.int (5 : Int32)), (.int (CF (VF p1 p2 q3))), (.ref b2)])) _
  refine st4.trans ?_
  show Steps p.tables e below (T4.setTop (mkF m 236 #[.val (.int p1), .val (.int p2), .val (.long q3), .second, .val (.int (NF p1)), .val (.int (G0 q3)), .val (.int (G1 q3)), .val (.int (G2 q3)), .val (.int (G3 q3)), .val (.int (E0 p1 q3)), .val (.int (E1 p1 q3)), .val (.int (E2 p1 q3)), .val (.int (E3 p1 q3)), .val (.int (O1 p1 q3)), .val (.int (O2 p1 q3)), .val (.int (O3 p1 q3)), .val (.int (O4 p1 q3)), .val (.int (TF p1 q3)), .val (.int (VF p1 p2 q3)), .val (.ref b2), .unset] [])) _
  refine XS.iload X4.here hx rfl (hb hby at_236) rfl ?_
  show Steps p.tables e below (T4.setTop (mkF m 238 #[.val (.int p1), .val (.int p2), .val (.long q3), .second, .val (.int (NF p1)), .val (.int (G0 q3)), .val (.int (G1 q3)), .val (.int (G2 q3)), .val (.int (G3 q3)), .val (.int (E0 p1 q3)), .val (.int (E1 p1 q3)), .val (.int (E2 p1 q3)), .val (.int (E3 p1 q3)), .val (.int (O1 p1 q3)), .val (.int (O2 p1 q3)), .val (.int (O3 p1 q3)), .val (.int (O4 p1 q3)), .val (.int (TF p1 q3)), .val (.int (VF p1 p2 q3)), .val (.ref b2), .unset] [(.int (NF p1))])) _
  refine XS.iconst X4.here hx rfl (hb hby at_238) ?_
  show Steps p.tables e below (T4.setTop (mkF m 239 #[.val (.int p1), .val (.int p2), .val (.long q3), .second, .val (.int (NF p1)), .val (.int (G0 q3)), .val (.int (G1 q3)), .val (.int (G2 q3)), .val (.int (G3 q3)), .val (.int (E0 p1 q3)), .val (.int (E1 p1 q3)), .val (.int (E2 p1 q3)), .val (.int (E3 p1 q3)), .val (.int (O1 p1 q3)), .val (.int (O2 p1 q3)), .val (.int (O3 p1 q3)), .val (.int (O4 p1 q3)), .val (.int (TF p1 q3)), .val (.int (VF p1 p2 q3)), .val (.ref b2), .unset] [(.int (1 : Int32)), (.int (NF p1))])) _
  refine XS.icmpNo X4.here hx rfl (hb hby at_239) rfl (tlt c1).2.2.2 ?_
  show Steps p.tables e below (T4.setTop (mkF m 242 #[.val (.int p1), .val (.int p2), .val (.long q3), .second, .val (.int (NF p1)), .val (.int (G0 q3)), .val (.int (G1 q3)), .val (.int (G2 q3)), .val (.int (G3 q3)), .val (.int (E0 p1 q3)), .val (.int (E1 p1 q3)), .val (.int (E2 p1 q3)), .val (.int (E3 p1 q3)), .val (.int (O1 p1 q3)), .val (.int (O2 p1 q3)), .val (.int (O3 p1 q3)), .val (.int (O4 p1 q3)), .val (.int (TF p1 q3)), .val (.int (VF p1 p2 q3)), .val (.ref b2), .unset] [])) _
  refine XS.aload X4.here hx rfl (hb hby at_242) rfl rfl ?_
  show Steps p.tables e below (T4.setTop (mkF m 244 #[.val (.int p1), .val (.int p2), .val (.long q3), .second, .val (.int (NF p1)), .val (.int (G0 q3)), .val (.int (G1 q3)), .val (.int (G2 q3)), .val (.int (G3 q3)), .val (.int (E0 p1 q3)), .val (.int (E1 p1 q3)), .val (.int (E2 p1 q3)), .val (.int (E3 p1 q3)), .val (.int (O1 p1 q3)), .val (.int (O2 p1 q3)), .val (.int (O3 p1 q3)), .val (.int (O4 p1 q3)), .val (.int (TF p1 q3)), .val (.int (VF p1 p2 q3)), .val (.ref b2), .unset] [(.ref b2)])) _
  refine XS.iload X4.here hx rfl (hb hby at_244) rfl ?_
  show Steps p.tables e below (T4.setTop (mkF m 246 #[.val (.int p1), .val (.int p2), .val (.long q3), .second, .val (.int (NF p1)), .val (.int (G0 q3)), .val (.int (G1 q3)), .val (.int (G2 q3)), .val (.int (G3 q3)), .val (.int (E0 p1 q3)), .val (.int (E1 p1 q3)), .val (.int (E2 p1 q3)), .val (.int (E3 p1 q3)), .val (.int (O1 p1 q3)), .val (.int (O2 p1 q3)), .val (.int (O3 p1 q3)), .val (.int (O4 p1 q3)), .val (.int (TF p1 q3)), .val (.int (VF p1 p2 q3)), .val (.ref b2), .unset] [(.int (VF p1 p2 q3)), (.ref b2)])) _
  refine XS.iload X4.here hx rfl (hb hby at_246) rfl ?_
  show Steps p.tables e below (T4.setTop (mkF m 248 #[.val (.int p1), .val (.int p2), .val (.long q3), .second, .val (.int (NF p1)), .val (.int (G0 q3)), .val (.int (G1 q3)), .val (.int (G2 q3)), .val (.int (G3 q3)), .val (.int (E0 p1 q3)), .val (.int (E1 p1 q3)), .val (.int (E2 p1 q3)), .val (.int (E3 p1 q3)), .val (.int (O1 p1 q3)), .val (.int (O2 p1 q3)), .val (.int (O3 p1 q3)), .val (.int (O4 p1 q3)), .val (.int (TF p1 q3)), .val (.int (VF p1 p2 q3)), .val (.ref b2), .unset] [(.int (O1 p1 q3)), (.int (VF p1 p2 q3)), (.ref b2)])) _
  refine XS.iadd X4.here hx rfl (hb hby at_248) rfl ?_
  show Steps p.tables e below (T4.setTop (mkF m 249 #[.val (.int p1), .val (.int p2), .val (.long q3), .second, .val (.int (NF p1)), .val (.int (G0 q3)), .val (.int (G1 q3)), .val (.int (G2 q3)), .val (.int (G3 q3)), .val (.int (E0 p1 q3)), .val (.int (E1 p1 q3)), .val (.int (E2 p1 q3)), .val (.int (E3 p1 q3)), .val (.int (O1 p1 q3)), .val (.int (O2 p1 q3)), .val (.int (O3 p1 q3)), .val (.int (O4 p1 q3)), .val (.int (TF p1 q3)), .val (.int (VF p1 p2 q3)), .val (.ref b2), .unset] [(.int ((VF p1 p2 q3) + (O1 p1 q3))), (.ref b2)])) _
  refine XS.i2c X4.here hx rfl (hb hby at_249) rfl ?_
  show Steps p.tables e below (T4.setTop (mkF m 250 #[.val (.int p1), .val (.int p2), .val (.long q3), .second, .val (.int (NF p1)), .val (.int (G0 q3)), .val (.int (G1 q3)), .val (.int (G2 q3)), .val (.int (G3 q3)), .val (.int (E0 p1 q3)), .val (.int (E1 p1 q3)), .val (.int (E2 p1 q3)), .val (.int (E3 p1 q3)), .val (.int (O1 p1 q3)), .val (.int (O2 p1 q3)), .val (.int (O3 p1 q3)), .val (.int (O4 p1 q3)), .val (.int (TF p1 q3)), .val (.int (VF p1 p2 q3)), .val (.ref b2), .unset] [(.int (CF ((VF p1 p2 q3) + (O1 p1 q3)))), (.ref b2)])) _
  refine XS.iconst X4.here hx rfl (hb hby at_250) ?_
  show Steps p.tables e below (T4.setTop (mkF m 251 #[.val (.int p1), .val (.int p2), .val (.long q3), .second, .val (.int (NF p1)), .val (.int (G0 q3)), .val (.int (G1 q3)), .val (.int (G2 q3)), .val (.int (G3 q3)), .val (.int (E0 p1 q3)), .val (.int (E1 p1 q3)), .val (.int (E2 p1 q3)), .val (.int (E3 p1 q3)), .val (.int (O1 p1 q3)), .val (.int (O2 p1 q3)), .val (.int (O3 p1 q3)), .val (.int (O4 p1 q3)), .val (.int (TF p1 q3)), .val (.int (VF p1 p2 q3)), .val (.ref b2), .unset] [(.int (5 : Int32)), (.int (CF ((VF p1 p2 q3) + (O1 p1 q3)))), (.ref b2)])) _
  refine st5.trans ?_
  show Steps p.tables e below (T5.setTop (mkF m 254 #[.val (.int p1), .val (.int p2), .val (.long q3), .second, .val (.int (NF p1)), .val (.int (G0 q3)), .val (.int (G1 q3)), .val (.int (G2 q3)), .val (.int (G3 q3)), .val (.int (E0 p1 q3)), .val (.int (E1 p1 q3)), .val (.int (E2 p1 q3)), .val (.int (E3 p1 q3)), .val (.int (O1 p1 q3)), .val (.int (O2 p1 q3)), .val (.int (O3 p1 q3)), .val (.int (O4 p1 q3)), .val (.int (TF p1 q3)), .val (.int (VF p1 p2 q3)), .val (.ref b2), .unset] [])) _
  refine XS.iload X5.here hx rfl (hb hby at_254) rfl ?_
  show Steps p.tables e below (T5.setTop (mkF m 256 #[.val (.int p1), .val (.int p2), .val (.long q3), .second, .val (.int (NF p1)), .val (.int (G0 q3)), .val (.int (G1 q3)), .val (.int (G2 q3)), .val (.int (G3 q3)), .val (.int (E0 p1 q3)), .val (.int (E1 p1 q3)), .val (.int (E2 p1 q3)), .val (.int (E3 p1 q3)), .val (.int (O1 p1 q3)), .val (.int (O2 p1 q3)), .val (.int (O3 p1 q3)), .val (.int (O4 p1 q3)), .val (.int (TF p1 q3)), .val (.int (VF p1 p2 q3)), .val (.ref b2), .unset] [(.int (NF p1))])) _
  refine XS.iconst X5.here hx rfl (hb hby at_256) ?_
  show Steps p.tables e below (T5.setTop (mkF m 257 #[.val (.int p1), .val (.int p2), .val (.long q3), .second, .val (.int (NF p1)), .val (.int (G0 q3)), .val (.int (G1 q3)), .val (.int (G2 q3)), .val (.int (G3 q3)), .val (.int (E0 p1 q3)), .val (.int (E1 p1 q3)), .val (.int (E2 p1 q3)), .val (.int (E3 p1 q3)), .val (.int (O1 p1 q3)), .val (.int (O2 p1 q3)), .val (.int (O3 p1 q3)), .val (.int (O4 p1 q3)), .val (.int (TF p1 q3)), .val (.int (VF p1 p2 q3)), .val (.ref b2), .unset] [(.int (2 : Int32)), (.int (NF p1))])) _
  refine XS.icmpNo X5.here hx rfl (hb hby at_257) rfl (tlt c2).2.2.2 ?_
  show Steps p.tables e below (T5.setTop (mkF m 260 #[.val (.int p1), .val (.int p2), .val (.long q3), .second, .val (.int (NF p1)), .val (.int (G0 q3)), .val (.int (G1 q3)), .val (.int (G2 q3)), .val (.int (G3 q3)), .val (.int (E0 p1 q3)), .val (.int (E1 p1 q3)), .val (.int (E2 p1 q3)), .val (.int (E3 p1 q3)), .val (.int (O1 p1 q3)), .val (.int (O2 p1 q3)), .val (.int (O3 p1 q3)), .val (.int (O4 p1 q3)), .val (.int (TF p1 q3)), .val (.int (VF p1 p2 q3)), .val (.ref b2), .unset] [])) _
  refine XS.aload X5.here hx rfl (hb hby at_260) rfl rfl ?_
  show Steps p.tables e below (T5.setTop (mkF m 262 #[.val (.int p1), .val (.int p2), .val (.long q3), .second, .val (.int (NF p1)), .val (.int (G0 q3)), .val (.int (G1 q3)), .val (.int (G2 q3)), .val (.int (G3 q3)), .val (.int (E0 p1 q3)), .val (.int (E1 p1 q3)), .val (.int (E2 p1 q3)), .val (.int (E3 p1 q3)), .val (.int (O1 p1 q3)), .val (.int (O2 p1 q3)), .val (.int (O3 p1 q3)), .val (.int (O4 p1 q3)), .val (.int (TF p1 q3)), .val (.int (VF p1 p2 q3)), .val (.ref b2), .unset] [(.ref b2)])) _
  refine XS.iload X5.here hx rfl (hb hby at_262) rfl ?_
  show Steps p.tables e below (T5.setTop (mkF m 264 #[.val (.int p1), .val (.int p2), .val (.long q3), .second, .val (.int (NF p1)), .val (.int (G0 q3)), .val (.int (G1 q3)), .val (.int (G2 q3)), .val (.int (G3 q3)), .val (.int (E0 p1 q3)), .val (.int (E1 p1 q3)), .val (.int (E2 p1 q3)), .val (.int (E3 p1 q3)), .val (.int (O1 p1 q3)), .val (.int (O2 p1 q3)), .val (.int (O3 p1 q3)), .val (.int (O4 p1 q3)), .val (.int (TF p1 q3)), .val (.int (VF p1 p2 q3)), .val (.ref b2), .unset] [(.int (VF p1 p2 q3)), (.ref b2)])) _
  refine XS.iload X5.here hx rfl (hb hby at_264) rfl ?_
  show Steps p.tables e below (T5.setTop (mkF m 266 #[.val (.int p1), .val (.int p2), .val (.long q3), .second, .val (.int (NF p1)), .val (.int (G0 q3)), .val (.int (G1 q3)), .val (.int (G2 q3)), .val (.int (G3 q3)), .val (.int (E0 p1 q3)), .val (.int (E1 p1 q3)), .val (.int (E2 p1 q3)), .val (.int (E3 p1 q3)), .val (.int (O1 p1 q3)), .val (.int (O2 p1 q3)), .val (.int (O3 p1 q3)), .val (.int (O4 p1 q3)), .val (.int (TF p1 q3)), .val (.int (VF p1 p2 q3)), .val (.ref b2), .unset] [(.int (O2 p1 q3)), (.int (VF p1 p2 q3)), (.ref b2)])) _
  refine XS.iadd X5.here hx rfl (hb hby at_266) rfl ?_
  show Steps p.tables e below (T5.setTop (mkF m 267 #[.val (.int p1), .val (.int p2), .val (.long q3), .second, .val (.int (NF p1)), .val (.int (G0 q3)), .val (.int (G1 q3)), .val (.int (G2 q3)), .val (.int (G3 q3)), .val (.int (E0 p1 q3)), .val (.int (E1 p1 q3)), .val (.int (E2 p1 q3)), .val (.int (E3 p1 q3)), .val (.int (O1 p1 q3)), .val (.int (O2 p1 q3)), .val (.int (O3 p1 q3)), .val (.int (O4 p1 q3)), .val (.int (TF p1 q3)), .val (.int (VF p1 p2 q3)), .val (.ref b2), .unset] [(.int ((VF p1 p2 q3) + (O2 p1 q3))), (.ref b2)])) _
  refine XS.i2c X5.here hx rfl (hb hby at_267) rfl ?_
  show Steps p.tables e below (T5.setTop (mkF m 268 #[.val (.int p1), .val (.int p2), .val (.long q3), .second, .val (.int (NF p1)), .val (.int (G0 q3)), .val (.int (G1 q3)), .val (.int (G2 q3)), .val (.int (G3 q3)), .val (.int (E0 p1 q3)), .val (.int (E1 p1 q3)), .val (.int (E2 p1 q3)), .val (.int (E3 p1 q3)), .val (.int (O1 p1 q3)), .val (.int (O2 p1 q3)), .val (.int (O3 p1 q3)), .val (.int (O4 p1 q3)), .val (.int (TF p1 q3)), .val (.int (VF p1 p2 q3)), .val (.ref b2), .unset] [(.int (CF ((VF p1 p2 q3) + (O2 p1 q3)))), (.ref b2)])) _
  refine XS.iconst X5.here hx rfl (hb hby at_268) ?_
  show Steps p.tables e below (T5.setTop (mkF m 269 #[.val (.int p1), .val (.int p2), .val (.long q3), .second, .val (.int (NF p1)), .val (.int (G0 q3)), .val (.int (G1 q3)), .val (.int (G2 q3)), .val (.int (G3 q3)), .val (.int (E0 p1 q3)), .val (.int (E1 p1 q3)), .val (.int (E2 p1 q3)), .val (.int (E3 p1 q3)), .val (.int (O1 p1 q3)), .val (.int (O2 p1 q3)), .val (.int (O3 p1 q3)), .val (.int (O4 p1 q3)), .val (.int (TF p1 q3)), .val (.int (VF p1 p2 q3)), .val (.ref b2), .unset] [(.int (5 : Int32)), (.int (CF ((VF p1 p2 q3) + (O2 p1 q3)))), (.ref b2)])) _
  refine st6.trans ?_
  show Steps p.tables e below (T6.setTop (mkF m 272 #[.val (.int p1), .val (.int p2), .val (.long q3), .second, .val (.int (NF p1)), .val (.int (G0 q3)), .val (.int (G1 q3)), .val (.int (G2 q3)), .val (.int (G3 q3)), .val (.int (E0 p1 q3)), .val (.int (E1 p1 q3)), .val (.int (E2 p1 q3)), .val (.int (E3 p1 q3)), .val (.int (O1 p1 q3)), .val (.int (O2 p1 q3)), .val (.int (O3 p1 q3)), .val (.int (O4 p1 q3)), .val (.int (TF p1 q3)), .val (.int (VF p1 p2 q3)), .val (.ref b2), .unset] [])) _
  refine XS.iload X6.here hx rfl (hb hby at_272) rfl ?_
  show Steps p.tables e below (T6.setTop (mkF m 274 #[.val (.int p1), .val (.int p2), .val (.long q3), .second, .val (.int (NF p1)), .val (.int (G0 q3)), .val (.int (G1 q3)), .val (.int (G2 q3)), .val (.int (G3 q3)), .val (.int (E0 p1 q3)), .val (.int (E1 p1 q3)), .val (.int (E2 p1 q3)), .val (.int (E3 p1 q3)), .val (.int (O1 p1 q3)), .val (.int (O2 p1 q3)), .val (.int (O3 p1 q3)), .val (.int (O4 p1 q3)), .val (.int (TF p1 q3)), .val (.int (VF p1 p2 q3)), .val (.ref b2), .unset] [(.int (NF p1))])) _
  refine XS.iconst X6.here hx rfl (hb hby at_274) ?_
  show Steps p.tables e below (T6.setTop (mkF m 275 #[.val (.int p1), .val (.int p2), .val (.long q3), .second, .val (.int (NF p1)), .val (.int (G0 q3)), .val (.int (G1 q3)), .val (.int (G2 q3)), .val (.int (G3 q3)), .val (.int (E0 p1 q3)), .val (.int (E1 p1 q3)), .val (.int (E2 p1 q3)), .val (.int (E3 p1 q3)), .val (.int (O1 p1 q3)), .val (.int (O2 p1 q3)), .val (.int (O3 p1 q3)), .val (.int (O4 p1 q3)), .val (.int (TF p1 q3)), .val (.int (VF p1 p2 q3)), .val (.ref b2), .unset] [(.int (3 : Int32)), (.int (NF p1))])) _
  refine XS.icmpYes X6.here hx rfl (pc0 := 275) (pc' := 290) rfl (hb hby at_275) rfl (flt c3).2.2.2 (by decide) (by decide) ?_
  show Steps p.tables e below (T6.setTop (mkF m 290 #[.val (.int p1), .val (.int p2), .val (.long q3), .second, .val (.int (NF p1)), .val (.int (G0 q3)), .val (.int (G1 q3)), .val (.int (G2 q3)), .val (.int (G3 q3)), .val (.int (E0 p1 q3)), .val (.int (E1 p1 q3)), .val (.int (E2 p1 q3)), .val (.int (E3 p1 q3)), .val (.int (O1 p1 q3)), .val (.int (O2 p1 q3)), .val (.int (O3 p1 q3)), .val (.int (O4 p1 q3)), .val (.int (TF p1 q3)), .val (.int (VF p1 p2 q3)), .val (.ref b2), .unset] [])) _
  refine XS.iload X6.here hx rfl (hb hby at_290) rfl ?_
  show Steps p.tables e below (T6.setTop (mkF m 292 #[.val (.int p1), .val (.int p2), .val (.long q3), .second, .val (.int (NF p1)), .val (.int (G0 q3)), .val (.int (G1 q3)), .val (.int (G2 q3)), .val (.int (G3 q3)), .val (.int (E0 p1 q3)), .val (.int (E1 p1 q3)), .val (.int (E2 p1 q3)), .val (.int (E3 p1 q3)), .val (.int (O1 p1 q3)), .val (.int (O2 p1 q3)), .val (.int (O3 p1 q3)), .val (.int (O4 p1 q3)), .val (.int (TF p1 q3)), .val (.int (VF p1 p2 q3)), .val (.ref b2), .unset] [(.int (NF p1))])) _
  refine XS.iconst X6.here hx rfl (hb hby at_292) ?_
  show Steps p.tables e below (T6.setTop (mkF m 293 #[.val (.int p1), .val (.int p2), .val (.long q3), .second, .val (.int (NF p1)), .val (.int (G0 q3)), .val (.int (G1 q3)), .val (.int (G2 q3)), .val (.int (G3 q3)), .val (.int (E0 p1 q3)), .val (.int (E1 p1 q3)), .val (.int (E2 p1 q3)), .val (.int (E3 p1 q3)), .val (.int (O1 p1 q3)), .val (.int (O2 p1 q3)), .val (.int (O3 p1 q3)), .val (.int (O4 p1 q3)), .val (.int (TF p1 q3)), .val (.int (VF p1 p2 q3)), .val (.ref b2), .unset] [(.int (4 : Int32)), (.int (NF p1))])) _
  refine XS.icmpYes X6.here hx rfl (pc0 := 293) (pc' := 308) rfl (hb hby at_293) rfl (flt c4).2.2.2 (by decide) (by decide) ?_
  show Steps p.tables e below (T6.setTop (mkF m 308 #[.val (.int p1), .val (.int p2), .val (.long q3), .second, .val (.int (NF p1)), .val (.int (G0 q3)), .val (.int (G1 q3)), .val (.int (G2 q3)), .val (.int (G3 q3)), .val (.int (E0 p1 q3)), .val (.int (E1 p1 q3)), .val (.int (E2 p1 q3)), .val (.int (E3 p1 q3)), .val (.int (O1 p1 q3)), .val (.int (O2 p1 q3)), .val (.int (O3 p1 q3)), .val (.int (O4 p1 q3)), .val (.int (TF p1 q3)), .val (.int (VF p1 p2 q3)), .val (.ref b2), .unset] [])) _
  refine sg_308 p1 p2 q3 b2 X6 hx hZ hw hby hown _ ?_
  show Steps p.tables e below (T6.setTop (mkF m 364 #[.val (.int p1), .val (.int p2), .val (.long q3), .second, .val (.int (NF p1)), .val (.int (G0 q3)), .val (.int (G1 q3)), .val (.int (G2 q3)), .val (.int (G3 q3)), .val (.int (E0 p1 q3)), .val (.int (E1 p1 q3)), .val (.int (E2 p1 q3)), .val (.int (E3 p1 q3)), .val (.int (O1 p1 q3)), .val (.int (O2 p1 q3)), .val (.int (O3 p1 q3)), .val (.int (O4 p1 q3)), .val (.int (TF p1 q3)), .val (.int (VF p1 p2 q3)), .val (.ref b2), .val (.int (XF p1 q3))] [])) _
  refine XS.aload X6.here hx rfl (hb hby at_364) rfl rfl ?_
  show Steps p.tables e below (T6.setTop (mkF m 366 #[.val (.int p1), .val (.int p2), .val (.long q3), .second, .val (.int (NF p1)), .val (.int (G0 q3)), .val (.int (G1 q3)), .val (.int (G2 q3)), .val (.int (G3 q3)), .val (.int (E0 p1 q3)), .val (.int (E1 p1 q3)), .val (.int (E2 p1 q3)), .val (.int (E3 p1 q3)), .val (.int (O1 p1 q3)), .val (.int (O2 p1 q3)), .val (.int (O3 p1 q3)), .val (.int (O4 p1 q3)), .val (.int (TF p1 q3)), .val (.int (VF p1 p2 q3)), .val (.ref b2), .val (.int (XF p1 q3))] [(.ref b2)])) _
  refine st7.trans ?_
  show Steps p.tables e below (T7.setTop (mkF m 369 #[.val (.int p1), .val (.int p2), .val (.long q3), .second, .val (.int (NF p1)), .val (.int (G0 q3)), .val (.int (G1 q3)), .val (.int (G2 q3)), .val (.int (G3 q3)), .val (.int (E0 p1 q3)), .val (.int (E1 p1 q3)), .val (.int (E2 p1 q3)), .val (.int (E3 p1 q3)), .val (.int (O1 p1 q3)), .val (.int (O2 p1 q3)), .val (.int (O3 p1 q3)), .val (.int (O4 p1 q3)), .val (.int (TF p1 q3)), .val (.int (VF p1 p2 q3)), .val (.ref b2), .val (.int (XF p1 q3))] [(.int (runs (xs3 p1 p2 q3) 2 1 (3 : Int32)))])) _
  refine XS.iload X7.here hx rfl (hb hby at_369) rfl ?_
  show Steps p.tables e below (T7.setTop (mkF m 371 #[.val (.int p1), .val (.int p2), .val (.long q3), .second, .val (.int (NF p1)), .val (.int (G0 q3)), .val (.int (G1 q3)), .val (.int (G2 q3)), .val (.int (G3 q3)), .val (.int (E0 p1 q3)), .val (.int (E1 p1 q3)), .val (.int (E2 p1 q3)), .val (.int (E3 p1 q3)), .val (.int (O1 p1 q3)), .val (.int (O2 p1 q3)), .val (.int (O3 p1 q3)), .val (.int (O4 p1 q3)), .val (.int (TF p1 q3)), .val (.int (VF p1 p2 q3)), .val (.ref b2), .val (.int (XF p1 q3))] [(.int (XF p1 q3)), (.int (runs (xs3 p1 p2 q3) 2 1 (3 : Int32)))])) _
  refine XS.icmpNo X7.here hx rfl (hb hby at_371) rfl (teq (own_case3 p1 p2 q3 hn)).2 ?_
  show Steps p.tables e below (T7.setTop (mkF m 374 #[.val (.int p1), .val (.int p2), .val (.long q3), .second, .val (.int (NF p1)), .val (.int (G0 q3)), .val (.int (G1 q3)), .val (.int (G2 q3)), .val (.int (G3 q3)), .val (.int (E0 p1 q3)), .val (.int (E1 p1 q3)), .val (.int (E2 p1 q3)), .val (.int (E3 p1 q3)), .val (.int (O1 p1 q3)), .val (.int (O2 p1 q3)), .val (.int (O3 p1 q3)), .val (.int (O4 p1 q3)), .val (.int (TF p1 q3)), .val (.int (VF p1 p2 q3)), .val (.ref b2), .val (.int (XF p1 q3))] [])) _
  refine XS.aload X7.here hx rfl (hb hby at_374) rfl rfl ?_
  show Steps p.tables e below (T7.setTop (mkF m 376 #[.val (.int p1), .val (.int p2), .val (.long q3), .second, .val (.int (NF p1)), .val (.int (G0 q3)), .val (.int (G1 q3)), .val (.int (G2 q3)), .val (.int (G3 q3)), .val (.int (E0 p1 q3)), .val (.int (E1 p1 q3)), .val (.int (E2 p1 q3)), .val (.int (E3 p1 q3)), .val (.int (O1 p1 q3)), .val (.int (O2 p1 q3)), .val (.int (O3 p1 q3)), .val (.int (O4 p1 q3)), .val (.int (TF p1 q3)), .val (.int (VF p1 p2 q3)), .val (.ref b2), .val (.int (XF p1 q3))] [(.ref b2)])) _
  refine st8.trans ?_
  show Steps p.tables e below (T8.setTop (mkF m 379 #[.val (.int p1), .val (.int p2), .val (.long q3), .second, .val (.int (NF p1)), .val (.int (G0 q3)), .val (.int (G1 q3)), .val (.int (G2 q3)), .val (.int (G3 q3)), .val (.int (E0 p1 q3)), .val (.int (E1 p1 q3)), .val (.int (E2 p1 q3)), .val (.int (E3 p1 q3)), .val (.int (O1 p1 q3)), .val (.int (O2 p1 q3)), .val (.int (O3 p1 q3)), .val (.int (O4 p1 q3)), .val (.int (TF p1 q3)), .val (.int (VF p1 p2 q3)), .val (.ref b2), .val (.int (XF p1 q3))] [(.int (3 : Int32))])) _
  refine XS.iload X8.here hx rfl (hb hby at_379) rfl ?_
  show Steps p.tables e below (T8.setTop (mkF m 381 #[.val (.int p1), .val (.int p2), .val (.long q3), .second, .val (.int (NF p1)), .val (.int (G0 q3)), .val (.int (G1 q3)), .val (.int (G2 q3)), .val (.int (G3 q3)), .val (.int (E0 p1 q3)), .val (.int (E1 p1 q3)), .val (.int (E2 p1 q3)), .val (.int (E3 p1 q3)), .val (.int (O1 p1 q3)), .val (.int (O2 p1 q3)), .val (.int (O3 p1 q3)), .val (.int (O4 p1 q3)), .val (.int (TF p1 q3)), .val (.int (VF p1 p2 q3)), .val (.ref b2), .val (.int (XF p1 q3))] [(.int (NF p1)), (.int (3 : Int32))])) _
  refine XS.icmpNo X8.here hx rfl (hb hby at_381) rfl (teq hn.symm).2 ?_
  show Steps p.tables e below (T8.setTop (mkF m 384 #[.val (.int p1), .val (.int p2), .val (.long q3), .second, .val (.int (NF p1)), .val (.int (G0 q3)), .val (.int (G1 q3)), .val (.int (G2 q3)), .val (.int (G3 q3)), .val (.int (E0 p1 q3)), .val (.int (E1 p1 q3)), .val (.int (E2 p1 q3)), .val (.int (E3 p1 q3)), .val (.int (O1 p1 q3)), .val (.int (O2 p1 q3)), .val (.int (O3 p1 q3)), .val (.int (O4 p1 q3)), .val (.int (TF p1 q3)), .val (.int (VF p1 p2 q3)), .val (.ref b2), .val (.int (XF p1 q3))] [])) _
  refine XS.iconst X8.here hx rfl (hb hby at_384) ?_
  show Steps p.tables e below (T8.setTop (mkF m 385 #[.val (.int p1), .val (.int p2), .val (.long q3), .second, .val (.int (NF p1)), .val (.int (G0 q3)), .val (.int (G1 q3)), .val (.int (G2 q3)), .val (.int (G3 q3)), .val (.int (E0 p1 q3)), .val (.int (E1 p1 q3)), .val (.int (E2 p1 q3)), .val (.int (E3 p1 q3)), .val (.int (O1 p1 q3)), .val (.int (O2 p1 q3)), .val (.int (O3 p1 q3)), .val (.int (O4 p1 q3)), .val (.int (TF p1 q3)), .val (.int (VF p1 p2 q3)), .val (.ref b2), .val (.int (XF p1 q3))] [(.int (1 : Int32))])) _
  refine XS.goto X8.here hx rfl (pc0 := 385) (pc' := 389) rfl (hb hby at_385) (by decide) (by decide) ?_
  show Steps p.tables e below (T8.setTop (mkF m 389 #[.val (.int p1), .val (.int p2), .val (.long q3), .second, .val (.int (NF p1)), .val (.int (G0 q3)), .val (.int (G1 q3)), .val (.int (G2 q3)), .val (.int (G3 q3)), .val (.int (E0 p1 q3)), .val (.int (E1 p1 q3)), .val (.int (E2 p1 q3)), .val (.int (E3 p1 q3)), .val (.int (O1 p1 q3)), .val (.int (O2 p1 q3)), .val (.int (O3 p1 q3)), .val (.int (O4 p1 q3)), .val (.int (TF p1 q3)), .val (.int (VF p1 p2 q3)), .val (.ref b2), .val (.int (XF p1 q3))] [(.int (1 : Int32))])) _
  exact retN X8 hx (t := .boolean) Bd.returns (by simp) (hb hby at_389) hr
set_option maxRecDepth 65536 in
set_option maxHeartbeats 40000000 in
theorem rm0_4 (l : Launch) (Z : State) (a0 : Array Value) (hw : ∀ d ∈ tables_1, d.before a0 Z = true) (ws : List Jvm.Cond) (p1 : Int32) (p2 : Int32) (q3 : Int64) (h0 : Heap) (n0 : Nat) (Z0 : n0 ≤ h0.size) (hn : NF p1 = 4) :
    MetFree l x (head1 (Jvm.Cond.code x code maxLocals ret :: ws) room_1) (fun a U => a = #[(.int p1), (.int p2), (.long q3)] ∧ Z.Warmed39 U.vm ∧ U.heap = h0) (fun _ _ _ _ _ => True) (fun _ U o U' => ∃ v L, o = .returned v ∧ Q0 Z p1 p2 q3 h0 n0 v U'.heap L ∧ FrameEnd U o U' L room_1.cells room_1.slots) := by
  refine MetFree.of_bodySF (plainFor_of_name pn_0) hisR ?_
  intro p e s m args below meth c s₁ Bd hml0 hP hK
  obtain ⟨rfl, hZ, hh⟩ := hP
  have hx := Bd.exec
  have hby := Bd.bytes
  have hml : c.maxLocals = 21 := hml0
  have hown : s.vm.findClass "bitcove/ArrayContainerRunCountPinLaw" = some m.cls := findClass_of_methodNamed Bd.named
  have hnm := (name_of_methodNamed Bd.named Bd.method).1
  have X0 : Stand p l e room_1 s m #[(.int p1), (.int p2), (.long q3)] below meth c s₁ [] 0 0 := Stand.of_body Bd
  have e0 : s₁.heap = h0 := by rw [← hh, Bd.state]; rfl
  have N0 := Fr.nil n0
  have pre0 : ∀ t, Steps p.tables e below (s₁.setTop (mkF m 0 #[.val (.int p1), .val (.int p2), .val (.long q3), .second, .unset, .unset, .unset, .unset, .unset, .unset, .unset, .unset, .unset, .unset, .unset, .unset, .unset, .unset, .unset, .unset, .unset] [])) t → Steps p.tables e below (s₁.setTop (entryFrame m #[(.int p1), (.int p2), (.long q3)] maxLocals)) t := fun t k => castTop (ef_0 m p1 p2 q3) k
  obtain ⟨T2, h2, X2, e2, Ex2, A2, D2, -, st2⟩ := newO X0 hx hZ hown (hw _ (List.mem_of_getElem? (i := 3) rfl)) (hw _ (List.mem_of_getElem? (i := 4) rfl)) (hw _ (List.mem_of_getElem? (i := 5) rfl)) e0 (g := (mkF m 213 #[.val (.int p1), .val (.int p2), .val (.long q3), .second, .val (.int (NF p1)), .val (.int (G0 q3)), .val (.int (G1 q3)), .val (.int (G2 q3)), .val (.int (G3 q3)), .val (.int (E0 p1 q3)), .val (.int (E1 p1 q3)), .val (.int (E2 p1 q3)), .val (.int (E3 p1 q3)), .val (.int (O1 p1 q3)), .val (.int (O2 p1 q3)), .val (.int (O3 p1 q3)), .val (.int (O4 p1 q3)), .val (.int (TF p1 q3)), .val (.int (VF p1 p2 q3)), .unset, .unset] [])) rfl (hb hby at_213) (by decide) (by decide)
  obtain ⟨b2, g2⟩ : ∃ z, z = h0.size := ⟨_, rfl⟩
  rw [← g2] at A2 D2 st2
  have Fv2 : Fld Z h2 b2 "bitcove/ArrayContainer" "values" "[C" .null := D2 (Or.inl (hw _ (List.mem_of_getElem? (i := 32) rfl))) (ty := (.array .char)) (by decide)
  have Fc2 : Fld Z h2 b2 "bitcove/ArrayContainer" "cardinality" "I" (.int (0 : Int32)) := D2 (Or.inl (hw _ (List.mem_of_getElem? (i := 34) rfl))) (ty := .int) (by decide)
  have g_b2 : n0 ≤ b2 := Nat.le_trans Z0 (Nat.le_of_eq g2.symm)
  have Z2 : n0 ≤ h2.size := Nat.le_trans Z0 Ex2.1
  obtain ⟨_, _, ⟨T3, L3, k3, n3⟩, -, X3, ⟨Lc3, hQ3, l3, y3, z3⟩, st3⟩ := X2.specialBack hx (y := (⟨"bitcove/ArrayContainer", "<init>", "()V"⟩ : MethodName)) rfl hown (mvT hZ (hw _ (List.mem_of_getElem? (i := 6) rfl))) (mvT hZ (hw _ (List.mem_of_getElem? (i := 7) rfl))) (mvT hZ (hw _ (List.mem_of_getElem? (i := 8) rfl))) (by decide) (backOf (W := 1) (rm1 l Z a0 hw [] b2 h2 n0 Z2 _ _ A2 Fv2 Fc2 g_b2) hZ (hw _ (List.mem_of_getElem? (i := 8) rfl)) (hw _ (List.mem_of_getElem? (i := 5) rfl)) (by decide) (by decide)) (g := (mkF m 217 #[.val (.int p1), .val (.int p2), .val (.long q3), .second, .val (.int (NF p1)), .val (.int (G0 q3)), .val (.int (G1 q3)), .val (.int (G2 q3)), .val (.int (G3 q3)), .val (.int (E0 p1 q3)), .val (.int (E1 p1 q3)), .val (.int (E2 p1 q3)), .val (.int (E3 p1 q3)), .val (.int (O1 p1 q3)), .val (.int (O2 p1 q3)), .val (.int (O3 p1 q3)), .val (.int (O4 p1 q3)), .val (.int (TF p1 q3)), .val (.int (VF p1 p2 q3)), .unset, .unset] [(.ref b2), (.ref b2)])) rfl (by rw [hml]; rfl) (Steps.refl _) (a := b2) (argsL := []) (rest := [(.ref b2)]) (lenOf pd_v rfl) rfl (by show 2 * 0 + _ ≤ _; exact Nat.le_of_eq rfl) (hb hby at_217) (fun _ _ => ⟨rfl, e2, (by decide : 1 + 1 ≤ _), (by decide : 2 + 4 ≤ _)⟩)
  dsimp only [Pt.U, Pt.locs, Pt.cells, Pt.slots] at X3 l3 y3 z3 st3 hQ3
  subst l3 y3 z3
  obtain ⟨rfl, N3q, K3, t3, kk3, gt3, B3⟩ := hQ3
  have N3 := Fr.app N0 N3q
  have Z3 : n0 ≤ T3.heap.size := Nat.le_trans Z2 K3.1
  obtain ⟨cq4, kq4, q4a, q4b, q4c⟩ := isOf hZ rfl B3.1
  obtain ⟨_, _, ⟨T4, L4, k4, n4⟩, -, X4, ⟨Lc4, hQ4, l4, y4, z4⟩, st4⟩ := X3.virtualBack hx (y := (⟨"bitcove/ArrayContainer", "append", "(CI)V"⟩ : MethodName)) (z := (⟨"bitcove/ArrayContainer", "append", "(CI)V"⟩ : MethodName)) hown (mvT hZ (hw _ (List.mem_of_getElem? (i := 45) rfl))) (mvT hZ (hw _ (List.mem_of_getElem? (i := 46) rfl))) (notFace_of_selects (args := #[]) (mvT hZ (hw _ (List.mem_of_getElem? (i := 48) rfl)))) (mvT hZ (hw _ (List.mem_of_getElem? (i := 48) rfl))) (mvT hZ (hw _ (List.mem_of_getElem? (i := 47) rfl))) (by decide) (backOf (W := 0) (rm9f l Z a0 hw [] b2 (CF (VF p1 p2 q3)) t3 kk3 (4 : Int32) [(.int (0 : Int32)), (.int (0 : Int32)), (.int (0 : Int32)), (.int (0 : Int32))] T3.heap n0 Z3 B3 g_b2) hZ (hw _ (List.mem_of_getElem? (i := 49) rfl)) (hw _ (List.mem_of_getElem? (i := 5) rfl)) (by decide) (by decide)) q4a q4c (g := (mkF m 233 #[.val (.int p1), .val (.int p2), .val (.long q3), .second, .val (.int (NF p1)), .val (.int (G0 q3)), .val (.int (G1 q3)), .val (.int (G2 q3)), .val (.int (G3 q3)), .val (.int (E0 p1 q3)), .val (.int (E1 p1 q3)), .val (.int (E2 p1 q3)), .val (.int (E3 p1 q3)), .val (.int (O1 p1 q3)), .val (.int (O2 p1 q3)), .val (.int (O3 p1 q3)), .val (.int (O4 p1 q3)), .val (.int (TF p1 q3)), .val (.int (VF p1 p2 q3)), .val (.ref b2), .unset] [(.int (5 : Int32)), (.int (CF (VF p1 p2 q3))), (.ref b2)])) rfl (by rw [hml]; rfl) (Steps.refl _) (argsL := [(.int (CF (VF p1 p2 q3))), (.int (5 : Int32))]) (rest := []) (lenOf pd_a rfl) rfl (by show 2 * 0 + _ ≤ _; exact Nat.le_of_eq rfl) (hb hby at_233) (fun _ _ => ⟨rfl, rfl, (by decide : 2 + 1 ≤ _), (by decide : 6 + 5 ≤ _)⟩)
  dsimp only [Pt.U, Pt.locs, Pt.cells, Pt.slots] at X4 l4 y4 z4 st4 hQ4
  subst l4 y4 z4
  obtain ⟨rfl, N4q, t4, kk4, gt4, K4, B4⟩ := hQ4
  have N4 := Fr.app N3 N4q
  have Z4 : n0 ≤ T4.heap.size := Nat.le_trans Z3 K4.1
  have g_t : n0 ≤ t4 := Nat.le_trans Z3 gt4
  obtain ⟨cq5, kq5, q5a, q5b, q5c⟩ := isOf hZ rfl B4.1
  obtain ⟨_, _, ⟨T5, L5, k5, n5⟩, -, X5, ⟨Lc5, hQ5, l5, y5, z5⟩, st5⟩ := X4.virtualBack hx (y := (⟨"bitcove/ArrayContainer", "append", "(CI)V"⟩ : MethodName)) (z := (⟨"bitcove/ArrayContainer", "append", "(CI)V"⟩ : MethodName)) hown (mvT hZ (hw _ (List.mem_of_getElem? (i := 45) rfl))) (mvT hZ (hw _ (List.mem_of_getElem? (i := 46) rfl))) (notFace_of_selects (args := #[]) (mvT hZ (hw _ (List.mem_of_getElem? (i := 48) rfl)))) (mvT hZ (hw _ (List.mem_of_getElem? (i := 48) rfl))) (mvT hZ (hw _ (List.mem_of_getElem? (i := 47) rfl))) (by decide) (backOf (W := 0) (rm9t l Z a0 hw [] b2 (CF ((VF p1 p2 q3) + (O1 p1 q3))) (5 : Int32) (1 : Int32) (2 : Int32) t4 kk4 (5 : Int32) [(.int (nar .char (CF (VF p1 p2 q3)))), (.int (0 : Int32)), (.int (0 : Int32)), (.int (0 : Int32)), (.int (0 : Int32))] 1 T4.heap n0 Z4 B4 g_b2 g_t ⟨by decide, by decide⟩ (by decide) (by decide) (Nat.le_of_ble_eq_true rfl) (by decide)) hZ (hw _ (List.mem_of_getElem? (i := 49) rfl)) (hw _ (List.mem_of_getElem? (i := 5) rfl)) (by decide) (by decide)) q5a q5c (g := (mkF m 251 #[.val (.int p1), .val (.int p2), .val (.long q3), .second, .val (.int (NF p1)), .val (.int (G0 q3)), .val (.int (G1 q3)), .val (.int (G2 q3)), .val (.int (G3 q3)), .val (.int (E0 p1 q3)), .val (.int (E1 p1 q3)), .val (.int (E2 p1 q3)), .val (.int (E3 p1 q3)), .val (.int (O1 p1 q3)), .val (.int (O2 p1 q3)), .val (.int (O3 p1 q3)), .val (.int (O4 p1 q3)), .val (.int (TF p1 q3)), .val (.int (VF p1 p2 q3)), .val (.ref b2), .unset] [(.int (5 : Int32)), (.int (CF ((VF p1 p2 q3) + (O1 p1 q3)))), (.ref b2)])) rfl (by rw [hml]; rfl) (Steps.refl _) (argsL := [(.int (CF ((VF p1 p2 q3) + (O1 p1 q3)))), (.int (5 : Int32))]) (rest := []) (lenOf pd_a rfl) rfl (by show 2 * 0 + _ ≤ _; exact Nat.le_of_eq rfl) (hb hby at_251) (fun _ _ => ⟨rfl, rfl, (by decide : 3 + 0 ≤ _), (by decide : 11 + 0 ≤ _)⟩)
  dsimp only [Pt.U, Pt.locs, Pt.cells, Pt.slots] at X5 l5 y5 z5 st5 hQ5
  subst l5 y5 z5
  obtain ⟨rfl, N5q, K5, B5⟩ := hQ5
  have N5 := Fr.app N4 N5q
  have Z5 : n0 ≤ T5.heap.size := Nat.le_trans Z4 K5.1
  obtain ⟨cq6, kq6, q6a, q6b, q6c⟩ := isOf hZ rfl B5.1
  obtain ⟨_, _, ⟨T6, L6, k6, n6⟩, -, X6, ⟨Lc6, hQ6, l6, y6, z6⟩, st6⟩ := X5.virtualBack hx (y := (⟨"bitcove/ArrayContainer", "append", "(CI)V"⟩ : MethodName)) (z := (⟨"bitcove/ArrayContainer", "append", "(CI)V"⟩ : MethodName)) hown (mvT hZ (hw _ (List.mem_of_getElem? (i := 45) rfl))) (mvT hZ (hw _ (List.mem_of_getElem? (i := 46) rfl))) (notFace_of_selects (args := #[]) (mvT hZ (hw _ (List.mem_of_getElem? (i := 48) rfl)))) (mvT hZ (hw _ (List.mem_of_getElem? (i := 48) rfl))) (mvT hZ (hw _ (List.mem_of_getElem? (i := 47) rfl))) (by decide) (backOf (W := 0) (rm9t l Z a0 hw [] b2 (CF ((VF p1 p2 q3) + (O2 p1 q3))) (5 : Int32) (2 : Int32) (3 : Int32) t4 kk4 (5 : Int32) (List.set [(.int (nar .char (CF (VF p1 p2 q3)))), (.int (0 : Int32)), (.int (0 : Int32)), (.int (0 : Int32)), (.int (0 : Int32))] 1 (.int (nar .char (CF ((VF p1 p2 q3) + (O1 p1 q3)))))) 2 T5.heap n0 Z5 B5 g_b2 g_t ⟨by decide, by decide⟩ (by decide) (by decide) (Nat.le_of_ble_eq_true rfl) (by decide)) hZ (hw _ (List.mem_of_getElem? (i := 49) rfl)) (hw _ (List.mem_of_getElem? (i := 5) rfl)) (by decide) (by decide)) q6a q6c (g := (mkF m 269 #[.val (.int p1), .val (.int p2), .val (.long q3), .second, .val (.int (NF p1)), .val (.int (G0 q3)), .val (.int (G1 q3)), .val (.int (G2 q3)), .val (.int (G3 q3)), .val (.int (E0 p1 q3)), .val (.int (E1 p1 q3)), .val (.int (E2 p1 q3)), .val (.int (E3 p1 q3)), .val (.int (O1 p1 q3)), .val (.int (O2 p1 q3)), .val (.int (O3 p1 q3)), .val (.int (O4 p1 q3)), .val (.int (TF p1 q3)), .val (.int (VF p1 p2 q3)), .val (.ref b2), .unset] [(.int (5 : Int32)), (.int (CF ((VF p1 p2 q3) + (O2 p1 q3)))), (.ref b2)])) rfl (by rw [hml]; rfl) (Steps.refl _) (argsL := [(.int (CF ((VF p1 p2 q3) + (O2 p1 q3)))), (.int (5 : Int32))]) (rest := []) (lenOf pd_a rfl) rfl (by show 2 * 0 + _ ≤ _; exact Nat.le_of_eq rfl) (hb hby at_269) (fun _ _ => ⟨rfl, rfl, (by decide : 3 + 0 ≤ _), (by decide : 11 + 0 ≤ _)⟩)
  dsimp only [Pt.U, Pt.locs, Pt.cells, Pt.slots] at X6 l6 y6 z6 st6 hQ6
  subst l6 y6 z6
  obtain ⟨rfl, N6q, K6, B6⟩ := hQ6
  have N6 := Fr.app N5 N6q
  have Z6 : n0 ≤ T6.heap.size := Nat.le_trans Z5 K6.1
  obtain ⟨cq7, kq7, q7a, q7b, q7c⟩ := isOf hZ rfl B6.1
  obtain ⟨_, _, ⟨T7, L7, k7, n7⟩, -, X7, ⟨Lc7, hQ7, l7, y7, z7⟩, st7⟩ := X6.virtualBack hx (y := (⟨"bitcove/ArrayContainer", "append", "(CI)V"⟩ : MethodName)) (z := (⟨"bitcove/ArrayContainer", "append", "(CI)V"⟩ : MethodName)) hown (mvT hZ (hw _ (List.mem_of_getElem? (i := 45) rfl))) (mvT hZ (hw _ (List.mem_of_getElem? (i := 46) rfl))) (notFace_of_selects (args := #[]) (mvT hZ (hw _ (List.mem_of_getElem? (i := 48) rfl)))) (mvT hZ (hw _ (List.mem_of_getElem? (i := 48) rfl))) (mvT hZ (hw _ (List.mem_of_getElem? (i := 47) rfl))) (by decide) (backOf (W := 0) (rm9t l Z a0 hw [] b2 (CF ((VF p1 p2 q3) + (O3 p1 q3))) (5 : Int32) (3 : Int32) (4 : Int32) t4 kk4 (5 : Int32) (List.set (List.set [(.int (nar .char (CF (VF p1 p2 q3)))), (.int (0 : Int32)), (.int (0 : Int32)), (.int (0 : Int32)), (.int (0 : Int32))] 1 (.int (nar .char (CF ((VF p1 p2 q3) + (O1 p1 q3)))))) 2 (.int (nar .char (CF ((VF p1 p2 q3) + (O2 p1 q3)))))) 3 T6.heap n0 Z6 B6 g_b2 g_t ⟨by decide, by decide⟩ (by decide) (by decide) (Nat.le_of_ble_eq_true rfl) (by decide)) hZ (hw _ (List.mem_of_getElem? (i := 49) rfl)) (hw _ (List.mem_of_getElem? (i := 5) rfl)) (by decide) (by decide)) q7a q7c (g := (mkF m 287 #[.val (.int p1), .val (.int p2), .val (.long q3), .second, .val (.int (NF p1)), .val (.int (G0 q3)), .val (.int (G1 q3)), .val (.int (G2 q3)), .val (.int (G3 q3)), .val (.int (E0 p1 q3)), .val (.int (E1 p1 q3)), .val (.int (E2 p1 q3)), .val (.int (E3 p1 q3)), .val (.int (O1 p1 q3)), .val (.int (O2 p1 q3)), .val (.int (O3 p1 q3)), .val (.int (O4 p1 q3)), .val (.int (TF p1 q3)), .val (.int (VF p1 p2 q3)), .val (.ref b2), .unset] [(.int (5 : Int32)), (.int (CF ((VF p1 p2 q3) + (O3 p1 q3)))), (.ref b2)])) rfl (by rw [hml]; rfl) (Steps.refl _) (argsL := [(.int (CF ((VF p1 p2 q3) + (O3 p1 q3)))), (.int (5 : Int32))]) (rest := []) (lenOf pd_a rfl) rfl (by show 2 * 0 + _ ≤ _; exact Nat.le_of_eq rfl) (hb hby at_287) (fun _ _ => ⟨rfl, rfl, (by decide : 3 + 0 ≤ _), (by decide : 11 + 0 ≤ _)⟩)
  dsimp only [Pt.U, Pt.locs, Pt.cells, Pt.slots] at X7 l7 y7 z7 st7 hQ7
  subst l7 y7 z7
  obtain ⟨rfl, N7q, K7, B7⟩ := hQ7
  have N7 := Fr.app N6 N7q
  have Z7 : n0 ≤ T7.heap.size := Nat.le_trans Z6 K7.1
  obtain ⟨cq8, kq8, q8a, q8b, q8c⟩ := isOf hZ rfl B7.1
  have hv : ∀ i, i < 4 → ((List.set (List.set (List.set [(.int (nar .char (CF (VF p1 p2 q3)))), (.int (0 : Int32)), (.int (0 : Int32)), (.int (0 : Int32)), (.int (0 : Int32))] 1 (.int (nar .char (CF ((VF p1 p2 q3) + (O1 p1 q3)))))) 2 (.int (nar .char (CF ((VF p1 p2 q3) + (O2 p1 q3)))))) 3 (.int (nar .char (CF ((VF p1 p2 q3) + (O3 p1 q3)))))) : List Value).getD i (.int (0 : Int32)) = .int (xs4 p1 p2 q3 i) := fun i hi => by
    match i, hi with
    | 0, _ => rfl
    | 1, _ => rfl
    | 2, _ => rfl
    | 3, _ => rfl
  obtain ⟨_, _, ⟨T8, L8, k8, n8⟩, -, X8, ⟨Lc8, hQ8, l8, y8, z8⟩, st8⟩ := X7.virtualBack hx (y := (⟨"bitcove/ArrayContainer", "runCount", "()I"⟩ : MethodName)) (z := (⟨"bitcove/ArrayContainer", "runCount", "()I"⟩ : MethodName)) hown (mvT hZ (hw _ (List.mem_of_getElem? (i := 35) rfl))) (mvT hZ (hw _ (List.mem_of_getElem? (i := 36) rfl))) (notFace_of_selects (args := #[]) (mvT hZ (hw _ (List.mem_of_getElem? (i := 38) rfl)))) (mvT hZ (hw _ (List.mem_of_getElem? (i := 38) rfl))) (mvT hZ (hw _ (List.mem_of_getElem? (i := 37) rfl))) (by decide) (backOf (W := 0) (rm7 l Z a0 hw [] b2 (4 : Int32) t4 kk4 (5 : Int32) (List.set (List.set (List.set [(.int (nar .char (CF (VF p1 p2 q3)))), (.int (0 : Int32)), (.int (0 : Int32)), (.int (0 : Int32)), (.int (0 : Int32))] 1 (.int (nar .char (CF ((VF p1 p2 q3) + (O1 p1 q3)))))) 2 (.int (nar .char (CF ((VF p1 p2 q3) + (O2 p1 q3)))))) 3 (.int (nar .char (CF ((VF p1 p2 q3) + (O3 p1 q3)))))) (xs4 p1 p2 q3) 4 T7.heap n0 Z7 B7 (by decide) (by decide) (by decide) hv) hZ (hw _ (List.mem_of_getElem? (i := 39) rfl)) (hw _ (List.mem_of_getElem? (i := 5) rfl)) (by decide) (by decide)) q8a q8c (g := (mkF m 366 #[.val (.int p1), .val (.int p2), .val (.long q3), .second, .val (.int (NF p1)), .val (.int (G0 q3)), .val (.int (G1 q3)), .val (.int (G2 q3)), .val (.int (G3 q3)), .val (.int (E0 p1 q3)), .val (.int (E1 p1 q3)), .val (.int (E2 p1 q3)), .val (.int (E3 p1 q3)), .val (.int (O1 p1 q3)), .val (.int (O2 p1 q3)), .val (.int (O3 p1 q3)), .val (.int (O4 p1 q3)), .val (.int (TF p1 q3)), .val (.int (VF p1 p2 q3)), .val (.ref b2), .val (.int (XF p1 q3))] [(.ref b2)])) rfl (by rw [hml]; rfl) (Steps.refl _) (argsL := []) (rest := []) (lenOf pd_i rfl) rfl (by show 2 * 0 + _ ≤ _; exact Nat.le_of_eq rfl) (hb hby at_366) (fun _ _ => ⟨rfl, rfl, (by decide : 3 + 0 ≤ _), (by decide : 11 + 0 ≤ _)⟩)
  dsimp only [Pt.U, Pt.locs, Pt.cells, Pt.slots] at X8 l8 y8 z8 st8 hQ8
  subst l8 y8 z8
  obtain ⟨rfl, N8q, eq8⟩ := hQ8
  have N8 := Fr.app N7 N8q
  obtain ⟨cq9, kq9, q9a, q9b, q9c⟩ := isOf hZ rfl (show Exa Z T8.heap b2 "bitcove/ArrayContainer" by rw [eq8]; exact B7.1)
  obtain ⟨_, _, ⟨T9, L9, k9, n9⟩, -, X9, ⟨Lc9, hQ9, l9, y9, z9⟩, st9⟩ := X8.virtualBack hx (y := (⟨"bitcove/ArrayContainer", "cardinality", "()I"⟩ : MethodName)) (z := (⟨"bitcove/ArrayContainer", "cardinality", "()I"⟩ : MethodName)) hown (mvT hZ (hw _ (List.mem_of_getElem? (i := 40) rfl))) (mvT hZ (hw _ (List.mem_of_getElem? (i := 41) rfl))) (notFace_of_selects (args := #[]) (mvT hZ (hw _ (List.mem_of_getElem? (i := 43) rfl)))) (mvT hZ (hw _ (List.mem_of_getElem? (i := 43) rfl))) (mvT hZ (hw _ (List.mem_of_getElem? (i := 42) rfl))) (by decide) (backOf (W := 0) (rm8 l Z a0 hw [] b2 (4 : Int32) T8.heap n0 (by rw [eq8]; exact Z7) (by rw [eq8]; exact B7.2.2.1)) hZ (hw _ (List.mem_of_getElem? (i := 44) rfl)) (hw _ (List.mem_of_getElem? (i := 5) rfl)) (by decide) (by decide)) q9a q9c (g := (mkF m 376 #[.val (.int p1), .val (.int p2), .val (.long q3), .second, .val (.int (NF p1)), .val (.int (G0 q3)), .val (.int (G1 q3)), .val (.int (G2 q3)), .val (.int (G3 q3)), .val (.int (E0 p1 q3)), .val (.int (E1 p1 q3)), .val (.int (E2 p1 q3)), .val (.int (E3 p1 q3)), .val (.int (O1 p1 q3)), .val (.int (O2 p1 q3)), .val (.int (O3 p1 q3)), .val (.int (O4 p1 q3)), .val (.int (TF p1 q3)), .val (.int (VF p1 p2 q3)), .val (.ref b2), .val (.int (XF p1 q3))] [(.ref b2)])) rfl (by rw [hml]; rfl) (Steps.refl _) (argsL := []) (rest := []) (lenOf pd_i rfl) rfl (by show 2 * 0 + _ ≤ _; exact Nat.le_of_eq rfl) (hb hby at_376) (fun _ _ => ⟨rfl, rfl, (by decide : 3 + 0 ≤ _), (by decide : 11 + 0 ≤ _)⟩)
  dsimp only [Pt.U, Pt.locs, Pt.cells, Pt.slots] at X9 l9 y9 z9 st9 hQ9
  subst l9 y9 z9
  obtain ⟨rfl, N9q, eq9⟩ := hQ9
  have N9 := Fr.app N8 N9q
  obtain ⟨fs, hr, hrun, hended, hW, hsame⟩ := X9.leave (v := some (.int (1 : Int32))) (fun h => by rw [Bd.returns] at h; cases h)
  refine ⟨_, _, pre0 _ ?_, hrun, hended, _, _, rfl, ?_, ⟨_, rfl⟩, hW, hsame.mono (by decide) (by decide)⟩
  case refine_2 =>
    show Q0 Z p1 p2 q3 h0 n0 _ T9.heap _
    exact ⟨rfl, N9⟩
  have c0 : (0 : Int32) < NF p1 := by rw [hn]; decide
  have c1 : (1 : Int32) < NF p1 := by rw [hn]; decide
  have c2 : (2 : Int32) < NF p1 := by rw [hn]; decide
  have c3 : (3 : Int32) < NF p1 := by rw [hn]; decide
  have c4 : ¬ ((4 : Int32) < NF p1) := by rw [hn]; decide
  refine sg_pre p1 p2 q3 X0 hx hZ hw hby hown _ ?_
  show Steps p.tables e below (s₁.setTop (mkF m 213 #[.val (.int p1), .val (.int p2), .val (.long q3), .second, .val (.int (NF p1)), .val (.int (G0 q3)), .val (.int (G1 q3)), .val (.int (G2 q3)), .val (.int (G3 q3)), .val (.int (E0 p1 q3)), .val (.int (E1 p1 q3)), .val (.int (E2 p1 q3)), .val (.int (E3 p1 q3)), .val (.int (O1 p1 q3)), .val (.int (O2 p1 q3)), .val (.int (O3 p1 q3)), .val (.int (O4 p1 q3)), .val (.int (TF p1 q3)), .val (.int (VF p1 p2 q3)), .unset, .unset] [])) _
  refine st2 _ ?_
  show Steps p.tables e below (T2.setTop (mkF m 216 #[.val (.int p1), .val (.int p2), .val (.long q3), .second, .val (.int (NF p1)), .val (.int (G0 q3)), .val (.int (G1 q3)), .val (.int (G2 q3)), .val (.int (G3 q3)), .val (.int (E0 p1 q3)), .val (.int (E1 p1 q3)), .val (.int (E2 p1 q3)), .val (.int (E3 p1 q3)), .val (.int (O1 p1 q3)), .val (.int (O2 p1 q3)), .val (.int (O3 p1 q3)), .val (.int (O4 p1 q3)), .val (.int (TF p1 q3)), .val (.int (VF p1 p2 q3)), .unset, .unset] [(.ref b2)])) _
  refine XS.dup X2.here hx rfl (hb hby at_216) rfl rfl ?_
  show Steps p.tables e below (T2.setTop (mkF m 217 #[.val (.int p1), .val (.int p2), .val (.long q3), .second, .val (.int (NF p1)), .val (.int (G0 q3)), .val (.int (G1 q3)), .val (.int (G2 q3)), .val (.int (G3 q3)), .val (.int (E0 p1 q3)), .val (.int (E1 p1 q3)), .val (.int (E2 p1 q3)), .val (.int (E3 p1 q3)), .val (.int (O1 p1 q3)), .val (.int (O2 p1 q3)), .val (.int (O3 p1 q3)), .val (.int (O4 p1 q3)), .val (.int (TF p1 q3)), .val (.int (VF p1 p2 q3)), .unset, .unset] [(.ref b2), (.ref b2)])) _
  refine st3.trans ?_
  show Steps p.tables e below (T3.setTop (mkF m 220 #[.val (.int p1), .val (.int p2), .val (.long q3), .second, .val (.int (NF p1)), .val (.int (G0 q3)), .val (.int (G1 q3)), .val (.int (G2 q3)), .val (.int (G3 q3)), .val (.int (E0 p1 q3)), .val (.int (E1 p1 q3)), .val (.int (E2 p1 q3)), .val (.int (E3 p1 q3)), .val (.int (O1 p1 q3)), .val (.int (O2 p1 q3)), .val (.int (O3 p1 q3)), .val (.int (O4 p1 q3)), .val (.int (TF p1 q3)), .val (.int (VF p1 p2 q3)), .unset, .unset] [(.ref b2)])) _
  refine XS.astore X3.here hx rfl (hb hby at_220) rfl rfl (l' := #[.val (.int p1), .val (.int p2), .val (.long q3), .second, .val (.int (NF p1)), .val (.int (G0 q3)), .val (.int (G1 q3)), .val (.int (G2 q3)), .val (.int (G3 q3)), .val (.int (E0 p1 q3)), .val (.int (E1 p1 q3)), .val (.int (E2 p1 q3)), .val (.int (E3 p1 q3)), .val (.int (O1 p1 q3)), .val (.int (O2 p1 q3)), .val (.int (O3 p1 q3)), .val (.int (O4 p1 q3)), .val (.int (TF p1 q3)), .val (.int (VF p1 p2 q3)), .val (.ref b2), .unset]) rfl ?_
  show Steps p.tables e below (T3.setTop (mkF m 222 #[.val (.int p1), .val (.int p2), .val (.long q3), .second, .val (.int (NF p1)), .val (.int (G0 q3)), .val (.int (G1 q3)), .val (.int (G2 q3)), .val (.int (G3 q3)), .val (.int (E0 p1 q3)), .val (.int (E1 p1 q3)), .val (.int (E2 p1 q3)), .val (.int (E3 p1 q3)), .val (.int (O1 p1 q3)), .val (.int (O2 p1 q3)), .val (.int (O3 p1 q3)), .val (.int (O4 p1 q3)), .val (.int (TF p1 q3)), .val (.int (VF p1 p2 q3)), .val (.ref b2), .unset] [])) _
  refine XS.iload X3.here hx rfl (hb hby at_222) rfl ?_
  show Steps p.tables e below (T3.setTop (mkF m 224 #[.val (.int p1), .val (.int p2), .val (.long q3), .second, .val (.int (NF p1)), .val (.int (G0 q3)), .val (.int (G1 q3)), .val (.int (G2 q3)), .val (.int (G3 q3)), .val (.int (E0 p1 q3)), .val (.int (E1 p1 q3)), .val (.int (E2 p1 q3)), .val (.int (E3 p1 q3)), .val (.int (O1 p1 q3)), .val (.int (O2 p1 q3)), .val (.int (O3 p1 q3)), .val (.int (O4 p1 q3)), .val (.int (TF p1 q3)), .val (.int (VF p1 p2 q3)), .val (.ref b2), .unset] [(.int (NF p1))])) _
  refine XS.ifNo X3.here hx rfl (hb hby at_224) rfl ((if0 _ _).trans (tlt c0).2.2.2) ?_
  show Steps p.tables e below (T3.setTop (mkF m 227 #[.val (.int p1), .val (.int p2), .val (.long q3), .second, .val (.int (NF p1)), .val (.int (G0 q3)), .val (.int (G1 q3)), .val (.int (G2 q3)), .val (.int (G3 q3)), .val (.int (E0 p1 q3)), .val (.int (E1 p1 q3)), .val (.int (E2 p1 q3)), .val (.int (E3 p1 q3)), .val (.int (O1 p1 q3)), .val (.int (O2 p1 q3)), .val (.int (O3 p1 q3)), .val (.int (O4 p1 q3)), .val (.int (TF p1 q3)), .val (.int (VF p1 p2 q3)), .val (.ref b2), .unset] [])) _
  refine XS.aload X3.here hx rfl (hb hby at_227) rfl rfl ?_
  show Steps p.tables e below (T3.setTop (mkF m 229 #[.val (.int p1), .val (.int p2), .val (.long q3), .second, .val (.int (NF p1)), .val (.int (G0 q3)), .val (.int (G1 q3)), .val (.int (G2 q3)), .val (.int (G3 q3)), .val (.int (E0 p1 q3)), .val (.int (E1 p1 q3)), .val (.int (E2 p1 q3)), .val (.int (E3 p1 q3)), .val (.int (O1 p1 q3)), .val (.int (O2 p1 q3)), .val (.int (O3 p1 q3)), .val (.int (O4 p1 q3)), .val (.int (TF p1 q3)), .val (.int (VF p1 p2 q3)), .val (.ref b2), .unset] [(.ref b2)])) _
  refine XS.iload X3.here hx rfl (hb hby at_229) rfl ?_
  show Steps p.tables e below (T3.setTop (mkF m 231 #[.val (.int p1), .val (.int p2), .val (.long q3), .second, .val (.int (NF p1)), .val (.int (G0 q3)), .val (.int (G1 q3)), .val (.int (G2 q3)), .val (.int (G3 q3)), .val (.int (E0 p1 q3)), .val (.int (E1 p1 q3)), .val (.int (E2 p1 q3)), .val (.int (E3 p1 q3)), .val (.int (O1 p1 q3)), .val (.int (O2 p1 q3)), .val (.int (O3 p1 q3)), .val (.int (O4 p1 q3)), .val (.int (TF p1 q3)), .val (.int (VF p1 p2 q3)), .val (.ref b2), .unset] [(.int (VF p1 p2 q3)), (.ref b2)])) _
  refine XS.i2c X3.here hx rfl (hb hby at_231) rfl ?_
  show Steps p.tables e below (T3.setTop (mkF m 232 #[.val (.int p1), .val (.int p2), .val (.long q3), .second, .val (.int (NF p1)), .val (.int (G0 q3)), .val (.int (G1 q3)), .val (.int (G2 q3)), .val (.int (G3 q3)), .val (.int (E0 p1 q3)), .val (.int (E1 p1 q3)), .val (.int (E2 p1 q3)), .val (.int (E3 p1 q3)), .val (.int (O1 p1 q3)), .val (.int (O2 p1 q3)), .val (.int (O3 p1 q3)), .val (.int (O4 p1 q3)), .val (.int (TF p1 q3)), .val (.int (VF p1 p2 q3)), .val (.ref b2), .unset] [(.int (CF (VF p1 p2 q3))), (.ref b2)])) _
  refine XS.iconst X3.here hx rfl (hb hby at_232) ?_
  show Steps p.tables e below (T3.setTop (mkF m 233 #[.val (.int p1), .val (.int p2), .val (.long q3), .second, .val (.int (NF p1)), .val (.int (G0 q3)), .val (.int (G1 q3)), .val (.int (G2 q3)), .val (.int (G3 q3)), .val (.int (E0 p1 q3)), .val (.int (E1 p1 q3)), .val (.int (E2 p1 q3)), .val (.int (E3 p1 q3)), .val (.int (O1 p1 q3)), .val (.int (O2 p1 q3)), .val (.int (O3 p1 q3)), .val (.int (O4 p1 q3)), .val (.int (TF p1 q3)), .val (.int (VF p1 p2 q3)), .val (.ref b2), .unset] [(.int (5 : Int32)), (.int (CF (VF p1 p2 q3))), (.ref b2)])) _
  refine st4.trans ?_
  show Steps p.tables e below (T4.setTop (mkF m 236 #[.val (.int p1), .val (.int p2), .val (.long q3), .second, .val (.int (NF p1)), .val (.int (G0 q3)), .val (.int (G1 q3)), .val (.int (G2 q3)), .val (.int (G3 q3)), .val (.int (E0 p1 q3)), .val (.int (E1 p1 q3)), .val (.int (E2 p1 q3)), .val (.int (E3 p1 q3)), .val (.int (O1 p1 q3)), .val (.int (O2 p1 q3)), .val (.int (O3 p1 q3)), .val (.int (O4 p1 q3)), .val (.int (TF p1 q3)), .val (.int (VF p1 p2 q3)), .val (.ref b2), .unset] [])) _
  refine XS.iload X4.here hx rfl (hb hby at_236) rfl ?_
  show Steps p.tables e below (T4.setTop (mkF m 238 #[.val (.int p1), .val (.int p2), .val (.long q3), .second, .val (.int (NF p1)), .val (.int (G0 q3)), .val (.int (G1 q3)), .val (.int (G2 q3)), .val (.int (G3 q3)), .val (.int (E0 p1 q3)), .val (.int (E1 p1 q3)), .val (.int (E2 p1 q3)), .val (.int (E3 p1 q3)), .val (.int (O1 p1 q3)), .val (.int (O2 p1 q3)), .val (.int (O3 p1 q3)), .val (.int (O4 p1 q3)), .val (.int (TF p1 q3)), .val (.int (VF p1 p2 q3)), .val (.ref b2), .unset] [(.int (NF p1))])) _
  refine XS.iconst X4.here hx rfl (hb hby at_238) ?_
  show Steps p.tables e below (T4.setTop (mkF m 239 #[.val (.int p1), .val (.int p2), .val (.long q3), .second, .val (.int (NF p1)), .val (.int (G0 q3)), .val (.int (G1 q3)), .val (.int (G2 q3)), .val (.int (G3 q3)), .val (.int (E0 p1 q3)), .val (.int (E1 p1 q3)), .val (.int (E2 p1 q3)), .val (.int (E3 p1 q3)), .val (.int (O1 p1 q3)), .val (.int (O2 p1 q3)), .val (.int (O3 p1 q3)), .val (.int (O4 p1 q3)), .val (.int (TF p1 q3)), .val (.int (VF p1 p2 q3)), .val (.ref b2), .unset] [(.int (1 : Int32)), (.int (NF p1))])) _
  refine XS.icmpNo X4.here hx rfl (hb hby at_239) rfl (tlt c1).2.2.2 ?_
  show Steps p.tables e below (T4.setTop (mkF m 242 #[.val (.int p1), .val (.int p2), .val (.long q3), .second, .val (.int (NF p1)), .val (.int (G0 q3)), .val (.int (G1 q3)), .val (.int (G2 q3)), .val (.int (G3 q3)), .val (.int (E0 p1 q3)), .val (.int (E1 p1 q3)), .val (.int (E2 p1 q3)), .val (.int (E3 p1 q3)), .val (.int (O1 p1 q3)), .val (.int (O2 p1 q3)), .val (.int (O3 p1 q3)), .val (.int (O4 p1 q3)), .val (.int (TF p1 q3)), .val (.int (VF p1 p2 q3)), .val (.ref b2), .unset] [])) _
  refine XS.aload X4.here hx rfl (hb hby at_242) rfl rfl ?_
  show Steps p.tables e below (T4.setTop (mkF m 244 #[.val (.int p1), .val (.int p2), .val (.long q3), .second, .val (.int (NF p1)), .val (.int (G0 q3)), .val (.int (G1 q3)), .val (.int (G2 q3)), .val (.int (G3 q3)), .val (.int (E0 p1 q3)), .val (.int (E1 p1 q3)), .val (.int (E2 p1 q3)), .val (.int (E3 p1 q3)), .val (.int (O1 p1 q3)), .val (.int (O2 p1 q3)), .val (.int (O3 p1 q3)), .val (.int (O4 p1 q3)), .val (.int (TF p1 q3)), .val (.int (VF p1 p2 q3)), .val (.ref b2), .unset] [(.ref b2)])) _
  refine XS.iload X4.here hx rfl (hb hby at_244) rfl ?_
  show Steps p.tables e below (T4.setTop (mkF m 246 #[.val (.int p1), .val (.int p2), .val (.long q3), .second, .val (.int (NF p1)), .val (.int (G0 q3)), .val (.int (G1 q3)), .val (.int (G2 q3)), .val (.int (G3 q3)), .val (.int (E0 p1 q3)), .val (.int (E1 p1 q3)), .val (.int (E2 p1 q3)), .val (.int (E3 p1 q3)), .val (.int (O1 p1 q3)), .val (.int (O2 p1 q3)), .val (.int (O3 p1 q3)), .val (.int (O4 p1 q3)), .val (.int (TF p1 q3)), .val (.int (VF p1 p2 q3)), .val (.ref b2), .unset] [(.int (VF p1 p2 q3)), (.ref b2)])) _
  refine XS.iload X4.here hx rfl (hb hby at_246) rfl ?_
  show Steps p.tables e below (T4.setTop (mkF m 248 #[.val (.int p1), .val (.int p2), .val (.long q3), .second, .val (.int (NF p1)), .val (.int (G0 q3)), .val (.int (G1 q3)), .val (.int (G2 q3)), .val (.int (G3 q3)), .val (.int (E0 p1 q3)), .val (.int (E1 p1 q3)), .val (.int (E2 p1 q3)), .val (.int (E3 p1 q3)), .val (.int (O1 p1 q3)), .val (.int (O2 p1 q3)), .val (.int (O3 p1 q3)), .val (.int (O4 p1 q3)), .val (.int (TF p1 q3)), .val (.int (VF p1 p2 q3)), .val (.ref b2), .unset] [(.int (O1 p1 q3)), (.int (VF p1 p2 q3)), (.ref b2)])) _
  refine XS.iadd X4.here hx rfl (hb hby at_248) rfl ?_
  show Steps p.tables e below (T4.setTop (mkF m 249 #[.val (.int p1), .val (.int p2), .val (.long q3), .second, .val (.int (NF p1)), .val (.int (G0 q3)), .val (.int (G1 q3)), .val (.int (G2 q3)), .val (.int (G3 q3)), .val (.int (E0 p1 q3)), .val (.int (E1 p1 q3)), .val (.int (E2 p1 q3)), .val (.int (E3 p1 q3)), .val (.int (O1 p1 q3)), .val (.int (O2 p1 q3)), .val (.int (O3 p1 q3)), .val (.int (O4 p1 q3)), .val (.int (TF p1 q3)), .val (.int (VF p1 p2 q3)), .val (.ref b2), .unset] [(.int ((VF p1 p2 q3) + (O1 p1 q3))), (.ref b2)])) _
  refine XS.i2c X4.here hx rfl (hb hby at_249) rfl ?_
  show Steps p.tables e below (T4.setTop (mkF m 250 #[.val (.int p1), .val (.int p2), .val (.long q3), .second, .val (.int (NF p1)), .val (.int (G0 q3)), .val (.int (G1 q3)), .val (.int (G2 q3)), .val (.int (G3 q3)), .val (.int (E0 p1 q3)), .val (.int (E1 p1 q3)), .val (.int (E2 p1 q3)), .val (.int (E3 p1 q3)), .val (.int (O1 p1 q3)), .val (.int (O2 p1 q3)), .val (.int (O3 p1 q3)), .val (.int (O4 p1 q3)), .val (.int (TF p1 q3)), .val (.int (VF p1 p2 q3)), .val (.ref b2), .unset] [(.int (CF ((VF p1 p2 q3) + (O1 p1 q3)))), (.ref b2)])) _
  refine XS.iconst X4.here hx rfl (hb hby at_250) ?_
  show Steps p.tables e below (T4.setTop (mkF m 251 #[.val (.int p1), .val (.int p2), .val (.long q3), .second, .val (.int (NF p1)), .val (.int (G0 q3)), .val (.int (G1 q3)), .val (.int (G2 q3)), .val (.int (G3 q3)), .val (.int (E0 p1 q3)), .val (.int (E1 p1 q3)), .val (.int (E2 p1 q3)), .val (.int (E3 p1 q3)), .val (.int (O1 p1 q3)), .val (.int (O2 p1 q3)), .val (.int (O3 p1 q3)), .val (.int (O4 p1 q3)), .val (.int (TF p1 q3)), .val (.int (VF p1 p2 q3)), .val (.ref b2), .unset] [(.int (5 : Int32)), (.int (CF ((VF p1 p2 q3) + (O1 p1 q3)))), (.ref b2)])) _
  refine st5.trans ?_
  show Steps p.tables e below (T5.setTop (mkF m 254 #[.val (.int p1), .val (.int p2), .val (.long q3), .second, .val (.int (NF p1)), .val (.int (G0 q3)), .val (.int (G1 q3)), .val (.int (G2 q3)), .val (.int (G3 q3)), .val (.int (E0 p1 q3)), .val (.int (E1 p1 q3)), .val (.int (E2 p1 q3)), .val (.int (E3 p1 q3)), .val (.int (O1 p1 q3)), .val (.int (O2 p1 q3)), .val (.int (O3 p1 q3)), .val (.int (O4 p1 q3)), .val (.int (TF p1 q3)), .val (.int (VF p1 p2 q3)), .val (.ref b2), .unset] [])) _
  refine XS.iload X5.here hx rfl (hb hby at_254) rfl ?_
  show Steps p.tables e below (T5.setTop (mkF m 256 #[.val (.int p1), .val (.int p2), .val (.long q3), .second, .val (.int (NF p1)), .val (.int (G0 q3)), .val (.int (G1 q3)), .val (.int (G2 q3)), .val (.int (G3 q3)), .val (.int (E0 p1 q3)), .val (.int (E1 p1 q3)), .val (.int (E2 p1 q3)), .val (.int (E3 p1 q3)), .val (.int (O1 p1 q3)), .val (.int (O2 p1 q3)), .val (.int (O3 p1 q3)), .val (.int (O4 p1 q3)), .val (.int (TF p1 q3)), .val (.int (VF p1 p2 q3)), .val (.ref b2), .unset] [(.int (NF p1))])) _
  refine XS.iconst X5.here hx rfl (hb hby at_256) ?_
  show Steps p.tables e below (T5.setTop (mkF m 257 #[.val (.int p1), .val (.int p2), .val (.long q3), .second, .val (.int (NF p1)), .val (.int (G0 q3)), .val (.int (G1 q3)), .val (.int (G2 q3)), .val (.int (G3 q3)), .val (.int (E0 p1 q3)), .val (.int (E1 p1 q3)), .val (.int (E2 p1 q3)), .val (.int (E3 p1 q3)), .val (.int (O1 p1 q3)), .val (.int (O2 p1 q3)), .val (.int (O3 p1 q3)), .val (.int (O4 p1 q3)), .val (.int (TF p1 q3)), .val (.int (VF p1 p2 q3)), .val (.ref b2), .unset] [(.int (2 : Int32)), (.int (NF p1))])) _
  refine XS.icmpNo X5.here hx rfl (hb hby at_257) rfl (tlt c2).2.2.2 ?_
  show Steps p.tables e below (T5.setTop (mkF m 260 #[.val (.int p1), .val (.int p2), .val (.long q3), .second, .val (.int (NF p1)), .val (.int (G0 q3)), .val (.int (G1 q3)), .val (.int (G2 q3)), .val (.int (G3 q3)), .val (.int (E0 p1 q3)), .val (.int (E1 p1 q3)), .val (.int (E2 p1 q3)), .val (.int (E3 p1 q3)), .val (.int (O1 p1 q3)), .val (.int (O2 p1 q3)), .val (.int (O3 p1 q3)), .val (.int (O4 p1 q3)), .val (.int (TF p1 q3)), .val (.int (VF p1 p2 q3)), .val (.ref b2), .unset] [])) _
  refine XS.aload X5.here hx rfl (hb hby at_260) rfl rfl ?_
  show Steps p.tables e below (T5.setTop (mkF m 262 #[.val (.int p1), .val (.int p2), .val (.long q3), .second, .val (.int (NF p1)), .val (.int (G0 q3)), .val (.int (G1 q3)), .val (.int (G2 q3)), .val (.int (G3 q3)), .val (.int (E0 p1 q3)), .val (.int (E1 p1 q3)), .val (.int (E2 p1 q3)), .val (.int (E3 p1 q3)), .val (.int (O1 p1 q3)), .val (.int (O2 p1 q3)), .val (.int (O3 p1 q3)), .val (.int (O4 p1 q3)), .val (.int (TF p1 q3)), .val (.int (VF p1 p2 q3)), .val (.ref b2), .unset] [(.ref b2)])) _
  refine XS.iload X5.here hx rfl (hb hby at_262) rfl ?_
  show Steps p.tables e below (T5.setTop (mkF m 264 #[.val (.int p1), .val (.int p2), .val (.long q3), .second, .val (.int (NF p1)), .val (.int (G0 q3)), .val (.int (G1 q3)), .val (.int (G2 q3)), .val (.int (G3 q3)), .val (.int (E0 p1 q3)), .val (.int (E1 p1 q3)), .val (.int (E2 p1 q3)), .val (.int (E3 p1 q3)), .val (.int (O1 p1 q3)), .val (.int (O2 p1 q3)), .val (.int (O3 p1 q3)), .val (.int (O4 p1 q3)), .val (.int (TF p1 q3)), .val (.int (VF p1 p2 q3)), .val (.ref b2), .unset] [(.int (VF p1 p2 q3)), (.ref b2)])) _
  refine XS.iload X5.here hx rfl (hb hby at_264) rfl ?_
  show Steps p.tables e below (T5.setTop (mkF m 266 #[.val (.int p1), .val (.int p2), .val (.long q3), .second, .val (.int (NF p1)), .val (.int (G0 q3)), .val (.int (G1 q3)), .val (.int (G2 q3)), .val (.int (G3 q3)), .val (.int (E0 p1 q3)), .val (.int (E1 p1 q3)), .val (.int (E2 p1 q3)), .val (.int (E3 p1 q3)), .val (.int (O1 p1 q3)), .val (.int (O2 p1 q3)), .val (.int (O3 p1 q3)), .val (.int (O4 p1 q3)), .val (.int (TF p1 q3)), .val (.int (VF p1 p2 q3)), .val (.ref b2), .unset] [(.int (O2 p1 q3)), (.int (VF p1 p2 q3)), (.ref b2)])) _
  refine XS.iadd X5.here hx rfl (hb hby at_266) rfl ?_
  show Steps p.tables e below (T5.setTop (mkF m 267 #[.val (.int p1), .val (.int p2), .val (.long q3), .second, .val (.int (NF p1)), .val (.int (G0 q3)), .val (.int (G1 q3)), .val (.int (G2 q3)), .val (.int (G3 q3)), .val (.int (E0 p1 q3)), .val (.int (E1 p1 q3)), .val (.int (E2 p1 q3)), .val (.int (E3 p1 q3)), .val (.int (O1 p1 q3)), .val (.int (O2 p1 q3)), .val (.int (O3 p1 q3)), .val (.int (O4 p1 q3)), .val (.int (TF p1 q3)), .val (.int (VF p1 p2 q3)), .val (.ref b2), .unset] [(.int ((VF p1 p2 q3) + (O2 p1 q3))), (.ref b2)])) _
  refine XS.i2c X5.here hx rfl (hb hby at_267) rfl ?_
  show Steps p.tables e below (T5.setTop (mkF m 268 #[.val (.int p1), .val (.int p2), .val (.long q3), .second, .val (.int (NF p1)), .val (.int (G0 q3)), .val (.int (G1 q3)), .val (.int (G2 q3)), .val (.int (G3 q3)), .val (.int (E0 p1 q3)), .val (.int (E1 p1 q3)), .val (.int (E2 p1 q3)), .val (.int (E3 p1 q3)), .val (.int (O1 p1 q3)), .val (.int (O2 p1 q3)), .val (.int (O3 p1 q3)), .val (.int (O4 p1 q3)), .val (.int (TF p1 q3)), .val (.int (VF p1 p2 q3)), .val (.ref b2), .unset] [(.int (CF ((VF p1 p2 q3) + (O2 p1 q3)))), (.ref b2)])) _
  refine XS.iconst X5.here hx rfl (hb hby at_268) ?_
  show Steps p.tables e below (T5.setTop (mkF m 269 #[.val (.int p1), .val (.int p2), .val (.long q3), .second, .val (.int (NF p1)), .val (.int (G0 q3)), .val (.int (G1 q3)), .val (.int (G2 q3)), .val (.int (G3 q3)), .val (.int (E0 p1 q3)), .val (.int (E1 p1 q3)), .val (.int (E2 p1 q3)), .val (.int (E3 p1 q3)), .val (.int (O1 p1 q3)), .val (.int (O2 p1 q3)), .val (.int (O3 p1 q3)), .val (.int (O4 p1 q3)), .val (.int (TF p1 q3)), .val (.int (VF p1 p2 q3)), .val (.ref b2), .unset] [(.int (5 : Int32)), (.int (CF ((VF p1 p2 q3) + (O2 p1 q3)))), (.ref b2)])) _
  refine st6.trans ?_
  show Steps p.tables e below (T6.setTop (mkF m 272 #[.val (.int p1), .val (.int p2), .val (.long q3), .second, .val (.int (NF p1)), .val (.int (G0 q3)), .val (.int (G1 q3)), .val (.int (G2 q3)), .val (.int (G3 q3)), .val (.int (E0 p1 q3)), .val (.int (E1 p1 q3)), .val (.int (E2 p1 q3)), .val (.int (E3 p1 q3)), .val (.int (O1 p1 q3)), .val (.int (O2 p1 q3)), .val (.int (O3 p1 q3)), .val (.int (O4 p1 q3)), .val (.int (TF p1 q3)), .val (.int (VF p1 p2 q3)), .val (.ref b2), .unset] [])) _
  refine XS.iload X6.here hx rfl (hb hby at_272) rfl ?_
  show Steps p.tables e below (T6.setTop (mkF m 274 #[.val (.int p1), .val (.int p2), .val (.long q3), .second, .val (.int (NF p1)), .val (.int (G0 q3)), .val (.int (G1 q3)), .val (.int (G2 q3)), .val (.int (G3 q3)), .val (.int (E0 p1 q3)), .val (.int (E1 p1 q3)), .val (.int (E2 p1 q3)), .val (.int (E3 p1 q3)), .val (.int (O1 p1 q3)), .val (.int (O2 p1 q3)), .val (.int (O3 p1 q3)), .val (.int (O4 p1 q3)), .val (.int (TF p1 q3)), .val (.int (VF p1 p2 q3)), .val (.ref b2), .unset] [(.int (NF p1))])) _
  refine XS.iconst X6.here hx rfl (hb hby at_274) ?_
  show Steps p.tables e below (T6.setTop (mkF m 275 #[.val (.int p1), .val (.int p2), .val (.long q3), .second, .val (.int (NF p1)), .val (.int (G0 q3)), .val (.int (G1 q3)), .val (.int (G2 q3)), .val (.int (G3 q3)), .val (.int (E0 p1 q3)), .val (.int (E1 p1 q3)), .val (.int (E2 p1 q3)), .val (.int (E3 p1 q3)), .val (.int (O1 p1 q3)), .val (.int (O2 p1 q3)), .val (.int (O3 p1 q3)), .val (.int (O4 p1 q3)), .val (.int (TF p1 q3)), .val (.int (VF p1 p2 q3)), .val (.ref b2), .unset] [(.int (3 : Int32)), (.int (NF p1))])) _
  refine XS.icmpNo X6.here hx rfl (hb hby at_275) rfl (tlt c3).2.2.2 ?_
  show Steps p.tables e below (T6.setTop (mkF m 278 #[.val (.int p1), .val (.int p2), .val (.long q3), .second, .val (.int (NF p1)), .val (.int (G0 q3)), .val (.int (G1 q3)), .val (.int (G2 q3)), .val (.int (G3 q3)), .val (.int (E0 p1 q3)), .val (.int (E1 p1 q3)), .val (.int (E2 p1 q3)), .val (.int (E3 p1 q3)), .val (.int (O1 p1 q3)), .val (.int (O2 p1 q3)), .val (.int (O3 p1 q3)), .val (.int (O4 p1 q3)), .val (.int (TF p1 q3)), .val (.int (VF p1 p2 q3)), .val (.ref b2), .unset] [])) _
  refine XS.aload X6.here hx rfl (hb hby at_278) rfl rfl ?_
  show Steps p.tables e below (T6.setTop (mkF m 280 #[.val (.int p1), .val (.int p2), .val (.long q3), .second, .val (.int (NF p1)), .val (.int (G0 q3)), .val (.int (G1 q3)), .val (.int (G2 q3)), .val (.int (G3 q3)), .val (.int (E0 p1 q3)), .val (.int (E1 p1 q3)), .val (.int (E2 p1 q3)), .val (.int (E3 p1 q3)), .val (.int (O1 p1 q3)), .val (.int (O2 p1 q3)), .val (.int (O3 p1 q3)), .val (.int (O4 p1 q3)), .val (.int (TF p1 q3)), .val (.int (VF p1 p2 q3)), .val (.ref b2), .unset] [(.ref b2)])) _
  refine XS.iload X6.here hx rfl (hb hby at_280) rfl ?_
  show Steps p.tables e below (T6.setTop (mkF m 282 #[.val (.int p1), .val (.int p2), .val (.long q3), .second, .val (.int (NF p1)), .val (.int (G0 q3)), .val (.int (G1 q3)), .val (.int (G2 q3)), .val (.int (G3 q3)), .val (.int (E0 p1 q3)), .val (.int (E1 p1 q3)), .val (.int (E2 p1 q3)), .val (.int (E3 p1 q3)), .val (.int (O1 p1 q3)), .val (.int (O2 p1 q3)), .val (.int (O3 p1 q3)), .val (.int (O4 p1 q3)), .val (.int (TF p1 q3)), .val (.int (VF p1 p2 q3)), .val (.ref b2), .unset] [(.int (VF p1 p2 q3)), (.ref b2)])) _
  refine XS.iload X6.here hx rfl (hb hby at_282) rfl ?_
  show Steps p.tables e below (T6.setTop (mkF m 284 #[.val (.int p1), .val (.int p2), .val (.long q3), .second, .val (.int (NF p1)), .val (.int (G0 q3)), .val (.int (G1 q3)), .val (.int (G2 q3)), .val (.int (G3 q3)), .val (.int (E0 p1 q3)), .val (.int (E1 p1 q3)), .val (.int (E2 p1 q3)), .val (.int (E3 p1 q3)), .val (.int (O1 p1 q3)), .val (.int (O2 p1 q3)), .val (.int (O3 p1 q3)), .val (.int (O4 p1 q3)), .val (.int (TF p1 q3)), .val (.int (VF p1 p2 q3)), .val (.ref b2), .unset] [(.int (O3 p1 q3)), (.int (VF p1 p2 q3)), (.ref b2)])) _
  refine XS.iadd X6.here hx rfl (hb hby at_284) rfl ?_
  show Steps p.tables e below (T6.setTop (mkF m 285 #[.val (.int p1), .val (.int p2), .val (.long q3), .second, .val (.int (NF p1)), .val (.int (G0 q3)), .val (.int (G1 q3)), .val (.int (G2 q3)), .val (.int (G3 q3)), .val (.int (E0 p1 q3)), .val (.int (E1 p1 q3)), .val (.int (E2 p1 q3)), .val (.int (E3 p1 q3)), .val (.int (O1 p1 q3)), .val (.int (O2 p1 q3)), .val (.int (O3 p1 q3)), .val (.int (O4 p1 q3)), .val (.int (TF p1 q3)), .val (.int (VF p1 p2 q3)), .val (.ref b2), .unset] [(.int ((VF p1 p2 q3) + (O3 p1 q3))), (.ref b2)])) _
  refine XS.i2c X6.here hx rfl (hb hby at_285) rfl ?_
  show Steps p.tables e below (T6.setTop (mkF m 286 #[.val (.int p1), .val (.int p2), .val (.long q3), .second, .val (.int (NF p1)), .val (.int (G0 q3)), .val (.int (G1 q3)), .val (.int (G2 q3)), .val (.int (G3 q3)), .val (.int (E0 p1 q3)), .val (.int (E1 p1 q3)), .val (.int (E2 p1 q3)), .val (.int (E3 p1 q3)), .val (.int (O1 p1 q3)), .val (.int (O2 p1 q3)), .val (.int (O3 p1 q3)), .val (.int (O4 p1 q3)), .val (.int (TF p1 q3)), .val (.int (VF p1 p2 q3)), .val (.ref b2), .unset] [(.int (CF ((VF p1 p2 q3) + (O3 p1 q3)))), (.ref b2)])) _
  refine XS.iconst X6.here hx rfl (hb hby at_286) ?_
  show Steps p.tables e below (T6.setTop (mkF m 287 #[.val (.int p1), .val (.int p2), .val (.long q3), .second, .val (.int (NF p1)), .val (.int (G0 q3)), .val (.int (G1 q3)), .val (.int (G2 q3)), .val (.int (G3 q3)), .val (.int (E0 p1 q3)), .val (.int (E1 p1 q3)), .val (.int (E2 p1 q3)), .val (.int (E3 p1 q3)), .val (.int (O1 p1 q3)), .val (.int (O2 p1 q3)), .val (.int (O3 p1 q3)), .val (.int (O4 p1 q3)), .val (.int (TF p1 q3)), .val (.int (VF p1 p2 q3)), .val (.ref b2), .unset] [(.int (5 : Int32)), (.int (CF ((VF p1 p2 q3) + (O3 p1 q3)))), (.ref b2)])) _
  refine st7.trans ?_
  show Steps p.tables e below (T7.setTop (mkF m 290 #[.val (.int p1), .val (.int p2), .val (.long q3), .second, .val (.int (NF p1)), .val (.int (G0 q3)), .val (.int (G1 q3)), .val (.int (G2 q3)), .val (.int (G3 q3)), .val (.int (E0 p1 q3)), .val (.int (E1 p1 q3)), .val (.int (E2 p1 q3)), .val (.int (E3 p1 q3)), .val (.int (O1 p1 q3)), .val (.int (O2 p1 q3)), .val (.int (O3 p1 q3)), .val (.int (O4 p1 q3)), .val (.int (TF p1 q3)), .val (.int (VF p1 p2 q3)), .val (.ref b2), .unset] [])) _
  refine XS.iload X7.here hx rfl (hb hby at_290) rfl ?_
  show Steps p.tables e below (T7.setTop (mkF m 292 #[.val (.int p1), .val (.int p2), .val (.long q3), .second, .val (.int (NF p1)), .val (.int (G0 q3)), .val (.int (G1 q3)), .val (.int (G2 q3)), .val (.int (G3 q3)), .val (.int (E0 p1 q3)), .val (.int (E1 p1 q3)), .val (.int (E2 p1 q3)), .val (.int (E3 p1 q3)), .val (.int (O1 p1 q3)), .val (.int (O2 p1 q3)), .val (.int (O3 p1 q3)), .val (.int (O4 p1 q3)), .val (.int (TF p1 q3)), .val (.int (VF p1 p2 q3)), .val (.ref b2), .unset] [(.int (NF p1))])) _
  refine XS.iconst X7.here hx rfl (hb hby at_292) ?_
  show Steps p.tables e below (T7.setTop (mkF m 293 #[.val (.int p1), .val (.int p2), .val (.long q3), .second, .val (.int (NF p1)), .val (.int (G0 q3)), .val (.int (G1 q3)), .val (.int (G2 q3)), .val (.int (G3 q3)), .val (.int (E0 p1 q3)), .val (.int (E1 p1 q3)), .val (.int (E2 p1 q3)), .val (.int (E3 p1 q3)), .val (.int (O1 p1 q3)), .val (.int (O2 p1 q3)), .val (.int (O3 p1 q3)), .val (.int (O4 p1 q3)), .val (.int (TF p1 q3)), .val (.int (VF p1 p2 q3)), .val (.ref b2), .unset] [(.int (4 : Int32)), (.int (NF p1))])) _
  refine XS.icmpYes X7.here hx rfl (pc0 := 293) (pc' := 308) rfl (hb hby at_293) rfl (flt c4).2.2.2 (by decide) (by decide) ?_
  show Steps p.tables e below (T7.setTop (mkF m 308 #[.val (.int p1), .val (.int p2), .val (.long q3), .second, .val (.int (NF p1)), .val (.int (G0 q3)), .val (.int (G1 q3)), .val (.int (G2 q3)), .val (.int (G3 q3)), .val (.int (E0 p1 q3)), .val (.int (E1 p1 q3)), .val (.int (E2 p1 q3)), .val (.int (E3 p1 q3)), .val (.int (O1 p1 q3)), .val (.int (O2 p1 q3)), .val (.int (O3 p1 q3)), .val (.int (O4 p1 q3)), .val (.int (TF p1 q3)), .val (.int (VF p1 p2 q3)), .val (.ref b2), .unset] [])) _
  refine sg_308 p1 p2 q3 b2 X7 hx hZ hw hby hown _ ?_
  show Steps p.tables e below (T7.setTop (mkF m 364 #[.val (.int p1), .val (.int p2), .val (.long q3), .second, .val (.int (NF p1)), .val (.int (G0 q3)), .val (.int (G1 q3)), .val (.int (G2 q3)), .val (.int (G3 q3)), .val (.int (E0 p1 q3)), .val (.int (E1 p1 q3)), .val (.int (E2 p1 q3)), .val (.int (E3 p1 q3)), .val (.int (O1 p1 q3)), .val (.int (O2 p1 q3)), .val (.int (O3 p1 q3)), .val (.int (O4 p1 q3)), .val (.int (TF p1 q3)), .val (.int (VF p1 p2 q3)), .val (.ref b2), .val (.int (XF p1 q3))] [])) _
  refine XS.aload X7.here hx rfl (hb hby at_364) rfl rfl ?_
  show Steps p.tables e below (T7.setTop (mkF m 366 #[.val (.int p1), .val (.int p2), .val (.long q3), .second, .val (.int (NF p1)), .val (.int (G0 q3)), .val (.int (G1 q3)), .val (.int (G2 q3)), .val (.int (G3 q3)), .val (.int (E0 p1 q3)), .val (.int (E1 p1 q3)), .val (.int (E2 p1 q3)), .val (.int (E3 p1 q3)), .val (.int (O1 p1 q3)), .val (.int (O2 p1 q3)), .val (.int (O3 p1 q3)), .val (.int (O4 p1 q3)), .val (.int (TF p1 q3)), .val (.int (VF p1 p2 q3)), .val (.ref b2), .val (.int (XF p1 q3))] [(.ref b2)])) _
  refine st8.trans ?_
  show Steps p.tables e below (T8.setTop (mkF m 369 #[.val (.int p1), .val (.int p2), .val (.long q3), .second, .val (.int (NF p1)), .val (.int (G0 q3)), .val (.int (G1 q3)), .val (.int (G2 q3)), .val (.int (G3 q3)), .val (.int (E0 p1 q3)), .val (.int (E1 p1 q3)), .val (.int (E2 p1 q3)), .val (.int (E3 p1 q3)), .val (.int (O1 p1 q3)), .val (.int (O2 p1 q3)), .val (.int (O3 p1 q3)), .val (.int (O4 p1 q3)), .val (.int (TF p1 q3)), .val (.int (VF p1 p2 q3)), .val (.ref b2), .val (.int (XF p1 q3))] [(.int (runs (xs4 p1 p2 q3) 3 1 (4 : Int32)))])) _
  refine XS.iload X8.here hx rfl (hb hby at_369) rfl ?_
  show Steps p.tables e below (T8.setTop (mkF m 371 #[.val (.int p1), .val (.int p2), .val (.long q3), .second, .val (.int (NF p1)), .val (.int (G0 q3)), .val (.int (G1 q3)), .val (.int (G2 q3)), .val (.int (G3 q3)), .val (.int (E0 p1 q3)), .val (.int (E1 p1 q3)), .val (.int (E2 p1 q3)), .val (.int (E3 p1 q3)), .val (.int (O1 p1 q3)), .val (.int (O2 p1 q3)), .val (.int (O3 p1 q3)), .val (.int (O4 p1 q3)), .val (.int (TF p1 q3)), .val (.int (VF p1 p2 q3)), .val (.ref b2), .val (.int (XF p1 q3))] [(.int (XF p1 q3)), (.int (runs (xs4 p1 p2 q3) 3 1 (4 : Int32)))])) _
  refine XS.icmpNo X8.here hx rfl (hb hby at_371) rfl (teq (own_case4 p1 p2 q3 hn)).2 ?_
  show Steps p.tables e below (T8.setTop (mkF m 374 #[.val (.int p1), .val (.int p2), .val (.long q3), .second, .val (.int (NF p1)), .val (.int (G0 q3)), .val (.int (G1 q3)), .val (.int (G2 q3)), .val (.int (G3 q3)), .val (.int (E0 p1 q3)), .val (.int (E1 p1 q3)), .val (.int (E2 p1 q3)), .val (.int (E3 p1 q3)), .val (.int (O1 p1 q3)), .val (.int (O2 p1 q3)), .val (.int (O3 p1 q3)), .val (.int (O4 p1 q3)), .val (.int (TF p1 q3)), .val (.int (VF p1 p2 q3)), .val (.ref b2), .val (.int (XF p1 q3))] [])) _
  refine XS.aload X8.here hx rfl (hb hby at_374) rfl rfl ?_
  show Steps p.tables e below (T8.setTop (mkF m 376 #[.val (.int p1), .val (.int p2), .val (.long q3), .second, .val (.int (NF p1)), .val (.int (G0 q3)), .val (.int (G1 q3)), .val (.int (G2 q3)), .val (.int (G3 q3)), .val (.int (E0 p1 q3)), .val (.int (E1 p1 q3)), .val (.int (E2 p1 q3)), .val (.int (E3 p1 q3)), .val (.int (O1 p1 q3)), .val (.int (O2 p1 q3)), .val (.int (O3 p1 q3)), .val (.int (O4 p1 q3)), .val (.int (TF p1 q3)), .val (.int (VF p1 p2 q3)), .val (.ref b2), .val (.int (XF p1 q3))] [(.ref b2)])) _
  refine st9.trans ?_
  show Steps p.tables e below (T9.setTop (mkF m 379 #[.val (.int p1), .val (.int p2), .val (.long q3), .second, .val (.int (NF p1)), .val (.int (G0 q3)), .val (.int (G1 q3)), .val (.int (G2 q3)), .val (.int (G3 q3)), .val (.int (E0 p1 q3)), .val (.int (E1 p1 q3)), .val (.int (E2 p1 q3)), .val (.int (E3 p1 q3)), .val (.int (O1 p1 q3)), .val (.int (O2 p1 q3)), .val (.int (O3 p1 q3)), .val (.int (O4 p1 q3)), .val (.int (TF p1 q3)), .val (.int (VF p1 p2 q3)), .val (.ref b2), .val (.int (XF p1 q3))] [(.int (4 : Int32))])) _
  refine XS.iload X9.here hx rfl (hb hby at_379) rfl ?_
  show Steps p.tables e below (T9.setTop (mkF m 381 #[.val (.int p1), .val (.int p2), .val (.long q3), .second, .val (.int (NF p1)), .val (.int (G0 q3)), .val (.int (G1 q3)), .val (.int (G2 q3)), .val (.int (G3 q3)), .val (.int (E0 p1 q3)), .val (.int (E1 p1 q3)), .val (.int (E2 p1 q3)), .val (.int (E3 p1 q3)), .val (.int (O1 p1 q3)), .val (.int (O2 p1 q3)), .val (.int (O3 p1 q3)), .val (.int (O4 p1 q3)), .val (.int (TF p1 q3)), .val (.int (VF p1 p2 q3)), .val (.ref b2), .val (.int (XF p1 q3))] [(.int (NF p1)), (.int (4 : Int32))])) _
  refine XS.icmpNo X9.here hx rfl (hb hby at_381) rfl (teq hn.symm).2 ?_
  show Steps p.tables e below (T9.setTop (mkF m 384 #[.val (.int p1), .val (.int p2), .val (.long q3), .second, .val (.int (NF p1)), .val (.int (G0 q3)), .val (.int (G1 q3)), .val (.int (G2 q3)), .val (.int (G3 q3)), .val (.int (E0 p1 q3)), .val (.int (E1 p1 q3)), .val (.int (E2 p1 q3)), .val (.int (E3 p1 q3)), .val (.int (O1 p1 q3)), .val (.int (O2 p1 q3)), .val (.int (O3 p1 q3)), .val (.int (O4 p1 q3)), .val (.int (TF p1 q3)), .val (.int (VF p1 p2 q3)), .val (.ref b2), .val (.int (XF p1 q3))] [])) _
  refine XS.iconst X9.here hx rfl (hb hby at_384) ?_
  show Steps p.tables e below (T9.setTop (mkF m 385 #[.val (.int p1), .val (.int p2), .val (.long q3), .second, .val (.int (NF p1)), .val (.int (G0 q3)), .val (.int (G1 q3)), .val (.int (G2 q3)), .val (.int (G3 q3)), .val (.int (E0 p1 q3)), .val (.int (E1 p1 q3)), .val (.int (E2 p1 q3)), .val (.int (E3 p1 q3)), .val (.int (O1 p1 q3)), .val (.int (O2 p1 q3)), .val (.int (O3 p1 q3)), .val (.int (O4 p1 q3)), .val (.int (TF p1 q3)), .val (.int (VF p1 p2 q3)), .val (.ref b2), .val (.int (XF p1 q3))] [(.int (1 : Int32))])) _
  refine XS.goto X9.here hx rfl (pc0 := 385) (pc' := 389) rfl (hb hby at_385) (by decide) (by decide) ?_
  show Steps p.tables e below (T9.setTop (mkF m 389 #[.val (.int p1), .val (.int p2), .val (.long q3), .second, .val (.int (NF p1)), .val (.int (G0 q3)), .val (.int (G1 q3)), .val (.int (G2 q3)), .val (.int (G3 q3)), .val (.int (E0 p1 q3)), .val (.int (E1 p1 q3)), .val (.int (E2 p1 q3)), .val (.int (E3 p1 q3)), .val (.int (O1 p1 q3)), .val (.int (O2 p1 q3)), .val (.int (O3 p1 q3)), .val (.int (O4 p1 q3)), .val (.int (TF p1 q3)), .val (.int (VF p1 p2 q3)), .val (.ref b2), .val (.int (XF p1 q3))] [(.int (1 : Int32))])) _
  exact retN X9 hx (t := .boolean) Bd.returns (by simp) (hb hby at_389) hr
set_option maxRecDepth 65536 in
set_option maxHeartbeats 40000000 in
theorem rm0_5 (l : Launch) (Z : State) (a0 : Array Value) (hw : ∀ d ∈ tables_1, d.before a0 Z = true) (ws : List Jvm.Cond) (p1 : Int32) (p2 : Int32) (q3 : Int64) (h0 : Heap) (n0 : Nat) (Z0 : n0 ≤ h0.size) (hn : NF p1 = 5) :
    MetFree l x (head1 (Jvm.Cond.code x code maxLocals ret :: ws) room_1) (fun a U => a = #[(.int p1), (.int p2), (.long q3)] ∧ Z.Warmed39 U.vm ∧ U.heap = h0) (fun _ _ _ _ _ => True) (fun _ U o U' => ∃ v L, o = .returned v ∧ Q0 Z p1 p2 q3 h0 n0 v U'.heap L ∧ FrameEnd U o U' L room_1.cells room_1.slots) := by
  refine MetFree.of_bodySF (plainFor_of_name pn_0) hisR ?_
  intro p e s m args below meth c s₁ Bd hml0 hP hK
  obtain ⟨rfl, hZ, hh⟩ := hP
  have hx := Bd.exec
  have hby := Bd.bytes
  have hml : c.maxLocals = 21 := hml0
  have hown : s.vm.findClass "bitcove/ArrayContainerRunCountPinLaw" = some m.cls := findClass_of_methodNamed Bd.named
  have hnm := (name_of_methodNamed Bd.named Bd.method).1
  have X0 : Stand p l e room_1 s m #[(.int p1), (.int p2), (.long q3)] below meth c s₁ [] 0 0 := Stand.of_body Bd
  have e0 : s₁.heap = h0 := by rw [← hh, Bd.state]; rfl
  have N0 := Fr.nil n0
  have pre0 : ∀ t, Steps p.tables e below (s₁.setTop (mkF m 0 #[.val (.int p1), .val (.int p2), .val (.long q3), .second, .unset, .unset, .unset, .unset, .unset, .unset, .unset, .unset, .unset, .unset, .unset, .unset, .unset, .unset, .unset, .unset, .unset] [])) t → Steps p.tables e below (s₁.setTop (entryFrame m #[(.int p1), (.int p2), (.long q3)] maxLocals)) t := fun t k => castTop (ef_0 m p1 p2 q3) k
  obtain ⟨T2, h2, X2, e2, Ex2, A2, D2, -, st2⟩ := newO X0 hx hZ hown (hw _ (List.mem_of_getElem? (i := 3) rfl)) (hw _ (List.mem_of_getElem? (i := 4) rfl)) (hw _ (List.mem_of_getElem? (i := 5) rfl)) e0 (g := (mkF m 213 #[.val (.int p1), .val (.int p2), .val (.long q3), .second, .val (.int (NF p1)), .val (.int (G0 q3)), .val (.int (G1 q3)), .val (.int (G2 q3)), .val (.int (G3 q3)), .val (.int (E0 p1 q3)), .val (.int (E1 p1 q3)), .val (.int (E2 p1 q3)), .val (.int (E3 p1 q3)), .val (.int (O1 p1 q3)), .val (.int (O2 p1 q3)), .val (.int (O3 p1 q3)), .val (.int (O4 p1 q3)), .val (.int (TF p1 q3)), .val (.int (VF p1 p2 q3)), .unset, .unset] [])) rfl (hb hby at_213) (by decide) (by decide)
  obtain ⟨b2, g2⟩ : ∃ z, z = h0.size := ⟨_, rfl⟩
  rw [← g2] at A2 D2 st2
  have Fv2 : Fld Z h2 b2 "bitcove/ArrayContainer" "values" "[C" .null := D2 (Or.inl (hw _ (List.mem_of_getElem? (i := 32) rfl))) (ty := (.array .char)) (by decide)
  have Fc2 : Fld Z h2 b2 "bitcove/ArrayContainer" "cardinality" "I" (.int (0 : Int32)) := D2 (Or.inl (hw _ (List.mem_of_getElem? (i := 34) rfl))) (ty := .int) (by decide)
  have g_b2 : n0 ≤ b2 := Nat.le_trans Z0 (Nat.le_of_eq g2.symm)
  have Z2 : n0 ≤ h2.size := Nat.le_trans Z0 Ex2.1
  obtain ⟨_, _, ⟨T3, L3, k3, n3⟩, -, X3, ⟨Lc3, hQ3, l3, y3, z3⟩, st3⟩ := X2.specialBack hx (y := (⟨"bitcove/ArrayContainer", "<init>", "()V"⟩ : MethodName)) rfl hown (mvT hZ (hw _ (List.mem_of_getElem? (i := 6) rfl))) (mvT hZ (hw _ (List.mem_of_getElem? (i := 7) rfl))) (mvT hZ (hw _ (List.mem_of_getElem? (i := 8) rfl))) (by decide) (backOf (W := 1) (rm1 l Z a0 hw [] b2 h2 n0 Z2 _ _ A2 Fv2 Fc2 g_b2) hZ (hw _ (List.mem_of_getElem? (i := 8) rfl)) (hw _ (List.mem_of_getElem? (i := 5) rfl)) (by decide) (by decide)) (g := (mkF m 217 #[.val (.int p1), .val (.int p2), .val (.long q3), .second, .val (.int (NF p1)), .val (.int (G0 q3)), .val (.int (G1 q3)), .val (.int (G2 q3)), .val (.int (G3 q3)), .val (.int (E0 p1 q3)), .val (.int (E1 p1 q3)), .val (.int (E2 p1 q3)), .val (.int (E3 p1 q3)), .val (.int (O1 p1 q3)), .val (.int (O2 p1 q3)), .val (.int (O3 p1 q3)), .val (.int (O4 p1 q3)), .val (.int (TF p1 q3)), .val (.int (VF p1 p2 q3)), .unset, .unset] [(.ref b2), (.ref b2)])) rfl (by rw [hml]; rfl) (Steps.refl _) (a := b2) (argsL := []) (rest := [(.ref b2)]) (lenOf pd_v rfl) rfl (by show 2 * 0 + _ ≤ _; exact Nat.le_of_eq rfl) (hb hby at_217) (fun _ _ => ⟨rfl, e2, (by decide : 1 + 1 ≤ _), (by decide : 2 + 4 ≤ _)⟩)
  dsimp only [Pt.U, Pt.locs, Pt.cells, Pt.slots] at X3 l3 y3 z3 st3 hQ3
  subst l3 y3 z3
  obtain ⟨rfl, N3q, K3, t3, kk3, gt3, B3⟩ := hQ3
  have N3 := Fr.app N0 N3q
  have Z3 : n0 ≤ T3.heap.size := Nat.le_trans Z2 K3.1
  obtain ⟨cq4, kq4, q4a, q4b, q4c⟩ := isOf hZ rfl B3.1
  obtain ⟨_, _, ⟨T4, L4, k4, n4⟩, -, X4, ⟨Lc4, hQ4, l4, y4, z4⟩, st4⟩ := X3.virtualBack hx (y := (⟨"bitcove/ArrayContainer", "append", "(CI)V"⟩ : MethodName)) (z := (⟨"bitcove/ArrayContainer", "append", "(CI)V"⟩ : MethodName)) hown (mvT hZ (hw _ (List.mem_of_getElem? (i := 45) rfl))) (mvT hZ (hw _ (List.mem_of_getElem? (i := 46) rfl))) (notFace_of_selects (args := #[]) (mvT hZ (hw _ (List.mem_of_getElem? (i := 48) rfl)))) (mvT hZ (hw _ (List.mem_of_getElem? (i := 48) rfl))) (mvT hZ (hw _ (List.mem_of_getElem? (i := 47) rfl))) (by decide) (backOf (W := 0) (rm9f l Z a0 hw [] b2 (CF (VF p1 p2 q3)) t3 kk3 (4 : Int32) [(.int (0 : Int32)), (.int (0 : Int32)), (.int (0 : Int32)), (.int (0 : Int32))] T3.heap n0 Z3 B3 g_b2) hZ (hw _ (List.mem_of_getElem? (i := 49) rfl)) (hw _ (List.mem_of_getElem? (i := 5) rfl)) (by decide) (by decide)) q4a q4c (g := (mkF m 233 #[.val (.int p1), .val (.int p2), .val (.long q3), .second, .val (.int (NF p1)), .val (.int (G0 q3)), .val (.int (G1 q3)), .val (.int (G2 q3)), .val (.int (G3 q3)), .val (.int (E0 p1 q3)), .val (.int (E1 p1 q3)), .val (.int (E2 p1 q3)), .val (.int (E3 p1 q3)), .val (.int (O1 p1 q3)), .val (.int (O2 p1 q3)), .val (.int (O3 p1 q3)), .val (.int (O4 p1 q3)), .val (.int (TF p1 q3)), .val (.int (VF p1 p2 q3)), .val (.ref b2), .unset] [(.int (5 : Int32)), (.int (CF (VF p1 p2 q3))), (.ref b2)])) rfl (by rw [hml]; rfl) (Steps.refl _) (argsL := [(.int (CF (VF p1 p2 q3))), (.int (5 : Int32))]) (rest := []) (lenOf pd_a rfl) rfl (by show 2 * 0 + _ ≤ _; exact Nat.le_of_eq rfl) (hb hby at_233) (fun _ _ => ⟨rfl, rfl, (by decide : 2 + 1 ≤ _), (by decide : 6 + 5 ≤ _)⟩)
  dsimp only [Pt.U, Pt.locs, Pt.cells, Pt.slots] at X4 l4 y4 z4 st4 hQ4
  subst l4 y4 z4
  obtain ⟨rfl, N4q, t4, kk4, gt4, K4, B4⟩ := hQ4
  have N4 := Fr.app N3 N4q
  have Z4 : n0 ≤ T4.heap.size := Nat.le_trans Z3 K4.1
  have g_t : n0 ≤ t4 := Nat.le_trans Z3 gt4
  obtain ⟨cq5, kq5, q5a, q5b, q5c⟩ := isOf hZ rfl B4.1
  obtain ⟨_, _, ⟨T5, L5, k5, n5⟩, -, X5, ⟨Lc5, hQ5, l5, y5, z5⟩, st5⟩ := X4.virtualBack hx (y := (⟨"bitcove/ArrayContainer", "append", "(CI)V"⟩ : MethodName)) (z := (⟨"bitcove/ArrayContainer", "append", "(CI)V"⟩ : MethodName)) hown (mvT hZ (hw _ (List.mem_of_getElem? (i := 45) rfl))) (mvT hZ (hw _ (List.mem_of_getElem? (i := 46) rfl))) (notFace_of_selects (args := #[]) (mvT hZ (hw _ (List.mem_of_getElem? (i := 48) rfl)))) (mvT hZ (hw _ (List.mem_of_getElem? (i := 48) rfl))) (mvT hZ (hw _ (List.mem_of_getElem? (i := 47) rfl))) (by decide) (backOf (W := 0) (rm9t l Z a0 hw [] b2 (CF ((VF p1 p2 q3) + (O1 p1 q3))) (5 : Int32) (1 : Int32) (2 : Int32) t4 kk4 (5 : Int32) [(.int (nar .char (CF (VF p1 p2 q3)))), (.int (0 : Int32)), (.int (0 : Int32)), (.int (0 : Int32)), (.int (0 : Int32))] 1 T4.heap n0 Z4 B4 g_b2 g_t ⟨by decide, by decide⟩ (by decide) (by decide) (Nat.le_of_ble_eq_true rfl) (by decide)) hZ (hw _ (List.mem_of_getElem? (i := 49) rfl)) (hw _ (List.mem_of_getElem? (i := 5) rfl)) (by decide) (by decide)) q5a q5c (g := (mkF m 251 #[.val (.int p1), .val (.int p2), .val (.long q3), .second, .val (.int (NF p1)), .val (.int (G0 q3)), .val (.int (G1 q3)), .val (.int (G2 q3)), .val (.int (G3 q3)), .val (.int (E0 p1 q3)), .val (.int (E1 p1 q3)), .val (.int (E2 p1 q3)), .val (.int (E3 p1 q3)), .val (.int (O1 p1 q3)), .val (.int (O2 p1 q3)), .val (.int (O3 p1 q3)), .val (.int (O4 p1 q3)), .val (.int (TF p1 q3)), .val (.int (VF p1 p2 q3)), .val (.ref b2), .unset] [(.int (5 : Int32)), (.int (CF ((VF p1 p2 q3) + (O1 p1 q3)))), (.ref b2)])) rfl (by rw [hml]; rfl) (Steps.refl _) (argsL := [(.int (CF ((VF p1 p2 q3) + (O1 p1 q3)))), (.int (5 : Int32))]) (rest := []) (lenOf pd_a rfl) rfl (by show 2 * 0 + _ ≤ _; exact Nat.le_of_eq rfl) (hb hby at_251) (fun _ _ => ⟨rfl, rfl, (by decide : 3 + 0 ≤ _), (by decide : 11 + 0 ≤ _)⟩)
  dsimp only [Pt.U, Pt.locs, Pt.cells, Pt.slots] at X5 l5 y5 z5 st5 hQ5
  subst l5 y5 z5
  obtain ⟨rfl, N5q, K5, B5⟩ := hQ5
  have N5 := Fr.app N4 N5q
  have Z5 : n0 ≤ T5.heap.size := Nat.le_trans Z4 K5.1
  obtain ⟨cq6, kq6, q6a, q6b, q6c⟩ := isOf hZ rfl B5.1
  obtain ⟨_, _, ⟨T6, L6, k6, n6⟩, -, X6, ⟨Lc6, hQ6, l6, y6, z6⟩, st6⟩ := X5.virtualBack hx (y := (⟨"bitcove/ArrayContainer", "append", "(CI)V"⟩ : MethodName)) (z := (⟨"bitcove/ArrayContainer", "append", "(CI)V"⟩ : MethodName)) hown (mvT hZ (hw _ (List.mem_of_getElem? (i := 45) rfl))) (mvT hZ (hw _ (List.mem_of_getElem? (i := 46) rfl))) (notFace_of_selects (args := #[]) (mvT hZ (hw _ (List.mem_of_getElem? (i := 48) rfl)))) (mvT hZ (hw _ (List.mem_of_getElem? (i := 48) rfl))) (mvT hZ (hw _ (List.mem_of_getElem? (i := 47) rfl))) (by decide) (backOf (W := 0) (rm9t l Z a0 hw [] b2 (CF ((VF p1 p2 q3) + (O2 p1 q3))) (5 : Int32) (2 : Int32) (3 : Int32) t4 kk4 (5 : Int32) (List.set [(.int (nar .char (CF (VF p1 p2 q3)))), (.int (0 : Int32)), (.int (0 : Int32)), (.int (0 : Int32)), (.int (0 : Int32))] 1 (.int (nar .char (CF ((VF p1 p2 q3) + (O1 p1 q3)))))) 2 T5.heap n0 Z5 B5 g_b2 g_t ⟨by decide, by decide⟩ (by decide) (by decide) (Nat.le_of_ble_eq_true rfl) (by decide)) hZ (hw _ (List.mem_of_getElem? (i := 49) rfl)) (hw _ (List.mem_of_getElem? (i := 5) rfl)) (by decide) (by decide)) q6a q6c (g := (mkF m 269 #[.val (.int p1), .val (.int p2), .val (.long q3), .second, .val (.int (NF p1)), .val (.int (G0 q3)), .val (.int (G1 q3)), .val (.int (G2 q3)), .val (.int (G3 q3)), .val (.int (E0 p1 q3)), .val (.int (E1 p1 q3)), .val (.int (E2 p1 q3)), .val (.int (E3 p1 q3)), .val (.int (O1 p1 q3)), .val (.int (O2 p1 q3)), .val (.int (O3 p1 q3)), .val (.int (O4 p1 q3)), .val (.int (TF p1 q3)), .val (.int (VF p1 p2 q3)), .val (.ref b2), .unset] [(.int (5 : Int32)), (.int (CF ((VF p1 p2 q3) + (O2 p1 q3)))), (.ref b2)])) rfl (by rw [hml]; rfl) (Steps.refl _) (argsL := [(.int (CF ((VF p1 p2 q3) + (O2 p1 q3)))), (.int (5 : Int32))]) (rest := []) (lenOf pd_a rfl) rfl (by show 2 * 0 + _ ≤ _; exact Nat.le_of_eq rfl) (hb hby at_269) (fun _ _ => ⟨rfl, rfl, (by decide : 3 + 0 ≤ _), (by decide : 11 + 0 ≤ _)⟩)
  dsimp only [Pt.U, Pt.locs, Pt.cells, Pt.slots] at X6 l6 y6 z6 st6 hQ6
  subst l6 y6 z6
  obtain ⟨rfl, N6q, K6, B6⟩ := hQ6
  have N6 := Fr.app N5 N6q
  have Z6 : n0 ≤ T6.heap.size := Nat.le_trans Z5 K6.1
  obtain ⟨cq7, kq7, q7a, q7b, q7c⟩ := isOf hZ rfl B6.1
  obtain ⟨_, _, ⟨T7, L7, k7, n7⟩, -, X7, ⟨Lc7, hQ7, l7, y7, z7⟩, st7⟩ := X6.virtualBack hx (y := (⟨"bitcove/ArrayContainer", "append", "(CI)V"⟩ : MethodName)) (z := (⟨"bitcove/ArrayContainer", "append", "(CI)V"⟩ : MethodName)) hown (mvT hZ (hw _ (List.mem_of_getElem? (i := 45) rfl))) (mvT hZ (hw _ (List.mem_of_getElem? (i := 46) rfl))) (notFace_of_selects (args := #[]) (mvT hZ (hw _ (List.mem_of_getElem? (i := 48) rfl)))) (mvT hZ (hw _ (List.mem_of_getElem? (i := 48) rfl))) (mvT hZ (hw _ (List.mem_of_getElem? (i := 47) rfl))) (by decide) (backOf (W := 0) (rm9t l Z a0 hw [] b2 (CF ((VF p1 p2 q3) + (O3 p1 q3))) (5 : Int32) (3 : Int32) (4 : Int32) t4 kk4 (5 : Int32) (List.set (List.set [(.int (nar .char (CF (VF p1 p2 q3)))), (.int (0 : Int32)), (.int (0 : Int32)), (.int (0 : Int32)), (.int (0 : Int32))] 1 (.int (nar .char (CF ((VF p1 p2 q3) + (O1 p1 q3)))))) 2 (.int (nar .char (CF ((VF p1 p2 q3) + (O2 p1 q3)))))) 3 T6.heap n0 Z6 B6 g_b2 g_t ⟨by decide, by decide⟩ (by decide) (by decide) (Nat.le_of_ble_eq_true rfl) (by decide)) hZ (hw _ (List.mem_of_getElem? (i := 49) rfl)) (hw _ (List.mem_of_getElem? (i := 5) rfl)) (by decide) (by decide)) q7a q7c (g := (mkF m 287 #[.val (.int p1), .val (.int p2), .val (.long q3), .second, .val (.int (NF p1)), .val (.int (G0 q3)), .val (.int (G1 q3)), .val (.int (G2 q3)), .val (.int (G3 q3)), .val (.int (E0 p1 q3)), .val (.int (E1 p1 q3)), .val (.int (E2 p1 q3)), .val (.int (E3 p1 q3)), .val (.int (O1 p1 q3)), .val (.int (O2 p1 q3)), .val (.int (O3 p1 q3)), .val (.int (O4 p1 q3)), .val (.int (TF p1 q3)), .val (.int (VF p1 p2 q3)), .val (.ref b2), .unset] [(.int (5 : Int32)), (.int (CF ((VF p1 p2 q3) + (O3 p1 q3)))), (.ref b2)])) rfl (by rw [hml]; rfl) (Steps.refl _) (argsL := [(.int (CF ((VF p1 p2 q3) + (O3 p1 q3)))), (.int (5 : Int32))]) (rest := []) (lenOf pd_a rfl) rfl (by show 2 * 0 + _ ≤ _; exact Nat.le_of_eq rfl) (hb hby at_287) (fun _ _ => ⟨rfl, rfl, (by decide : 3 + 0 ≤ _), (by decide : 11 + 0 ≤ _)⟩)
  dsimp only [Pt.U, Pt.locs, Pt.cells, Pt.slots] at X7 l7 y7 z7 st7 hQ7
  subst l7 y7 z7
  obtain ⟨rfl, N7q, K7, B7⟩ := hQ7
  have N7 := Fr.app N6 N7q
  have Z7 : n0 ≤ T7.heap.size := Nat.le_trans Z6 K7.1
  obtain ⟨cq8, kq8, q8a, q8b, q8c⟩ := isOf hZ rfl B7.1
  obtain ⟨_, _, ⟨T8, L8, k8, n8⟩, -, X8, ⟨Lc8, hQ8, l8, y8, z8⟩, st8⟩ := X7.virtualBack hx (y := (⟨"bitcove/ArrayContainer", "append", "(CI)V"⟩ : MethodName)) (z := (⟨"bitcove/ArrayContainer", "append", "(CI)V"⟩ : MethodName)) hown (mvT hZ (hw _ (List.mem_of_getElem? (i := 45) rfl))) (mvT hZ (hw _ (List.mem_of_getElem? (i := 46) rfl))) (notFace_of_selects (args := #[]) (mvT hZ (hw _ (List.mem_of_getElem? (i := 48) rfl)))) (mvT hZ (hw _ (List.mem_of_getElem? (i := 48) rfl))) (mvT hZ (hw _ (List.mem_of_getElem? (i := 47) rfl))) (by decide) (backOf (W := 0) (rm9t l Z a0 hw [] b2 (CF ((VF p1 p2 q3) + (O4 p1 q3))) (5 : Int32) (4 : Int32) (5 : Int32) t4 kk4 (5 : Int32) (List.set (List.set (List.set [(.int (nar .char (CF (VF p1 p2 q3)))), (.int (0 : Int32)), (.int (0 : Int32)), (.int (0 : Int32)), (.int (0 : Int32))] 1 (.int (nar .char (CF ((VF p1 p2 q3) + (O1 p1 q3)))))) 2 (.int (nar .char (CF ((VF p1 p2 q3) + (O2 p1 q3)))))) 3 (.int (nar .char (CF ((VF p1 p2 q3) + (O3 p1 q3)))))) 4 T7.heap n0 Z7 B7 g_b2 g_t ⟨by decide, by decide⟩ (by decide) (by decide) (Nat.le_of_ble_eq_true rfl) (by decide)) hZ (hw _ (List.mem_of_getElem? (i := 49) rfl)) (hw _ (List.mem_of_getElem? (i := 5) rfl)) (by decide) (by decide)) q8a q8c (g := (mkF m 305 #[.val (.int p1), .val (.int p2), .val (.long q3), .second, .val (.int (NF p1)), .val (.int (G0 q3)), .val (.int (G1 q3)), .val (.int (G2 q3)), .val (.int (G3 q3)), .val (.int (E0 p1 q3)), .val (.int (E1 p1 q3)), .val (.int (E2 p1 q3)), .val (.int (E3 p1 q3)), .val (.int (O1 p1 q3)), .val (.int (O2 p1 q3)), .val (.int (O3 p1 q3)), .val (.int (O4 p1 q3)), .val (.int (TF p1 q3)), .val (.int (VF p1 p2 q3)), .val (.ref b2), .unset] [(.int (5 : Int32)), (.int (CF ((VF p1 p2 q3) + (O4 p1 q3)))), (.ref b2)])) rfl (by rw [hml]; rfl) (Steps.refl _) (argsL := [(.int (CF ((VF p1 p2 q3) + (O4 p1 q3)))), (.int (5 : Int32))]) (rest := []) (lenOf pd_a rfl) rfl (by show 2 * 0 + _ ≤ _; exact Nat.le_of_eq rfl) (hb hby at_305) (fun _ _ => ⟨rfl, rfl, (by decide : 3 + 0 ≤ _), (by decide : 11 + 0 ≤ _)⟩)
  dsimp only [Pt.U, Pt.locs, Pt.cells, Pt.slots] at X8 l8 y8 z8 st8 hQ8
  subst l8 y8 z8
  obtain ⟨rfl, N8q, K8, B8⟩ := hQ8
  have N8 := Fr.app N7 N8q
  have Z8 : n0 ≤ T8.heap.size := Nat.le_trans Z7 K8.1
  obtain ⟨cq9, kq9, q9a, q9b, q9c⟩ := isOf hZ rfl B8.1
  have hv : ∀ i, i < 5 → ((List.set (List.set (List.set (List.set [(.int (nar .char (CF (VF p1 p2 q3)))), (.int (0 : Int32)), (.int (0 : Int32)), (.int (0 : Int32)), (.int (0 : Int32))] 1 (.int (nar .char (CF ((VF p1 p2 q3) + (O1 p1 q3)))))) 2 (.int (nar .char (CF ((VF p1 p2 q3) + (O2 p1 q3)))))) 3 (.int (nar .char (CF ((VF p1 p2 q3) + (O3 p1 q3)))))) 4 (.int (nar .char (CF ((VF p1 p2 q3) + (O4 p1 q3)))))) : List Value).getD i (.int (0 : Int32)) = .int (xs5 p1 p2 q3 i) := fun i hi => by
    match i, hi with
    | 0, _ => rfl
    | 1, _ => rfl
    | 2, _ => rfl
    | 3, _ => rfl
    | 4, _ => rfl
  obtain ⟨_, _, ⟨T9, L9, k9, n9⟩, -, X9, ⟨Lc9, hQ9, l9, y9, z9⟩, st9⟩ := X8.virtualBack hx (y := (⟨"bitcove/ArrayContainer", "runCount", "()I"⟩ : MethodName)) (z := (⟨"bitcove/ArrayContainer", "runCount", "()I"⟩ : MethodName)) hown (mvT hZ (hw _ (List.mem_of_getElem? (i := 35) rfl))) (mvT hZ (hw _ (List.mem_of_getElem? (i := 36) rfl))) (notFace_of_selects (args := #[]) (mvT hZ (hw _ (List.mem_of_getElem? (i := 38) rfl)))) (mvT hZ (hw _ (List.mem_of_getElem? (i := 38) rfl))) (mvT hZ (hw _ (List.mem_of_getElem? (i := 37) rfl))) (by decide) (backOf (W := 0) (rm7 l Z a0 hw [] b2 (5 : Int32) t4 kk4 (5 : Int32) (List.set (List.set (List.set (List.set [(.int (nar .char (CF (VF p1 p2 q3)))), (.int (0 : Int32)), (.int (0 : Int32)), (.int (0 : Int32)), (.int (0 : Int32))] 1 (.int (nar .char (CF ((VF p1 p2 q3) + (O1 p1 q3)))))) 2 (.int (nar .char (CF ((VF p1 p2 q3) + (O2 p1 q3)))))) 3 (.int (nar .char (CF ((VF p1 p2 q3) + (O3 p1 q3)))))) 4 (.int (nar .char (CF ((VF p1 p2 q3) + (O4 p1 q3)))))) (xs5 p1 p2 q3) 5 T8.heap n0 Z8 B8 (by decide) (by decide) (by decide) hv) hZ (hw _ (List.mem_of_getElem? (i := 39) rfl)) (hw _ (List.mem_of_getElem? (i := 5) rfl)) (by decide) (by decide)) q9a q9c (g := (mkF m 366 #[.val (.int p1), .val (.int p2), .val (.long q3), .second, .val (.int (NF p1)), .val (.int (G0 q3)), .val (.int (G1 q3)), .val (.int (G2 q3)), .val (.int (G3 q3)), .val (.int (E0 p1 q3)), .val (.int (E1 p1 q3)), .val (.int (E2 p1 q3)), .val (.int (E3 p1 q3)), .val (.int (O1 p1 q3)), .val (.int (O2 p1 q3)), .val (.int (O3 p1 q3)), .val (.int (O4 p1 q3)), .val (.int (TF p1 q3)), .val (.int (VF p1 p2 q3)), .val (.ref b2), .val (.int (XF p1 q3))] [(.ref b2)])) rfl (by rw [hml]; rfl) (Steps.refl _) (argsL := []) (rest := []) (lenOf pd_i rfl) rfl (by show 2 * 0 + _ ≤ _; exact Nat.le_of_eq rfl) (hb hby at_366) (fun _ _ => ⟨rfl, rfl, (by decide : 3 + 0 ≤ _), (by decide : 11 + 0 ≤ _)⟩)
  dsimp only [Pt.U, Pt.locs, Pt.cells, Pt.slots] at X9 l9 y9 z9 st9 hQ9
  subst l9 y9 z9
  obtain ⟨rfl, N9q, eq9⟩ := hQ9
  have N9 := Fr.app N8 N9q
  obtain ⟨cq10, kq10, q10a, q10b, q10c⟩ := isOf hZ rfl (show Exa Z T9.heap b2 "bitcove/ArrayContainer" by rw [eq9]; exact B8.1)
  obtain ⟨_, _, ⟨T10, L10, k10, n10⟩, -, X10, ⟨Lc10, hQ10, l10, y10, z10⟩, st10⟩ := X9.virtualBack hx (y := (⟨"bitcove/ArrayContainer", "cardinality", "()I"⟩ : MethodName)) (z := (⟨"bitcove/ArrayContainer", "cardinality", "()I"⟩ : MethodName)) hown (mvT hZ (hw _ (List.mem_of_getElem? (i := 40) rfl))) (mvT hZ (hw _ (List.mem_of_getElem? (i := 41) rfl))) (notFace_of_selects (args := #[]) (mvT hZ (hw _ (List.mem_of_getElem? (i := 43) rfl)))) (mvT hZ (hw _ (List.mem_of_getElem? (i := 43) rfl))) (mvT hZ (hw _ (List.mem_of_getElem? (i := 42) rfl))) (by decide) (backOf (W := 0) (rm8 l Z a0 hw [] b2 (5 : Int32) T9.heap n0 (by rw [eq9]; exact Z8) (by rw [eq9]; exact B8.2.2.1)) hZ (hw _ (List.mem_of_getElem? (i := 44) rfl)) (hw _ (List.mem_of_getElem? (i := 5) rfl)) (by decide) (by decide)) q10a q10c (g := (mkF m 376 #[.val (.int p1), .val (.int p2), .val (.long q3), .second, .val (.int (NF p1)), .val (.int (G0 q3)), .val (.int (G1 q3)), .val (.int (G2 q3)), .val (.int (G3 q3)), .val (.int (E0 p1 q3)), .val (.int (E1 p1 q3)), .val (.int (E2 p1 q3)), .val (.int (E3 p1 q3)), .val (.int (O1 p1 q3)), .val (.int (O2 p1 q3)), .val (.int (O3 p1 q3)), .val (.int (O4 p1 q3)), .val (.int (TF p1 q3)), .val (.int (VF p1 p2 q3)), .val (.ref b2), .val (.int (XF p1 q3))] [(.ref b2)])) rfl (by rw [hml]; rfl) (Steps.refl _) (argsL := []) (rest := []) (lenOf pd_i rfl) rfl (by show 2 * 0 + _ ≤ _; exact Nat.le_of_eq rfl) (hb hby at_376) (fun _ _ => ⟨rfl, rfl, (by decide : 3 + 0 ≤ _), (by decide : 11 + 0 ≤ _)⟩)
  dsimp only [Pt.U, Pt.locs, Pt.cells, Pt.slots] at X10 l10 y10 z10 st10 hQ10
  subst l10 y10 z10
  obtain ⟨rfl, N10q, eq10⟩ := hQ10
  have N10 := Fr.app N9 N10q
  obtain ⟨fs, hr, hrun, hended, hW, hsame⟩ := X10.leave (v := some (.int (1 : Int32))) (fun h => by rw [Bd.returns] at h; cases h)
  refine ⟨_, _, pre0 _ ?_, hrun, hended, _, _, rfl, ?_, ⟨_, rfl⟩, hW, hsame.mono (by decide) (by decide)⟩
  case refine_2 =>
    show Q0 Z p1 p2 q3 h0 n0 _ T10.heap _
    exact ⟨rfl, N10⟩
  have c0 : (0 : Int32) < NF p1 := by rw [hn]; decide
  have c1 : (1 : Int32) < NF p1 := by rw [hn]; decide
  have c2 : (2 : Int32) < NF p1 := by rw [hn]; decide
  have c3 : (3 : Int32) < NF p1 := by rw [hn]; decide
  have c4 : (4 : Int32) < NF p1 := by rw [hn]; decide
  refine sg_pre p1 p2 q3 X0 hx hZ hw hby hown _ ?_
  show Steps p.tables e below (s₁.setTop (mkF m 213 #[.val (.int p1), .val (.int p2), .val (.long q3), .second, .val (.int (NF p1)), .val (.int (G0 q3)), .val (.int (G1 q3)), .val (.int (G2 q3)), .val (.int (G3 q3)), .val (.int (E0 p1 q3)), .val (.int (E1 p1 q3)), .val (.int (E2 p1 q3)), .val (.int (E3 p1 q3)), .val (.int (O1 p1 q3)), .val (.int (O2 p1 q3)), .val (.int (O3 p1 q3)), .val (.int (O4 p1 q3)), .val (.int (TF p1 q3)), .val (.int (VF p1 p2 q3)), .unset, .unset] [])) _
  refine st2 _ ?_
  show Steps p.tables e below (T2.setTop (mkF m 216 #[.val (.int p1), .val (.int p2), .val (.long q3), .second, .val (.int (NF p1)), .val (.int (G0 q3)), .val (.int (G1 q3)), .val (.int (G2 q3)), .val (.int (G3 q3)), .val (.int (E0 p1 q3)), .val (.int (E1 p1 q3)), .val (.int (E2 p1 q3)), .val (.int (E3 p1 q3)), .val (.int (O1 p1 q3)), .val (.int (O2 p1 q3)), .val (.int (O3 p1 q3)), .val (.int (O4 p1 q3)), .val (.int (TF p1 q3)), .val (.int (VF p1 p2 q3)), .unset, .unset] [(.ref b2)])) _
  refine XS.dup X2.here hx rfl (hb hby at_216) rfl rfl ?_
  show Steps p.tables e below (T2.setTop (mkF m 217 #[.val (.int p1), .val (.int p2), .val (.long q3), .second, .val (.int (NF p1)), .val (.int (G0 q3)), .val (.int (G1 q3)), .val (.int (G2 q3)), .val (.int (G3 q3)), .val (.int (E0 p1 q3)), .val (.int (E1 p1 q3)), .val (.int (E2 p1 q3)), .val (.int (E3 p1 q3)), .val (.int (O1 p1 q3)), .val (.int (O2 p1 q3)), .val (.int (O3 p1 q3)), .val (.int (O4 p1 q3)), .val (.int (TF p1 q3)), .val (.int (VF p1 p2 q3)), .unset, .unset] [(.ref b2), (.ref b2)])) _
  refine st3.trans ?_
  show Steps p.tables e below (T3.setTop (mkF m 220 #[.val (.int p1), .val (.int p2), .val (.long q3), .second, .val (.int (NF p1)), .val (.int (G0 q3)), .val (.int (G1 q3)), .val (.int (G2 q3)), .val (.int (G3 q3)), .val (.int (E0 p1 q3)), .val (.int (E1 p1 q3)), .val (.int (E2 p1 q3)), .val (.int (E3 p1 q3)), .val (.int (O1 p1 q3)), .val (.int (O2 p1 q3)), .val (.int (O3 p1 q3)), .val (.int (O4 p1 q3)), .val (.int (TF p1 q3)), .val (.int (VF p1 p2 q3)), .unset, .unset] [(.ref b2)])) _
  refine XS.astore X3.here hx rfl (hb hby at_220) rfl rfl (l' := #[.val (.int p1), .val (.int p2), .val (.long q3), .second, .val (.int (NF p1)), .val (.int (G0 q3)), .val (.int (G1 q3)), .val (.int (G2 q3)), .val (.int (G3 q3)), .val (.int (E0 p1 q3)), .val (.int (E1 p1 q3)), .val (.int (E2 p1 q3)), .val (.int (E3 p1 q3)), .val (.int (O1 p1 q3)), .val (.int (O2 p1 q3)), .val (.int (O3 p1 q3)), .val (.int (O4 p1 q3)), .val (.int (TF p1 q3)), .val (.int (VF p1 p2 q3)), .val (.ref b2), .unset]) rfl ?_
  show Steps p.tables e below (T3.setTop (mkF m 222 #[.val (.int p1), .val (.int p2), .val (.long q3), .second, .val (.int (NF p1)), .val (.int (G0 q3)), .val (.int (G1 q3)), .val (.int (G2 q3)), .val (.int (G3 q3)), .val (.int (E0 p1 q3)), .val (.int (E1 p1 q3)), .val (.int (E2 p1 q3)), .val (.int (E3 p1 q3)), .val (.int (O1 p1 q3)), .val (.int (O2 p1 q3)), .val (.int (O3 p1 q3)), .val (.int (O4 p1 q3)), .val (.int (TF p1 q3)), .val (.int (VF p1 p2 q3)), .val (.ref b2), .unset] [])) _
  refine XS.iload X3.here hx rfl (hb hby at_222) rfl ?_
  show Steps p.tables e below (T3.setTop (mkF m 224 #[.val (.int p1), .val (.int p2), .val (.long q3), .second, .val (.int (NF p1)), .val (.int (G0 q3)), .val (.int (G1 q3)), .val (.int (G2 q3)), .val (.int (G3 q3)), .val (.int (E0 p1 q3)), .val (.int (E1 p1 q3)), .val (.int (E2 p1 q3)), .val (.int (E3 p1 q3)), .val (.int (O1 p1 q3)), .val (.int (O2 p1 q3)), .val (.int (O3 p1 q3)), .val (.int (O4 p1 q3)), .val (.int (TF p1 q3)), .val (.int (VF p1 p2 q3)), .val (.ref b2), .unset] [(.int (NF p1))])) _
  refine XS.ifNo X3.here hx rfl (hb hby at_224) rfl ((if0 _ _).trans (tlt c0).2.2.2) ?_
  show Steps p.tables e below (T3.setTop (mkF m 227 #[.val (.int p1), .val (.int p2), .val (.long q3), .second, .val (.int (NF p1)), .val (.int (G0 q3)), .val (.int (G1 q3)), .val (.int (G2 q3)), .val (.int (G3 q3)), .val (.int (E0 p1 q3)), .val (.int (E1 p1 q3)), .val (.int (E2 p1 q3)), .val (.int (E3 p1 q3)), .val (.int (O1 p1 q3)), .val (.int (O2 p1 q3)), .val (.int (O3 p1 q3)), .val (.int (O4 p1 q3)), .val (.int (TF p1 q3)), .val (.int (VF p1 p2 q3)), .val (.ref b2), .unset] [])) _
  refine XS.aload X3.here hx rfl (hb hby at_227) rfl rfl ?_
  show Steps p.tables e below (T3.setTop (mkF m 229 #[.val (.int p1), .val (.int p2), .val (.long q3), .second, .val (.int (NF p1)), .val (.int (G0 q3)), .val (.int (G1 q3)), .val (.int (G2 q3)), .val (.int (G3 q3)), .val (.int (E0 p1 q3)), .val (.int (E1 p1 q3)), .val (.int (E2 p1 q3)), .val (.int (E3 p1 q3)), .val (.int (O1 p1 q3)), .val (.int (O2 p1 q3)), .val (.int (O3 p1 q3)), .val (.int (O4 p1 q3)), .val (.int (TF p1 q3)), .val (.int (VF p1 p2 q3)), .val (.ref b2), .unset] [(.ref b2)])) _
  refine XS.iload X3.here hx rfl (hb hby at_229) rfl ?_
  show Steps p.tables e below (T3.setTop (mkF m 231 #[.val (.int p1), .val (.int p2), .val (.long q3), .second, .val (.int (NF p1)), .val (.int (G0 q3)), .val (.int (G1 q3)), .val (.int (G2 q3)), .val (.int (G3 q3)), .val (.int (E0 p1 q3)), .val (.int (E1 p1 q3)), .val (.int (E2 p1 q3)), .val (.int (E3 p1 q3)), .val (.int (O1 p1 q3)), .val (.int (O2 p1 q3)), .val (.int (O3 p1 q3)), .val (.int (O4 p1 q3)), .val (.int (TF p1 q3)), .val (.int (VF p1 p2 q3)), .val (.ref b2), .unset] [(.int (VF p1 p2 q3)), (.ref b2)])) _
  refine XS.i2c X3.here hx rfl (hb hby at_231) rfl ?_
  show Steps p.tables e below (T3.setTop (mkF m 232 #[.val (.int p1), .val (.int p2), .val (.long q3), .second, .val (.int (NF p1)), .val (.int (G0 q3)), .val (.int (G1 q3)), .val (.int (G2 q3)), .val (.int (G3 q3)), .val (.int (E0 p1 q3)), .val (.int (E1 p1 q3)), .val (.int (E2 p1 q3)), .val (.int (E3 p1 q3)), .val (.int (O1 p1 q3)), .val (.int (O2 p1 q3)), .val (.int (O3 p1 q3)), .val (.int (O4 p1 q3)), .val (.int (TF p1 q3)), .val (.int (VF p1 p2 q3)), .val (.ref b2), .unset] [(.int (CF (VF p1 p2 q3))), (.ref b2)])) _
  refine XS.iconst X3.here hx rfl (hb hby at_232) ?_
  show Steps p.tables e below (T3.setTop (mkF m 233 #[.val (.int p1), .val (.int p2), .val (.long q3), .second, .val (.int (NF p1)), .val (.int (G0 q3)), .val (.int (G1 q3)), .val (.int (G2 q3)), .val (.int (G3 q3)), .val (.int (E0 p1 q3)), .val (.int (E1 p1 q3)), .val (.int (E2 p1 q3)), .val (.int (E3 p1 q3)), .val (.int (O1 p1 q3)), .val (.int (O2 p1 q3)), .val (.int (O3 p1 q3)), .val (.int (O4 p1 q3)), .val (.int (TF p1 q3)), .val (.int (VF p1 p2 q3)), .val (.ref b2), .unset] [(.int (5 : Int32)), (.int (CF (VF p1 p2 q3))), (.ref b2)])) _
  refine st4.trans ?_
  show Steps p.tables e below (T4.setTop (mkF m 236 #[.val (.int p1), .val (.int p2), .val (.long q3), .second, .val (.int (NF p1)), .val (.int (G0 q3)), .val (.int (G1 q3)), .val (.int (G2 q3)), .val (.int (G3 q3)), .val (.int (E0 p1 q3)), .val (.int (E1 p1 q3)), .val (.int (E2 p1 q3)), .val (.int (E3 p1 q3)), .val (.int (O1 p1 q3)), .val (.int (O2 p1 q3)), .val (.int (O3 p1 q3)), .val (.int (O4 p1 q3)), .val (.int (TF p1 q3)), .val (.int (VF p1 p2 q3)), .val (.ref b2), .unset] [])) _
  refine XS.iload X4.here hx rfl (hb hby at_236) rfl ?_
  show Steps p.tables e below (T4.setTop (mkF m 238 #[.val (.int p1), .val (.int p2), .val (.long q3), .second, .val (.int (NF p1)), .val (.int (G0 q3)), .val (.int (G1 q3)), .val (.int (G2 q3)), .val (.int (G3 q3)), .val (.int (E0 p1 q3)), .val (.int (E1 p1 q3)), .val (.int (E2 p1 q3)), .val (.int (E3 p1 q3)), .val (.int (O1 p1 q3)), .val (.int (O2 p1 q3)), .val (.int (O3 p1 q3)), .val (.int (O4 p1 q3)), .val (.int (TF p1 q3)), .val (.int (VF p1 p2 q3)), .val (.ref b2), .unset] [(.int (NF p1))])) _
  refine XS.iconst X4.here hx rfl (hb hby at_238) ?_
  show Steps p.tables e below (T4.setTop (mkF m 239 #[.val (.int p1), .val (.int p2), .val (.long q3), .second, .val (.int (NF p1)), .val (.int (G0 q3)), .val (.int (G1 q3)), .val (.int (G2 q3)), .val (.int (G3 q3)), .val (.int (E0 p1 q3)), .val (.int (E1 p1 q3)), .val (.int (E2 p1 q3)), .val (.int (E3 p1 q3)), .val (.int (O1 p1 q3)), .val (.int (O2 p1 q3)), .val (.int (O3 p1 q3)), .val (.int (O4 p1 q3)), .val (.int (TF p1 q3)), .val (.int (VF p1 p2 q3)), .val (.ref b2), .unset] [(.int (1 : Int32)), (.int (NF p1))])) _
  refine XS.icmpNo X4.here hx rfl (hb hby at_239) rfl (tlt c1).2.2.2 ?_
  show Steps p.tables e below (T4.setTop (mkF m 242 #[.val (.int p1), .val (.int p2), .val (.long q3), .second, .val (.int (NF p1)), .val (.int (G0 q3)), .val (.int (G1 q3)), .val (.int (G2 q3)), .val (.int (G3 q3)), .val (.int (E0 p1 q3)), .val (.int (E1 p1 q3)), .val (.int (E2 p1 q3)), .val (.int (E3 p1 q3)), .val (.int (O1 p1 q3)), .val (.int (O2 p1 q3)), .val (.int (O3 p1 q3)), .val (.int (O4 p1 q3)), .val (.int (TF p1 q3)), .val (.int (VF p1 p2 q3)), .val (.ref b2), .unset] [])) _
  refine XS.aload X4.here hx rfl (hb hby at_242) rfl rfl ?_
  show Steps p.tables e below (T4.setTop (mkF m 244 #[.val (.int p1), .val (.int p2), .val (.long q3), .second, .val (.int (NF p1)), .val (.int (G0 q3)), .val (.int (G1 q3)), .val (.int (G2 q3)), .val (.int (G3 q3)), .val (.int (E0 p1 q3)), .val (.int (E1 p1 q3)), .val (.int (E2 p1 q3)), .val (.int (E3 p1 q3)), .val (.int (O1 p1 q3)), .val (.int (O2 p1 q3)), .val (.int (O3 p1 q3)), .val (.int (O4 p1 q3)), .val (.int (TF p1 q3)), .val (.int (VF p1 p2 q3)), .val (.ref b2), .unset] [(.ref b2)])) _
  refine XS.iload X4.here hx rfl (hb hby at_244) rfl ?_
  show Steps p.tables e below (T4.setTop (mkF m 246 #[.val (.int p1), .val (.int p2), .val (.long q3), .second, .val (.int (NF p1)), .val (.int (G0 q3)), .val (.int (G1 q3)), .val (.int (G2 q3)), .val (.int (G3 q3)), .val (.int (E0 p1 q3)), .val (.int (E1 p1 q3)), .val (.int (E2 p1 q3)), .val (.int (E3 p1 q3)), .val (.int (O1 p1 q3)), .val (.int (O2 p1 q3)), .val (.int (O3 p1 q3)), .val (.int (O4 p1 q3)), .val (.int (TF p1 q3)), .val (.int (VF p1 p2 q3)), .val (.ref b2), .unset] [(.int (VF p1 p2 q3)), (.ref b2)])) _
  refine XS.iload X4.here hx rfl (hb hby at_246) rfl ?_
  show Steps p.tables e below (T4.setTop (mkF m 248 #[.val (.int p1), .val (.int p2), .val (.long q3), .second, .val (.int (NF p1)), .val (.int (G0 q3)), .val (.int (G1 q3)), .val (.int (G2 q3)), .val (.int (G3 q3)), .val (.int (E0 p1 q3)), .val (.int (E1 p1 q3)), .val (.int (E2 p1 q3)), .val (.int (E3 p1 q3)), .val (.int (O1 p1 q3)), .val (.int (O2 p1 q3)), .val (.int (O3 p1 q3)), .val (.int (O4 p1 q3)), .val (.int (TF p1 q3)), .val (.int (VF p1 p2 q3)), .val (.ref b2), .unset] [(.int (O1 p1 q3)), (.int (VF p1 p2 q3)), (.ref b2)])) _
  refine XS.iadd X4.here hx rfl (hb hby at_248) rfl ?_
  show Steps p.tables e below (T4.setTop (mkF m 249 #[.val (.int p1), .val (.int p2), .val (.long q3), .second, .val (.int (NF p1)), .val (.int (G0 q3)), .val (.int (G1 q3)), .val (.int (G2 q3)), .val (.int (G3 q3)), .val (.int (E0 p1 q3)), .val (.int (E1 p1 q3)), .val (.int (E2 p1 q3)), .val (.int (E3 p1 q3)), .val (.int (O1 p1 q3)), .val (.int (O2 p1 q3)), .val (.int (O3 p1 q3)), .val (.int (O4 p1 q3)), .val (.int (TF p1 q3)), .val (.int (VF p1 p2 q3)), .val (.ref b2), .unset] [(.int ((VF p1 p2 q3) + (O1 p1 q3))), (.ref b2)])) _
  refine XS.i2c X4.here hx rfl (hb hby at_249) rfl ?_
  show Steps p.tables e below (T4.setTop (mkF m 250 #[.val (.int p1), .val (.int p2), .val (.long q3), .second, .val (.int (NF p1)), .val (.int (G0 q3)), .val (.int (G1 q3)), .val (.int (G2 q3)), .val (.int (G3 q3)), .val (.int (E0 p1 q3)), .val (.int (E1 p1 q3)), .val (.int (E2 p1 q3)), .val (.int (E3 p1 q3)), .val (.int (O1 p1 q3)), .val (.int (O2 p1 q3)), .val (.int (O3 p1 q3)), .val (.int (O4 p1 q3)), .val (.int (TF p1 q3)), .val (.int (VF p1 p2 q3)), .val (.ref b2), .unset] [(.int (CF ((VF p1 p2 q3) + (O1 p1 q3)))), (.ref b2)])) _
  refine XS.iconst X4.here hx rfl (hb hby at_250) ?_
  show Steps p.tables e below (T4.setTop (mkF m 251 #[.val (.int p1), .val (.int p2), .val (.long q3), .second, .val (.int (NF p1)), .val (.int (G0 q3)), .val (.int (G1 q3)), .val (.int (G2 q3)), .val (.int (G3 q3)), .val (.int (E0 p1 q3)), .val (.int (E1 p1 q3)), .val (.int (E2 p1 q3)), .val (.int (E3 p1 q3)), .val (.int (O1 p1 q3)), .val (.int (O2 p1 q3)), .val (.int (O3 p1 q3)), .val (.int (O4 p1 q3)), .val (.int (TF p1 q3)), .val (.int (VF p1 p2 q3)), .val (.ref b2), .unset] [(.int (5 : Int32)), (.int (CF ((VF p1 p2 q3) + (O1 p1 q3)))), (.ref b2)])) _
  refine st5.trans ?_
  show Steps p.tables e below (T5.setTop (mkF m 254 #[.val (.int p1), .val (.int p2), .val (.long q3), .second, .val (.int (NF p1)), .val (.int (G0 q3)), .val (.int (G1 q3)), .val (.int (G2 q3)), .val (.int (G3 q3)), .val (.int (E0 p1 q3)), .val (.int (E1 p1 q3)), .val (.int (E2 p1 q3)), .val (.int (E3 p1 q3)), .val (.int (O1 p1 q3)), .val (.int (O2 p1 q3)), .val (.int (O3 p1 q3)), .val (.int (O4 p1 q3)), .val (.int (TF p1 q3)), .val (.int (VF p1 p2 q3)), .val (.ref b2), .unset] [])) _
  refine XS.iload X5.here hx rfl (hb hby at_254) rfl ?_
  show Steps p.tables e below (T5.setTop (mkF m 256 #[.val (.int p1), .val (.int p2), .val (.long q3), .second, .val (.int (NF p1)), .val (.int (G0 q3)), .val (.int (G1 q3)), .val (.int (G2 q3)), .val (.int (G3 q3)), .val (.int (E0 p1 q3)), .val (.int (E1 p1 q3)), .val (.int (E2 p1 q3)), .val (.int (E3 p1 q3)), .val (.int (O1 p1 q3)), .val (.int (O2 p1 q3)), .val (.int (O3 p1 q3)), .val (.int (O4 p1 q3)), .val (.int (TF p1 q3)), .val (.int (VF p1 p2 q3)), .val (.ref b2), .unset] [(.int (NF p1))])) _
  refine XS.iconst X5.here hx rfl (hb hby at_256) ?_
  show Steps p.tables e below (T5.setTop (mkF m 257 #[.val (.int p1), .val (.int p2), .val (.long q3), .second, .val (.int (NF p1)), .val (.int (G0 q3)), .val (.int (G1 q3)), .val (.int (G2 q3)), .val (.int (G3 q3)), .val (.int (E0 p1 q3)), .val (.int (E1 p1 q3)), .val (.int (E2 p1 q3)), .val (.int (E3 p1 q3)), .val (.int (O1 p1 q3)), .val (.int (O2 p1 q3)), .val (.int (O3 p1 q3)), .val (.int (O4 p1 q3)), .val (.int (TF p1 q3)), .val (.int (VF p1 p2 q3)), .val (.ref b2), .unset] [(.int (2 : Int32)), (.int (NF p1))])) _
  refine XS.icmpNo X5.here hx rfl (hb hby at_257) rfl (tlt c2).2.2.2 ?_
  show Steps p.tables e below (T5.setTop (mkF m 260 #[.val (.int p1), .val (.int p2), .val (.long q3), .second, .val (.int (NF p1)), .val (.int (G0 q3)), .val (.int (G1 q3)), .val (.int (G2 q3)), .val (.int (G3 q3)), .val (.int (E0 p1 q3)), .val (.int (E1 p1 q3)), .val (.int (E2 p1 q3)), .val (.int (E3 p1 q3)), .val (.int (O1 p1 q3)), .val (.int (O2 p1 q3)), .val (.int (O3 p1 q3)), .val (.int (O4 p1 q3)), .val (.int (TF p1 q3)), .val (.int (VF p1 p2 q3)), .val (.ref b2), .unset] [])) _
  refine XS.aload X5.here hx rfl (hb hby at_260) rfl rfl ?_
  show Steps p.tables e below (T5.setTop (mkF m 262 #[.val (.int p1), .val (.int p2), .val (.long q3), .second, .val (.int (NF p1)), .val (.int (G0 q3)), .val (.int (G1 q3)), .val (.int (G2 q3)), .val (.int (G3 q3)), .val (.int (E0 p1 q3)), .val (.int (E1 p1 q3)), .val (.int (E2 p1 q3)), .val (.int (E3 p1 q3)), .val (.int (O1 p1 q3)), .val (.int (O2 p1 q3)), .val (.int (O3 p1 q3)), .val (.int (O4 p1 q3)), .val (.int (TF p1 q3)), .val (.int (VF p1 p2 q3)), .val (.ref b2), .unset] [(.ref b2)])) _
  refine XS.iload X5.here hx rfl (hb hby at_262) rfl ?_
  show Steps p.tables e below (T5.setTop (mkF m 264 #[.val (.int p1), .val (.int p2), .val (.long q3), .second, .val (.int (NF p1)), .val (.int (G0 q3)), .val (.int (G1 q3)), .val (.int (G2 q3)), .val (.int (G3 q3)), .val (.int (E0 p1 q3)), .val (.int (E1 p1 q3)), .val (.int (E2 p1 q3)), .val (.int (E3 p1 q3)), .val (.int (O1 p1 q3)), .val (.int (O2 p1 q3)), .val (.int (O3 p1 q3)), .val (.int (O4 p1 q3)), .val (.int (TF p1 q3)), .val (.int (VF p1 p2 q3)), .val (.ref b2), .unset] [(.int (VF p1 p2 q3)), (.ref b2)])) _
  refine XS.iload X5.here hx rfl (hb hby at_264) rfl ?_
  show Steps p.tables e below (T5.setTop (mkF m 266 #[.val (.int p1), .val (.int p2), .val (.long q3), .second, .val (.int (NF p1)), .val (.int (G0 q3)), .val (.int (G1 q3)), .val (.int (G2 q3)), .val (.int (G3 q3)), .val (.int (E0 p1 q3)), .val (.int (E1 p1 q3)), .val (.int (E2 p1 q3)), .val (.int (E3 p1 q3)), .val (.int (O1 p1 q3)), .val (.int (O2 p1 q3)), .val (.int (O3 p1 q3)), .val (.int (O4 p1 q3)), .val (.int (TF p1 q3)), .val (.int (VF p1 p2 q3)), .val (.ref b2), .unset] [(.int (O2 p1 q3)), (.int (VF p1 p2 q3)), (.ref b2)])) _
  refine XS.iadd X5.here hx rfl (hb hby at_266) rfl ?_
  show Steps p.tables e below (T5.setTop (mkF m 267 #[.val (.int p1), .val (.int p2), .val (.long q3), .second, .val (.int (NF p1)), .val (.int (G0 q3)), .val (.int (G1 q3)), .val (.int (G2 q3)), .val (.int (G3 q3)), .val (.int (E0 p1 q3)), .val (.int (E1 p1 q3)), .val (.int (E2 p1 q3)), .val (.int (E3 p1 q3)), .val (.int (O1 p1 q3)), .val (.int (O2 p1 q3)), .val (.int (O3 p1 q3)), .val (.int (O4 p1 q3)), .val (.int (TF p1 q3)), .val (.int (VF p1 p2 q3)), .val (.ref b2), .unset] [(.int ((VF p1 p2 q3) + (O2 p1 q3))), (.ref b2)])) _
  refine XS.i2c X5.here hx rfl (hb hby at_267) rfl ?_
  show Steps p.tables e below (T5.setTop (mkF m 268 #[.val (.int p1), .val (.int p2), .val (.long q3), .second, .val (.int (NF p1)), .val (.int (G0 q3)), .val (.int (G1 q3)), .val (.int (G2 q3)), .val (.int (G3 q3)), .val (.int (E0 p1 q3)), .val (.int (E1 p1 q3)), .val (.int (E2 p1 q3)), .val (.int (E3 p1 q3)), .val (.int (O1 p1 q3)), .val (.int (O2 p1 q3)), .val (.int (O3 p1 q3)), .val (.int (O4 p1 q3)), .val (.int (TF p1 q3)), .val (.int (VF p1 p2 q3)), .val (.ref b2), .unset] [(.int (CF ((VF p1 p2 q3) + (O2 p1 q3)))), (.ref b2)])) _
  refine XS.iconst X5.here hx rfl (hb hby at_268) ?_
  show Steps p.tables e below (T5.setTop (mkF m 269 #[.val (.int p1), .val (.int p2), .val (.long q3), .second, .val (.int (NF p1)), .val (.int (G0 q3)), .val (.int (G1 q3)), .val (.int (G2 q3)), .val (.int (G3 q3)), .val (.int (E0 p1 q3)), .val (.int (E1 p1 q3)), .val (.int (E2 p1 q3)), .val (.int (E3 p1 q3)), .val (.int (O1 p1 q3)), .val (.int (O2 p1 q3)), .val (.int (O3 p1 q3)), .val (.int (O4 p1 q3)), .val (.int (TF p1 q3)), .val (.int (VF p1 p2 q3)), .val (.ref b2), .unset] [(.int (5 : Int32)), (.int (CF ((VF p1 p2 q3) + (O2 p1 q3)))), (.ref b2)])) _
  refine st6.trans ?_
  show Steps p.tables e below (T6.setTop (mkF m 272 #[.val (.int p1), .val (.int p2), .val (.long q3), .second, .val (.int (NF p1)), .val (.int (G0 q3)), .val (.int (G1 q3)), .val (.int (G2 q3)), .val (.int (G3 q3)), .val (.int (E0 p1 q3)), .val (.int (E1 p1 q3)), .val (.int (E2 p1 q3)), .val (.int (E3 p1 q3)), .val (.int (O1 p1 q3)), .val (.int (O2 p1 q3)), .val (.int (O3 p1 q3)), .val (.int (O4 p1 q3)), .val (.int (TF p1 q3)), .val (.int (VF p1 p2 q3)), .val (.ref b2), .unset] [])) _
  refine XS.iload X6.here hx rfl (hb hby at_272) rfl ?_
  show Steps p.tables e below (T6.setTop (mkF m 274 #[.val (.int p1), .val (.int p2), .val (.long q3), .second, .val (.int (NF p1)), .val (.int (G0 q3)), .val (.int (G1 q3)), .val (.int (G2 q3)), .val (.int (G3 q3)), .val (.int (E0 p1 q3)), .val (.int (E1 p1 q3)), .val (.int (E2 p1 q3)), .val (.int (E3 p1 q3)), .val (.int (O1 p1 q3)), .val (.int (O2 p1 q3)), .val (.int (O3 p1 q3)), .val (.int (O4 p1 q3)), .val (.int (TF p1 q3)), .val (.int (VF p1 p2 q3)), .val (.ref b2), .unset] [(.int (NF p1))])) _
  refine XS.iconst X6.here hx rfl (hb hby at_274) ?_
  show Steps p.tables e below (T6.setTop (mkF m 275 #[.val (.int p1), .val (.int p2), .val (.long q3), .second, .val (.int (NF p1)), .val (.int (G0 q3)), .val (.int (G1 q3)), .val (.int (G2 q3)), .val (.int (G3 q3)), .val (.int (E0 p1 q3)), .val (.int (E1 p1 q3)), .val (.int (E2 p1 q3)), .val (.int (E3 p1 q3)), .val (.int (O1 p1 q3)), .val (.int (O2 p1 q3)), .val (.int (O3 p1 q3)), .val (.int (O4 p1 q3)), .val (.int (TF p1 q3)), .val (.int (VF p1 p2 q3)), .val (.ref b2), .unset] [(.int (3 : Int32)), (.int (NF p1))])) _
  refine XS.icmpNo X6.here hx rfl (hb hby at_275) rfl (tlt c3).2.2.2 ?_
  show Steps p.tables e below (T6.setTop (mkF m 278 #[.val (.int p1), .val (.int p2), .val (.long q3), .second, .val (.int (NF p1)), .val (.int (G0 q3)), .val (.int (G1 q3)), .val (.int (G2 q3)), .val (.int (G3 q3)), .val (.int (E0 p1 q3)), .val (.int (E1 p1 q3)), .val (.int (E2 p1 q3)), .val (.int (E3 p1 q3)), .val (.int (O1 p1 q3)), .val (.int (O2 p1 q3)), .val (.int (O3 p1 q3)), .val (.int (O4 p1 q3)), .val (.int (TF p1 q3)), .val (.int (VF p1 p2 q3)), .val (.ref b2), .unset] [])) _
  refine XS.aload X6.here hx rfl (hb hby at_278) rfl rfl ?_
  show Steps p.tables e below (T6.setTop (mkF m 280 #[.val (.int p1), .val (.int p2), .val (.long q3), .second, .val (.int (NF p1)), .val (.int (G0 q3)), .val (.int (G1 q3)), .val (.int (G2 q3)), .val (.int (G3 q3)), .val (.int (E0 p1 q3)), .val (.int (E1 p1 q3)), .val (.int (E2 p1 q3)), .val (.int (E3 p1 q3)), .val (.int (O1 p1 q3)), .val (.int (O2 p1 q3)), .val (.int (O3 p1 q3)), .val (.int (O4 p1 q3)), .val (.int (TF p1 q3)), .val (.int (VF p1 p2 q3)), .val (.ref b2), .unset] [(.ref b2)])) _
  refine XS.iload X6.here hx rfl (hb hby at_280) rfl ?_
  show Steps p.tables e below (T6.setTop (mkF m 282 #[.val (.int p1), .val (.int p2), .val (.long q3), .second, .val (.int (NF p1)), .val (.int (G0 q3)), .val (.int (G1 q3)), .val (.int (G2 q3)), .val (.int (G3 q3)), .val (.int (E0 p1 q3)), .val (.int (E1 p1 q3)), .val (.int (E2 p1 q3)), .val (.int (E3 p1 q3)), .val (.int (O1 p1 q3)), .val (.int (O2 p1 q3)), .val (.int (O3 p1 q3)), .val (.int (O4 p1 q3)), .val (.int (TF p1 q3)), .val (.int (VF p1 p2 q3)), .val (.ref b2), .unset] [(.int (VF p1 p2 q3)), (.ref b2)])) _
  refine XS.iload X6.here hx rfl (hb hby at_282) rfl ?_
  show Steps p.tables e below (T6.setTop (mkF m 284 #[.val (.int p1), .val (.int p2), .val (.long q3), .second, .val (.int (NF p1)), .val (.int (G0 q3)), .val (.int (G1 q3)), .val (.int (G2 q3)), .val (.int (G3 q3)), .val (.int (E0 p1 q3)), .val (.int (E1 p1 q3)), .val (.int (E2 p1 q3)), .val (.int (E3 p1 q3)), .val (.int (O1 p1 q3)), .val (.int (O2 p1 q3)), .val (.int (O3 p1 q3)), .val (.int (O4 p1 q3)), .val (.int (TF p1 q3)), .val (.int (VF p1 p2 q3)), .val (.ref b2), .unset] [(.int (O3 p1 q3)), (.int (VF p1 p2 q3)), (.ref b2)])) _
  refine XS.iadd X6.here hx rfl (hb hby at_284) rfl ?_
  show Steps p.tables e below (T6.setTop (mkF m 285 #[.val (.int p1), .val (.int p2), .val (.long q3), .second, .val (.int (NF p1)), .val (.int (G0 q3)), .val (.int (G1 q3)), .val (.int (G2 q3)), .val (.int (G3 q3)), .val (.int (E0 p1 q3)), .val (.int (E1 p1 q3)), .val (.int (E2 p1 q3)), .val (.int (E3 p1 q3)), .val (.int (O1 p1 q3)), .val (.int (O2 p1 q3)), .val (.int (O3 p1 q3)), .val (.int (O4 p1 q3)), .val (.int (TF p1 q3)), .val (.int (VF p1 p2 q3)), .val (.ref b2), .unset] [(.int ((VF p1 p2 q3) + (O3 p1 q3))), (.ref b2)])) _
  refine XS.i2c X6.here hx rfl (hb hby at_285) rfl ?_
  show Steps p.tables e below (T6.setTop (mkF m 286 #[.val (.int p1), .val (.int p2), .val (.long q3), .second, .val (.int (NF p1)), .val (.int (G0 q3)), .val (.int (G1 q3)), .val (.int (G2 q3)), .val (.int (G3 q3)), .val (.int (E0 p1 q3)), .val (.int (E1 p1 q3)), .val (.int (E2 p1 q3)), .val (.int (E3 p1 q3)), .val (.int (O1 p1 q3)), .val (.int (O2 p1 q3)), .val (.int (O3 p1 q3)), .val (.int (O4 p1 q3)), .val (.int (TF p1 q3)), .val (.int (VF p1 p2 q3)), .val (.ref b2), .unset] [(.int (CF ((VF p1 p2 q3) + (O3 p1 q3)))), (.ref b2)])) _
  refine XS.iconst X6.here hx rfl (hb hby at_286) ?_
  show Steps p.tables e below (T6.setTop (mkF m 287 #[.val (.int p1), .val (.int p2), .val (.long q3), .second, .val (.int (NF p1)), .val (.int (G0 q3)), .val (.int (G1 q3)), .val (.int (G2 q3)), .val (.int (G3 q3)), .val (.int (E0 p1 q3)), .val (.int (E1 p1 q3)), .val (.int (E2 p1 q3)), .val (.int (E3 p1 q3)), .val (.int (O1 p1 q3)), .val (.int (O2 p1 q3)), .val (.int (O3 p1 q3)), .val (.int (O4 p1 q3)), .val (.int (TF p1 q3)), .val (.int (VF p1 p2 q3)), .val (.ref b2), .unset] [(.int (5 : Int32)), (.int (CF ((VF p1 p2 q3) + (O3 p1 q3)))), (.ref b2)])) _
  refine st7.trans ?_
  show Steps p.tables e below (T7.setTop (mkF m 290 #[.val (.int p1), .val (.int p2), .val (.long q3), .second, .val (.int (NF p1)), .val (.int (G0 q3)), .val (.int (G1 q3)), .val (.int (G2 q3)), .val (.int (G3 q3)), .val (.int (E0 p1 q3)), .val (.int (E1 p1 q3)), .val (.int (E2 p1 q3)), .val (.int (E3 p1 q3)), .val (.int (O1 p1 q3)), .val (.int (O2 p1 q3)), .val (.int (O3 p1 q3)), .val (.int (O4 p1 q3)), .val (.int (TF p1 q3)), .val (.int (VF p1 p2 q3)), .val (.ref b2), .unset] [])) _
  refine XS.iload X7.here hx rfl (hb hby at_290) rfl ?_
  show Steps p.tables e below (T7.setTop (mkF m 292 #[.val (.int p1), .val (.int p2), .val (.long q3), .second, .val (.int (NF p1)), .val (.int (G0 q3)), .val (.int (G1 q3)), .val (.int (G2 q3)), .val (.int (G3 q3)), .val (.int (E0 p1 q3)), .val (.int (E1 p1 q3)), .val (.int (E2 p1 q3)), .val (.int (E3 p1 q3)), .val (.int (O1 p1 q3)), .val (.int (O2 p1 q3)), .val (.int (O3 p1 q3)), .val (.int (O4 p1 q3)), .val (.int (TF p1 q3)), .val (.int (VF p1 p2 q3)), .val (.ref b2), .unset] [(.int (NF p1))])) _
  refine XS.iconst X7.here hx rfl (hb hby at_292) ?_
  show Steps p.tables e below (T7.setTop (mkF m 293 #[.val (.int p1), .val (.int p2), .val (.long q3), .second, .val (.int (NF p1)), .val (.int (G0 q3)), .val (.int (G1 q3)), .val (.int (G2 q3)), .val (.int (G3 q3)), .val (.int (E0 p1 q3)), .val (.int (E1 p1 q3)), .val (.int (E2 p1 q3)), .val (.int (E3 p1 q3)), .val (.int (O1 p1 q3)), .val (.int (O2 p1 q3)), .val (.int (O3 p1 q3)), .val (.int (O4 p1 q3)), .val (.int (TF p1 q3)), .val (.int (VF p1 p2 q3)), .val (.ref b2), .unset] [(.int (4 : Int32)), (.int (NF p1))])) _
  refine XS.icmpNo X7.here hx rfl (hb hby at_293) rfl (tlt c4).2.2.2 ?_
  show Steps p.tables e below (T7.setTop (mkF m 296 #[.val (.int p1), .val (.int p2), .val (.long q3), .second, .val (.int (NF p1)), .val (.int (G0 q3)), .val (.int (G1 q3)), .val (.int (G2 q3)), .val (.int (G3 q3)), .val (.int (E0 p1 q3)), .val (.int (E1 p1 q3)), .val (.int (E2 p1 q3)), .val (.int (E3 p1 q3)), .val (.int (O1 p1 q3)), .val (.int (O2 p1 q3)), .val (.int (O3 p1 q3)), .val (.int (O4 p1 q3)), .val (.int (TF p1 q3)), .val (.int (VF p1 p2 q3)), .val (.ref b2), .unset] [])) _
  refine XS.aload X7.here hx rfl (hb hby at_296) rfl rfl ?_
  show Steps p.tables e below (T7.setTop (mkF m 298 #[.val (.int p1), .val (.int p2), .val (.long q3), .second, .val (.int (NF p1)), .val (.int (G0 q3)), .val (.int (G1 q3)), .val (.int (G2 q3)), .val (.int (G3 q3)), .val (.int (E0 p1 q3)), .val (.int (E1 p1 q3)), .val (.int (E2 p1 q3)), .val (.int (E3 p1 q3)), .val (.int (O1 p1 q3)), .val (.int (O2 p1 q3)), .val (.int (O3 p1 q3)), .val (.int (O4 p1 q3)), .val (.int (TF p1 q3)), .val (.int (VF p1 p2 q3)), .val (.ref b2), .unset] [(.ref b2)])) _
  refine XS.iload X7.here hx rfl (hb hby at_298) rfl ?_
  show Steps p.tables e below (T7.setTop (mkF m 300 #[.val (.int p1), .val (.int p2), .val (.long q3), .second, .val (.int (NF p1)), .val (.int (G0 q3)), .val (.int (G1 q3)), .val (.int (G2 q3)), .val (.int (G3 q3)), .val (.int (E0 p1 q3)), .val (.int (E1 p1 q3)), .val (.int (E2 p1 q3)), .val (.int (E3 p1 q3)), .val (.int (O1 p1 q3)), .val (.int (O2 p1 q3)), .val (.int (O3 p1 q3)), .val (.int (O4 p1 q3)), .val (.int (TF p1 q3)), .val (.int (VF p1 p2 q3)), .val (.ref b2), .unset] [(.int (VF p1 p2 q3)), (.ref b2)])) _
  refine XS.iload X7.here hx rfl (hb hby at_300) rfl ?_
  show Steps p.tables e below (T7.setTop (mkF m 302 #[.val (.int p1), .val (.int p2), .val (.long q3), .second, .val (.int (NF p1)), .val (.int (G0 q3)), .val (.int (G1 q3)), .val (.int (G2 q3)), .val (.int (G3 q3)), .val (.int (E0 p1 q3)), .val (.int (E1 p1 q3)), .val (.int (E2 p1 q3)), .val (.int (E3 p1 q3)), .val (.int (O1 p1 q3)), .val (.int (O2 p1 q3)), .val (.int (O3 p1 q3)), .val (.int (O4 p1 q3)), .val (.int (TF p1 q3)), .val (.int (VF p1 p2 q3)), .val (.ref b2), .unset] [(.int (O4 p1 q3)), (.int (VF p1 p2 q3)), (.ref b2)])) _
  refine XS.iadd X7.here hx rfl (hb hby at_302) rfl ?_
  show Steps p.tables e below (T7.setTop (mkF m 303 #[.val (.int p1), .val (.int p2), .val (.long q3), .second, .val (.int (NF p1)), .val (.int (G0 q3)), .val (.int (G1 q3)), .val (.int (G2 q3)), .val (.int (G3 q3)), .val (.int (E0 p1 q3)), .val (.int (E1 p1 q3)), .val (.int (E2 p1 q3)), .val (.int (E3 p1 q3)), .val (.int (O1 p1 q3)), .val (.int (O2 p1 q3)), .val (.int (O3 p1 q3)), .val (.int (O4 p1 q3)), .val (.int (TF p1 q3)), .val (.int (VF p1 p2 q3)), .val (.ref b2), .unset] [(.int ((VF p1 p2 q3) + (O4 p1 q3))), (.ref b2)])) _
  refine XS.i2c X7.here hx rfl (hb hby at_303) rfl ?_
  show Steps p.tables e below (T7.setTop (mkF m 304 #[.val (.int p1), .val (.int p2), .val (.long q3), .second, .val (.int (NF p1)), .val (.int (G0 q3)), .val (.int (G1 q3)), .val (.int (G2 q3)), .val (.int (G3 q3)), .val (.int (E0 p1 q3)), .val (.int (E1 p1 q3)), .val (.int (E2 p1 q3)), .val (.int (E3 p1 q3)), .val (.int (O1 p1 q3)), .val (.int (O2 p1 q3)), .val (.int (O3 p1 q3)), .val (.int (O4 p1 q3)), .val (.int (TF p1 q3)), .val (.int (VF p1 p2 q3)), .val (.ref b2), .unset] [(.int (CF ((VF p1 p2 q3) + (O4 p1 q3)))), (.ref b2)])) _
  refine XS.iconst X7.here hx rfl (hb hby at_304) ?_
  show Steps p.tables e below (T7.setTop (mkF m 305 #[.val (.int p1), .val (.int p2), .val (.long q3), .second, .val (.int (NF p1)), .val (.int (G0 q3)), .val (.int (G1 q3)), .val (.int (G2 q3)), .val (.int (G3 q3)), .val (.int (E0 p1 q3)), .val (.int (E1 p1 q3)), .val (.int (E2 p1 q3)), .val (.int (E3 p1 q3)), .val (.int (O1 p1 q3)), .val (.int (O2 p1 q3)), .val (.int (O3 p1 q3)), .val (.int (O4 p1 q3)), .val (.int (TF p1 q3)), .val (.int (VF p1 p2 q3)), .val (.ref b2), .unset] [(.int (5 : Int32)), (.int (CF ((VF p1 p2 q3) + (O4 p1 q3)))), (.ref b2)])) _
  refine st8.trans ?_
  show Steps p.tables e below (T8.setTop (mkF m 308 #[.val (.int p1), .val (.int p2), .val (.long q3), .second, .val (.int (NF p1)), .val (.int (G0 q3)), .val (.int (G1 q3)), .val (.int (G2 q3)), .val (.int (G3 q3)), .val (.int (E0 p1 q3)), .val (.int (E1 p1 q3)), .val (.int (E2 p1 q3)), .val (.int (E3 p1 q3)), .val (.int (O1 p1 q3)), .val (.int (O2 p1 q3)), .val (.int (O3 p1 q3)), .val (.int (O4 p1 q3)), .val (.int (TF p1 q3)), .val (.int (VF p1 p2 q3)), .val (.ref b2), .unset] [])) _
  refine sg_308 p1 p2 q3 b2 X8 hx hZ hw hby hown _ ?_
  show Steps p.tables e below (T8.setTop (mkF m 364 #[.val (.int p1), .val (.int p2), .val (.long q3), .second, .val (.int (NF p1)), .val (.int (G0 q3)), .val (.int (G1 q3)), .val (.int (G2 q3)), .val (.int (G3 q3)), .val (.int (E0 p1 q3)), .val (.int (E1 p1 q3)), .val (.int (E2 p1 q3)), .val (.int (E3 p1 q3)), .val (.int (O1 p1 q3)), .val (.int (O2 p1 q3)), .val (.int (O3 p1 q3)), .val (.int (O4 p1 q3)), .val (.int (TF p1 q3)), .val (.int (VF p1 p2 q3)), .val (.ref b2), .val (.int (XF p1 q3))] [])) _
  refine XS.aload X8.here hx rfl (hb hby at_364) rfl rfl ?_
  show Steps p.tables e below (T8.setTop (mkF m 366 #[.val (.int p1), .val (.int p2), .val (.long q3), .second, .val (.int (NF p1)), .val (.int (G0 q3)), .val (.int (G1 q3)), .val (.int (G2 q3)), .val (.int (G3 q3)), .val (.int (E0 p1 q3)), .val (.int (E1 p1 q3)), .val (.int (E2 p1 q3)), .val (.int (E3 p1 q3)), .val (.int (O1 p1 q3)), .val (.int (O2 p1 q3)), .val (.int (O3 p1 q3)), .val (.int (O4 p1 q3)), .val (.int (TF p1 q3)), .val (.int (VF p1 p2 q3)), .val (.ref b2), .val (.int (XF p1 q3))] [(.ref b2)])) _
  refine st9.trans ?_
  show Steps p.tables e below (T9.setTop (mkF m 369 #[.val (.int p1), .val (.int p2), .val (.long q3), .second, .val (.int (NF p1)), .val (.int (G0 q3)), .val (.int (G1 q3)), .val (.int (G2 q3)), .val (.int (G3 q3)), .val (.int (E0 p1 q3)), .val (.int (E1 p1 q3)), .val (.int (E2 p1 q3)), .val (.int (E3 p1 q3)), .val (.int (O1 p1 q3)), .val (.int (O2 p1 q3)), .val (.int (O3 p1 q3)), .val (.int (O4 p1 q3)), .val (.int (TF p1 q3)), .val (.int (VF p1 p2 q3)), .val (.ref b2), .val (.int (XF p1 q3))] [(.int (runs (xs5 p1 p2 q3) 4 1 (5 : Int32)))])) _
  refine XS.iload X9.here hx rfl (hb hby at_369) rfl ?_
  show Steps p.tables e below (T9.setTop (mkF m 371 #[.val (.int p1), .val (.int p2), .val (.long q3), .second, .val (.int (NF p1)), .val (.int (G0 q3)), .val (.int (G1 q3)), .val (.int (G2 q3)), .val (.int (G3 q3)), .val (.int (E0 p1 q3)), .val (.int (E1 p1 q3)), .val (.int (E2 p1 q3)), .val (.int (E3 p1 q3)), .val (.int (O1 p1 q3)), .val (.int (O2 p1 q3)), .val (.int (O3 p1 q3)), .val (.int (O4 p1 q3)), .val (.int (TF p1 q3)), .val (.int (VF p1 p2 q3)), .val (.ref b2), .val (.int (XF p1 q3))] [(.int (XF p1 q3)), (.int (runs (xs5 p1 p2 q3) 4 1 (5 : Int32)))])) _
  refine XS.icmpNo X9.here hx rfl (hb hby at_371) rfl (teq (own_case5 p1 p2 q3 hn)).2 ?_
  show Steps p.tables e below (T9.setTop (mkF m 374 #[.val (.int p1), .val (.int p2), .val (.long q3), .second, .val (.int (NF p1)), .val (.int (G0 q3)), .val (.int (G1 q3)), .val (.int (G2 q3)), .val (.int (G3 q3)), .val (.int (E0 p1 q3)), .val (.int (E1 p1 q3)), .val (.int (E2 p1 q3)), .val (.int (E3 p1 q3)), .val (.int (O1 p1 q3)), .val (.int (O2 p1 q3)), .val (.int (O3 p1 q3)), .val (.int (O4 p1 q3)), .val (.int (TF p1 q3)), .val (.int (VF p1 p2 q3)), .val (.ref b2), .val (.int (XF p1 q3))] [])) _
  refine XS.aload X9.here hx rfl (hb hby at_374) rfl rfl ?_
  show Steps p.tables e below (T9.setTop (mkF m 376 #[.val (.int p1), .val (.int p2), .val (.long q3), .second, .val (.int (NF p1)), .val (.int (G0 q3)), .val (.int (G1 q3)), .val (.int (G2 q3)), .val (.int (G3 q3)), .val (.int (E0 p1 q3)), .val (.int (E1 p1 q3)), .val (.int (E2 p1 q3)), .val (.int (E3 p1 q3)), .val (.int (O1 p1 q3)), .val (.int (O2 p1 q3)), .val (.int (O3 p1 q3)), .val (.int (O4 p1 q3)), .val (.int (TF p1 q3)), .val (.int (VF p1 p2 q3)), .val (.ref b2), .val (.int (XF p1 q3))] [(.ref b2)])) _
  refine st10.trans ?_
  show Steps p.tables e below (T10.setTop (mkF m 379 #[.val (.int p1), .val (.int p2), .val (.long q3), .second, .val (.int (NF p1)), .val (.int (G0 q3)), .val (.int (G1 q3)), .val (.int (G2 q3)), .val (.int (G3 q3)), .val (.int (E0 p1 q3)), .val (.int (E1 p1 q3)), .val (.int (E2 p1 q3)), .val (.int (E3 p1 q3)), .val (.int (O1 p1 q3)), .val (.int (O2 p1 q3)), .val (.int (O3 p1 q3)), .val (.int (O4 p1 q3)), .val (.int (TF p1 q3)), .val (.int (VF p1 p2 q3)), .val (.ref b2), .val (.int (XF p1 q3))] [(.int (5 : Int32))])) _
  refine XS.iload X10.here hx rfl (hb hby at_379) rfl ?_
  show Steps p.tables e below (T10.setTop (mkF m 381 #[.val (.int p1), .val (.int p2), .val (.long q3), .second, .val (.int (NF p1)), .val (.int (G0 q3)), .val (.int (G1 q3)), .val (.int (G2 q3)), .val (.int (G3 q3)), .val (.int (E0 p1 q3)), .val (.int (E1 p1 q3)), .val (.int (E2 p1 q3)), .val (.int (E3 p1 q3)), .val (.int (O1 p1 q3)), .val (.int (O2 p1 q3)), .val (.int (O3 p1 q3)), .val (.int (O4 p1 q3)), .val (.int (TF p1 q3)), .val (.int (VF p1 p2 q3)), .val (.ref b2), .val (.int (XF p1 q3))] [(.int (NF p1)), (.int (5 : Int32))])) _
  refine XS.icmpNo X10.here hx rfl (hb hby at_381) rfl (teq hn.symm).2 ?_
  show Steps p.tables e below (T10.setTop (mkF m 384 #[.val (.int p1), .val (.int p2), .val (.long q3), .second, .val (.int (NF p1)), .val (.int (G0 q3)), .val (.int (G1 q3)), .val (.int (G2 q3)), .val (.int (G3 q3)), .val (.int (E0 p1 q3)), .val (.int (E1 p1 q3)), .val (.int (E2 p1 q3)), .val (.int (E3 p1 q3)), .val (.int (O1 p1 q3)), .val (.int (O2 p1 q3)), .val (.int (O3 p1 q3)), .val (.int (O4 p1 q3)), .val (.int (TF p1 q3)), .val (.int (VF p1 p2 q3)), .val (.ref b2), .val (.int (XF p1 q3))] [])) _
  refine XS.iconst X10.here hx rfl (hb hby at_384) ?_
  show Steps p.tables e below (T10.setTop (mkF m 385 #[.val (.int p1), .val (.int p2), .val (.long q3), .second, .val (.int (NF p1)), .val (.int (G0 q3)), .val (.int (G1 q3)), .val (.int (G2 q3)), .val (.int (G3 q3)), .val (.int (E0 p1 q3)), .val (.int (E1 p1 q3)), .val (.int (E2 p1 q3)), .val (.int (E3 p1 q3)), .val (.int (O1 p1 q3)), .val (.int (O2 p1 q3)), .val (.int (O3 p1 q3)), .val (.int (O4 p1 q3)), .val (.int (TF p1 q3)), .val (.int (VF p1 p2 q3)), .val (.ref b2), .val (.int (XF p1 q3))] [(.int (1 : Int32))])) _
  refine XS.goto X10.here hx rfl (pc0 := 385) (pc' := 389) rfl (hb hby at_385) (by decide) (by decide) ?_
  show Steps p.tables e below (T10.setTop (mkF m 389 #[.val (.int p1), .val (.int p2), .val (.long q3), .second, .val (.int (NF p1)), .val (.int (G0 q3)), .val (.int (G1 q3)), .val (.int (G2 q3)), .val (.int (G3 q3)), .val (.int (E0 p1 q3)), .val (.int (E1 p1 q3)), .val (.int (E2 p1 q3)), .val (.int (E3 p1 q3)), .val (.int (O1 p1 q3)), .val (.int (O2 p1 q3)), .val (.int (O3 p1 q3)), .val (.int (O4 p1 q3)), .val (.int (TF p1 q3)), .val (.int (VF p1 p2 q3)), .val (.ref b2), .val (.int (XF p1 q3))] [(.int (1 : Int32))])) _
  exact retN X10 hx (t := .boolean) Bd.returns (by simp) (hb hby at_389) hr
theorem rm0 (l : Launch) (Z : State) (a0 : Array Value) (hw : ∀ d ∈ tables_1, d.before a0 Z = true) (ws : List Jvm.Cond) (p1 : Int32) (p2 : Int32) (q3 : Int64) (h0 : Heap) (n0 : Nat) (Z0 : n0 ≤ h0.size) :
    MetFree l x (head1 (Jvm.Cond.code x code maxLocals ret :: ws) room_1) (fun a U => a = #[(.int p1), (.int p2), (.long q3)] ∧ Z.Warmed39 U.vm ∧ U.heap = h0) (fun _ _ _ _ _ => True) (fun _ U o U' => ∃ v L, o = .returned v ∧ Q0 Z p1 p2 q3 h0 n0 v U'.heap L ∧ FrameEnd U o U' L room_1.cells room_1.slots) := by
  rcases own_N p1 with h | h | h | h | h | h
  · exact rm0_0 l Z a0 hw ws p1 p2 q3 h0 n0 Z0 h
  · exact rm0_1 l Z a0 hw ws p1 p2 q3 h0 n0 Z0 h
  · exact rm0_2 l Z a0 hw ws p1 p2 q3 h0 n0 Z0 h
  · exact rm0_3 l Z a0 hw ws p1 p2 q3 h0 n0 Z0 h
  · exact rm0_4 l Z a0 hw ws p1 p2 q3 h0 n0 Z0 h
  · exact rm0_5 l Z a0 hw ws p1 p2 q3 h0 n0 Z0 h
set_option maxRecDepth 65536 in
set_option maxHeartbeats 40000000 in
theorem comes_1 {Post : Tables → Env → Array Value → State → Outcome → State → Prop} (hpost : ∀ tb e args s v u, (limb_1_1.after args s (.returned v) u = true ∧ limb_1_2.after args s (.returned v) u = true ∧ True) → FrameEnd s (.returned v) u (Jvm.fieldLocs frame_1_writes args s ++ Jvm.arrayLocs frame_1_arrays args s ++ Jvm.staticLocs frame_1_statics s) 16 128 → Post tb e args s (.returned v) u) :
    ArmFor flags0 classFile x code maxLocals ret World_1 tables_1 room_1 Calls_1 rest_1 Pre_1 Post := by
  intro l hfl _ _ p e ha hc hk s m args below hf hA hF happ hP
  obtain ⟨hcalls, hrest, hpre⟩ := hP
  obtain ⟨-, -, -, hnamed, -, -, -, hat⟩ := (Spec.applies_iff hf).mp happ
  obtain ⟨hg, hn⟩ := and_e (Cond.before_iff.mp (show (Jvm.Cond.and given_1 narrow_1).before args s = true from hpre))
  obtain ⟨g8, g9⟩ := and_e hg
  obtain ⟨g10, g11⟩ := and_e g9
  obtain ⟨g12, g13⟩ := and_e g11
  obtain ⟨w0, w1, w2, rfl⟩ : ∃ w0 w1 w2 : Value, args = #[w0, w1, w2] := by
    have hs : args.size = 3 := by simpa [Cond.value, given_1] using g8
    obtain ⟨L⟩ := args
    match L, hs with
    | [w0, w1, w2], _ => exact ⟨w0, w1, w2, rfl⟩
  have hw := fun d (hd : d ∈ tables_1) => atoms_spec (ws := Jvm.Cond.code x code maxLocals ret :: tables_1) hat d (List.mem_cons_of_mem _ hd)
  have hfit : Fit s := fun {y c} hc i hi => by
    obtain ⟨ha, rfl⟩ := Array.getElem?_eq_some_iff.mp hc
    have q := List.all_eq_true.mp ((Array.all_eq_true_iff_forall_mem.mp hF) _ (Array.getElem_mem ha)) i (List.mem_range.mpr hi)
    simpa [Array.getElem?_eq_getElem hi] using q
  obtain ⟨i0, ei0⟩ := is_v g10
  obtain rfl : w0 = (.int i0) := Option.some.inj ei0
  obtain ⟨i1, ei1⟩ := is_v g12
  obtain rfl : w1 = (.int i1) := Option.some.inj ei1
  obtain ⟨i2, ei2⟩ := isL_v g13
  obtain rfl : w2 = (.long i2) := Option.some.inj ei2
  obtain ⟨n, o, h1, h2, h3, _, L, rfl, ⟨rfl, N⟩, hq⟩ := rm0 l s _ hw tables_1 i0 i1 i2 s.heap s.heap.size (Nat.le_refl _)  p e ha hc hk s m _ below hf ((Spec.applies_iff_loose hf).mp happ).1 ⟨rfl, State.Warmed39.refl s, rfl⟩ trivial
  refine ⟨n, _, h1, h2, h3, hpost _ _ _ _ _ _ ⟨Cond.after_iff.mpr rfl, Cond.after_iff.mpr (eq_i res_at (Term.int_eval (1)) rfl), trivial⟩ ⟨hq.1, hq.2.1, (hq.2.2.sift fun y hy => Or.inr (N y hy)).mono (by decide) (by decide)⟩⟩
theorem main_1_1 : Claimed_1_1 := comes_1 fun _ _ _ _ _ _ h hF => ⟨h.1, hF⟩
theorem main_1_2 : Claimed_1_2 := comes_1 fun _ _ _ _ _ _ h hF => ⟨h.2.1, hF⟩
end Jvm.Pilot.@@N@@
namespace Jvm.Pilot.@@N@@
open Jvm Jvm.ClassFile Sem Op Lib Jvm.Free Jvm.Stand Jvm.Pilot.@@N@@.Jvm.D
/-! MADE BY PROGRAM (witnessworld.py) out of the Statement's table words and the real class files: 15 classes; the members and pool entries that the words name. The judged class is class 1, her method 1. -/
namespace start1
open Jvm.ClassFile
def u (s : String) : CpInfo := .utf8 (stringToUtf16 s)
/-- a pool by its gaps: so many unusable entries, then the entry; so many at the end -/
def gap : Nat → List CpInfo → List CpInfo
  | 0, r => r
  | n + 1, r => .unusable :: gap n r
def poolList (es : List (Nat × CpInfo)) (last : Nat) : List CpInfo := es.foldr (fun e r => gap e.1 (e.2 :: r)) (gap last [])
def pool (es : List (Nat × CpInfo)) (last : Nat) : Array CpInfo := ⟨poolList es last⟩
def fileOf (pool : Array CpInfo) (this : Nat) (attrs : Array Attribute := #[]) (ms : Array MethodInfo := #[]) (fl : Nat := 33) (sup : Nat := 0) (ifs : Array Nat := #[]) (fds : Array FieldInfo := #[]) : ClassFile where
  minorVersion := 0
  majorVersion := 65
  constantPool := pool
  accessFlags := fl
  thisClass := this
  superClass := sup
  interfaces := ifs
  fields := fds
  methods := ms
  attributes := attrs
def plain (name : String) (sup : Option ClassId) : Class where
  name := name
  kind := .ordinary
  loader := none
  accessFlags := 33
  super := sup
  interfaces := #[]
  cf := none
  fields := #[]
  methods := #[]
  instanceTypes := #[]
  staticTypes := #[]
  resolved := #[]
  callSites := []
  init := .initialized
  statics := none
  mirror := none

def pool0 : Array CpInfo := pool [(5, u "<init>"), (0, u "()V"), (1, .class_ 10), (1, u "java/lang/Object")] 113

def k0c0 : Code := { maxStack := 0, maxLocals := 1, code := object_method_1_code, exceptionTable := #[], attributes := #[] }
def k0m0 : Method := { name := "<init>", desc := "()V", sig := { parameters := [], returnType := none }, accessFlags := 1, code := some k0c0 }
/-- java/lang/Object -/
def k0 : Class := { plain "java/lang/Object" none with
  accessFlags := 33
  interfaces := #[]
  cf := some (fileOf pool0 8 #[] #[{ accessFlags := 1, nameIndex := 5, descriptorIndex := 6, attributes := #[] }] 33 0 #[] #[])
  fields := #[]
  methods := #[k0m0]
  instanceTypes := #[]
  staticTypes := #[]
  resolved := Array.replicate 124 none
  statics := none }

def pool1 : Array CpInfo := pool [(2, .class_ 4), (0, .nameAndType 5 6), (0, u "java/lang/Object"), (0, u "<init>"), (0, u "()V"), (0, .integer 2147483647), (0, .long 4095), (1, .integer 65536), (0, .class_ 12), (0, u "bitcove/ArrayContainer"), (0, .methodref 11 3), (0, .methodref 11 15), (0, .nameAndType 16 17), (0, u "append"), (0, u "(CI)V"), (0, .methodref 11 19), (0, .nameAndType 20 21), (0, u "runCount"), (0, u "()I"), (0, .methodref 11 23), (0, .nameAndType 24 21), (0, u "cardinality"), (0, .class_ 26), (0, u "bitcove/ArrayContainerRunCountPinLaw"), (2, u "law"), (0, u "(IIJ)Z")] 3

def k1m0 : Method := { name := "<init>", desc := "()V", sig := { parameters := [], returnType := none }, accessFlags := 1, code := none }
def k1c1 : Code := { maxStack := 4, maxLocals := 21, code := code, exceptionTable := #[], attributes := #[] }
def k1m1 : Method := { name := "law", desc := "(IIJ)Z", sig := { parameters := [.int, .int, .long], returnType := some .boolean }, accessFlags := 9, code := some k1c1 }
/-- bitcove/ArrayContainerRunCountPinLaw -/
def k1 : Class := { plain "bitcove/ArrayContainerRunCountPinLaw" (some 0) with
  accessFlags := 49
  interfaces := #[]
  cf := some (fileOf pool1 25 #[] #[{ accessFlags := 1, nameIndex := 5, descriptorIndex := 6, attributes := #[] }, { accessFlags := 9, nameIndex := 29, descriptorIndex := 30, attributes := #[] }] 49 2 #[] #[])
  fields := #[]
  methods := #[k1m0, k1m1]
  instanceTypes := #[]
  staticTypes := #[]
  resolved := Array.replicate 34 none
  statics := none }

def pool2 : Array CpInfo := pool [(1, .methodref 2 3), (0, .class_ 4), (0, .nameAndType 5 6), (0, u "java/lang/Object"), (0, u "<init>"), (0, u "()V"), (0, .class_ 8), (0, u "bitcove/ContainerData"), (17, .class_ 27), (0, u "bitcove/ContainerData$OfRuns"), (0, .class_ 29), (0, u "bitcove/ContainerData$OfRuns$InBytes"), (0, .class_ 31), (0, u "bitcove/ContainerData$OfBitmap"), (0, .class_ 33), (0, u "bitcove/ContainerData$OfBitmap$InBytes"), (0, .class_ 35), (0, u "bitcove/ContainerData$OfArray"), (0, .class_ 37), (0, u "bitcove/ContainerData$OfArray$InBytes"), (0, .class_ 39), (0, u "bitcove/ContainerData$Sorted")] 7

def k2c0 : Code := { maxStack := 1, maxLocals := 1, code := prog_19_method_1_code, exceptionTable := #[], attributes := #[] }
def k2m0 : Method := { name := "<init>", desc := "()V", sig := { parameters := [], returnType := none }, accessFlags := 0, code := some k2c0 }
/-- bitcove/ContainerData -/
def k2 : Class := { plain "bitcove/ContainerData" (some 0) with
  accessFlags := 1056
  interfaces := #[]
  cf := some (fileOf pool2 7 #[.nestMembers #[26, 28, 30, 32, 34, 36, 38]] #[{ accessFlags := 0, nameIndex := 5, descriptorIndex := 6, attributes := #[] }] 1056 2 #[] #[])
  fields := #[]
  methods := #[k2m0]
  instanceTypes := #[]
  staticTypes := #[]
  resolved := Array.replicate 47 none
  statics := none }

def pool3 : Array CpInfo := pool [(1, .methodref 2 3), (0, .class_ 4), (0, .nameAndType 5 6), (0, u "bitcove/ContainerData"), (0, u "<init>"), (0, u "()V"), (0, .class_ 8), (0, u "bitcove/ContainerData$Sorted")] 16

def k3c0 : Code := { maxStack := 1, maxLocals := 1, code := prog_26_method_1_code, exceptionTable := #[], attributes := #[] }
def k3m0 : Method := { name := "<init>", desc := "()V", sig := { parameters := [], returnType := none }, accessFlags := 0, code := some k3c0 }
/-- bitcove/ContainerData$Sorted -/
def k3 : Class := { plain "bitcove/ContainerData$Sorted" (some 2) with
  accessFlags := 1056
  interfaces := #[]
  cf := some (fileOf pool3 7 #[.nestHost 2] #[{ accessFlags := 0, nameIndex := 5, descriptorIndex := 6, attributes := #[] }] 1056 2 #[] #[])
  fields := #[]
  methods := #[k3m0]
  instanceTypes := #[]
  staticTypes := #[]
  resolved := Array.replicate 25 none
  statics := none }

def pool4 : Array CpInfo := pool [(1, .methodref 2 3), (0, .class_ 4), (0, .nameAndType 5 6), (0, u "bitcove/ContainerData$Sorted"), (0, u "<init>"), (0, u "()V"), (27, .class_ 36), (1, u "bitcove/ContainerData$OfArray"), (14, .class_ 53), (1, u "bitcove/ContainerData")] 22

def k4c0 : Code := { maxStack := 1, maxLocals := 1, code := prog_20_method_1_code, exceptionTable := #[], attributes := #[] }
def k4m0 : Method := { name := "<init>", desc := "()V", sig := { parameters := [], returnType := none }, accessFlags := 0, code := some k4c0 }
/-- bitcove/ContainerData$OfArray -/
def k4 : Class := { plain "bitcove/ContainerData$OfArray" (some 3) with
  accessFlags := 1056
  interfaces := #[]
  cf := some (fileOf pool4 34 #[.nestHost 51] #[{ accessFlags := 0, nameIndex := 5, descriptorIndex := 6, attributes := #[] }] 1056 2 #[] #[])
  fields := #[]
  methods := #[k4m0]
  instanceTypes := #[]
  staticTypes := #[]
  resolved := Array.replicate 76 none
  statics := none }

def pool5 : Array CpInfo := pool [(20, .class_ 22), (1, u "bitcove/Container"), (53, .class_ 77), (0, u "java/lang/Object"), (0, u "PAST_LAST"), (0, u "I"), (2, u "FULL")] 52

/-- bitcove/Container -/
def k5 : Class := { plain "bitcove/Container" (some 0) with
  accessFlags := 1536
  interfaces := #[]
  cf := some (fileOf pool5 20 #[] #[] 1536 76 #[] #[{ accessFlags := 25, nameIndex := 78, descriptorIndex := 79, attributes := #[] }, { accessFlags := 25, nameIndex := 82, descriptorIndex := 79, attributes := #[] }])
  fields := #[{ name := "PAST_LAST", type := .int, accessFlags := 25, slot := 0, constantValue := 0 }, { name := "FULL", type := .int, accessFlags := 25, slot := 1, constantValue := 0 }]
  methods := #[]
  instanceTypes := #[]
  staticTypes := #[.int, .int]
  resolved := Array.replicate 135 none
  statics := none }

def pool6 : Array CpInfo := pool [(1, .methodref 2 3), (0, .class_ 4), (0, .nameAndType 5 6), (0, u "bitcove/ArrayContainer"), (0, u "<init>"), (0, u "([CI)V"), (0, .methodref 8 9), (0, .class_ 10), (0, .nameAndType 5 11), (0, u "bitcove/ContainerData$OfArray"), (0, u "()V"), (0, .fieldref 2 13), (0, .nameAndType 14 15), (0, u "values"), (0, u "[C"), (0, .fieldref 2 17), (0, .nameAndType 18 19), (0, u "cardinality"), (0, u "I"), (2, u "NONE"), (52, u "EVERY_VALUE"), (78, u "()I"), (15, .class_ 171), (0, u "bitcove/Container"), (34, .class_ 207), (0, u "bitcove/ArrayContainer$1"), (3, .class_ 212), (0, u "bitcove/ArrayContainer$2"), (19, u "MAX_CARDINALITY"), (2, u "FEW"), (1, u "COPY_BLOCK"), (14, u "append"), (0, u "(CI)V"), (9, u "runCount")] 53

def k6c0 : Code := { maxStack := 3, maxLocals := 1, code := prog_1_method_1_code, exceptionTable := #[], attributes := #[] }
def k6m0 : Method := { name := "<init>", desc := "()V", sig := { parameters := [], returnType := none }, accessFlags := 0, code := some k6c0 }
def k6c1 : Code := { maxStack := 2, maxLocals := 3, code := prog_1_method_2_code, exceptionTable := #[], attributes := #[] }
def k6m1 : Method := { name := "<init>", desc := "([CI)V", sig := { parameters := [(.array .char), .int], returnType := none }, accessFlags := 2, code := some k6c1 }
def k6c2 : Code := { maxStack := 5, maxLocals := 3, code := prog_1_method_12_code, exceptionTable := #[], attributes := #[] }
def k6m2 : Method := { name := "append", desc := "(CI)V", sig := { parameters := [.char, .int], returnType := none }, accessFlags := 0, code := some k6c2 }
def k6c3 : Code := { maxStack := 1, maxLocals := 1, code := prog_1_method_23_code, exceptionTable := #[], attributes := #[] }
def k6m3 : Method := { name := "cardinality", desc := "()I", sig := { parameters := [], returnType := some .int }, accessFlags := 1, code := some k6c3 }
def k6c4 : Code := { maxStack := 4, maxLocals := 3, code := prog_1_method_26_code, exceptionTable := #[], attributes := #[] }
def k6m4 : Method := { name := "runCount", desc := "()I", sig := { parameters := [], returnType := some .int }, accessFlags := 1, code := some k6c4 }
/-- bitcove/ArrayContainer -/
def k6 : Class := { plain "bitcove/ArrayContainer" (some 4) with
  accessFlags := 48
  interfaces := #[5]
  cf := some (fileOf pool6 2 #[.nestMembers #[211, 206]] #[{ accessFlags := 0, nameIndex := 5, descriptorIndex := 11, attributes := #[] }, { accessFlags := 2, nameIndex := 5, descriptorIndex := 6, attributes := #[] }, { accessFlags := 0, nameIndex := 252, descriptorIndex := 253, attributes := #[] }, { accessFlags := 1, nameIndex := 18, descriptorIndex := 154, attributes := #[] }, { accessFlags := 1, nameIndex := 263, descriptorIndex := 154, attributes := #[] }] 48 8 #[170] #[{ accessFlags := 24, nameIndex := 232, descriptorIndex := 19, attributes := #[] }, { accessFlags := 26, nameIndex := 22, descriptorIndex := 15, attributes := #[] }, { accessFlags := 26, nameIndex := 235, descriptorIndex := 19, attributes := #[] }, { accessFlags := 26, nameIndex := 237, descriptorIndex := 19, attributes := #[] }, { accessFlags := 26, nameIndex := 75, descriptorIndex := 15, attributes := #[] }, { accessFlags := 2, nameIndex := 14, descriptorIndex := 15, attributes := #[] }, { accessFlags := 2, nameIndex := 18, descriptorIndex := 19, attributes := #[] }])
  fields := #[{ name := "MAX_CARDINALITY", type := .int, accessFlags := 24, slot := 0, constantValue := 0 }, { name := "NONE", type := (.array .char), accessFlags := 26, slot := 1, constantValue := 0 }, { name := "FEW", type := .int, accessFlags := 26, slot := 2, constantValue := 0 }, { name := "COPY_BLOCK", type := .int, accessFlags := 26, slot := 3, constantValue := 0 }, { name := "EVERY_VALUE", type := (.array .char), accessFlags := 26, slot := 4, constantValue := 0 }, { name := "values", type := (.array .char), accessFlags := 2, slot := 0, constantValue := 0 }, { name := "cardinality", type := .int, accessFlags := 2, slot := 1, constantValue := 0 }]
  methods := #[k6m0, k6m1, k6m2, k6m3, k6m4]
  instanceTypes := #[(.array .char), .int]
  staticTypes := #[.int, (.array .char), .int, .int, (.array .char)]
  resolved := Array.replicate 317 none
  statics := none }

def pool7 : Array CpInfo := pool [(1, u "java/lang/Cloneable"), (0, .class_ 1), (0, u "java/lang/Object"), (0, .class_ 3)] 3

/-- java/lang/Cloneable -/
def k7 : Class := { plain "java/lang/Cloneable" (some 0) with
  accessFlags := 1537
  interfaces := #[]
  cf := some (fileOf pool7 2 #[] #[] 1537 4 #[] #[])
  fields := #[]
  methods := #[]
  instanceTypes := #[]
  staticTypes := #[]
  resolved := Array.replicate 8 none
  statics := none }

def pool8 : Array CpInfo := pool [(1, u "java/io/Serializable"), (0, .class_ 1), (0, u "java/lang/Object"), (0, .class_ 3)] 3

/-- java/io/Serializable -/
def k8 : Class := { plain "java/io/Serializable" (some 0) with
  accessFlags := 1537
  interfaces := #[]
  cf := some (fileOf pool8 2 #[] #[] 1537 4 #[] #[])
  fields := #[]
  methods := #[]
  instanceTypes := #[]
  staticTypes := #[]
  resolved := Array.replicate 8 none
  statics := none }

/-- the primitive byte -/
def k9 : Class := { plain "byte" none with kind := .primitive 'B', accessFlags := 0x411 }
/-- [B -/
def k10 : Class := { plain "[B" (some 0) with kind := .array 9 .byte, interfaces := #[7, 8], accessFlags := 1041 }

/-- the primitive char -/
def k11 : Class := { plain "char" none with kind := .primitive 'C', accessFlags := 0x411 }
/-- [C -/
def k12 : Class := { plain "[C" (some 0) with kind := .array 11 .char, interfaces := #[7, 8], accessFlags := 1041 }

/-- the primitive int -/
def k13 : Class := { plain "int" none with kind := .primitive 'I', accessFlags := 0x411 }
/-- [I -/
def k14 : Class := { plain "[I" (some 0) with kind := .array 13 .int, interfaces := #[7, 8], accessFlags := 1041 }

def heap : Heap := #[]
def classes : Array Class := #[k0, k1, k2, k3, k4, k5, k6, k7, k8, k9, k10, k11, k12, k13, k14]
def interned : List (Array UInt16 × Addr) := []
def slotsUsed : Nat := 0
def theMethod : MethodId := ⟨1, 1⟩
def args0 : Array Value := #[.int 5, .int 7, .long 1]
def aboutOver (below : List Frame) : State where
  vm := { classes := classes, interned := interned.toArray }
  heap := heap
  slotsUsed := slotsUsed
  threads := #[{ frames := .invoking theMethod args0 :: below }]
def below0 : List Frame := [.native { method := ⟨0, 0⟩, args := #[] }]
def about1 : State := aboutOver below0
def p0 : Program := .bare "" "" ""
def e0 : Env := launch0.env 0 0 0
theorem w_frames : about1.frames = Frame.invoking theMethod args0 :: below0 := rfl
set_option maxRecDepth 65536 in
theorem w_args : argsFit about1.vm theMethod args0 = true := by decide +kernel
set_option maxRecDepth 65536 in
theorem w_heap : heapFits about1 = true := by decide +kernel
set_option maxRecDepth 65536 in
theorem w_runnable : about1.curStatus? = some .runnable := by decide +kernel
set_option maxRecDepth 65536 in
theorem w_alone : about1.alone = true := by decide +kernel
set_option maxRecDepth 65536 in
theorem w_named : about1.methodNamed? x = some theMethod := by decide +kernel
set_option maxRecDepth 65536 in
theorem w_hears : about1.hears theMethod below0 = true := by decide +kernel
set_option maxRecDepth 65536 in
theorem w_ripe : about1.ripe theMethod args0 below0 = true := by decide +kernel
theorem w_running : about1.status = .running := rfl
set_option maxRecDepth 65536 in
theorem w_room : about1.hasRoom e0.platform room_1 = true :=
  launch0.hasRoom_least _ room_1 (by decide +kernel) (by decide +kernel) (by decide +kernel) (by decide +kernel) (by decide +kernel) (by decide +kernel)
theorem allAtoms_all (ts : List Jvm.Cond) (a : Array Jvm.Value) (st : Jvm.State) : (allAtoms ts).before a st = ts.all (fun c => c.before a st) := by
  induction ts with
  | nil => rfl
  | cons c t ih =>
    show (Jvm.Cond.and c (allAtoms t)).before a st = _
    rw [Jvm.Cond.before_and, ih, List.all_cons]
def words1 : List Jvm.Cond := Jvm.Cond.code x code maxLocals ret :: tables_1
/-- a 'code' word, met by the world's own term for the bytes: nothing is compared byte by byte -/
theorem code_word {y : MethodName} {bytes : ByteArray} {mx : Nat} {rt : Option FieldType} {a : Array Value} {s : State} {m : MethodId} {meth : Method} {c : Code} (h1 : s.methodNamed? y = some m) (h2 : s.vm.method? m = some meth) (h3 : meth.code = some c) (h4 : c.code = bytes)
    (h5 : (c.maxLocals == mx && c.exceptionTable.isEmpty && decide (c.maxStack ≤ mostOperands) && decide (meth.sig.returnType = rt) && !meth.locks && decide (parseMethodDescriptor y.desc = some meth.sig)) = true) : (Jvm.Cond.code y bytes mx rt).before a s = true := by
  simp only [Bool.and_eq_true, beq_iff_eq, Bool.not_eq_true', decide_eq_true_eq] at h5
  obtain ⟨⟨⟨⟨⟨g1, g2⟩, g3⟩, g4⟩, g5⟩, g6⟩ := h5
  simp [Cond.before, Cond.holds, Cond.value, h1, h2, h3, h4, g1, g2, g3, g4, g5, g6]
def isCode : Jvm.Cond → Bool
  | .code _ _ _ _ => true
  | _ => false
theorem all_split {L : List Jvm.Cond} {P : Jvm.Cond → Bool} (h1 : L.all (fun c => isCode c || P c) = true) (h2 : ∀ c ∈ L.filter isCode, P c = true) : L.all P = true := by
  refine List.all_eq_true.mpr fun c hc => ?_
  have h := List.all_eq_true.mp h1 c hc
  rcases Bool.eq_false_or_eq_true (isCode c) with hi | hi
  · exact h2 c (List.mem_filter.mpr ⟨hc, hi⟩)
  · simpa [hi] using h
set_option maxRecDepth 65536 in
theorem w_c0 : (Jvm.Cond.code x code maxLocals ret).before args0 about1 = true := code_word (m := ⟨1, 1⟩) (meth := k1m1) (c := k1c1) (by decide +kernel) rfl rfl rfl (by decide +kernel)
set_option maxRecDepth 65536 in
theorem w_c1 : (Jvm.Cond.code ({ cls := "bitcove/ArrayContainer", name := "<init>", desc := "()V" } : Jvm.MethodName) prog_1_method_1_code (1 : Nat) (Option.none : Option Jvm.ClassFile.FieldType)).before args0 about1 = true := code_word (m := ⟨6, 0⟩) (meth := k6m0) (c := k6c0) (by decide +kernel) rfl rfl rfl (by decide +kernel)
set_option maxRecDepth 65536 in
theorem w_c2 : (Jvm.Cond.code ({ cls := "bitcove/ArrayContainer", name := "<init>", desc := "([CI)V" } : Jvm.MethodName) prog_1_method_2_code (3 : Nat) (Option.none : Option Jvm.ClassFile.FieldType)).before args0 about1 = true := code_word (m := ⟨6, 1⟩) (meth := k6m1) (c := k6c1) (by decide +kernel) rfl rfl rfl (by decide +kernel)
set_option maxRecDepth 65536 in
theorem w_c3 : (Jvm.Cond.code ({ cls := "bitcove/ContainerData$OfArray", name := "<init>", desc := "()V" } : Jvm.MethodName) prog_20_method_1_code (1 : Nat) (Option.none : Option Jvm.ClassFile.FieldType)).before args0 about1 = true := code_word (m := ⟨4, 0⟩) (meth := k4m0) (c := k4c0) (by decide +kernel) rfl rfl rfl (by decide +kernel)
set_option maxRecDepth 65536 in
theorem w_c4 : (Jvm.Cond.code ({ cls := "bitcove/ContainerData$Sorted", name := "<init>", desc := "()V" } : Jvm.MethodName) prog_26_method_1_code (1 : Nat) (Option.none : Option Jvm.ClassFile.FieldType)).before args0 about1 = true := code_word (m := ⟨3, 0⟩) (meth := k3m0) (c := k3c0) (by decide +kernel) rfl rfl rfl (by decide +kernel)
set_option maxRecDepth 65536 in
theorem w_c5 : (Jvm.Cond.code ({ cls := "bitcove/ContainerData", name := "<init>", desc := "()V" } : Jvm.MethodName) prog_19_method_1_code (1 : Nat) (Option.none : Option Jvm.ClassFile.FieldType)).before args0 about1 = true := code_word (m := ⟨2, 0⟩) (meth := k2m0) (c := k2c0) (by decide +kernel) rfl rfl rfl (by decide +kernel)
set_option maxRecDepth 65536 in
theorem w_c6 : (Jvm.Cond.code ({ cls := "java/lang/Object", name := "<init>", desc := "()V" } : Jvm.MethodName) object_method_1_code (1 : Nat) (Option.none : Option Jvm.ClassFile.FieldType)).before args0 about1 = true := code_word (m := ⟨0, 0⟩) (meth := k0m0) (c := k0c0) (by decide +kernel) rfl rfl rfl (by decide +kernel)
set_option maxRecDepth 65536 in
theorem w_c7 : (Jvm.Cond.code ({ cls := "bitcove/ArrayContainer", name := "runCount", desc := "()I" } : Jvm.MethodName) prog_1_method_26_code (3 : Nat) (Option.some Jvm.ClassFile.FieldType.int)).before args0 about1 = true := code_word (m := ⟨6, 4⟩) (meth := k6m4) (c := k6c4) (by decide +kernel) rfl rfl rfl (by decide +kernel)
set_option maxRecDepth 65536 in
theorem w_c8 : (Jvm.Cond.code ({ cls := "bitcove/ArrayContainer", name := "cardinality", desc := "()I" } : Jvm.MethodName) prog_1_method_23_code (1 : Nat) (Option.some Jvm.ClassFile.FieldType.int)).before args0 about1 = true := code_word (m := ⟨6, 3⟩) (meth := k6m3) (c := k6c3) (by decide +kernel) rfl rfl rfl (by decide +kernel)
set_option maxRecDepth 65536 in
theorem w_c9 : (Jvm.Cond.code ({ cls := "bitcove/ArrayContainer", name := "append", desc := "(CI)V" } : Jvm.MethodName) prog_1_method_12_code (3 : Nat) (Option.none : Option Jvm.ClassFile.FieldType)).before args0 about1 = true := code_word (m := ⟨6, 2⟩) (meth := k6m2) (c := k6c2) (by decide +kernel) rfl rfl rfl (by decide +kernel)
def codes1 : List Jvm.Cond := [Jvm.Cond.code x code maxLocals ret, Jvm.Cond.code ({ cls := "bitcove/ArrayContainer", name := "<init>", desc := "()V" } : Jvm.MethodName) prog_1_method_1_code (1 : Nat) (Option.none : Option Jvm.ClassFile.FieldType), Jvm.Cond.code ({ cls := "bitcove/ArrayContainer", name := "<init>", desc := "([CI)V" } : Jvm.MethodName) prog_1_method_2_code (3 : Nat) (Option.none : Option Jvm.ClassFile.FieldType), Jvm.Cond.code ({ cls := "bitcove/ContainerData$OfArray", name := "<init>", desc := "()V" } : Jvm.MethodName) prog_20_method_1_code (1 : Nat) (Option.none : Option Jvm.ClassFile.FieldType), Jvm.Cond.code ({ cls := "bitcove/ContainerData$Sorted", name := "<init>", desc := "()V" } : Jvm.MethodName) prog_26_method_1_code (1 : Nat) (Option.none : Option Jvm.ClassFile.FieldType), Jvm.Cond.code ({ cls := "bitcove/ContainerData", name := "<init>", desc := "()V" } : Jvm.MethodName) prog_19_method_1_code (1 : Nat) (Option.none : Option Jvm.ClassFile.FieldType), Jvm.Cond.code ({ cls := "java/lang/Object", name := "<init>", desc := "()V" } : Jvm.MethodName) object_method_1_code (1 : Nat) (Option.none : Option Jvm.ClassFile.FieldType), Jvm.Cond.code ({ cls := "bitcove/ArrayContainer", name := "runCount", desc := "()I" } : Jvm.MethodName) prog_1_method_26_code (3 : Nat) (Option.some Jvm.ClassFile.FieldType.int), Jvm.Cond.code ({ cls := "bitcove/ArrayContainer", name := "cardinality", desc := "()I" } : Jvm.MethodName) prog_1_method_23_code (1 : Nat) (Option.some Jvm.ClassFile.FieldType.int), Jvm.Cond.code ({ cls := "bitcove/ArrayContainer", name := "append", desc := "(CI)V" } : Jvm.MethodName) prog_1_method_12_code (3 : Nat) (Option.none : Option Jvm.ClassFile.FieldType)]
set_option maxRecDepth 65536 in
theorem codes_eq : words1.filter isCode = codes1 := rfl
theorem w_codes : ∀ c ∈ words1.filter isCode, c.before args0 about1 = true := by
  rw [codes_eq]
  intro c hc
  simp only [codes1, List.mem_cons, List.not_mem_nil, or_false] at hc
  rcases hc with rfl | rfl | rfl | rfl | rfl | rfl | rfl | rfl | rfl | rfl
  · exact w_c0
  · exact w_c1
  · exact w_c2
  · exact w_c3
  · exact w_c4
  · exact w_c5
  · exact w_c6
  · exact w_c7
  · exact w_c8
  · exact w_c9
set_option maxRecDepth 65536 in
theorem w_t1 : (words1.take 24).all (fun c => isCode c || c.before args0 about1) = true := by decide +kernel
set_option maxRecDepth 65536 in
theorem w_t2 : ((words1.drop 24).take 24).all (fun c => isCode c || c.before args0 about1) = true := by decide +kernel
set_option maxRecDepth 65536 in
theorem w_t3 : ((words1.drop 24).drop 24).all (fun c => isCode c || c.before args0 about1) = true := by decide +kernel
theorem w_tables : (allAtoms (Jvm.Cond.code x code maxLocals ret :: tables_1)).before args0 about1 = true := by
  rw [allAtoms_all]
  show words1.all (fun c => c.before args0 about1) = true
  refine all_split ?_ w_codes
  rw [← List.take_append_drop 24 words1, List.all_append, w_t1, ← List.take_append_drop 24 (words1.drop 24), List.all_append, w_t2, w_t3]
  rfl
set_option maxRecDepth 65536 in
theorem w_case : (Jvm.Cond.and given_1 narrow_1).before args0 about1 = true := by decide +kernel
theorem w_applies : (headSpec (Jvm.Cond.code x code maxLocals ret :: tables_1) room_1).applies x e0.platform about1 = true :=
  (Spec.applies_iff w_frames).mpr ⟨w_running, w_runnable, w_alone, w_named, w_hears, w_ripe, w_room, w_tables⟩
theorem atStart : AtStart classFile x code maxLocals ret World_1 tables_1 room_1 Calls_1 rest_1 Pre_1 launch0 p0 e0 about1 theMethod args0 below0 :=
  ⟨lists_1, trivial, launch0.admits_env _ _ _, launch0.least_env, fairChoices_fair.cas, fairChoices_fair.clock, w_frames, w_args, w_heap, w_applies, trivial, trivial, w_case⟩
end start1
theorem witness_1 : WitnessClaimed_1 := ⟨start1.p0, start1.e0, start1.about1, start1.theMethod, start1.args0, start1.below0, start1.atStart⟩
end Jvm.Pilot.@@N@@
