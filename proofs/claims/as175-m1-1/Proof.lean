import JvmDerived
import JvmDerived.Pilot.@@N@@Statement
import JvmDerived.Pilot.@@N@@Code
set_option linter.unusedVariables false
set_option linter.unusedSimpArgs false
namespace Jvm.RoadKit
open Sem ClassFile Op Lib Jvm.Stand Jvm.Free Jvm.LawKit
section New
variable {p : Program} {l : Launch} {e : Env} {R : Room} {s : State} {m : MethodId} {args : Array Value} {below : List Frame} {meth : Method} {c : Code} {T : State} {locs : List Loc} {cells slots : Nat}
theorem retI (X : Stand p l e R s m args below meth c T locs cells slots) (hx : p.tables.exec = Jvm.exec) {pc : Nat} {Ls : Array Slot} {z : Int32} {rest : List Value} (hret : meth.sig.returnType = some .int) (hd : decode c.code pc = .ok (.ireturn, 1)) {fs : List Frame}
    (hl : ∀ (f : JFrame) (acts : List Action), f.method = m → f.locked = none → f.entered = [] → (doReturn e (T.setTop f) acts (some (.int z))).1 = T.setFrames fs) : Steps p.tables e below (T.setTop (mkF m pc Ls (.int z :: rest))) (T.setFrames fs) := by
  have hm' : T.vm.method? m = some meth := X.method'
  have hn : narrow .int (.int z) = .int z := rfl
  show Steps p.tables e below (T.setTop { method := m, pc := pc, locals := Ls, stack := _ :: rest, locked := none }) _
  jvm_step X.here [X.here.top, hx, hd, hm', hret, hn]
  first | (intro acts; rw [hl _ acts rfl rfl rfl]) | rw [hl _ _ rfl rfl rfl]
  exact Steps.refl _
end New
end Jvm.RoadKit
namespace Jvm.Pilot.@@N@@
open Jvm Jvm.ClassFile Sem Op Lib Jvm.Free Jvm.Stand Jvm.LawKit Jvm.RoadKit Bundle Jvm.Pilot.@@N@@.Jvm.D
abbrev remI (x y : Int32) : Int32 := x - (x / y) * y
abbrev remL (x y : Int64) : Int64 := x - (x / y) * y
theorem own_pack {p : Program} {l : Launch} {e : Env} {R : Room} {s : State} {m : MethodId} {args : Array Value} {below : List Frame} {meth : Method} {c : Code} {T : State} {locs : List Loc} {cells slots : Nat} {k : Nat} (X : Stand p l e R s m args below meth c T locs cells slots) (N : Fr k locs) : ∃ L, Stand p l e R s m args below meth c T L cells slots ∧ Fr k L := ⟨locs, X, N⟩
theorem d1_0 : decode prog_52_method_9_code 0 = .ok (.iload_n 0, 1) := by decide +kernel
theorem d1_1 : decode prog_52_method_9_code 1 = .ok (.bipush 65, 2) := by decide +kernel
theorem d1_3 : decode prog_52_method_9_code 3 = .ok (.if_icmp .lt 9, 3) := by decide +kernel
theorem d1_6 : decode prog_52_method_9_code 6 = .ok (.iload_n 0, 1) := by decide +kernel
theorem d1_7 : decode prog_52_method_9_code 7 = .ok (.bipush 90, 2) := by decide +kernel
theorem d1_9 : decode prog_52_method_9_code 9 = .ok (.if_icmp .le 182, 3) := by decide +kernel
theorem d1_12 : decode prog_52_method_9_code 12 = .ok (.iload_n 0, 1) := by decide +kernel
theorem d1_13 : decode prog_52_method_9_code 13 = .ok (.bipush 95, 2) := by decide +kernel
theorem d1_15 : decode prog_52_method_9_code 15 = .ok (.if_icmp .eq 176, 3) := by decide +kernel
theorem d1_18 : decode prog_52_method_9_code 18 = .ok (.iload_n 0, 1) := by decide +kernel
theorem d1_19 : decode prog_52_method_9_code 19 = .ok (.bipush 97, 2) := by decide +kernel
theorem d1_21 : decode prog_52_method_9_code 21 = .ok (.if_icmp .lt 9, 3) := by decide +kernel
theorem d1_24 : decode prog_52_method_9_code 24 = .ok (.iload_n 0, 1) := by decide +kernel
theorem d1_25 : decode prog_52_method_9_code 25 = .ok (.bipush 122, 2) := by decide +kernel
theorem d1_27 : decode prog_52_method_9_code 27 = .ok (.if_icmp .le 164, 3) := by decide +kernel
theorem d1_30 : decode prog_52_method_9_code 30 = .ok (.iload_n 0, 1) := by decide +kernel
theorem d1_31 : decode prog_52_method_9_code 31 = .ok (.sipush 192, 3) := by decide +kernel
theorem d1_34 : decode prog_52_method_9_code 34 = .ok (.if_icmp .lt 10, 3) := by decide +kernel
theorem d1_37 : decode prog_52_method_9_code 37 = .ok (.iload_n 0, 1) := by decide +kernel
theorem d1_38 : decode prog_52_method_9_code 38 = .ok (.sipush 214, 3) := by decide +kernel
theorem d1_41 : decode prog_52_method_9_code 41 = .ok (.if_icmp .le 150, 3) := by decide +kernel
theorem d1_44 : decode prog_52_method_9_code 44 = .ok (.iload_n 0, 1) := by decide +kernel
theorem d1_45 : decode prog_52_method_9_code 45 = .ok (.sipush 216, 3) := by decide +kernel
theorem d1_48 : decode prog_52_method_9_code 48 = .ok (.if_icmp .lt 10, 3) := by decide +kernel
theorem d1_51 : decode prog_52_method_9_code 51 = .ok (.iload_n 0, 1) := by decide +kernel
theorem d1_52 : decode prog_52_method_9_code 52 = .ok (.sipush 246, 3) := by decide +kernel
theorem d1_55 : decode prog_52_method_9_code 55 = .ok (.if_icmp .le 136, 3) := by decide +kernel
theorem d1_58 : decode prog_52_method_9_code 58 = .ok (.iload_n 0, 1) := by decide +kernel
theorem d1_59 : decode prog_52_method_9_code 59 = .ok (.sipush 248, 3) := by decide +kernel
theorem d1_62 : decode prog_52_method_9_code 62 = .ok (.if_icmp .lt 10, 3) := by decide +kernel
theorem d1_65 : decode prog_52_method_9_code 65 = .ok (.iload_n 0, 1) := by decide +kernel
theorem d1_66 : decode prog_52_method_9_code 66 = .ok (.sipush 767, 3) := by decide +kernel
theorem d1_69 : decode prog_52_method_9_code 69 = .ok (.if_icmp .le 122, 3) := by decide +kernel
theorem d1_72 : decode prog_52_method_9_code 72 = .ok (.iload_n 0, 1) := by decide +kernel
theorem d1_73 : decode prog_52_method_9_code 73 = .ok (.sipush 880, 3) := by decide +kernel
theorem d1_76 : decode prog_52_method_9_code 76 = .ok (.if_icmp .lt 10, 3) := by decide +kernel
theorem d1_79 : decode prog_52_method_9_code 79 = .ok (.iload_n 0, 1) := by decide +kernel
theorem d1_80 : decode prog_52_method_9_code 80 = .ok (.sipush 893, 3) := by decide +kernel
theorem d1_83 : decode prog_52_method_9_code 83 = .ok (.if_icmp .le 108, 3) := by decide +kernel
theorem d1_86 : decode prog_52_method_9_code 86 = .ok (.iload_n 0, 1) := by decide +kernel
theorem d1_87 : decode prog_52_method_9_code 87 = .ok (.sipush 895, 3) := by decide +kernel
theorem d1_90 : decode prog_52_method_9_code 90 = .ok (.if_icmp .lt 10, 3) := by decide +kernel
theorem d1_93 : decode prog_52_method_9_code 93 = .ok (.iload_n 0, 1) := by decide +kernel
theorem d1_94 : decode prog_52_method_9_code 94 = .ok (.sipush 8191, 3) := by decide +kernel
theorem d1_97 : decode prog_52_method_9_code 97 = .ok (.if_icmp .le 94, 3) := by decide +kernel
theorem d1_100 : decode prog_52_method_9_code 100 = .ok (.iload_n 0, 1) := by decide +kernel
theorem d1_101 : decode prog_52_method_9_code 101 = .ok (.sipush 8204, 3) := by decide +kernel
theorem d1_104 : decode prog_52_method_9_code 104 = .ok (.if_icmp .lt 10, 3) := by decide +kernel
theorem d1_107 : decode prog_52_method_9_code 107 = .ok (.iload_n 0, 1) := by decide +kernel
theorem d1_108 : decode prog_52_method_9_code 108 = .ok (.sipush 8205, 3) := by decide +kernel
theorem d1_111 : decode prog_52_method_9_code 111 = .ok (.if_icmp .le 80, 3) := by decide +kernel
theorem d1_114 : decode prog_52_method_9_code 114 = .ok (.iload_n 0, 1) := by decide +kernel
theorem d1_115 : decode prog_52_method_9_code 115 = .ok (.sipush 8304, 3) := by decide +kernel
theorem d1_118 : decode prog_52_method_9_code 118 = .ok (.if_icmp .lt 10, 3) := by decide +kernel
theorem d1_121 : decode prog_52_method_9_code 121 = .ok (.iload_n 0, 1) := by decide +kernel
theorem d1_122 : decode prog_52_method_9_code 122 = .ok (.sipush 8591, 3) := by decide +kernel
theorem d1_125 : decode prog_52_method_9_code 125 = .ok (.if_icmp .le 66, 3) := by decide +kernel
theorem d1_128 : decode prog_52_method_9_code 128 = .ok (.iload_n 0, 1) := by decide +kernel
theorem d1_129 : decode prog_52_method_9_code 129 = .ok (.sipush 11264, 3) := by decide +kernel
theorem d1_132 : decode prog_52_method_9_code 132 = .ok (.if_icmp .lt 10, 3) := by decide +kernel
theorem d1_135 : decode prog_52_method_9_code 135 = .ok (.iload_n 0, 1) := by decide +kernel
theorem d1_136 : decode prog_52_method_9_code 136 = .ok (.sipush 12271, 3) := by decide +kernel
theorem d1_139 : decode prog_52_method_9_code 139 = .ok (.if_icmp .le 52, 3) := by decide +kernel
theorem d1_142 : decode prog_52_method_9_code 142 = .ok (.iload_n 0, 1) := by decide +kernel
theorem d1_143 : decode prog_52_method_9_code 143 = .ok (.sipush 12289, 3) := by decide +kernel
theorem d1_146 : decode prog_52_method_9_code 146 = .ok (.if_icmp .lt 9, 3) := by decide +kernel
theorem d1_149 : decode prog_52_method_9_code 149 = .ok (.iload_n 0, 1) := by decide +kernel
theorem d1_150 : decode prog_52_method_9_code 150 = .ok (.ldc 88, 2) := by decide +kernel
theorem d1_152 : decode prog_52_method_9_code 152 = .ok (.if_icmp .le 39, 3) := by decide +kernel
theorem d1_155 : decode prog_52_method_9_code 155 = .ok (.iload_n 0, 1) := by decide +kernel
theorem d1_156 : decode prog_52_method_9_code 156 = .ok (.ldc 89, 2) := by decide +kernel
theorem d1_158 : decode prog_52_method_9_code 158 = .ok (.if_icmp .lt 9, 3) := by decide +kernel
theorem d1_161 : decode prog_52_method_9_code 161 = .ok (.iload_n 0, 1) := by decide +kernel
theorem d1_162 : decode prog_52_method_9_code 162 = .ok (.ldc 90, 2) := by decide +kernel
theorem d1_164 : decode prog_52_method_9_code 164 = .ok (.if_icmp .le 27, 3) := by decide +kernel
theorem d1_167 : decode prog_52_method_9_code 167 = .ok (.iload_n 0, 1) := by decide +kernel
theorem d1_168 : decode prog_52_method_9_code 168 = .ok (.ldc 91, 2) := by decide +kernel
theorem d1_170 : decode prog_52_method_9_code 170 = .ok (.if_icmp .lt 9, 3) := by decide +kernel
theorem d1_173 : decode prog_52_method_9_code 173 = .ok (.iload_n 0, 1) := by decide +kernel
theorem d1_174 : decode prog_52_method_9_code 174 = .ok (.ldc 92, 2) := by decide +kernel
theorem d1_176 : decode prog_52_method_9_code 176 = .ok (.if_icmp .le 15, 3) := by decide +kernel
theorem d1_179 : decode prog_52_method_9_code 179 = .ok (.iload_n 0, 1) := by decide +kernel
theorem d1_180 : decode prog_52_method_9_code 180 = .ok (.ldc 93, 2) := by decide +kernel
theorem d1_182 : decode prog_52_method_9_code 182 = .ok (.if_icmp .lt 13, 3) := by decide +kernel
theorem d1_185 : decode prog_52_method_9_code 185 = .ok (.iload_n 0, 1) := by decide +kernel
theorem d1_186 : decode prog_52_method_9_code 186 = .ok (.ldc 94, 2) := by decide +kernel
theorem d1_188 : decode prog_52_method_9_code 188 = .ok (.if_icmp .gt 7, 3) := by decide +kernel
theorem d1_191 : decode prog_52_method_9_code 191 = .ok (.iconst 1, 1) := by decide +kernel
theorem d1_192 : decode prog_52_method_9_code 192 = .ok (.goto 4, 3) := by decide +kernel
theorem d1_195 : decode prog_52_method_9_code 195 = .ok (.iconst 0, 1) := by decide +kernel
theorem d1_196 : decode prog_52_method_9_code 196 = .ok (.ireturn, 1) := by decide +kernel
theorem own_rg (p lo hi y : Int32) (a b : Int) (ha : lo.toInt = a) (hb : hi.toInt = b) : (if p < lo then y else if hi < p then y else 1) = 1 ↔ ((a ≤ p.toInt ∧ p.toInt ≤ b) ∨ y = 1) := by
  by_cases h1 : p < lo
  · rw [if_pos h1]; rw [Int32.lt_iff_toInt_lt] at h1
    exact ⟨Or.inr, fun h => h.elim (fun q => by omega) id⟩
  · by_cases h2 : hi < p
    · rw [if_neg h1, if_pos h2]; rw [Int32.lt_iff_toInt_lt] at h2
      exact ⟨Or.inr, fun h => h.elim (fun q => by omega) id⟩
    · rw [if_neg h1, if_neg h2]; rw [Int32.lt_iff_toInt_lt] at h1 h2
      exact ⟨fun _ => Or.inl (by omega), fun _ => rfl⟩
theorem own_rg0 (p lo hi : Int32) (a b : Int) (ha : lo.toInt = a) (hb : hi.toInt = b) : (if p < lo then (0 : Int32) else if hi < p then 0 else 1) = 1 ↔ (a ≤ p.toInt ∧ p.toInt ≤ b) := by
  rw [own_rg p lo hi 0 a b ha hb]
  exact ⟨fun h => h.elim id (fun q => absurd q (by decide)), Or.inl⟩
theorem own_eq1 (p c y : Int32) (a : Int) (ha : c.toInt = a) : (if p = c then (1 : Int32) else y) = 1 ↔ (p.toInt = a ∨ y = 1) := by
  by_cases h : p = c
  · rw [if_pos h]; exact ⟨fun _ => Or.inl (by rw [h]; exact ha), fun _ => rfl⟩
  · rw [if_neg h]; exact ⟨Or.inr, fun q => q.elim (fun z => absurd (Int32.toInt_inj.mp (z.trans ha.symm)) h) id⟩
def nc179 (p : Int32) : Int32 := if p < 65536 then 0 else if 983039 < p then 0 else 1
def nc167 (p : Int32) : Int32 := if p < 65008 then nc179 p else if 65533 < p then nc179 p else 1
def nc155 (p : Int32) : Int32 := if p < 63744 then nc167 p else if 64975 < p then nc167 p else 1
def nc142 (p : Int32) : Int32 := if p < 12289 then nc155 p else if 55295 < p then nc155 p else 1
def nc128 (p : Int32) : Int32 := if p < 11264 then nc142 p else if 12271 < p then nc142 p else 1
def nc114 (p : Int32) : Int32 := if p < 8304 then nc128 p else if 8591 < p then nc128 p else 1
def nc100 (p : Int32) : Int32 := if p < 8204 then nc114 p else if 8205 < p then nc114 p else 1
def nc86 (p : Int32) : Int32 := if p < 895 then nc100 p else if 8191 < p then nc100 p else 1
def nc72 (p : Int32) : Int32 := if p < 880 then nc86 p else if 893 < p then nc86 p else 1
def nc58 (p : Int32) : Int32 := if p < 248 then nc72 p else if 767 < p then nc72 p else 1
def nc44 (p : Int32) : Int32 := if p < 216 then nc58 p else if 246 < p then nc58 p else 1
def nc30 (p : Int32) : Int32 := if p < 192 then nc44 p else if 214 < p then nc44 p else 1
def nc18 (p : Int32) : Int32 := if p < 97 then nc30 p else if 122 < p then nc30 p else 1
def nc12 (p : Int32) : Int32 := if p = 95 then 1 else nc18 p
def nc0 (p : Int32) : Int32 := if p < 65 then nc12 p else if 90 < p then nc12 p else 1
def ncF (p : Int32) : Int32 := nc0 p
theorem own_nc179 (p : Int32) : nc179 p = 1 ↔ (65536 ≤ p.toInt ∧ p.toInt ≤ 983039) := own_rg0 p 65536 983039 65536 983039 (by decide) (by decide)
theorem own_nc167 (p : Int32) : nc167 p = 1 ↔ ((65008 ≤ p.toInt ∧ p.toInt ≤ 65533) ∨ nc179 p = 1) := own_rg p 65008 65533 (nc179 p) 65008 65533 (by decide) (by decide)
theorem own_nc155 (p : Int32) : nc155 p = 1 ↔ ((63744 ≤ p.toInt ∧ p.toInt ≤ 64975) ∨ nc167 p = 1) := own_rg p 63744 64975 (nc167 p) 63744 64975 (by decide) (by decide)
theorem own_nc142 (p : Int32) : nc142 p = 1 ↔ ((12289 ≤ p.toInt ∧ p.toInt ≤ 55295) ∨ nc155 p = 1) := own_rg p 12289 55295 (nc155 p) 12289 55295 (by decide) (by decide)
theorem own_nc128 (p : Int32) : nc128 p = 1 ↔ ((11264 ≤ p.toInt ∧ p.toInt ≤ 12271) ∨ nc142 p = 1) := own_rg p 11264 12271 (nc142 p) 11264 12271 (by decide) (by decide)
theorem own_nc114 (p : Int32) : nc114 p = 1 ↔ ((8304 ≤ p.toInt ∧ p.toInt ≤ 8591) ∨ nc128 p = 1) := own_rg p 8304 8591 (nc128 p) 8304 8591 (by decide) (by decide)
theorem own_nc100 (p : Int32) : nc100 p = 1 ↔ ((8204 ≤ p.toInt ∧ p.toInt ≤ 8205) ∨ nc114 p = 1) := own_rg p 8204 8205 (nc114 p) 8204 8205 (by decide) (by decide)
theorem own_nc86 (p : Int32) : nc86 p = 1 ↔ ((895 ≤ p.toInt ∧ p.toInt ≤ 8191) ∨ nc100 p = 1) := own_rg p 895 8191 (nc100 p) 895 8191 (by decide) (by decide)
theorem own_nc72 (p : Int32) : nc72 p = 1 ↔ ((880 ≤ p.toInt ∧ p.toInt ≤ 893) ∨ nc86 p = 1) := own_rg p 880 893 (nc86 p) 880 893 (by decide) (by decide)
theorem own_nc58 (p : Int32) : nc58 p = 1 ↔ ((248 ≤ p.toInt ∧ p.toInt ≤ 767) ∨ nc72 p = 1) := own_rg p 248 767 (nc72 p) 248 767 (by decide) (by decide)
theorem own_nc44 (p : Int32) : nc44 p = 1 ↔ ((216 ≤ p.toInt ∧ p.toInt ≤ 246) ∨ nc58 p = 1) := own_rg p 216 246 (nc58 p) 216 246 (by decide) (by decide)
theorem own_nc30 (p : Int32) : nc30 p = 1 ↔ ((192 ≤ p.toInt ∧ p.toInt ≤ 214) ∨ nc44 p = 1) := own_rg p 192 214 (nc44 p) 192 214 (by decide) (by decide)
theorem own_nc18 (p : Int32) : nc18 p = 1 ↔ ((97 ≤ p.toInt ∧ p.toInt ≤ 122) ∨ nc30 p = 1) := own_rg p 97 122 (nc30 p) 97 122 (by decide) (by decide)
theorem own_nc12 (p : Int32) : nc12 p = 1 ↔ (p.toInt = 95 ∨ nc18 p = 1) := own_eq1 p 95 (nc18 p) 95 (by decide)
theorem own_nc0 (p : Int32) : nc0 p = 1 ↔ ((65 ≤ p.toInt ∧ p.toInt ≤ 90) ∨ nc12 p = 1) := own_rg p 65 90 (nc12 p) 65 90 (by decide) (by decide)
theorem own_ncF (p : Int32) : ncF p = 1 ↔ ((65 ≤ p.toInt ∧ p.toInt ≤ 90) ∨ p.toInt = 95 ∨ (97 ≤ p.toInt ∧ p.toInt ≤ 122) ∨ (192 ≤ p.toInt ∧ p.toInt ≤ 214) ∨ (216 ≤ p.toInt ∧ p.toInt ≤ 246) ∨ (248 ≤ p.toInt ∧ p.toInt ≤ 767) ∨ (880 ≤ p.toInt ∧ p.toInt ≤ 893) ∨ (895 ≤ p.toInt ∧ p.toInt ≤ 8191) ∨ (8204 ≤ p.toInt ∧ p.toInt ≤ 8205) ∨ (8304 ≤ p.toInt ∧ p.toInt ≤ 8591) ∨ (11264 ≤ p.toInt ∧ p.toInt ≤ 12271) ∨ (12289 ≤ p.toInt ∧ p.toInt ≤ 55295) ∨ (63744 ≤ p.toInt ∧ p.toInt ≤ 64975) ∨ (65008 ≤ p.toInt ∧ p.toInt ≤ 65533) ∨ (65536 ≤ p.toInt ∧ p.toInt ≤ 983039)) := by
  rw [ncF, own_nc0, own_nc12, own_nc18, own_nc30, own_nc44, own_nc58, own_nc72, own_nc86, own_nc100, own_nc114, own_nc128, own_nc142, own_nc155, own_nc167, own_nc179]
theorem own_b179 (p : Int32) : nc179 p = 0 ∨ nc179 p = 1 := by
  rw [nc179]; split
  · exact Or.inl rfl
  · split
    · exact Or.inl rfl
    · exact Or.inr rfl
theorem own_b167 (p : Int32) : nc167 p = 0 ∨ nc167 p = 1 := by
  rw [nc167]; split
  · exact own_b179 p
  · split
    · exact own_b179 p
    · exact Or.inr rfl
theorem own_b155 (p : Int32) : nc155 p = 0 ∨ nc155 p = 1 := by
  rw [nc155]; split
  · exact own_b167 p
  · split
    · exact own_b167 p
    · exact Or.inr rfl
theorem own_b142 (p : Int32) : nc142 p = 0 ∨ nc142 p = 1 := by
  rw [nc142]; split
  · exact own_b155 p
  · split
    · exact own_b155 p
    · exact Or.inr rfl
theorem own_b128 (p : Int32) : nc128 p = 0 ∨ nc128 p = 1 := by
  rw [nc128]; split
  · exact own_b142 p
  · split
    · exact own_b142 p
    · exact Or.inr rfl
theorem own_b114 (p : Int32) : nc114 p = 0 ∨ nc114 p = 1 := by
  rw [nc114]; split
  · exact own_b128 p
  · split
    · exact own_b128 p
    · exact Or.inr rfl
theorem own_b100 (p : Int32) : nc100 p = 0 ∨ nc100 p = 1 := by
  rw [nc100]; split
  · exact own_b114 p
  · split
    · exact own_b114 p
    · exact Or.inr rfl
theorem own_b86 (p : Int32) : nc86 p = 0 ∨ nc86 p = 1 := by
  rw [nc86]; split
  · exact own_b100 p
  · split
    · exact own_b100 p
    · exact Or.inr rfl
theorem own_b72 (p : Int32) : nc72 p = 0 ∨ nc72 p = 1 := by
  rw [nc72]; split
  · exact own_b86 p
  · split
    · exact own_b86 p
    · exact Or.inr rfl
theorem own_b58 (p : Int32) : nc58 p = 0 ∨ nc58 p = 1 := by
  rw [nc58]; split
  · exact own_b72 p
  · split
    · exact own_b72 p
    · exact Or.inr rfl
theorem own_b44 (p : Int32) : nc44 p = 0 ∨ nc44 p = 1 := by
  rw [nc44]; split
  · exact own_b58 p
  · split
    · exact own_b58 p
    · exact Or.inr rfl
theorem own_b30 (p : Int32) : nc30 p = 0 ∨ nc30 p = 1 := by
  rw [nc30]; split
  · exact own_b44 p
  · split
    · exact own_b44 p
    · exact Or.inr rfl
theorem own_b18 (p : Int32) : nc18 p = 0 ∨ nc18 p = 1 := by
  rw [nc18]; split
  · exact own_b30 p
  · split
    · exact own_b30 p
    · exact Or.inr rfl
theorem own_b12 (p : Int32) : nc12 p = 0 ∨ nc12 p = 1 := by
  rw [nc12]; split
  · exact Or.inr rfl
  · exact own_b18 p
theorem own_b0 (p : Int32) : nc0 p = 0 ∨ nc0 p = 1 := by
  rw [nc0]; split
  · exact own_b12 p
  · split
    · exact own_b12 p
    · exact Or.inr rfl
theorem pn_1 : plainName "com/example/narrow_tree/narrowtree/document/XmlSyntax" = true := by first | (simp [plainName, overriddenIn]; done) | decide +kernel
theorem ef_1 (m : MethodId) (x0 : Int32) : entryFrame m #[(.int x0)] 1 = mkF m 0 #[.val (.int x0)] [] := by first | (simp [entryFrame, mkF, argsToLocals, Value.category]; done) | rfl
def Q1 (Z : State) (p1 : Int32) (h0 : Heap) (n0 : Nat) (v : Option Value) (h : Heap) (L : List Loc) : Prop := v = some (.int (ncF p1)) ∧ Fr n0 L ∧ h = h0
set_option maxRecDepth 65536 in
set_option maxHeartbeats 40000000 in
theorem rm1 (l : Launch) (Z : State) (a0 : Array Value) (hw : ∀ d ∈ tables_1, d.before a0 Z = true) (ws : List Jvm.Cond) (p1 : Int32) (h0 : Heap) (n0 : Nat) (Z0 : n0 ≤ h0.size) :
    MetFree l (⟨"com/example/narrow_tree/narrowtree/document/XmlSyntax", "isNcNameStartCharacter", "(I)Z"⟩ : MethodName) (head1 (Jvm.Cond.code (⟨"com/example/narrow_tree/narrowtree/document/XmlSyntax", "isNcNameStartCharacter", "(I)Z"⟩ : MethodName) prog_52_method_9_code 1 (some .boolean) :: ws) ({ frames := 0, cells := 0, slots := 0, locals := 0 } : Room)) (fun a U => a = #[(.int p1)] ∧ Z.Warmed39 U.vm ∧ U.heap = h0) (fun _ _ _ _ _ => True) (fun _ U o U' => ∃ v L, o = .returned v ∧ Q1 Z p1 h0 n0 v U'.heap L ∧ FrameEnd U o U' L ({ frames := 0, cells := 0, slots := 0, locals := 0 } : Room).cells ({ frames := 0, cells := 0, slots := 0, locals := 0 } : Room).slots) := by
  refine MetFree.of_bodySF (plainFor_of_name pn_1) hisR ?_
  intro p e s m args below meth c s₁ Bd hml0 hP hK
  obtain ⟨rfl, hZ, hh⟩ := hP
  have hx := Bd.exec
  have hby := Bd.bytes
  have hml : c.maxLocals = 1 := hml0
  have hown : s.vm.findClass "com/example/narrow_tree/narrowtree/document/XmlSyntax" = some m.cls := findClass_of_methodNamed Bd.named
  have hnm := (name_of_methodNamed Bd.named Bd.method).1
  have X0 : Stand p l e ({ frames := 0, cells := 0, slots := 0, locals := 0 } : Room) s m #[(.int p1)] below meth c s₁ [] 0 0 := Stand.of_body Bd
  have e0 : s₁.heap = h0 := by rw [← hh, Bd.state]; rfl
  have N0 := Fr.nil n0
  have pre0 : ∀ t, Steps p.tables e below (s₁.setTop (mkF m 0 #[.val (.int p1)] [])) t → Steps p.tables e below (s₁.setTop (entryFrame m #[(.int p1)] 1)) t := fun t k => castTop (ef_1 m p1) k
  obtain ⟨fs, hr, hrun, hended, hW, hsame⟩ := X0.leave (v := some (.int (ncF p1))) (fun h => by rw [Bd.returns] at h; cases h)
  have k191 : ncF p1 = 1 → Steps p.tables e below (s₁.setTop (mkF m 191 #[.val (.int p1)] [])) (s₁.setFrames fs) := fun hv => by
    rw [hv] at hr
    refine XS.iconst X0.here hx rfl (hb hby d1_191) ?_
    show Steps p.tables e below (s₁.setTop (mkF m 192 #[.val (.int p1)] [(.int (1 : Int32))])) _
    refine XS.goto X0.here hx rfl (pc0 := 192) (pc' := 196) rfl (hb hby d1_192) (by decide) (by decide) ?_
    show Steps p.tables e below (s₁.setTop (mkF m 196 #[.val (.int p1)] [(.int (1 : Int32))])) _
    exact retN X0 hx (t := .boolean) Bd.returns (by simp) (hb hby d1_196) hr
  have k195 : ncF p1 = 0 → Steps p.tables e below (s₁.setTop (mkF m 195 #[.val (.int p1)] [])) (s₁.setFrames fs) := fun hv => by
    rw [hv] at hr
    refine XS.iconst X0.here hx rfl (hb hby d1_195) ?_
    show Steps p.tables e below (s₁.setTop (mkF m 196 #[.val (.int p1)] [(.int (0 : Int32))])) _
    exact retN X0 hx (t := .boolean) Bd.returns (by simp) (hb hby d1_196) hr
  have k179 : ncF p1 = nc179 p1 → Steps p.tables e below (s₁.setTop (mkF m 179 #[.val (.int p1)] [])) (s₁.setFrames fs) := fun hv => by
    refine XS.iloadN X0.here hx rfl (hb hby d1_179) rfl ?_
    show Steps p.tables e below (s₁.setTop (mkF m 180 #[.val (.int p1)] [(.int p1)])) _
    refine X0.ldcInt hx hown (mvT hZ (hw _ (List.mem_of_getElem? (i := 15) rfl))) (g := (mkF m 180 #[.val (.int p1)] [(.int p1)])) rfl (hb hby d1_180) _ ?_
    show Steps p.tables e below (s₁.setTop (mkF m 182 #[.val (.int p1)] [(.int (65536 : Int32)), (.int p1)])) _
    by_cases c1 : p1 < (65536 : Int32)
    · refine XS.icmpYes X0.here hx rfl (pc0 := 182) (pc' := 195) rfl (hb hby d1_182) rfl (tlt c1).1 (by decide) (by decide) ?_
      exact k195 (by rw [hv, nc179, if_pos c1])
    · refine XS.icmpNo X0.here hx rfl (hb hby d1_182) rfl (flt c1).1 ?_
      show Steps p.tables e below (s₁.setTop (mkF m 185 #[.val (.int p1)] [])) _
      refine XS.iloadN X0.here hx rfl (hb hby d1_185) rfl ?_
      show Steps p.tables e below (s₁.setTop (mkF m 186 #[.val (.int p1)] [(.int p1)])) _
      refine X0.ldcInt hx hown (mvT hZ (hw _ (List.mem_of_getElem? (i := 32) rfl))) (g := (mkF m 186 #[.val (.int p1)] [(.int p1)])) rfl (hb hby d1_186) _ ?_
      show Steps p.tables e below (s₁.setTop (mkF m 188 #[.val (.int p1)] [(.int (983039 : Int32)), (.int p1)])) _
      by_cases c2 : (983039 : Int32) < p1
      · refine XS.icmpYes X0.here hx rfl (pc0 := 188) (pc' := 195) rfl (hb hby d1_188) rfl (tlt c2).2.2.1 (by decide) (by decide) ?_
        exact k195 (by rw [hv, nc179, if_neg c1, if_pos c2])
      · refine XS.icmpNo X0.here hx rfl (hb hby d1_188) rfl (flt c2).2.2.1 ?_
        exact k191 (by rw [hv, nc179, if_neg c1, if_neg c2])
  have k167 : ncF p1 = nc167 p1 → Steps p.tables e below (s₁.setTop (mkF m 167 #[.val (.int p1)] [])) (s₁.setFrames fs) := fun hv => by
    refine XS.iloadN X0.here hx rfl (hb hby d1_167) rfl ?_
    show Steps p.tables e below (s₁.setTop (mkF m 168 #[.val (.int p1)] [(.int p1)])) _
    refine X0.ldcInt hx hown (mvT hZ (hw _ (List.mem_of_getElem? (i := 14) rfl))) (g := (mkF m 168 #[.val (.int p1)] [(.int p1)])) rfl (hb hby d1_168) _ ?_
    show Steps p.tables e below (s₁.setTop (mkF m 170 #[.val (.int p1)] [(.int (65008 : Int32)), (.int p1)])) _
    by_cases c1 : p1 < (65008 : Int32)
    · refine XS.icmpYes X0.here hx rfl (pc0 := 170) (pc' := 179) rfl (hb hby d1_170) rfl (tlt c1).1 (by decide) (by decide) ?_
      exact k179 (by rw [hv, nc167, if_pos c1])
    · refine XS.icmpNo X0.here hx rfl (hb hby d1_170) rfl (flt c1).1 ?_
      show Steps p.tables e below (s₁.setTop (mkF m 173 #[.val (.int p1)] [])) _
      refine XS.iloadN X0.here hx rfl (hb hby d1_173) rfl ?_
      show Steps p.tables e below (s₁.setTop (mkF m 174 #[.val (.int p1)] [(.int p1)])) _
      refine X0.ldcInt hx hown (mvT hZ (hw _ (List.mem_of_getElem? (i := 31) rfl))) (g := (mkF m 174 #[.val (.int p1)] [(.int p1)])) rfl (hb hby d1_174) _ ?_
      show Steps p.tables e below (s₁.setTop (mkF m 176 #[.val (.int p1)] [(.int (65533 : Int32)), (.int p1)])) _
      by_cases c2 : (65533 : Int32) < p1
      · refine XS.icmpNo X0.here hx rfl (hb hby d1_176) rfl (tlt c2).2.2.2 ?_
        exact k179 (by rw [hv, nc167, if_neg c1, if_pos c2])
      · refine XS.icmpYes X0.here hx rfl (pc0 := 176) (pc' := 191) rfl (hb hby d1_176) rfl (flt c2).2.2.2 (by decide) (by decide) ?_
        exact k191 (by rw [hv, nc167, if_neg c1, if_neg c2])
  have k155 : ncF p1 = nc155 p1 → Steps p.tables e below (s₁.setTop (mkF m 155 #[.val (.int p1)] [])) (s₁.setFrames fs) := fun hv => by
    refine XS.iloadN X0.here hx rfl (hb hby d1_155) rfl ?_
    show Steps p.tables e below (s₁.setTop (mkF m 156 #[.val (.int p1)] [(.int p1)])) _
    refine X0.ldcInt hx hown (mvT hZ (hw _ (List.mem_of_getElem? (i := 13) rfl))) (g := (mkF m 156 #[.val (.int p1)] [(.int p1)])) rfl (hb hby d1_156) _ ?_
    show Steps p.tables e below (s₁.setTop (mkF m 158 #[.val (.int p1)] [(.int (63744 : Int32)), (.int p1)])) _
    by_cases c1 : p1 < (63744 : Int32)
    · refine XS.icmpYes X0.here hx rfl (pc0 := 158) (pc' := 167) rfl (hb hby d1_158) rfl (tlt c1).1 (by decide) (by decide) ?_
      exact k167 (by rw [hv, nc155, if_pos c1])
    · refine XS.icmpNo X0.here hx rfl (hb hby d1_158) rfl (flt c1).1 ?_
      show Steps p.tables e below (s₁.setTop (mkF m 161 #[.val (.int p1)] [])) _
      refine XS.iloadN X0.here hx rfl (hb hby d1_161) rfl ?_
      show Steps p.tables e below (s₁.setTop (mkF m 162 #[.val (.int p1)] [(.int p1)])) _
      refine X0.ldcInt hx hown (mvT hZ (hw _ (List.mem_of_getElem? (i := 30) rfl))) (g := (mkF m 162 #[.val (.int p1)] [(.int p1)])) rfl (hb hby d1_162) _ ?_
      show Steps p.tables e below (s₁.setTop (mkF m 164 #[.val (.int p1)] [(.int (64975 : Int32)), (.int p1)])) _
      by_cases c2 : (64975 : Int32) < p1
      · refine XS.icmpNo X0.here hx rfl (hb hby d1_164) rfl (tlt c2).2.2.2 ?_
        exact k167 (by rw [hv, nc155, if_neg c1, if_pos c2])
      · refine XS.icmpYes X0.here hx rfl (pc0 := 164) (pc' := 191) rfl (hb hby d1_164) rfl (flt c2).2.2.2 (by decide) (by decide) ?_
        exact k191 (by rw [hv, nc155, if_neg c1, if_neg c2])
  have k142 : ncF p1 = nc142 p1 → Steps p.tables e below (s₁.setTop (mkF m 142 #[.val (.int p1)] [])) (s₁.setFrames fs) := fun hv => by
    refine XS.iloadN X0.here hx rfl (hb hby d1_142) rfl ?_
    show Steps p.tables e below (s₁.setTop (mkF m 143 #[.val (.int p1)] [(.int p1)])) _
    refine XS.sipush X0.here hx rfl (hb hby d1_143) ?_
    show Steps p.tables e below (s₁.setTop (mkF m 146 #[.val (.int p1)] [(.int (12289 : Int32)), (.int p1)])) _
    by_cases c1 : p1 < (12289 : Int32)
    · refine XS.icmpYes X0.here hx rfl (pc0 := 146) (pc' := 155) rfl (hb hby d1_146) rfl (tlt c1).1 (by decide) (by decide) ?_
      exact k155 (by rw [hv, nc142, if_pos c1])
    · refine XS.icmpNo X0.here hx rfl (hb hby d1_146) rfl (flt c1).1 ?_
      show Steps p.tables e below (s₁.setTop (mkF m 149 #[.val (.int p1)] [])) _
      refine XS.iloadN X0.here hx rfl (hb hby d1_149) rfl ?_
      show Steps p.tables e below (s₁.setTop (mkF m 150 #[.val (.int p1)] [(.int p1)])) _
      refine X0.ldcInt hx hown (mvT hZ (hw _ (List.mem_of_getElem? (i := 29) rfl))) (g := (mkF m 150 #[.val (.int p1)] [(.int p1)])) rfl (hb hby d1_150) _ ?_
      show Steps p.tables e below (s₁.setTop (mkF m 152 #[.val (.int p1)] [(.int (55295 : Int32)), (.int p1)])) _
      by_cases c2 : (55295 : Int32) < p1
      · refine XS.icmpNo X0.here hx rfl (hb hby d1_152) rfl (tlt c2).2.2.2 ?_
        exact k155 (by rw [hv, nc142, if_neg c1, if_pos c2])
      · refine XS.icmpYes X0.here hx rfl (pc0 := 152) (pc' := 191) rfl (hb hby d1_152) rfl (flt c2).2.2.2 (by decide) (by decide) ?_
        exact k191 (by rw [hv, nc142, if_neg c1, if_neg c2])
  have k128 : ncF p1 = nc128 p1 → Steps p.tables e below (s₁.setTop (mkF m 128 #[.val (.int p1)] [])) (s₁.setFrames fs) := fun hv => by
    refine XS.iloadN X0.here hx rfl (hb hby d1_128) rfl ?_
    show Steps p.tables e below (s₁.setTop (mkF m 129 #[.val (.int p1)] [(.int p1)])) _
    refine XS.sipush X0.here hx rfl (hb hby d1_129) ?_
    show Steps p.tables e below (s₁.setTop (mkF m 132 #[.val (.int p1)] [(.int (11264 : Int32)), (.int p1)])) _
    by_cases c1 : p1 < (11264 : Int32)
    · refine XS.icmpYes X0.here hx rfl (pc0 := 132) (pc' := 142) rfl (hb hby d1_132) rfl (tlt c1).1 (by decide) (by decide) ?_
      exact k142 (by rw [hv, nc128, if_pos c1])
    · refine XS.icmpNo X0.here hx rfl (hb hby d1_132) rfl (flt c1).1 ?_
      show Steps p.tables e below (s₁.setTop (mkF m 135 #[.val (.int p1)] [])) _
      refine XS.iloadN X0.here hx rfl (hb hby d1_135) rfl ?_
      show Steps p.tables e below (s₁.setTop (mkF m 136 #[.val (.int p1)] [(.int p1)])) _
      refine XS.sipush X0.here hx rfl (hb hby d1_136) ?_
      show Steps p.tables e below (s₁.setTop (mkF m 139 #[.val (.int p1)] [(.int (12271 : Int32)), (.int p1)])) _
      by_cases c2 : (12271 : Int32) < p1
      · refine XS.icmpNo X0.here hx rfl (hb hby d1_139) rfl (tlt c2).2.2.2 ?_
        exact k142 (by rw [hv, nc128, if_neg c1, if_pos c2])
      · refine XS.icmpYes X0.here hx rfl (pc0 := 139) (pc' := 191) rfl (hb hby d1_139) rfl (flt c2).2.2.2 (by decide) (by decide) ?_
        exact k191 (by rw [hv, nc128, if_neg c1, if_neg c2])
  have k114 : ncF p1 = nc114 p1 → Steps p.tables e below (s₁.setTop (mkF m 114 #[.val (.int p1)] [])) (s₁.setFrames fs) := fun hv => by
    refine XS.iloadN X0.here hx rfl (hb hby d1_114) rfl ?_
    show Steps p.tables e below (s₁.setTop (mkF m 115 #[.val (.int p1)] [(.int p1)])) _
    refine XS.sipush X0.here hx rfl (hb hby d1_115) ?_
    show Steps p.tables e below (s₁.setTop (mkF m 118 #[.val (.int p1)] [(.int (8304 : Int32)), (.int p1)])) _
    by_cases c1 : p1 < (8304 : Int32)
    · refine XS.icmpYes X0.here hx rfl (pc0 := 118) (pc' := 128) rfl (hb hby d1_118) rfl (tlt c1).1 (by decide) (by decide) ?_
      exact k128 (by rw [hv, nc114, if_pos c1])
    · refine XS.icmpNo X0.here hx rfl (hb hby d1_118) rfl (flt c1).1 ?_
      show Steps p.tables e below (s₁.setTop (mkF m 121 #[.val (.int p1)] [])) _
      refine XS.iloadN X0.here hx rfl (hb hby d1_121) rfl ?_
      show Steps p.tables e below (s₁.setTop (mkF m 122 #[.val (.int p1)] [(.int p1)])) _
      refine XS.sipush X0.here hx rfl (hb hby d1_122) ?_
      show Steps p.tables e below (s₁.setTop (mkF m 125 #[.val (.int p1)] [(.int (8591 : Int32)), (.int p1)])) _
      by_cases c2 : (8591 : Int32) < p1
      · refine XS.icmpNo X0.here hx rfl (hb hby d1_125) rfl (tlt c2).2.2.2 ?_
        exact k128 (by rw [hv, nc114, if_neg c1, if_pos c2])
      · refine XS.icmpYes X0.here hx rfl (pc0 := 125) (pc' := 191) rfl (hb hby d1_125) rfl (flt c2).2.2.2 (by decide) (by decide) ?_
        exact k191 (by rw [hv, nc114, if_neg c1, if_neg c2])
  have k100 : ncF p1 = nc100 p1 → Steps p.tables e below (s₁.setTop (mkF m 100 #[.val (.int p1)] [])) (s₁.setFrames fs) := fun hv => by
    refine XS.iloadN X0.here hx rfl (hb hby d1_100) rfl ?_
    show Steps p.tables e below (s₁.setTop (mkF m 101 #[.val (.int p1)] [(.int p1)])) _
    refine XS.sipush X0.here hx rfl (hb hby d1_101) ?_
    show Steps p.tables e below (s₁.setTop (mkF m 104 #[.val (.int p1)] [(.int (8204 : Int32)), (.int p1)])) _
    by_cases c1 : p1 < (8204 : Int32)
    · refine XS.icmpYes X0.here hx rfl (pc0 := 104) (pc' := 114) rfl (hb hby d1_104) rfl (tlt c1).1 (by decide) (by decide) ?_
      exact k114 (by rw [hv, nc100, if_pos c1])
    · refine XS.icmpNo X0.here hx rfl (hb hby d1_104) rfl (flt c1).1 ?_
      show Steps p.tables e below (s₁.setTop (mkF m 107 #[.val (.int p1)] [])) _
      refine XS.iloadN X0.here hx rfl (hb hby d1_107) rfl ?_
      show Steps p.tables e below (s₁.setTop (mkF m 108 #[.val (.int p1)] [(.int p1)])) _
      refine XS.sipush X0.here hx rfl (hb hby d1_108) ?_
      show Steps p.tables e below (s₁.setTop (mkF m 111 #[.val (.int p1)] [(.int (8205 : Int32)), (.int p1)])) _
      by_cases c2 : (8205 : Int32) < p1
      · refine XS.icmpNo X0.here hx rfl (hb hby d1_111) rfl (tlt c2).2.2.2 ?_
        exact k114 (by rw [hv, nc100, if_neg c1, if_pos c2])
      · refine XS.icmpYes X0.here hx rfl (pc0 := 111) (pc' := 191) rfl (hb hby d1_111) rfl (flt c2).2.2.2 (by decide) (by decide) ?_
        exact k191 (by rw [hv, nc100, if_neg c1, if_neg c2])
  have k86 : ncF p1 = nc86 p1 → Steps p.tables e below (s₁.setTop (mkF m 86 #[.val (.int p1)] [])) (s₁.setFrames fs) := fun hv => by
    refine XS.iloadN X0.here hx rfl (hb hby d1_86) rfl ?_
    show Steps p.tables e below (s₁.setTop (mkF m 87 #[.val (.int p1)] [(.int p1)])) _
    refine XS.sipush X0.here hx rfl (hb hby d1_87) ?_
    show Steps p.tables e below (s₁.setTop (mkF m 90 #[.val (.int p1)] [(.int (895 : Int32)), (.int p1)])) _
    by_cases c1 : p1 < (895 : Int32)
    · refine XS.icmpYes X0.here hx rfl (pc0 := 90) (pc' := 100) rfl (hb hby d1_90) rfl (tlt c1).1 (by decide) (by decide) ?_
      exact k100 (by rw [hv, nc86, if_pos c1])
    · refine XS.icmpNo X0.here hx rfl (hb hby d1_90) rfl (flt c1).1 ?_
      show Steps p.tables e below (s₁.setTop (mkF m 93 #[.val (.int p1)] [])) _
      refine XS.iloadN X0.here hx rfl (hb hby d1_93) rfl ?_
      show Steps p.tables e below (s₁.setTop (mkF m 94 #[.val (.int p1)] [(.int p1)])) _
      refine XS.sipush X0.here hx rfl (hb hby d1_94) ?_
      show Steps p.tables e below (s₁.setTop (mkF m 97 #[.val (.int p1)] [(.int (8191 : Int32)), (.int p1)])) _
      by_cases c2 : (8191 : Int32) < p1
      · refine XS.icmpNo X0.here hx rfl (hb hby d1_97) rfl (tlt c2).2.2.2 ?_
        exact k100 (by rw [hv, nc86, if_neg c1, if_pos c2])
      · refine XS.icmpYes X0.here hx rfl (pc0 := 97) (pc' := 191) rfl (hb hby d1_97) rfl (flt c2).2.2.2 (by decide) (by decide) ?_
        exact k191 (by rw [hv, nc86, if_neg c1, if_neg c2])
  have k72 : ncF p1 = nc72 p1 → Steps p.tables e below (s₁.setTop (mkF m 72 #[.val (.int p1)] [])) (s₁.setFrames fs) := fun hv => by
    refine XS.iloadN X0.here hx rfl (hb hby d1_72) rfl ?_
    show Steps p.tables e below (s₁.setTop (mkF m 73 #[.val (.int p1)] [(.int p1)])) _
    refine XS.sipush X0.here hx rfl (hb hby d1_73) ?_
    show Steps p.tables e below (s₁.setTop (mkF m 76 #[.val (.int p1)] [(.int (880 : Int32)), (.int p1)])) _
    by_cases c1 : p1 < (880 : Int32)
    · refine XS.icmpYes X0.here hx rfl (pc0 := 76) (pc' := 86) rfl (hb hby d1_76) rfl (tlt c1).1 (by decide) (by decide) ?_
      exact k86 (by rw [hv, nc72, if_pos c1])
    · refine XS.icmpNo X0.here hx rfl (hb hby d1_76) rfl (flt c1).1 ?_
      show Steps p.tables e below (s₁.setTop (mkF m 79 #[.val (.int p1)] [])) _
      refine XS.iloadN X0.here hx rfl (hb hby d1_79) rfl ?_
      show Steps p.tables e below (s₁.setTop (mkF m 80 #[.val (.int p1)] [(.int p1)])) _
      refine XS.sipush X0.here hx rfl (hb hby d1_80) ?_
      show Steps p.tables e below (s₁.setTop (mkF m 83 #[.val (.int p1)] [(.int (893 : Int32)), (.int p1)])) _
      by_cases c2 : (893 : Int32) < p1
      · refine XS.icmpNo X0.here hx rfl (hb hby d1_83) rfl (tlt c2).2.2.2 ?_
        exact k86 (by rw [hv, nc72, if_neg c1, if_pos c2])
      · refine XS.icmpYes X0.here hx rfl (pc0 := 83) (pc' := 191) rfl (hb hby d1_83) rfl (flt c2).2.2.2 (by decide) (by decide) ?_
        exact k191 (by rw [hv, nc72, if_neg c1, if_neg c2])
  have k58 : ncF p1 = nc58 p1 → Steps p.tables e below (s₁.setTop (mkF m 58 #[.val (.int p1)] [])) (s₁.setFrames fs) := fun hv => by
    refine XS.iloadN X0.here hx rfl (hb hby d1_58) rfl ?_
    show Steps p.tables e below (s₁.setTop (mkF m 59 #[.val (.int p1)] [(.int p1)])) _
    refine XS.sipush X0.here hx rfl (hb hby d1_59) ?_
    show Steps p.tables e below (s₁.setTop (mkF m 62 #[.val (.int p1)] [(.int (248 : Int32)), (.int p1)])) _
    by_cases c1 : p1 < (248 : Int32)
    · refine XS.icmpYes X0.here hx rfl (pc0 := 62) (pc' := 72) rfl (hb hby d1_62) rfl (tlt c1).1 (by decide) (by decide) ?_
      exact k72 (by rw [hv, nc58, if_pos c1])
    · refine XS.icmpNo X0.here hx rfl (hb hby d1_62) rfl (flt c1).1 ?_
      show Steps p.tables e below (s₁.setTop (mkF m 65 #[.val (.int p1)] [])) _
      refine XS.iloadN X0.here hx rfl (hb hby d1_65) rfl ?_
      show Steps p.tables e below (s₁.setTop (mkF m 66 #[.val (.int p1)] [(.int p1)])) _
      refine XS.sipush X0.here hx rfl (hb hby d1_66) ?_
      show Steps p.tables e below (s₁.setTop (mkF m 69 #[.val (.int p1)] [(.int (767 : Int32)), (.int p1)])) _
      by_cases c2 : (767 : Int32) < p1
      · refine XS.icmpNo X0.here hx rfl (hb hby d1_69) rfl (tlt c2).2.2.2 ?_
        exact k72 (by rw [hv, nc58, if_neg c1, if_pos c2])
      · refine XS.icmpYes X0.here hx rfl (pc0 := 69) (pc' := 191) rfl (hb hby d1_69) rfl (flt c2).2.2.2 (by decide) (by decide) ?_
        exact k191 (by rw [hv, nc58, if_neg c1, if_neg c2])
  have k44 : ncF p1 = nc44 p1 → Steps p.tables e below (s₁.setTop (mkF m 44 #[.val (.int p1)] [])) (s₁.setFrames fs) := fun hv => by
    refine XS.iloadN X0.here hx rfl (hb hby d1_44) rfl ?_
    show Steps p.tables e below (s₁.setTop (mkF m 45 #[.val (.int p1)] [(.int p1)])) _
    refine XS.sipush X0.here hx rfl (hb hby d1_45) ?_
    show Steps p.tables e below (s₁.setTop (mkF m 48 #[.val (.int p1)] [(.int (216 : Int32)), (.int p1)])) _
    by_cases c1 : p1 < (216 : Int32)
    · refine XS.icmpYes X0.here hx rfl (pc0 := 48) (pc' := 58) rfl (hb hby d1_48) rfl (tlt c1).1 (by decide) (by decide) ?_
      exact k58 (by rw [hv, nc44, if_pos c1])
    · refine XS.icmpNo X0.here hx rfl (hb hby d1_48) rfl (flt c1).1 ?_
      show Steps p.tables e below (s₁.setTop (mkF m 51 #[.val (.int p1)] [])) _
      refine XS.iloadN X0.here hx rfl (hb hby d1_51) rfl ?_
      show Steps p.tables e below (s₁.setTop (mkF m 52 #[.val (.int p1)] [(.int p1)])) _
      refine XS.sipush X0.here hx rfl (hb hby d1_52) ?_
      show Steps p.tables e below (s₁.setTop (mkF m 55 #[.val (.int p1)] [(.int (246 : Int32)), (.int p1)])) _
      by_cases c2 : (246 : Int32) < p1
      · refine XS.icmpNo X0.here hx rfl (hb hby d1_55) rfl (tlt c2).2.2.2 ?_
        exact k58 (by rw [hv, nc44, if_neg c1, if_pos c2])
      · refine XS.icmpYes X0.here hx rfl (pc0 := 55) (pc' := 191) rfl (hb hby d1_55) rfl (flt c2).2.2.2 (by decide) (by decide) ?_
        exact k191 (by rw [hv, nc44, if_neg c1, if_neg c2])
  have k30 : ncF p1 = nc30 p1 → Steps p.tables e below (s₁.setTop (mkF m 30 #[.val (.int p1)] [])) (s₁.setFrames fs) := fun hv => by
    refine XS.iloadN X0.here hx rfl (hb hby d1_30) rfl ?_
    show Steps p.tables e below (s₁.setTop (mkF m 31 #[.val (.int p1)] [(.int p1)])) _
    refine XS.sipush X0.here hx rfl (hb hby d1_31) ?_
    show Steps p.tables e below (s₁.setTop (mkF m 34 #[.val (.int p1)] [(.int (192 : Int32)), (.int p1)])) _
    by_cases c1 : p1 < (192 : Int32)
    · refine XS.icmpYes X0.here hx rfl (pc0 := 34) (pc' := 44) rfl (hb hby d1_34) rfl (tlt c1).1 (by decide) (by decide) ?_
      exact k44 (by rw [hv, nc30, if_pos c1])
    · refine XS.icmpNo X0.here hx rfl (hb hby d1_34) rfl (flt c1).1 ?_
      show Steps p.tables e below (s₁.setTop (mkF m 37 #[.val (.int p1)] [])) _
      refine XS.iloadN X0.here hx rfl (hb hby d1_37) rfl ?_
      show Steps p.tables e below (s₁.setTop (mkF m 38 #[.val (.int p1)] [(.int p1)])) _
      refine XS.sipush X0.here hx rfl (hb hby d1_38) ?_
      show Steps p.tables e below (s₁.setTop (mkF m 41 #[.val (.int p1)] [(.int (214 : Int32)), (.int p1)])) _
      by_cases c2 : (214 : Int32) < p1
      · refine XS.icmpNo X0.here hx rfl (hb hby d1_41) rfl (tlt c2).2.2.2 ?_
        exact k44 (by rw [hv, nc30, if_neg c1, if_pos c2])
      · refine XS.icmpYes X0.here hx rfl (pc0 := 41) (pc' := 191) rfl (hb hby d1_41) rfl (flt c2).2.2.2 (by decide) (by decide) ?_
        exact k191 (by rw [hv, nc30, if_neg c1, if_neg c2])
  have k18 : ncF p1 = nc18 p1 → Steps p.tables e below (s₁.setTop (mkF m 18 #[.val (.int p1)] [])) (s₁.setFrames fs) := fun hv => by
    refine XS.iloadN X0.here hx rfl (hb hby d1_18) rfl ?_
    show Steps p.tables e below (s₁.setTop (mkF m 19 #[.val (.int p1)] [(.int p1)])) _
    refine XS.bipush X0.here hx rfl (hb hby d1_19) ?_
    show Steps p.tables e below (s₁.setTop (mkF m 21 #[.val (.int p1)] [(.int (97 : Int32)), (.int p1)])) _
    by_cases c1 : p1 < (97 : Int32)
    · refine XS.icmpYes X0.here hx rfl (pc0 := 21) (pc' := 30) rfl (hb hby d1_21) rfl (tlt c1).1 (by decide) (by decide) ?_
      exact k30 (by rw [hv, nc18, if_pos c1])
    · refine XS.icmpNo X0.here hx rfl (hb hby d1_21) rfl (flt c1).1 ?_
      show Steps p.tables e below (s₁.setTop (mkF m 24 #[.val (.int p1)] [])) _
      refine XS.iloadN X0.here hx rfl (hb hby d1_24) rfl ?_
      show Steps p.tables e below (s₁.setTop (mkF m 25 #[.val (.int p1)] [(.int p1)])) _
      refine XS.bipush X0.here hx rfl (hb hby d1_25) ?_
      show Steps p.tables e below (s₁.setTop (mkF m 27 #[.val (.int p1)] [(.int (122 : Int32)), (.int p1)])) _
      by_cases c2 : (122 : Int32) < p1
      · refine XS.icmpNo X0.here hx rfl (hb hby d1_27) rfl (tlt c2).2.2.2 ?_
        exact k30 (by rw [hv, nc18, if_neg c1, if_pos c2])
      · refine XS.icmpYes X0.here hx rfl (pc0 := 27) (pc' := 191) rfl (hb hby d1_27) rfl (flt c2).2.2.2 (by decide) (by decide) ?_
        exact k191 (by rw [hv, nc18, if_neg c1, if_neg c2])
  have k12 : ncF p1 = nc12 p1 → Steps p.tables e below (s₁.setTop (mkF m 12 #[.val (.int p1)] [])) (s₁.setFrames fs) := fun hv => by
    refine XS.iloadN X0.here hx rfl (hb hby d1_12) rfl ?_
    show Steps p.tables e below (s₁.setTop (mkF m 13 #[.val (.int p1)] [(.int p1)])) _
    refine XS.bipush X0.here hx rfl (hb hby d1_13) ?_
    show Steps p.tables e below (s₁.setTop (mkF m 15 #[.val (.int p1)] [(.int (95 : Int32)), (.int p1)])) _
    by_cases c1 : p1 = (95 : Int32)
    · refine XS.icmpYes X0.here hx rfl (pc0 := 15) (pc' := 191) rfl (hb hby d1_15) rfl (teq c1).1 (by decide) (by decide) ?_
      exact k191 (by rw [hv, nc12, if_pos c1])
    · refine XS.icmpNo X0.here hx rfl (hb hby d1_15) rfl (feq c1).1 ?_
      exact k18 (by rw [hv, nc12, if_neg c1])
  have k0 : ncF p1 = nc0 p1 → Steps p.tables e below (s₁.setTop (mkF m 0 #[.val (.int p1)] [])) (s₁.setFrames fs) := fun hv => by
    refine XS.iloadN X0.here hx rfl (hb hby d1_0) rfl ?_
    show Steps p.tables e below (s₁.setTop (mkF m 1 #[.val (.int p1)] [(.int p1)])) _
    refine XS.bipush X0.here hx rfl (hb hby d1_1) ?_
    show Steps p.tables e below (s₁.setTop (mkF m 3 #[.val (.int p1)] [(.int (65 : Int32)), (.int p1)])) _
    by_cases c1 : p1 < (65 : Int32)
    · refine XS.icmpYes X0.here hx rfl (pc0 := 3) (pc' := 12) rfl (hb hby d1_3) rfl (tlt c1).1 (by decide) (by decide) ?_
      exact k12 (by rw [hv, nc0, if_pos c1])
    · refine XS.icmpNo X0.here hx rfl (hb hby d1_3) rfl (flt c1).1 ?_
      show Steps p.tables e below (s₁.setTop (mkF m 6 #[.val (.int p1)] [])) _
      refine XS.iloadN X0.here hx rfl (hb hby d1_6) rfl ?_
      show Steps p.tables e below (s₁.setTop (mkF m 7 #[.val (.int p1)] [(.int p1)])) _
      refine XS.bipush X0.here hx rfl (hb hby d1_7) ?_
      show Steps p.tables e below (s₁.setTop (mkF m 9 #[.val (.int p1)] [(.int (90 : Int32)), (.int p1)])) _
      by_cases c2 : (90 : Int32) < p1
      · refine XS.icmpNo X0.here hx rfl (hb hby d1_9) rfl (tlt c2).2.2.2 ?_
        exact k12 (by rw [hv, nc0, if_neg c1, if_pos c2])
      · refine XS.icmpYes X0.here hx rfl (pc0 := 9) (pc' := 191) rfl (hb hby d1_9) rfl (flt c2).2.2.2 (by decide) (by decide) ?_
        exact k191 (by rw [hv, nc0, if_neg c1, if_neg c2])
  refine ⟨_, _, pre0 _ (k0 rfl), hrun, hended, _, _, rfl, ?_, ⟨_, rfl⟩, hW, hsame.mono (by decide) (by decide)⟩
  show Q1 Z p1 h0 n0 _ s₁.heap _
  rw [e0]
  exact ⟨rfl, N0, rfl⟩
def inF (x lo hi : Int32) : Int32 := if x < lo then 0 else if hi < x then 0 else 1
theorem d3_0 : decode method_2_code 0 = .ok (.iload_n 0, 1) := by decide +kernel
theorem d3_1 : decode method_2_code 1 = .ok (.iload_n 1, 1) := by decide +kernel
theorem d3_2 : decode method_2_code 2 = .ok (.if_icmp .lt 12, 3) := by decide +kernel
theorem d3_14 : decode method_2_code 14 = .ok (.iconst 0, 1) := by decide +kernel
theorem d3_15 : decode method_2_code 15 = .ok (.ireturn, 1) := by decide +kernel
theorem pn_3 : plainName "com/example/narrow_tree/narrowtree/document/XmlSyntaxIsNcNameStartCharacterPinLaw" = true := by first | (simp [plainName, overriddenIn]; done) | decide +kernel
theorem ef_3 (m : MethodId) (x0 : Int32) (x1 : Int32) (x2 : Int32) : entryFrame m #[(.int x0), (.int x1), (.int x2)] 3 = mkF m 0 #[.val (.int x0), .val (.int x1), .val (.int x2)] [] := by first | (simp [entryFrame, mkF, argsToLocals, Value.category]; done) | rfl
def Q3 (Z : State) (p1 : Int32) (p2 : Int32) (p3 : Int32) (h0 : Heap) (n0 : Nat) (v : Option Value) (h : Heap) (L : List Loc) : Prop := v = some (.int (inF p1 p2 p3)) ∧ Fr n0 L ∧ h = h0
set_option maxRecDepth 65536 in
set_option maxHeartbeats 40000000 in
theorem rm3_t (l : Launch) (Z : State) (a0 : Array Value) (hw : ∀ d ∈ tables_1, d.before a0 Z = true) (ws : List Jvm.Cond) (p1 : Int32) (p2 : Int32) (p3 : Int32) (h0 : Heap) (n0 : Nat) (Z0 : n0 ≤ h0.size) (hc2 : p1 < p2) :
    MetFree l (⟨"com/example/narrow_tree/narrowtree/document/XmlSyntaxIsNcNameStartCharacterPinLaw", "in", "(III)Z"⟩ : MethodName) (head1 (Jvm.Cond.code (⟨"com/example/narrow_tree/narrowtree/document/XmlSyntaxIsNcNameStartCharacterPinLaw", "in", "(III)Z"⟩ : MethodName) method_2_code 3 (some .boolean) :: ws) ({ frames := 0, cells := 0, slots := 0, locals := 0 } : Room)) (fun a U => a = #[(.int p1), (.int p2), (.int p3)] ∧ Z.Warmed39 U.vm ∧ U.heap = h0) (fun _ _ _ _ _ => True) (fun _ U o U' => ∃ v L, o = .returned v ∧ Q3 Z p1 p2 p3 h0 n0 v U'.heap L ∧ FrameEnd U o U' L ({ frames := 0, cells := 0, slots := 0, locals := 0 } : Room).cells ({ frames := 0, cells := 0, slots := 0, locals := 0 } : Room).slots) := by
  refine MetFree.of_bodySF (plainFor_of_name pn_3) hisR ?_
  intro p e s m args below meth c s₁ Bd hml0 hP hK
  obtain ⟨rfl, hZ, hh⟩ := hP
  have hx := Bd.exec
  have hby := Bd.bytes
  have hml : c.maxLocals = 3 := hml0
  have hown : s.vm.findClass "com/example/narrow_tree/narrowtree/document/XmlSyntaxIsNcNameStartCharacterPinLaw" = some m.cls := findClass_of_methodNamed Bd.named
  have hnm := (name_of_methodNamed Bd.named Bd.method).1
  have X0 : Stand p l e ({ frames := 0, cells := 0, slots := 0, locals := 0 } : Room) s m #[(.int p1), (.int p2), (.int p3)] below meth c s₁ [] 0 0 := Stand.of_body Bd
  have e0 : s₁.heap = h0 := by rw [← hh, Bd.state]; rfl
  have N0 := Fr.nil n0
  have pre0 : ∀ t, Steps p.tables e below (s₁.setTop (mkF m 0 #[.val (.int p1), .val (.int p2), .val (.int p3)] [])) t → Steps p.tables e below (s₁.setTop (entryFrame m #[(.int p1), (.int p2), (.int p3)] 3)) t := fun t k => castTop (ef_3 m p1 p2 p3) k

  obtain ⟨fs, hr, hrun, hended, hW, hsame⟩ := X0.leave (v := some (.int (0 : Int32))) (fun h => by rw [Bd.returns] at h; cases h)
  refine ⟨_, _, pre0 _ ?_, hrun, hended, _, _, rfl, ?_, ⟨_, rfl⟩, hW, hsame.mono (by decide) (by decide)⟩
  · show Steps p.tables e below (s₁.setTop (mkF m 0 #[.val (.int p1), .val (.int p2), .val (.int p3)] [])) _
    refine XS.iloadN X0.here hx rfl (hb hby d3_0) rfl ?_
    show Steps p.tables e below (s₁.setTop (mkF m 1 #[.val (.int p1), .val (.int p2), .val (.int p3)] [(.int p1)])) _
    refine XS.iloadN X0.here hx rfl (hb hby d3_1) rfl ?_
    show Steps p.tables e below (s₁.setTop (mkF m 2 #[.val (.int p1), .val (.int p2), .val (.int p3)] [(.int p2), (.int p1)])) _
    refine XS.icmpYes X0.here hx rfl (pc0 := 2) (pc' := 14) rfl (hb hby d3_2) rfl (tlt hc2).1 (by decide) (by decide) ?_
    show Steps p.tables e below (s₁.setTop (mkF m 14 #[.val (.int p1), .val (.int p2), .val (.int p3)] [])) _
    refine XS.iconst X0.here hx rfl (hb hby d3_14) ?_
    show Steps p.tables e below (s₁.setTop (mkF m 15 #[.val (.int p1), .val (.int p2), .val (.int p3)] [(.int (0 : Int32))])) _
    exact retN X0 hx (t := .boolean) Bd.returns (by simp) (hb hby d3_15) hr
  · show Q3 Z p1 p2 p3 h0 n0 _ s₁.heap _
    rw [e0]
    exact ⟨by simp [inF, hc2], N0, rfl⟩
theorem d3_5 : decode method_2_code 5 = .ok (.iload_n 0, 1) := by decide +kernel
theorem d3_6 : decode method_2_code 6 = .ok (.iload_n 2, 1) := by decide +kernel
theorem d3_7 : decode method_2_code 7 = .ok (.if_icmp .gt 7, 3) := by decide +kernel
set_option maxRecDepth 65536 in
set_option maxHeartbeats 40000000 in
theorem rm3_ft (l : Launch) (Z : State) (a0 : Array Value) (hw : ∀ d ∈ tables_1, d.before a0 Z = true) (ws : List Jvm.Cond) (p1 : Int32) (p2 : Int32) (p3 : Int32) (h0 : Heap) (n0 : Nat) (Z0 : n0 ≤ h0.size) (hc2 : ¬ (p1 < p2)) (hc7 : p3 < p1) :
    MetFree l (⟨"com/example/narrow_tree/narrowtree/document/XmlSyntaxIsNcNameStartCharacterPinLaw", "in", "(III)Z"⟩ : MethodName) (head1 (Jvm.Cond.code (⟨"com/example/narrow_tree/narrowtree/document/XmlSyntaxIsNcNameStartCharacterPinLaw", "in", "(III)Z"⟩ : MethodName) method_2_code 3 (some .boolean) :: ws) ({ frames := 0, cells := 0, slots := 0, locals := 0 } : Room)) (fun a U => a = #[(.int p1), (.int p2), (.int p3)] ∧ Z.Warmed39 U.vm ∧ U.heap = h0) (fun _ _ _ _ _ => True) (fun _ U o U' => ∃ v L, o = .returned v ∧ Q3 Z p1 p2 p3 h0 n0 v U'.heap L ∧ FrameEnd U o U' L ({ frames := 0, cells := 0, slots := 0, locals := 0 } : Room).cells ({ frames := 0, cells := 0, slots := 0, locals := 0 } : Room).slots) := by
  refine MetFree.of_bodySF (plainFor_of_name pn_3) hisR ?_
  intro p e s m args below meth c s₁ Bd hml0 hP hK
  obtain ⟨rfl, hZ, hh⟩ := hP
  have hx := Bd.exec
  have hby := Bd.bytes
  have hml : c.maxLocals = 3 := hml0
  have hown : s.vm.findClass "com/example/narrow_tree/narrowtree/document/XmlSyntaxIsNcNameStartCharacterPinLaw" = some m.cls := findClass_of_methodNamed Bd.named
  have hnm := (name_of_methodNamed Bd.named Bd.method).1
  have X0 : Stand p l e ({ frames := 0, cells := 0, slots := 0, locals := 0 } : Room) s m #[(.int p1), (.int p2), (.int p3)] below meth c s₁ [] 0 0 := Stand.of_body Bd
  have e0 : s₁.heap = h0 := by rw [← hh, Bd.state]; rfl
  have N0 := Fr.nil n0
  have pre0 : ∀ t, Steps p.tables e below (s₁.setTop (mkF m 0 #[.val (.int p1), .val (.int p2), .val (.int p3)] [])) t → Steps p.tables e below (s₁.setTop (entryFrame m #[(.int p1), (.int p2), (.int p3)] 3)) t := fun t k => castTop (ef_3 m p1 p2 p3) k

  obtain ⟨fs, hr, hrun, hended, hW, hsame⟩ := X0.leave (v := some (.int (0 : Int32))) (fun h => by rw [Bd.returns] at h; cases h)
  refine ⟨_, _, pre0 _ ?_, hrun, hended, _, _, rfl, ?_, ⟨_, rfl⟩, hW, hsame.mono (by decide) (by decide)⟩
  · show Steps p.tables e below (s₁.setTop (mkF m 0 #[.val (.int p1), .val (.int p2), .val (.int p3)] [])) _
    refine XS.iloadN X0.here hx rfl (hb hby d3_0) rfl ?_
    show Steps p.tables e below (s₁.setTop (mkF m 1 #[.val (.int p1), .val (.int p2), .val (.int p3)] [(.int p1)])) _
    refine XS.iloadN X0.here hx rfl (hb hby d3_1) rfl ?_
    show Steps p.tables e below (s₁.setTop (mkF m 2 #[.val (.int p1), .val (.int p2), .val (.int p3)] [(.int p2), (.int p1)])) _
    refine XS.icmpNo X0.here hx rfl (hb hby d3_2) rfl (flt hc2).1 ?_
    show Steps p.tables e below (s₁.setTop (mkF m 5 #[.val (.int p1), .val (.int p2), .val (.int p3)] [])) _
    refine XS.iloadN X0.here hx rfl (hb hby d3_5) rfl ?_
    show Steps p.tables e below (s₁.setTop (mkF m 6 #[.val (.int p1), .val (.int p2), .val (.int p3)] [(.int p1)])) _
    refine XS.iloadN X0.here hx rfl (hb hby d3_6) rfl ?_
    show Steps p.tables e below (s₁.setTop (mkF m 7 #[.val (.int p1), .val (.int p2), .val (.int p3)] [(.int p3), (.int p1)])) _
    refine XS.icmpYes X0.here hx rfl (pc0 := 7) (pc' := 14) rfl (hb hby d3_7) rfl (tlt hc7).2.2.1 (by decide) (by decide) ?_
    show Steps p.tables e below (s₁.setTop (mkF m 14 #[.val (.int p1), .val (.int p2), .val (.int p3)] [])) _
    refine XS.iconst X0.here hx rfl (hb hby d3_14) ?_
    show Steps p.tables e below (s₁.setTop (mkF m 15 #[.val (.int p1), .val (.int p2), .val (.int p3)] [(.int (0 : Int32))])) _
    exact retN X0 hx (t := .boolean) Bd.returns (by simp) (hb hby d3_15) hr
  · show Q3 Z p1 p2 p3 h0 n0 _ s₁.heap _
    rw [e0]
    exact ⟨by simp [inF, hc2, hc7], N0, rfl⟩
theorem d3_10 : decode method_2_code 10 = .ok (.iconst 1, 1) := by decide +kernel
theorem d3_11 : decode method_2_code 11 = .ok (.goto 4, 3) := by decide +kernel
set_option maxRecDepth 65536 in
set_option maxHeartbeats 40000000 in
theorem rm3_ff (l : Launch) (Z : State) (a0 : Array Value) (hw : ∀ d ∈ tables_1, d.before a0 Z = true) (ws : List Jvm.Cond) (p1 : Int32) (p2 : Int32) (p3 : Int32) (h0 : Heap) (n0 : Nat) (Z0 : n0 ≤ h0.size) (hc2 : ¬ (p1 < p2)) (hc7 : ¬ (p3 < p1)) :
    MetFree l (⟨"com/example/narrow_tree/narrowtree/document/XmlSyntaxIsNcNameStartCharacterPinLaw", "in", "(III)Z"⟩ : MethodName) (head1 (Jvm.Cond.code (⟨"com/example/narrow_tree/narrowtree/document/XmlSyntaxIsNcNameStartCharacterPinLaw", "in", "(III)Z"⟩ : MethodName) method_2_code 3 (some .boolean) :: ws) ({ frames := 0, cells := 0, slots := 0, locals := 0 } : Room)) (fun a U => a = #[(.int p1), (.int p2), (.int p3)] ∧ Z.Warmed39 U.vm ∧ U.heap = h0) (fun _ _ _ _ _ => True) (fun _ U o U' => ∃ v L, o = .returned v ∧ Q3 Z p1 p2 p3 h0 n0 v U'.heap L ∧ FrameEnd U o U' L ({ frames := 0, cells := 0, slots := 0, locals := 0 } : Room).cells ({ frames := 0, cells := 0, slots := 0, locals := 0 } : Room).slots) := by
  refine MetFree.of_bodySF (plainFor_of_name pn_3) hisR ?_
  intro p e s m args below meth c s₁ Bd hml0 hP hK
  obtain ⟨rfl, hZ, hh⟩ := hP
  have hx := Bd.exec
  have hby := Bd.bytes
  have hml : c.maxLocals = 3 := hml0
  have hown : s.vm.findClass "com/example/narrow_tree/narrowtree/document/XmlSyntaxIsNcNameStartCharacterPinLaw" = some m.cls := findClass_of_methodNamed Bd.named
  have hnm := (name_of_methodNamed Bd.named Bd.method).1
  have X0 : Stand p l e ({ frames := 0, cells := 0, slots := 0, locals := 0 } : Room) s m #[(.int p1), (.int p2), (.int p3)] below meth c s₁ [] 0 0 := Stand.of_body Bd
  have e0 : s₁.heap = h0 := by rw [← hh, Bd.state]; rfl
  have N0 := Fr.nil n0
  have pre0 : ∀ t, Steps p.tables e below (s₁.setTop (mkF m 0 #[.val (.int p1), .val (.int p2), .val (.int p3)] [])) t → Steps p.tables e below (s₁.setTop (entryFrame m #[(.int p1), (.int p2), (.int p3)] 3)) t := fun t k => castTop (ef_3 m p1 p2 p3) k

  obtain ⟨fs, hr, hrun, hended, hW, hsame⟩ := X0.leave (v := some (.int (1 : Int32))) (fun h => by rw [Bd.returns] at h; cases h)
  refine ⟨_, _, pre0 _ ?_, hrun, hended, _, _, rfl, ?_, ⟨_, rfl⟩, hW, hsame.mono (by decide) (by decide)⟩
  · show Steps p.tables e below (s₁.setTop (mkF m 0 #[.val (.int p1), .val (.int p2), .val (.int p3)] [])) _
    refine XS.iloadN X0.here hx rfl (hb hby d3_0) rfl ?_
    show Steps p.tables e below (s₁.setTop (mkF m 1 #[.val (.int p1), .val (.int p2), .val (.int p3)] [(.int p1)])) _
    refine XS.iloadN X0.here hx rfl (hb hby d3_1) rfl ?_
    show Steps p.tables e below (s₁.setTop (mkF m 2 #[.val (.int p1), .val (.int p2), .val (.int p3)] [(.int p2), (.int p1)])) _
    refine XS.icmpNo X0.here hx rfl (hb hby d3_2) rfl (flt hc2).1 ?_
    show Steps p.tables e below (s₁.setTop (mkF m 5 #[.val (.int p1), .val (.int p2), .val (.int p3)] [])) _
    refine XS.iloadN X0.here hx rfl (hb hby d3_5) rfl ?_
    show Steps p.tables e below (s₁.setTop (mkF m 6 #[.val (.int p1), .val (.int p2), .val (.int p3)] [(.int p1)])) _
    refine XS.iloadN X0.here hx rfl (hb hby d3_6) rfl ?_
    show Steps p.tables e below (s₁.setTop (mkF m 7 #[.val (.int p1), .val (.int p2), .val (.int p3)] [(.int p3), (.int p1)])) _
    refine XS.icmpNo X0.here hx rfl (hb hby d3_7) rfl (flt hc7).2.2.1 ?_
    show Steps p.tables e below (s₁.setTop (mkF m 10 #[.val (.int p1), .val (.int p2), .val (.int p3)] [])) _
    refine XS.iconst X0.here hx rfl (hb hby d3_10) ?_
    show Steps p.tables e below (s₁.setTop (mkF m 11 #[.val (.int p1), .val (.int p2), .val (.int p3)] [(.int (1 : Int32))])) _
    refine XS.goto X0.here hx rfl (pc0 := 11) (pc' := 15) rfl (hb hby d3_11) (by decide) (by decide) ?_
    show Steps p.tables e below (s₁.setTop (mkF m 15 #[.val (.int p1), .val (.int p2), .val (.int p3)] [(.int (1 : Int32))])) _
    exact retN X0 hx (t := .boolean) Bd.returns (by simp) (hb hby d3_15) hr
  · show Q3 Z p1 p2 p3 h0 n0 _ s₁.heap _
    rw [e0]
    exact ⟨by simp [inF, hc2, hc7], N0, rfl⟩
theorem rm3 (l : Launch) (Z : State) (a0 : Array Value) (hw : ∀ d ∈ tables_1, d.before a0 Z = true) (ws : List Jvm.Cond) (p1 : Int32) (p2 : Int32) (p3 : Int32) (h0 : Heap) (n0 : Nat) (Z0 : n0 ≤ h0.size) :
    MetFree l (⟨"com/example/narrow_tree/narrowtree/document/XmlSyntaxIsNcNameStartCharacterPinLaw", "in", "(III)Z"⟩ : MethodName) (head1 (Jvm.Cond.code (⟨"com/example/narrow_tree/narrowtree/document/XmlSyntaxIsNcNameStartCharacterPinLaw", "in", "(III)Z"⟩ : MethodName) method_2_code 3 (some .boolean) :: ws) ({ frames := 0, cells := 0, slots := 0, locals := 0 } : Room)) (fun a U => a = #[(.int p1), (.int p2), (.int p3)] ∧ Z.Warmed39 U.vm ∧ U.heap = h0) (fun _ _ _ _ _ => True) (fun _ U o U' => ∃ v L, o = .returned v ∧ Q3 Z p1 p2 p3 h0 n0 v U'.heap L ∧ FrameEnd U o U' L ({ frames := 0, cells := 0, slots := 0, locals := 0 } : Room).cells ({ frames := 0, cells := 0, slots := 0, locals := 0 } : Room).slots) := by
  by_cases h1 : p1 < p2
  · exact rm3_t l Z a0 hw ws p1 p2 p3 h0 n0 Z0 h1
  by_cases h2 : p3 < p1
  · exact rm3_ft l Z a0 hw ws p1 p2 p3 h0 n0 Z0 h1 h2
  · exact rm3_ff l Z a0 hw ws p1 p2 p3 h0 n0 Z0 h1 h2
def rcF (p : Int32) : Int32 := if p < 65 then 0 else if 983039 < p then 0 else if ¬ inF p 91 94 = 0 then 0 else if p = 96 then 0 else if ¬ inF p 123 191 = 0 then 0 else if p = 215 then 0 else if p = 247 then 0 else if ¬ inF p 768 879 = 0 then 0 else if p = 894 then 0 else if ¬ inF p 8192 8203 = 0 then 0 else if ¬ inF p 8206 8303 = 0 then 0 else if ¬ inF p 8592 11263 = 0 then 0 else if ¬ inF p 12272 12288 = 0 then 0 else if ¬ inF p 55296 63743 = 0 then 0 else if ¬ inF p 64976 65007 = 0 then 0 else if ¬ inF p 65534 65535 = 0 then 0 else 1
theorem d2_0 : decode method_3_code 0 = .ok (.iload_n 0, 1) := by decide +kernel
theorem d2_1 : decode method_3_code 1 = .ok (.bipush 65, 2) := by decide +kernel
theorem d2_3 : decode method_3_code 3 = .ok (.if_icmp .lt 9, 3) := by decide +kernel
theorem d2_12 : decode method_3_code 12 = .ok (.iconst 0, 1) := by decide +kernel
theorem d2_13 : decode method_3_code 13 = .ok (.ireturn, 1) := by decide +kernel
theorem pn_2 : plainName "com/example/narrow_tree/narrowtree/document/XmlSyntaxIsNcNameStartCharacterPinLaw" = true := by first | (simp [plainName, overriddenIn]; done) | decide +kernel
theorem ef_2 (m : MethodId) (x0 : Int32) : entryFrame m #[(.int x0)] 2 = mkF m 0 #[.val (.int x0), .unset] [] := by first | (simp [entryFrame, mkF, argsToLocals, Value.category]; done) | rfl
def Q2 (Z : State) (p1 : Int32) (h0 : Heap) (n0 : Nat) (v : Option Value) (h : Heap) (L : List Loc) : Prop := v = some (.int (rcF p1)) ∧ Fr n0 L ∧ h = h0
set_option maxRecDepth 65536 in
set_option maxHeartbeats 40000000 in
theorem rm2_t (l : Launch) (Z : State) (a0 : Array Value) (hw : ∀ d ∈ tables_1, d.before a0 Z = true) (ws : List Jvm.Cond) (p1 : Int32) (h0 : Heap) (n0 : Nat) (Z0 : n0 ≤ h0.size) (hc3 : p1 < (65 : Int32)) :
    MetFree l (⟨"com/example/narrow_tree/narrowtree/document/XmlSyntaxIsNcNameStartCharacterPinLaw", "ref", "(I)Z"⟩ : MethodName) (head1 (Jvm.Cond.code (⟨"com/example/narrow_tree/narrowtree/document/XmlSyntaxIsNcNameStartCharacterPinLaw", "ref", "(I)Z"⟩ : MethodName) method_3_code 2 (some .boolean) :: ws) ({ frames := 1, cells := 0, slots := 0, locals := 14 } : Room)) (fun a U => a = #[(.int p1)] ∧ Z.Warmed39 U.vm ∧ U.heap = h0) (fun _ _ _ _ _ => True) (fun _ U o U' => ∃ v L, o = .returned v ∧ Q2 Z p1 h0 n0 v U'.heap L ∧ FrameEnd U o U' L ({ frames := 1, cells := 0, slots := 0, locals := 14 } : Room).cells ({ frames := 1, cells := 0, slots := 0, locals := 14 } : Room).slots) := by
  refine MetFree.of_bodySF (plainFor_of_name pn_2) hisR ?_
  intro p e s m args below meth c s₁ Bd hml0 hP hK
  obtain ⟨rfl, hZ, hh⟩ := hP
  have hx := Bd.exec
  have hby := Bd.bytes
  have hml : c.maxLocals = 2 := hml0
  have hown : s.vm.findClass "com/example/narrow_tree/narrowtree/document/XmlSyntaxIsNcNameStartCharacterPinLaw" = some m.cls := findClass_of_methodNamed Bd.named
  have hnm := (name_of_methodNamed Bd.named Bd.method).1
  have X0 : Stand p l e ({ frames := 1, cells := 0, slots := 0, locals := 14 } : Room) s m #[(.int p1)] below meth c s₁ [] 0 0 := Stand.of_body Bd
  have e0 : s₁.heap = h0 := by rw [← hh, Bd.state]; rfl
  have N0 := Fr.nil n0
  have pre0 : ∀ t, Steps p.tables e below (s₁.setTop (mkF m 0 #[.val (.int p1), .unset] [])) t → Steps p.tables e below (s₁.setTop (entryFrame m #[(.int p1)] 2)) t := fun t k => castTop (ef_2 m p1) k

  obtain ⟨fs, hr, hrun, hended, hW, hsame⟩ := X0.leave (v := some (.int (0 : Int32))) (fun h => by rw [Bd.returns] at h; cases h)
  refine ⟨_, _, pre0 _ ?_, hrun, hended, _, _, rfl, ?_, ⟨_, rfl⟩, hW, hsame.mono (by decide) (by decide)⟩
  · show Steps p.tables e below (s₁.setTop (mkF m 0 #[.val (.int p1), .unset] [])) _
    refine XS.iloadN X0.here hx rfl (hb hby d2_0) rfl ?_
    show Steps p.tables e below (s₁.setTop (mkF m 1 #[.val (.int p1), .unset] [(.int p1)])) _
    refine XS.bipush X0.here hx rfl (hb hby d2_1) ?_
    show Steps p.tables e below (s₁.setTop (mkF m 3 #[.val (.int p1), .unset] [(.int (65 : Int32)), (.int p1)])) _
    refine XS.icmpYes X0.here hx rfl (pc0 := 3) (pc' := 12) rfl (hb hby d2_3) rfl (tlt hc3).1 (by decide) (by decide) ?_
    show Steps p.tables e below (s₁.setTop (mkF m 12 #[.val (.int p1), .unset] [])) _
    refine XS.iconst X0.here hx rfl (hb hby d2_12) ?_
    show Steps p.tables e below (s₁.setTop (mkF m 13 #[.val (.int p1), .unset] [(.int (0 : Int32))])) _
    exact retN X0 hx (t := .boolean) Bd.returns (by simp) (hb hby d2_13) hr
  · show Q2 Z p1 h0 n0 _ s₁.heap _
    rw [e0]
    exact ⟨by simp [rcF, hc3], N0, rfl⟩
theorem d2_6 : decode method_3_code 6 = .ok (.iload_n 0, 1) := by decide +kernel
theorem d2_7 : decode method_3_code 7 = .ok (.ldc 7, 2) := by decide +kernel
theorem d2_9 : decode method_3_code 9 = .ok (.if_icmp .le 5, 3) := by decide +kernel
set_option maxRecDepth 65536 in
set_option maxHeartbeats 40000000 in
theorem rm2_ff (l : Launch) (Z : State) (a0 : Array Value) (hw : ∀ d ∈ tables_1, d.before a0 Z = true) (ws : List Jvm.Cond) (p1 : Int32) (h0 : Heap) (n0 : Nat) (Z0 : n0 ≤ h0.size) (hc3 : ¬ (p1 < (65 : Int32))) (hc9 : (983039 : Int32) < p1) :
    MetFree l (⟨"com/example/narrow_tree/narrowtree/document/XmlSyntaxIsNcNameStartCharacterPinLaw", "ref", "(I)Z"⟩ : MethodName) (head1 (Jvm.Cond.code (⟨"com/example/narrow_tree/narrowtree/document/XmlSyntaxIsNcNameStartCharacterPinLaw", "ref", "(I)Z"⟩ : MethodName) method_3_code 2 (some .boolean) :: ws) ({ frames := 1, cells := 0, slots := 0, locals := 14 } : Room)) (fun a U => a = #[(.int p1)] ∧ Z.Warmed39 U.vm ∧ U.heap = h0) (fun _ _ _ _ _ => True) (fun _ U o U' => ∃ v L, o = .returned v ∧ Q2 Z p1 h0 n0 v U'.heap L ∧ FrameEnd U o U' L ({ frames := 1, cells := 0, slots := 0, locals := 14 } : Room).cells ({ frames := 1, cells := 0, slots := 0, locals := 14 } : Room).slots) := by
  refine MetFree.of_bodySF (plainFor_of_name pn_2) hisR ?_
  intro p e s m args below meth c s₁ Bd hml0 hP hK
  obtain ⟨rfl, hZ, hh⟩ := hP
  have hx := Bd.exec
  have hby := Bd.bytes
  have hml : c.maxLocals = 2 := hml0
  have hown : s.vm.findClass "com/example/narrow_tree/narrowtree/document/XmlSyntaxIsNcNameStartCharacterPinLaw" = some m.cls := findClass_of_methodNamed Bd.named
  have hnm := (name_of_methodNamed Bd.named Bd.method).1
  have X0 : Stand p l e ({ frames := 1, cells := 0, slots := 0, locals := 14 } : Room) s m #[(.int p1)] below meth c s₁ [] 0 0 := Stand.of_body Bd
  have e0 : s₁.heap = h0 := by rw [← hh, Bd.state]; rfl
  have N0 := Fr.nil n0
  have pre0 : ∀ t, Steps p.tables e below (s₁.setTop (mkF m 0 #[.val (.int p1), .unset] [])) t → Steps p.tables e below (s₁.setTop (entryFrame m #[(.int p1)] 2)) t := fun t k => castTop (ef_2 m p1) k

  obtain ⟨fs, hr, hrun, hended, hW, hsame⟩ := X0.leave (v := some (.int (0 : Int32))) (fun h => by rw [Bd.returns] at h; cases h)
  refine ⟨_, _, pre0 _ ?_, hrun, hended, _, _, rfl, ?_, ⟨_, rfl⟩, hW, hsame.mono (by decide) (by decide)⟩
  · show Steps p.tables e below (s₁.setTop (mkF m 0 #[.val (.int p1), .unset] [])) _
    refine XS.iloadN X0.here hx rfl (hb hby d2_0) rfl ?_
    show Steps p.tables e below (s₁.setTop (mkF m 1 #[.val (.int p1), .unset] [(.int p1)])) _
    refine XS.bipush X0.here hx rfl (hb hby d2_1) ?_
    show Steps p.tables e below (s₁.setTop (mkF m 3 #[.val (.int p1), .unset] [(.int (65 : Int32)), (.int p1)])) _
    refine XS.icmpNo X0.here hx rfl (hb hby d2_3) rfl (flt hc3).1 ?_
    show Steps p.tables e below (s₁.setTop (mkF m 6 #[.val (.int p1), .unset] [])) _
    refine XS.iloadN X0.here hx rfl (hb hby d2_6) rfl ?_
    show Steps p.tables e below (s₁.setTop (mkF m 7 #[.val (.int p1), .unset] [(.int p1)])) _
    refine X0.ldcInt hx hown (mvT hZ (hw _ (List.mem_of_getElem? (i := 7) rfl))) (g := (mkF m 7 #[.val (.int p1), .unset] [(.int p1)])) rfl (hb hby d2_7) _ ?_
    show Steps p.tables e below (s₁.setTop (mkF m 9 #[.val (.int p1), .unset] [(.int (983039 : Int32)), (.int p1)])) _
    refine XS.icmpNo X0.here hx rfl (hb hby d2_9) rfl (tlt hc9).2.2.2 ?_
    show Steps p.tables e below (s₁.setTop (mkF m 12 #[.val (.int p1), .unset] [])) _
    refine XS.iconst X0.here hx rfl (hb hby d2_12) ?_
    show Steps p.tables e below (s₁.setTop (mkF m 13 #[.val (.int p1), .unset] [(.int (0 : Int32))])) _
    exact retN X0 hx (t := .boolean) Bd.returns (by simp) (hb hby d2_13) hr
  · show Q2 Z p1 h0 n0 _ s₁.heap _
    rw [e0]
    exact ⟨by simp [rcF, hc3, hc9], N0, rfl⟩
theorem d2_14 : decode method_3_code 14 = .ok (.iload_n 0, 1) := by decide +kernel
theorem d2_15 : decode method_3_code 15 = .ok (.bipush 91, 2) := by decide +kernel
theorem d2_17 : decode method_3_code 17 = .ok (.bipush 94, 2) := by decide +kernel
theorem d2_19 : decode method_3_code 19 = .ok (.invokestatic 8, 3) := by decide +kernel
theorem d2_22 : decode method_3_code 22 = .ok (.ifCond .ne 140, 3) := by decide +kernel
theorem d2_162 : decode method_3_code 162 = .ok (.iconst 1, 1) := by decide +kernel
theorem d2_163 : decode method_3_code 163 = .ok (.goto 4, 3) := by decide +kernel
theorem d2_167 : decode method_3_code 167 = .ok (.istore_n 1, 1) := by decide +kernel
theorem d2_168 : decode method_3_code 168 = .ok (.iload_n 1, 1) := by decide +kernel
theorem d2_169 : decode method_3_code 169 = .ok (.ifCond .ne 7, 3) := by decide +kernel
theorem d2_176 : decode method_3_code 176 = .ok (.iconst 0, 1) := by decide +kernel
theorem d2_177 : decode method_3_code 177 = .ok (.ireturn, 1) := by decide +kernel
theorem pd_2_1 : parseMethodDescriptor "(III)Z" = some ⟨[.int, .int, .int], some .boolean⟩ := by decide +kernel
set_option maxRecDepth 65536 in
set_option maxHeartbeats 40000000 in
theorem rm2_fttt (l : Launch) (Z : State) (a0 : Array Value) (hw : ∀ d ∈ tables_1, d.before a0 Z = true) (ws : List Jvm.Cond) (p1 : Int32) (h0 : Heap) (n0 : Nat) (Z0 : n0 ≤ h0.size) (hg22 : ¬ (inF p1 (91 : Int32) (94 : Int32) = (0 : Int32))) (hc3 : ¬ (p1 < (65 : Int32))) (hc9 : ¬ ((983039 : Int32) < p1)) :
    MetFree l (⟨"com/example/narrow_tree/narrowtree/document/XmlSyntaxIsNcNameStartCharacterPinLaw", "ref", "(I)Z"⟩ : MethodName) (head1 (Jvm.Cond.code (⟨"com/example/narrow_tree/narrowtree/document/XmlSyntaxIsNcNameStartCharacterPinLaw", "ref", "(I)Z"⟩ : MethodName) method_3_code 2 (some .boolean) :: ws) ({ frames := 1, cells := 0, slots := 0, locals := 14 } : Room)) (fun a U => a = #[(.int p1)] ∧ Z.Warmed39 U.vm ∧ U.heap = h0) (fun _ _ _ _ _ => True) (fun _ U o U' => ∃ v L, o = .returned v ∧ Q2 Z p1 h0 n0 v U'.heap L ∧ FrameEnd U o U' L ({ frames := 1, cells := 0, slots := 0, locals := 14 } : Room).cells ({ frames := 1, cells := 0, slots := 0, locals := 14 } : Room).slots) := by
  refine MetFree.of_bodySF (plainFor_of_name pn_2) hisR ?_
  intro p e s m args below meth c s₁ Bd hml0 hP hK
  obtain ⟨rfl, hZ, hh⟩ := hP
  have hx := Bd.exec
  have hby := Bd.bytes
  have hml : c.maxLocals = 2 := hml0
  have hown : s.vm.findClass "com/example/narrow_tree/narrowtree/document/XmlSyntaxIsNcNameStartCharacterPinLaw" = some m.cls := findClass_of_methodNamed Bd.named
  have hnm := (name_of_methodNamed Bd.named Bd.method).1
  have X0 : Stand p l e ({ frames := 1, cells := 0, slots := 0, locals := 14 } : Room) s m #[(.int p1)] below meth c s₁ [] 0 0 := Stand.of_body Bd
  have e0 : s₁.heap = h0 := by rw [← hh, Bd.state]; rfl
  have hc169 : ¬ ((1 : Int32) = (0 : Int32)) := by decide
  have N0 := Fr.nil n0
  have pre0 : ∀ t, Steps p.tables e below (s₁.setTop (mkF m 0 #[.val (.int p1), .unset] [])) t → Steps p.tables e below (s₁.setTop (entryFrame m #[(.int p1)] 2)) t := fun t k => castTop (ef_2 m p1) k
  obtain ⟨_, _, ⟨T2, L2, k2, n2⟩, -, X2, ⟨Lc2, hQ2, l2, y2, z2⟩, st2⟩ := Jvm.LawKit.callS X0 hx (y := (⟨"com/example/narrow_tree/narrowtree/document/XmlSyntaxIsNcNameStartCharacterPinLaw", "in", "(III)Z"⟩ : MethodName)) hown (mvT hZ (hw _ (List.mem_of_getElem? (i := 20) rfl))) (mvT hZ (hw _ (List.mem_of_getElem? (i := 21) rfl))) (mvT hZ (hw _ (List.mem_of_getElem? (i := 18) rfl))) (mvT hZ (hw _ (List.mem_of_getElem? (i := 22) rfl))) (by decide) (backOf (W := 0) (rm3 l Z a0 hw [] p1 (91 : Int32) (94 : Int32) h0 n0 Z0) hZ (hw _ (List.mem_of_getElem? (i := 22) rfl)) (hw _ (List.mem_of_getElem? (i := 18) rfl)) (by decide) (by decide)) (g := (mkF m 19 #[.val (.int p1), .unset] [(.int (94 : Int32)), (.int (91 : Int32)), (.int p1)])) rfl (by rw [hml]; rfl) (argsL := [(.int p1), (.int (91 : Int32)), (.int (94 : Int32))]) (rest := []) (lenOf pd_2_1 rfl) rfl (by show 2 * 0 + _ ≤ _; exact Nat.le_of_eq rfl) (hb hby d2_19) (fun _ _ => ⟨rfl, e0, (by decide : 0 + 0 ≤ _), (by decide : 0 + 0 ≤ _)⟩)
  dsimp only [Pt.U, Pt.locs, Pt.cells, Pt.slots] at X2 l2 y2 z2 st2 hQ2
  subst l2 y2 z2
  obtain ⟨rfl, N2q, eq2⟩ := hQ2
  have N2 := Fr.app N0 N2q
  obtain ⟨fs, hr, hrun, hended, hW, hsame⟩ := X2.leave (v := some (.int (0 : Int32))) (fun h => by rw [Bd.returns] at h; cases h)
  refine ⟨_, _, pre0 _ ?_, hrun, hended, _, _, rfl, ?_, ⟨_, rfl⟩, hW, hsame.mono (by decide) (by decide)⟩
  · show Steps p.tables e below (s₁.setTop (mkF m 0 #[.val (.int p1), .unset] [])) _
    refine XS.iloadN X0.here hx rfl (hb hby d2_0) rfl ?_
    show Steps p.tables e below (s₁.setTop (mkF m 1 #[.val (.int p1), .unset] [(.int p1)])) _
    refine XS.bipush X0.here hx rfl (hb hby d2_1) ?_
    show Steps p.tables e below (s₁.setTop (mkF m 3 #[.val (.int p1), .unset] [(.int (65 : Int32)), (.int p1)])) _
    refine XS.icmpNo X0.here hx rfl (hb hby d2_3) rfl (flt hc3).1 ?_
    show Steps p.tables e below (s₁.setTop (mkF m 6 #[.val (.int p1), .unset] [])) _
    refine XS.iloadN X0.here hx rfl (hb hby d2_6) rfl ?_
    show Steps p.tables e below (s₁.setTop (mkF m 7 #[.val (.int p1), .unset] [(.int p1)])) _
    refine X0.ldcInt hx hown (mvT hZ (hw _ (List.mem_of_getElem? (i := 7) rfl))) (g := (mkF m 7 #[.val (.int p1), .unset] [(.int p1)])) rfl (hb hby d2_7) _ ?_
    show Steps p.tables e below (s₁.setTop (mkF m 9 #[.val (.int p1), .unset] [(.int (983039 : Int32)), (.int p1)])) _
    refine XS.icmpYes X0.here hx rfl (pc0 := 9) (pc' := 14) rfl (hb hby d2_9) rfl (flt hc9).2.2.2 (by decide) (by decide) ?_
    show Steps p.tables e below (s₁.setTop (mkF m 14 #[.val (.int p1), .unset] [])) _
    refine XS.iloadN X0.here hx rfl (hb hby d2_14) rfl ?_
    show Steps p.tables e below (s₁.setTop (mkF m 15 #[.val (.int p1), .unset] [(.int p1)])) _
    refine XS.bipush X0.here hx rfl (hb hby d2_15) ?_
    show Steps p.tables e below (s₁.setTop (mkF m 17 #[.val (.int p1), .unset] [(.int (91 : Int32)), (.int p1)])) _
    refine XS.bipush X0.here hx rfl (hb hby d2_17) ?_
    show Steps p.tables e below (s₁.setTop (mkF m 19 #[.val (.int p1), .unset] [(.int (94 : Int32)), (.int (91 : Int32)), (.int p1)])) _
    refine st2 _ ?_
    show Steps p.tables e below (T2.setTop (mkF m 22 #[.val (.int p1), .unset] [(.int (inF p1 (91 : Int32) (94 : Int32)))])) _
    refine XS.ifYes X2.here hx rfl (pc0 := 22) (pc' := 162) rfl (hb hby d2_22) rfl ((if0 _ _).trans (feq (hg22 : ¬ ((inF p1 (91 : Int32) (94 : Int32)) = (0 : Int32)))).2) (by decide) (by decide) ?_
    show Steps p.tables e below (T2.setTop (mkF m 162 #[.val (.int p1), .unset] [])) _
    refine XS.iconst X2.here hx rfl (hb hby d2_162) ?_
    show Steps p.tables e below (T2.setTop (mkF m 163 #[.val (.int p1), .unset] [(.int (1 : Int32))])) _
    refine XS.goto X2.here hx rfl (pc0 := 163) (pc' := 167) rfl (hb hby d2_163) (by decide) (by decide) ?_
    show Steps p.tables e below (T2.setTop (mkF m 167 #[.val (.int p1), .unset] [(.int (1 : Int32))])) _
    refine XS.istoreN X2.here hx rfl (hb hby d2_167) rfl (l' := #[.val (.int p1), .val (.int (1 : Int32))]) rfl ?_
    show Steps p.tables e below (T2.setTop (mkF m 168 #[.val (.int p1), .val (.int (1 : Int32))] [])) _
    refine XS.iloadN X2.here hx rfl (hb hby d2_168) rfl ?_
    show Steps p.tables e below (T2.setTop (mkF m 169 #[.val (.int p1), .val (.int (1 : Int32))] [(.int (1 : Int32))])) _
    refine XS.ifYes X2.here hx rfl (pc0 := 169) (pc' := 176) rfl (hb hby d2_169) rfl ((if0 _ _).trans (feq hc169).2) (by decide) (by decide) ?_
    show Steps p.tables e below (T2.setTop (mkF m 176 #[.val (.int p1), .val (.int (1 : Int32))] [])) _
    refine XS.iconst X2.here hx rfl (hb hby d2_176) ?_
    show Steps p.tables e below (T2.setTop (mkF m 177 #[.val (.int p1), .val (.int (1 : Int32))] [(.int (0 : Int32))])) _
    exact retN X2 hx (t := .boolean) Bd.returns (by simp) (hb hby d2_177) hr
  · show Q2 Z p1 h0 n0 _ T2.heap _
    exact ⟨by simp [rcF, hc3, hc9, hg22], N2, by rw [eq2]⟩
theorem d2_25 : decode method_3_code 25 = .ok (.iload_n 0, 1) := by decide +kernel
theorem d2_26 : decode method_3_code 26 = .ok (.bipush 96, 2) := by decide +kernel
theorem d2_28 : decode method_3_code 28 = .ok (.if_icmp .eq 134, 3) := by decide +kernel
set_option maxRecDepth 65536 in
set_option maxHeartbeats 40000000 in
theorem rm2_ftftt (l : Launch) (Z : State) (a0 : Array Value) (hw : ∀ d ∈ tables_1, d.before a0 Z = true) (ws : List Jvm.Cond) (p1 : Int32) (h0 : Heap) (n0 : Nat) (Z0 : n0 ≤ h0.size) (hg22 : inF p1 (91 : Int32) (94 : Int32) = (0 : Int32)) (hc3 : ¬ (p1 < (65 : Int32))) (hc9 : ¬ ((983039 : Int32) < p1)) (hc28 : p1 = (96 : Int32)) :
    MetFree l (⟨"com/example/narrow_tree/narrowtree/document/XmlSyntaxIsNcNameStartCharacterPinLaw", "ref", "(I)Z"⟩ : MethodName) (head1 (Jvm.Cond.code (⟨"com/example/narrow_tree/narrowtree/document/XmlSyntaxIsNcNameStartCharacterPinLaw", "ref", "(I)Z"⟩ : MethodName) method_3_code 2 (some .boolean) :: ws) ({ frames := 1, cells := 0, slots := 0, locals := 14 } : Room)) (fun a U => a = #[(.int p1)] ∧ Z.Warmed39 U.vm ∧ U.heap = h0) (fun _ _ _ _ _ => True) (fun _ U o U' => ∃ v L, o = .returned v ∧ Q2 Z p1 h0 n0 v U'.heap L ∧ FrameEnd U o U' L ({ frames := 1, cells := 0, slots := 0, locals := 14 } : Room).cells ({ frames := 1, cells := 0, slots := 0, locals := 14 } : Room).slots) := by
  refine MetFree.of_bodySF (plainFor_of_name pn_2) hisR ?_
  intro p e s m args below meth c s₁ Bd hml0 hP hK
  obtain ⟨rfl, hZ, hh⟩ := hP
  have hx := Bd.exec
  have hby := Bd.bytes
  have hml : c.maxLocals = 2 := hml0
  have hown : s.vm.findClass "com/example/narrow_tree/narrowtree/document/XmlSyntaxIsNcNameStartCharacterPinLaw" = some m.cls := findClass_of_methodNamed Bd.named
  have hnm := (name_of_methodNamed Bd.named Bd.method).1
  have X0 : Stand p l e ({ frames := 1, cells := 0, slots := 0, locals := 14 } : Room) s m #[(.int p1)] below meth c s₁ [] 0 0 := Stand.of_body Bd
  have e0 : s₁.heap = h0 := by rw [← hh, Bd.state]; rfl
  have hc169 : ¬ ((1 : Int32) = (0 : Int32)) := by decide
  have N0 := Fr.nil n0
  have pre0 : ∀ t, Steps p.tables e below (s₁.setTop (mkF m 0 #[.val (.int p1), .unset] [])) t → Steps p.tables e below (s₁.setTop (entryFrame m #[(.int p1)] 2)) t := fun t k => castTop (ef_2 m p1) k
  obtain ⟨_, _, ⟨T2, L2, k2, n2⟩, -, X2, ⟨Lc2, hQ2, l2, y2, z2⟩, st2⟩ := Jvm.LawKit.callS X0 hx (y := (⟨"com/example/narrow_tree/narrowtree/document/XmlSyntaxIsNcNameStartCharacterPinLaw", "in", "(III)Z"⟩ : MethodName)) hown (mvT hZ (hw _ (List.mem_of_getElem? (i := 20) rfl))) (mvT hZ (hw _ (List.mem_of_getElem? (i := 21) rfl))) (mvT hZ (hw _ (List.mem_of_getElem? (i := 18) rfl))) (mvT hZ (hw _ (List.mem_of_getElem? (i := 22) rfl))) (by decide) (backOf (W := 0) (rm3 l Z a0 hw [] p1 (91 : Int32) (94 : Int32) h0 n0 Z0) hZ (hw _ (List.mem_of_getElem? (i := 22) rfl)) (hw _ (List.mem_of_getElem? (i := 18) rfl)) (by decide) (by decide)) (g := (mkF m 19 #[.val (.int p1), .unset] [(.int (94 : Int32)), (.int (91 : Int32)), (.int p1)])) rfl (by rw [hml]; rfl) (argsL := [(.int p1), (.int (91 : Int32)), (.int (94 : Int32))]) (rest := []) (lenOf pd_2_1 rfl) rfl (by show 2 * 0 + _ ≤ _; exact Nat.le_of_eq rfl) (hb hby d2_19) (fun _ _ => ⟨rfl, e0, (by decide : 0 + 0 ≤ _), (by decide : 0 + 0 ≤ _)⟩)
  dsimp only [Pt.U, Pt.locs, Pt.cells, Pt.slots] at X2 l2 y2 z2 st2 hQ2
  subst l2 y2 z2
  obtain ⟨rfl, N2q, eq2⟩ := hQ2
  have N2 := Fr.app N0 N2q
  obtain ⟨fs, hr, hrun, hended, hW, hsame⟩ := X2.leave (v := some (.int (0 : Int32))) (fun h => by rw [Bd.returns] at h; cases h)
  refine ⟨_, _, pre0 _ ?_, hrun, hended, _, _, rfl, ?_, ⟨_, rfl⟩, hW, hsame.mono (by decide) (by decide)⟩
  · show Steps p.tables e below (s₁.setTop (mkF m 0 #[.val (.int p1), .unset] [])) _
    refine XS.iloadN X0.here hx rfl (hb hby d2_0) rfl ?_
    show Steps p.tables e below (s₁.setTop (mkF m 1 #[.val (.int p1), .unset] [(.int p1)])) _
    refine XS.bipush X0.here hx rfl (hb hby d2_1) ?_
    show Steps p.tables e below (s₁.setTop (mkF m 3 #[.val (.int p1), .unset] [(.int (65 : Int32)), (.int p1)])) _
    refine XS.icmpNo X0.here hx rfl (hb hby d2_3) rfl (flt hc3).1 ?_
    show Steps p.tables e below (s₁.setTop (mkF m 6 #[.val (.int p1), .unset] [])) _
    refine XS.iloadN X0.here hx rfl (hb hby d2_6) rfl ?_
    show Steps p.tables e below (s₁.setTop (mkF m 7 #[.val (.int p1), .unset] [(.int p1)])) _
    refine X0.ldcInt hx hown (mvT hZ (hw _ (List.mem_of_getElem? (i := 7) rfl))) (g := (mkF m 7 #[.val (.int p1), .unset] [(.int p1)])) rfl (hb hby d2_7) _ ?_
    show Steps p.tables e below (s₁.setTop (mkF m 9 #[.val (.int p1), .unset] [(.int (983039 : Int32)), (.int p1)])) _
    refine XS.icmpYes X0.here hx rfl (pc0 := 9) (pc' := 14) rfl (hb hby d2_9) rfl (flt hc9).2.2.2 (by decide) (by decide) ?_
    show Steps p.tables e below (s₁.setTop (mkF m 14 #[.val (.int p1), .unset] [])) _
    refine XS.iloadN X0.here hx rfl (hb hby d2_14) rfl ?_
    show Steps p.tables e below (s₁.setTop (mkF m 15 #[.val (.int p1), .unset] [(.int p1)])) _
    refine XS.bipush X0.here hx rfl (hb hby d2_15) ?_
    show Steps p.tables e below (s₁.setTop (mkF m 17 #[.val (.int p1), .unset] [(.int (91 : Int32)), (.int p1)])) _
    refine XS.bipush X0.here hx rfl (hb hby d2_17) ?_
    show Steps p.tables e below (s₁.setTop (mkF m 19 #[.val (.int p1), .unset] [(.int (94 : Int32)), (.int (91 : Int32)), (.int p1)])) _
    refine st2 _ ?_
    show Steps p.tables e below (T2.setTop (mkF m 22 #[.val (.int p1), .unset] [(.int (inF p1 (91 : Int32) (94 : Int32)))])) _
    refine XS.ifNo X2.here hx rfl (hb hby d2_22) rfl ((if0 _ _).trans (teq (hg22 : (inF p1 (91 : Int32) (94 : Int32)) = (0 : Int32))).2) ?_
    show Steps p.tables e below (T2.setTop (mkF m 25 #[.val (.int p1), .unset] [])) _
    refine XS.iloadN X2.here hx rfl (hb hby d2_25) rfl ?_
    show Steps p.tables e below (T2.setTop (mkF m 26 #[.val (.int p1), .unset] [(.int p1)])) _
    refine XS.bipush X2.here hx rfl (hb hby d2_26) ?_
    show Steps p.tables e below (T2.setTop (mkF m 28 #[.val (.int p1), .unset] [(.int (96 : Int32)), (.int p1)])) _
    refine XS.icmpYes X2.here hx rfl (pc0 := 28) (pc' := 162) rfl (hb hby d2_28) rfl (teq hc28).1 (by decide) (by decide) ?_
    show Steps p.tables e below (T2.setTop (mkF m 162 #[.val (.int p1), .unset] [])) _
    refine XS.iconst X2.here hx rfl (hb hby d2_162) ?_
    show Steps p.tables e below (T2.setTop (mkF m 163 #[.val (.int p1), .unset] [(.int (1 : Int32))])) _
    refine XS.goto X2.here hx rfl (pc0 := 163) (pc' := 167) rfl (hb hby d2_163) (by decide) (by decide) ?_
    show Steps p.tables e below (T2.setTop (mkF m 167 #[.val (.int p1), .unset] [(.int (1 : Int32))])) _
    refine XS.istoreN X2.here hx rfl (hb hby d2_167) rfl (l' := #[.val (.int p1), .val (.int (1 : Int32))]) rfl ?_
    show Steps p.tables e below (T2.setTop (mkF m 168 #[.val (.int p1), .val (.int (1 : Int32))] [])) _
    refine XS.iloadN X2.here hx rfl (hb hby d2_168) rfl ?_
    show Steps p.tables e below (T2.setTop (mkF m 169 #[.val (.int p1), .val (.int (1 : Int32))] [(.int (1 : Int32))])) _
    refine XS.ifYes X2.here hx rfl (pc0 := 169) (pc' := 176) rfl (hb hby d2_169) rfl ((if0 _ _).trans (feq hc169).2) (by decide) (by decide) ?_
    show Steps p.tables e below (T2.setTop (mkF m 176 #[.val (.int p1), .val (.int (1 : Int32))] [])) _
    refine XS.iconst X2.here hx rfl (hb hby d2_176) ?_
    show Steps p.tables e below (T2.setTop (mkF m 177 #[.val (.int p1), .val (.int (1 : Int32))] [(.int (0 : Int32))])) _
    exact retN X2 hx (t := .boolean) Bd.returns (by simp) (hb hby d2_177) hr
  · show Q2 Z p1 h0 n0 _ T2.heap _
    exact ⟨by simp [rcF, hc3, hc9, hg22, hc28], N2, by rw [eq2]⟩
theorem d2_31 : decode method_3_code 31 = .ok (.iload_n 0, 1) := by decide +kernel
theorem d2_32 : decode method_3_code 32 = .ok (.bipush 123, 2) := by decide +kernel
theorem d2_34 : decode method_3_code 34 = .ok (.sipush 191, 3) := by decide +kernel
theorem d2_37 : decode method_3_code 37 = .ok (.invokestatic 8, 3) := by decide +kernel
theorem d2_40 : decode method_3_code 40 = .ok (.ifCond .ne 122, 3) := by decide +kernel
set_option maxRecDepth 65536 in
set_option maxHeartbeats 40000000 in
theorem rm2_ftfftt (l : Launch) (Z : State) (a0 : Array Value) (hw : ∀ d ∈ tables_1, d.before a0 Z = true) (ws : List Jvm.Cond) (p1 : Int32) (h0 : Heap) (n0 : Nat) (Z0 : n0 ≤ h0.size) (hg22 : inF p1 (91 : Int32) (94 : Int32) = (0 : Int32)) (hg40 : ¬ (inF p1 (123 : Int32) (191 : Int32) = (0 : Int32))) (hc3 : ¬ (p1 < (65 : Int32))) (hc9 : ¬ ((983039 : Int32) < p1)) (hc28 : ¬ (p1 = (96 : Int32))) :
    MetFree l (⟨"com/example/narrow_tree/narrowtree/document/XmlSyntaxIsNcNameStartCharacterPinLaw", "ref", "(I)Z"⟩ : MethodName) (head1 (Jvm.Cond.code (⟨"com/example/narrow_tree/narrowtree/document/XmlSyntaxIsNcNameStartCharacterPinLaw", "ref", "(I)Z"⟩ : MethodName) method_3_code 2 (some .boolean) :: ws) ({ frames := 1, cells := 0, slots := 0, locals := 14 } : Room)) (fun a U => a = #[(.int p1)] ∧ Z.Warmed39 U.vm ∧ U.heap = h0) (fun _ _ _ _ _ => True) (fun _ U o U' => ∃ v L, o = .returned v ∧ Q2 Z p1 h0 n0 v U'.heap L ∧ FrameEnd U o U' L ({ frames := 1, cells := 0, slots := 0, locals := 14 } : Room).cells ({ frames := 1, cells := 0, slots := 0, locals := 14 } : Room).slots) := by
  refine MetFree.of_bodySF (plainFor_of_name pn_2) hisR ?_
  intro p e s m args below meth c s₁ Bd hml0 hP hK
  obtain ⟨rfl, hZ, hh⟩ := hP
  have hx := Bd.exec
  have hby := Bd.bytes
  have hml : c.maxLocals = 2 := hml0
  have hown : s.vm.findClass "com/example/narrow_tree/narrowtree/document/XmlSyntaxIsNcNameStartCharacterPinLaw" = some m.cls := findClass_of_methodNamed Bd.named
  have hnm := (name_of_methodNamed Bd.named Bd.method).1
  have X0 : Stand p l e ({ frames := 1, cells := 0, slots := 0, locals := 14 } : Room) s m #[(.int p1)] below meth c s₁ [] 0 0 := Stand.of_body Bd
  have e0 : s₁.heap = h0 := by rw [← hh, Bd.state]; rfl
  have hc169 : ¬ ((1 : Int32) = (0 : Int32)) := by decide
  have N0 := Fr.nil n0
  have pre0 : ∀ t, Steps p.tables e below (s₁.setTop (mkF m 0 #[.val (.int p1), .unset] [])) t → Steps p.tables e below (s₁.setTop (entryFrame m #[(.int p1)] 2)) t := fun t k => castTop (ef_2 m p1) k
  obtain ⟨_, _, ⟨T2, L2, k2, n2⟩, -, X2, ⟨Lc2, hQ2, l2, y2, z2⟩, st2⟩ := Jvm.LawKit.callS X0 hx (y := (⟨"com/example/narrow_tree/narrowtree/document/XmlSyntaxIsNcNameStartCharacterPinLaw", "in", "(III)Z"⟩ : MethodName)) hown (mvT hZ (hw _ (List.mem_of_getElem? (i := 20) rfl))) (mvT hZ (hw _ (List.mem_of_getElem? (i := 21) rfl))) (mvT hZ (hw _ (List.mem_of_getElem? (i := 18) rfl))) (mvT hZ (hw _ (List.mem_of_getElem? (i := 22) rfl))) (by decide) (backOf (W := 0) (rm3 l Z a0 hw [] p1 (91 : Int32) (94 : Int32) h0 n0 Z0) hZ (hw _ (List.mem_of_getElem? (i := 22) rfl)) (hw _ (List.mem_of_getElem? (i := 18) rfl)) (by decide) (by decide)) (g := (mkF m 19 #[.val (.int p1), .unset] [(.int (94 : Int32)), (.int (91 : Int32)), (.int p1)])) rfl (by rw [hml]; rfl) (argsL := [(.int p1), (.int (91 : Int32)), (.int (94 : Int32))]) (rest := []) (lenOf pd_2_1 rfl) rfl (by show 2 * 0 + _ ≤ _; exact Nat.le_of_eq rfl) (hb hby d2_19) (fun _ _ => ⟨rfl, e0, (by decide : 0 + 0 ≤ _), (by decide : 0 + 0 ≤ _)⟩)
  dsimp only [Pt.U, Pt.locs, Pt.cells, Pt.slots] at X2 l2 y2 z2 st2 hQ2
  subst l2 y2 z2
  obtain ⟨rfl, N2q, eq2⟩ := hQ2
  have N2 := Fr.app N0 N2q
  obtain ⟨_, _, ⟨T3, L3, k3, n3⟩, -, X3, ⟨Lc3, hQ3, l3, y3, z3⟩, st3⟩ := Jvm.LawKit.callS X2 hx (y := (⟨"com/example/narrow_tree/narrowtree/document/XmlSyntaxIsNcNameStartCharacterPinLaw", "in", "(III)Z"⟩ : MethodName)) hown (mvT hZ (hw _ (List.mem_of_getElem? (i := 20) rfl))) (mvT hZ (hw _ (List.mem_of_getElem? (i := 21) rfl))) (mvT hZ (hw _ (List.mem_of_getElem? (i := 18) rfl))) (mvT hZ (hw _ (List.mem_of_getElem? (i := 22) rfl))) (by decide) (backOf (W := 0) (rm3 l Z a0 hw [] p1 (123 : Int32) (191 : Int32) T2.heap n0 (by rw [eq2]; exact Z0)) hZ (hw _ (List.mem_of_getElem? (i := 22) rfl)) (hw _ (List.mem_of_getElem? (i := 18) rfl)) (by decide) (by decide)) (g := (mkF m 37 #[.val (.int p1), .unset] [(.int (191 : Int32)), (.int (123 : Int32)), (.int p1)])) rfl (by rw [hml]; rfl) (argsL := [(.int p1), (.int (123 : Int32)), (.int (191 : Int32))]) (rest := []) (lenOf pd_2_1 rfl) rfl (by show 2 * 0 + _ ≤ _; exact Nat.le_of_eq rfl) (hb hby d2_37) (fun _ _ => ⟨rfl, rfl, (by decide : 0 + 0 ≤ _), (by decide : 0 + 0 ≤ _)⟩)
  dsimp only [Pt.U, Pt.locs, Pt.cells, Pt.slots] at X3 l3 y3 z3 st3 hQ3
  subst l3 y3 z3
  obtain ⟨rfl, N3q, eq3⟩ := hQ3
  have N3 := Fr.app N2 N3q
  obtain ⟨fs, hr, hrun, hended, hW, hsame⟩ := X3.leave (v := some (.int (0 : Int32))) (fun h => by rw [Bd.returns] at h; cases h)
  refine ⟨_, _, pre0 _ ?_, hrun, hended, _, _, rfl, ?_, ⟨_, rfl⟩, hW, hsame.mono (by decide) (by decide)⟩
  · show Steps p.tables e below (s₁.setTop (mkF m 0 #[.val (.int p1), .unset] [])) _
    refine XS.iloadN X0.here hx rfl (hb hby d2_0) rfl ?_
    show Steps p.tables e below (s₁.setTop (mkF m 1 #[.val (.int p1), .unset] [(.int p1)])) _
    refine XS.bipush X0.here hx rfl (hb hby d2_1) ?_
    show Steps p.tables e below (s₁.setTop (mkF m 3 #[.val (.int p1), .unset] [(.int (65 : Int32)), (.int p1)])) _
    refine XS.icmpNo X0.here hx rfl (hb hby d2_3) rfl (flt hc3).1 ?_
    show Steps p.tables e below (s₁.setTop (mkF m 6 #[.val (.int p1), .unset] [])) _
    refine XS.iloadN X0.here hx rfl (hb hby d2_6) rfl ?_
    show Steps p.tables e below (s₁.setTop (mkF m 7 #[.val (.int p1), .unset] [(.int p1)])) _
    refine X0.ldcInt hx hown (mvT hZ (hw _ (List.mem_of_getElem? (i := 7) rfl))) (g := (mkF m 7 #[.val (.int p1), .unset] [(.int p1)])) rfl (hb hby d2_7) _ ?_
    show Steps p.tables e below (s₁.setTop (mkF m 9 #[.val (.int p1), .unset] [(.int (983039 : Int32)), (.int p1)])) _
    refine XS.icmpYes X0.here hx rfl (pc0 := 9) (pc' := 14) rfl (hb hby d2_9) rfl (flt hc9).2.2.2 (by decide) (by decide) ?_
    show Steps p.tables e below (s₁.setTop (mkF m 14 #[.val (.int p1), .unset] [])) _
    refine XS.iloadN X0.here hx rfl (hb hby d2_14) rfl ?_
    show Steps p.tables e below (s₁.setTop (mkF m 15 #[.val (.int p1), .unset] [(.int p1)])) _
    refine XS.bipush X0.here hx rfl (hb hby d2_15) ?_
    show Steps p.tables e below (s₁.setTop (mkF m 17 #[.val (.int p1), .unset] [(.int (91 : Int32)), (.int p1)])) _
    refine XS.bipush X0.here hx rfl (hb hby d2_17) ?_
    show Steps p.tables e below (s₁.setTop (mkF m 19 #[.val (.int p1), .unset] [(.int (94 : Int32)), (.int (91 : Int32)), (.int p1)])) _
    refine st2 _ ?_
    show Steps p.tables e below (T2.setTop (mkF m 22 #[.val (.int p1), .unset] [(.int (inF p1 (91 : Int32) (94 : Int32)))])) _
    refine XS.ifNo X2.here hx rfl (hb hby d2_22) rfl ((if0 _ _).trans (teq (hg22 : (inF p1 (91 : Int32) (94 : Int32)) = (0 : Int32))).2) ?_
    show Steps p.tables e below (T2.setTop (mkF m 25 #[.val (.int p1), .unset] [])) _
    refine XS.iloadN X2.here hx rfl (hb hby d2_25) rfl ?_
    show Steps p.tables e below (T2.setTop (mkF m 26 #[.val (.int p1), .unset] [(.int p1)])) _
    refine XS.bipush X2.here hx rfl (hb hby d2_26) ?_
    show Steps p.tables e below (T2.setTop (mkF m 28 #[.val (.int p1), .unset] [(.int (96 : Int32)), (.int p1)])) _
    refine XS.icmpNo X2.here hx rfl (hb hby d2_28) rfl (feq hc28).1 ?_
    show Steps p.tables e below (T2.setTop (mkF m 31 #[.val (.int p1), .unset] [])) _
    refine XS.iloadN X2.here hx rfl (hb hby d2_31) rfl ?_
    show Steps p.tables e below (T2.setTop (mkF m 32 #[.val (.int p1), .unset] [(.int p1)])) _
    refine XS.bipush X2.here hx rfl (hb hby d2_32) ?_
    show Steps p.tables e below (T2.setTop (mkF m 34 #[.val (.int p1), .unset] [(.int (123 : Int32)), (.int p1)])) _
    refine XS.sipush X2.here hx rfl (hb hby d2_34) ?_
    show Steps p.tables e below (T2.setTop (mkF m 37 #[.val (.int p1), .unset] [(.int (191 : Int32)), (.int (123 : Int32)), (.int p1)])) _
    refine st3 _ ?_
    show Steps p.tables e below (T3.setTop (mkF m 40 #[.val (.int p1), .unset] [(.int (inF p1 (123 : Int32) (191 : Int32)))])) _
    refine XS.ifYes X3.here hx rfl (pc0 := 40) (pc' := 162) rfl (hb hby d2_40) rfl ((if0 _ _).trans (feq (hg40 : ¬ ((inF p1 (123 : Int32) (191 : Int32)) = (0 : Int32)))).2) (by decide) (by decide) ?_
    show Steps p.tables e below (T3.setTop (mkF m 162 #[.val (.int p1), .unset] [])) _
    refine XS.iconst X3.here hx rfl (hb hby d2_162) ?_
    show Steps p.tables e below (T3.setTop (mkF m 163 #[.val (.int p1), .unset] [(.int (1 : Int32))])) _
    refine XS.goto X3.here hx rfl (pc0 := 163) (pc' := 167) rfl (hb hby d2_163) (by decide) (by decide) ?_
    show Steps p.tables e below (T3.setTop (mkF m 167 #[.val (.int p1), .unset] [(.int (1 : Int32))])) _
    refine XS.istoreN X3.here hx rfl (hb hby d2_167) rfl (l' := #[.val (.int p1), .val (.int (1 : Int32))]) rfl ?_
    show Steps p.tables e below (T3.setTop (mkF m 168 #[.val (.int p1), .val (.int (1 : Int32))] [])) _
    refine XS.iloadN X3.here hx rfl (hb hby d2_168) rfl ?_
    show Steps p.tables e below (T3.setTop (mkF m 169 #[.val (.int p1), .val (.int (1 : Int32))] [(.int (1 : Int32))])) _
    refine XS.ifYes X3.here hx rfl (pc0 := 169) (pc' := 176) rfl (hb hby d2_169) rfl ((if0 _ _).trans (feq hc169).2) (by decide) (by decide) ?_
    show Steps p.tables e below (T3.setTop (mkF m 176 #[.val (.int p1), .val (.int (1 : Int32))] [])) _
    refine XS.iconst X3.here hx rfl (hb hby d2_176) ?_
    show Steps p.tables e below (T3.setTop (mkF m 177 #[.val (.int p1), .val (.int (1 : Int32))] [(.int (0 : Int32))])) _
    exact retN X3 hx (t := .boolean) Bd.returns (by simp) (hb hby d2_177) hr
  · show Q2 Z p1 h0 n0 _ T3.heap _
    exact ⟨by simp [rcF, hc3, hc9, hg22, hc28, hg40], N3, by rw [eq3, eq2]⟩
theorem d2_43 : decode method_3_code 43 = .ok (.iload_n 0, 1) := by decide +kernel
theorem d2_44 : decode method_3_code 44 = .ok (.sipush 215, 3) := by decide +kernel
theorem d2_47 : decode method_3_code 47 = .ok (.if_icmp .eq 115, 3) := by decide +kernel
set_option maxRecDepth 65536 in
set_option maxHeartbeats 40000000 in
theorem rm2_ftffftt (l : Launch) (Z : State) (a0 : Array Value) (hw : ∀ d ∈ tables_1, d.before a0 Z = true) (ws : List Jvm.Cond) (p1 : Int32) (h0 : Heap) (n0 : Nat) (Z0 : n0 ≤ h0.size) (hg22 : inF p1 (91 : Int32) (94 : Int32) = (0 : Int32)) (hg40 : inF p1 (123 : Int32) (191 : Int32) = (0 : Int32)) (hc3 : ¬ (p1 < (65 : Int32))) (hc9 : ¬ ((983039 : Int32) < p1)) (hc28 : ¬ (p1 = (96 : Int32))) (hc47 : p1 = (215 : Int32)) :
    MetFree l (⟨"com/example/narrow_tree/narrowtree/document/XmlSyntaxIsNcNameStartCharacterPinLaw", "ref", "(I)Z"⟩ : MethodName) (head1 (Jvm.Cond.code (⟨"com/example/narrow_tree/narrowtree/document/XmlSyntaxIsNcNameStartCharacterPinLaw", "ref", "(I)Z"⟩ : MethodName) method_3_code 2 (some .boolean) :: ws) ({ frames := 1, cells := 0, slots := 0, locals := 14 } : Room)) (fun a U => a = #[(.int p1)] ∧ Z.Warmed39 U.vm ∧ U.heap = h0) (fun _ _ _ _ _ => True) (fun _ U o U' => ∃ v L, o = .returned v ∧ Q2 Z p1 h0 n0 v U'.heap L ∧ FrameEnd U o U' L ({ frames := 1, cells := 0, slots := 0, locals := 14 } : Room).cells ({ frames := 1, cells := 0, slots := 0, locals := 14 } : Room).slots) := by
  refine MetFree.of_bodySF (plainFor_of_name pn_2) hisR ?_
  intro p e s m args below meth c s₁ Bd hml0 hP hK
  obtain ⟨rfl, hZ, hh⟩ := hP
  have hx := Bd.exec
  have hby := Bd.bytes
  have hml : c.maxLocals = 2 := hml0
  have hown : s.vm.findClass "com/example/narrow_tree/narrowtree/document/XmlSyntaxIsNcNameStartCharacterPinLaw" = some m.cls := findClass_of_methodNamed Bd.named
  have hnm := (name_of_methodNamed Bd.named Bd.method).1
  have X0 : Stand p l e ({ frames := 1, cells := 0, slots := 0, locals := 14 } : Room) s m #[(.int p1)] below meth c s₁ [] 0 0 := Stand.of_body Bd
  have e0 : s₁.heap = h0 := by rw [← hh, Bd.state]; rfl
  have hc169 : ¬ ((1 : Int32) = (0 : Int32)) := by decide
  have N0 := Fr.nil n0
  have pre0 : ∀ t, Steps p.tables e below (s₁.setTop (mkF m 0 #[.val (.int p1), .unset] [])) t → Steps p.tables e below (s₁.setTop (entryFrame m #[(.int p1)] 2)) t := fun t k => castTop (ef_2 m p1) k
  obtain ⟨_, _, ⟨T2, L2, k2, n2⟩, -, X2, ⟨Lc2, hQ2, l2, y2, z2⟩, st2⟩ := Jvm.LawKit.callS X0 hx (y := (⟨"com/example/narrow_tree/narrowtree/document/XmlSyntaxIsNcNameStartCharacterPinLaw", "in", "(III)Z"⟩ : MethodName)) hown (mvT hZ (hw _ (List.mem_of_getElem? (i := 20) rfl))) (mvT hZ (hw _ (List.mem_of_getElem? (i := 21) rfl))) (mvT hZ (hw _ (List.mem_of_getElem? (i := 18) rfl))) (mvT hZ (hw _ (List.mem_of_getElem? (i := 22) rfl))) (by decide) (backOf (W := 0) (rm3 l Z a0 hw [] p1 (91 : Int32) (94 : Int32) h0 n0 Z0) hZ (hw _ (List.mem_of_getElem? (i := 22) rfl)) (hw _ (List.mem_of_getElem? (i := 18) rfl)) (by decide) (by decide)) (g := (mkF m 19 #[.val (.int p1), .unset] [(.int (94 : Int32)), (.int (91 : Int32)), (.int p1)])) rfl (by rw [hml]; rfl) (argsL := [(.int p1), (.int (91 : Int32)), (.int (94 : Int32))]) (rest := []) (lenOf pd_2_1 rfl) rfl (by show 2 * 0 + _ ≤ _; exact Nat.le_of_eq rfl) (hb hby d2_19) (fun _ _ => ⟨rfl, e0, (by decide : 0 + 0 ≤ _), (by decide : 0 + 0 ≤ _)⟩)
  dsimp only [Pt.U, Pt.locs, Pt.cells, Pt.slots] at X2 l2 y2 z2 st2 hQ2
  subst l2 y2 z2
  obtain ⟨rfl, N2q, eq2⟩ := hQ2
  have N2 := Fr.app N0 N2q
  obtain ⟨_, _, ⟨T3, L3, k3, n3⟩, -, X3, ⟨Lc3, hQ3, l3, y3, z3⟩, st3⟩ := Jvm.LawKit.callS X2 hx (y := (⟨"com/example/narrow_tree/narrowtree/document/XmlSyntaxIsNcNameStartCharacterPinLaw", "in", "(III)Z"⟩ : MethodName)) hown (mvT hZ (hw _ (List.mem_of_getElem? (i := 20) rfl))) (mvT hZ (hw _ (List.mem_of_getElem? (i := 21) rfl))) (mvT hZ (hw _ (List.mem_of_getElem? (i := 18) rfl))) (mvT hZ (hw _ (List.mem_of_getElem? (i := 22) rfl))) (by decide) (backOf (W := 0) (rm3 l Z a0 hw [] p1 (123 : Int32) (191 : Int32) T2.heap n0 (by rw [eq2]; exact Z0)) hZ (hw _ (List.mem_of_getElem? (i := 22) rfl)) (hw _ (List.mem_of_getElem? (i := 18) rfl)) (by decide) (by decide)) (g := (mkF m 37 #[.val (.int p1), .unset] [(.int (191 : Int32)), (.int (123 : Int32)), (.int p1)])) rfl (by rw [hml]; rfl) (argsL := [(.int p1), (.int (123 : Int32)), (.int (191 : Int32))]) (rest := []) (lenOf pd_2_1 rfl) rfl (by show 2 * 0 + _ ≤ _; exact Nat.le_of_eq rfl) (hb hby d2_37) (fun _ _ => ⟨rfl, rfl, (by decide : 0 + 0 ≤ _), (by decide : 0 + 0 ≤ _)⟩)
  dsimp only [Pt.U, Pt.locs, Pt.cells, Pt.slots] at X3 l3 y3 z3 st3 hQ3
  subst l3 y3 z3
  obtain ⟨rfl, N3q, eq3⟩ := hQ3
  have N3 := Fr.app N2 N3q
  obtain ⟨fs, hr, hrun, hended, hW, hsame⟩ := X3.leave (v := some (.int (0 : Int32))) (fun h => by rw [Bd.returns] at h; cases h)
  refine ⟨_, _, pre0 _ ?_, hrun, hended, _, _, rfl, ?_, ⟨_, rfl⟩, hW, hsame.mono (by decide) (by decide)⟩
  · show Steps p.tables e below (s₁.setTop (mkF m 0 #[.val (.int p1), .unset] [])) _
    refine XS.iloadN X0.here hx rfl (hb hby d2_0) rfl ?_
    show Steps p.tables e below (s₁.setTop (mkF m 1 #[.val (.int p1), .unset] [(.int p1)])) _
    refine XS.bipush X0.here hx rfl (hb hby d2_1) ?_
    show Steps p.tables e below (s₁.setTop (mkF m 3 #[.val (.int p1), .unset] [(.int (65 : Int32)), (.int p1)])) _
    refine XS.icmpNo X0.here hx rfl (hb hby d2_3) rfl (flt hc3).1 ?_
    show Steps p.tables e below (s₁.setTop (mkF m 6 #[.val (.int p1), .unset] [])) _
    refine XS.iloadN X0.here hx rfl (hb hby d2_6) rfl ?_
    show Steps p.tables e below (s₁.setTop (mkF m 7 #[.val (.int p1), .unset] [(.int p1)])) _
    refine X0.ldcInt hx hown (mvT hZ (hw _ (List.mem_of_getElem? (i := 7) rfl))) (g := (mkF m 7 #[.val (.int p1), .unset] [(.int p1)])) rfl (hb hby d2_7) _ ?_
    show Steps p.tables e below (s₁.setTop (mkF m 9 #[.val (.int p1), .unset] [(.int (983039 : Int32)), (.int p1)])) _
    refine XS.icmpYes X0.here hx rfl (pc0 := 9) (pc' := 14) rfl (hb hby d2_9) rfl (flt hc9).2.2.2 (by decide) (by decide) ?_
    show Steps p.tables e below (s₁.setTop (mkF m 14 #[.val (.int p1), .unset] [])) _
    refine XS.iloadN X0.here hx rfl (hb hby d2_14) rfl ?_
    show Steps p.tables e below (s₁.setTop (mkF m 15 #[.val (.int p1), .unset] [(.int p1)])) _
    refine XS.bipush X0.here hx rfl (hb hby d2_15) ?_
    show Steps p.tables e below (s₁.setTop (mkF m 17 #[.val (.int p1), .unset] [(.int (91 : Int32)), (.int p1)])) _
    refine XS.bipush X0.here hx rfl (hb hby d2_17) ?_
    show Steps p.tables e below (s₁.setTop (mkF m 19 #[.val (.int p1), .unset] [(.int (94 : Int32)), (.int (91 : Int32)), (.int p1)])) _
    refine st2 _ ?_
    show Steps p.tables e below (T2.setTop (mkF m 22 #[.val (.int p1), .unset] [(.int (inF p1 (91 : Int32) (94 : Int32)))])) _
    refine XS.ifNo X2.here hx rfl (hb hby d2_22) rfl ((if0 _ _).trans (teq (hg22 : (inF p1 (91 : Int32) (94 : Int32)) = (0 : Int32))).2) ?_
    show Steps p.tables e below (T2.setTop (mkF m 25 #[.val (.int p1), .unset] [])) _
    refine XS.iloadN X2.here hx rfl (hb hby d2_25) rfl ?_
    show Steps p.tables e below (T2.setTop (mkF m 26 #[.val (.int p1), .unset] [(.int p1)])) _
    refine XS.bipush X2.here hx rfl (hb hby d2_26) ?_
    show Steps p.tables e below (T2.setTop (mkF m 28 #[.val (.int p1), .unset] [(.int (96 : Int32)), (.int p1)])) _
    refine XS.icmpNo X2.here hx rfl (hb hby d2_28) rfl (feq hc28).1 ?_
    show Steps p.tables e below (T2.setTop (mkF m 31 #[.val (.int p1), .unset] [])) _
    refine XS.iloadN X2.here hx rfl (hb hby d2_31) rfl ?_
    show Steps p.tables e below (T2.setTop (mkF m 32 #[.val (.int p1), .unset] [(.int p1)])) _
    refine XS.bipush X2.here hx rfl (hb hby d2_32) ?_
    show Steps p.tables e below (T2.setTop (mkF m 34 #[.val (.int p1), .unset] [(.int (123 : Int32)), (.int p1)])) _
    refine XS.sipush X2.here hx rfl (hb hby d2_34) ?_
    show Steps p.tables e below (T2.setTop (mkF m 37 #[.val (.int p1), .unset] [(.int (191 : Int32)), (.int (123 : Int32)), (.int p1)])) _
    refine st3 _ ?_
    show Steps p.tables e below (T3.setTop (mkF m 40 #[.val (.int p1), .unset] [(.int (inF p1 (123 : Int32) (191 : Int32)))])) _
    refine XS.ifNo X3.here hx rfl (hb hby d2_40) rfl ((if0 _ _).trans (teq (hg40 : (inF p1 (123 : Int32) (191 : Int32)) = (0 : Int32))).2) ?_
    show Steps p.tables e below (T3.setTop (mkF m 43 #[.val (.int p1), .unset] [])) _
    refine XS.iloadN X3.here hx rfl (hb hby d2_43) rfl ?_
    show Steps p.tables e below (T3.setTop (mkF m 44 #[.val (.int p1), .unset] [(.int p1)])) _
    refine XS.sipush X3.here hx rfl (hb hby d2_44) ?_
    show Steps p.tables e below (T3.setTop (mkF m 47 #[.val (.int p1), .unset] [(.int (215 : Int32)), (.int p1)])) _
    refine XS.icmpYes X3.here hx rfl (pc0 := 47) (pc' := 162) rfl (hb hby d2_47) rfl (teq hc47).1 (by decide) (by decide) ?_
    show Steps p.tables e below (T3.setTop (mkF m 162 #[.val (.int p1), .unset] [])) _
    refine XS.iconst X3.here hx rfl (hb hby d2_162) ?_
    show Steps p.tables e below (T3.setTop (mkF m 163 #[.val (.int p1), .unset] [(.int (1 : Int32))])) _
    refine XS.goto X3.here hx rfl (pc0 := 163) (pc' := 167) rfl (hb hby d2_163) (by decide) (by decide) ?_
    show Steps p.tables e below (T3.setTop (mkF m 167 #[.val (.int p1), .unset] [(.int (1 : Int32))])) _
    refine XS.istoreN X3.here hx rfl (hb hby d2_167) rfl (l' := #[.val (.int p1), .val (.int (1 : Int32))]) rfl ?_
    show Steps p.tables e below (T3.setTop (mkF m 168 #[.val (.int p1), .val (.int (1 : Int32))] [])) _
    refine XS.iloadN X3.here hx rfl (hb hby d2_168) rfl ?_
    show Steps p.tables e below (T3.setTop (mkF m 169 #[.val (.int p1), .val (.int (1 : Int32))] [(.int (1 : Int32))])) _
    refine XS.ifYes X3.here hx rfl (pc0 := 169) (pc' := 176) rfl (hb hby d2_169) rfl ((if0 _ _).trans (feq hc169).2) (by decide) (by decide) ?_
    show Steps p.tables e below (T3.setTop (mkF m 176 #[.val (.int p1), .val (.int (1 : Int32))] [])) _
    refine XS.iconst X3.here hx rfl (hb hby d2_176) ?_
    show Steps p.tables e below (T3.setTop (mkF m 177 #[.val (.int p1), .val (.int (1 : Int32))] [(.int (0 : Int32))])) _
    exact retN X3 hx (t := .boolean) Bd.returns (by simp) (hb hby d2_177) hr
  · show Q2 Z p1 h0 n0 _ T3.heap _
    exact ⟨by simp [rcF, hc3, hc9, hg22, hc28, hg40, hc47], N3, by rw [eq3, eq2]⟩
theorem d2_50 : decode method_3_code 50 = .ok (.iload_n 0, 1) := by decide +kernel
theorem d2_51 : decode method_3_code 51 = .ok (.sipush 247, 3) := by decide +kernel
theorem d2_54 : decode method_3_code 54 = .ok (.if_icmp .eq 108, 3) := by decide +kernel
set_option maxRecDepth 65536 in
set_option maxHeartbeats 40000000 in
theorem rm2_ftfffftt (l : Launch) (Z : State) (a0 : Array Value) (hw : ∀ d ∈ tables_1, d.before a0 Z = true) (ws : List Jvm.Cond) (p1 : Int32) (h0 : Heap) (n0 : Nat) (Z0 : n0 ≤ h0.size) (hg22 : inF p1 (91 : Int32) (94 : Int32) = (0 : Int32)) (hg40 : inF p1 (123 : Int32) (191 : Int32) = (0 : Int32)) (hc3 : ¬ (p1 < (65 : Int32))) (hc9 : ¬ ((983039 : Int32) < p1)) (hc28 : ¬ (p1 = (96 : Int32))) (hc47 : ¬ (p1 = (215 : Int32))) (hc54 : p1 = (247 : Int32)) :
    MetFree l (⟨"com/example/narrow_tree/narrowtree/document/XmlSyntaxIsNcNameStartCharacterPinLaw", "ref", "(I)Z"⟩ : MethodName) (head1 (Jvm.Cond.code (⟨"com/example/narrow_tree/narrowtree/document/XmlSyntaxIsNcNameStartCharacterPinLaw", "ref", "(I)Z"⟩ : MethodName) method_3_code 2 (some .boolean) :: ws) ({ frames := 1, cells := 0, slots := 0, locals := 14 } : Room)) (fun a U => a = #[(.int p1)] ∧ Z.Warmed39 U.vm ∧ U.heap = h0) (fun _ _ _ _ _ => True) (fun _ U o U' => ∃ v L, o = .returned v ∧ Q2 Z p1 h0 n0 v U'.heap L ∧ FrameEnd U o U' L ({ frames := 1, cells := 0, slots := 0, locals := 14 } : Room).cells ({ frames := 1, cells := 0, slots := 0, locals := 14 } : Room).slots) := by
  refine MetFree.of_bodySF (plainFor_of_name pn_2) hisR ?_
  intro p e s m args below meth c s₁ Bd hml0 hP hK
  obtain ⟨rfl, hZ, hh⟩ := hP
  have hx := Bd.exec
  have hby := Bd.bytes
  have hml : c.maxLocals = 2 := hml0
  have hown : s.vm.findClass "com/example/narrow_tree/narrowtree/document/XmlSyntaxIsNcNameStartCharacterPinLaw" = some m.cls := findClass_of_methodNamed Bd.named
  have hnm := (name_of_methodNamed Bd.named Bd.method).1
  have X0 : Stand p l e ({ frames := 1, cells := 0, slots := 0, locals := 14 } : Room) s m #[(.int p1)] below meth c s₁ [] 0 0 := Stand.of_body Bd
  have e0 : s₁.heap = h0 := by rw [← hh, Bd.state]; rfl
  have hc169 : ¬ ((1 : Int32) = (0 : Int32)) := by decide
  have N0 := Fr.nil n0
  have pre0 : ∀ t, Steps p.tables e below (s₁.setTop (mkF m 0 #[.val (.int p1), .unset] [])) t → Steps p.tables e below (s₁.setTop (entryFrame m #[(.int p1)] 2)) t := fun t k => castTop (ef_2 m p1) k
  obtain ⟨_, _, ⟨T2, L2, k2, n2⟩, -, X2, ⟨Lc2, hQ2, l2, y2, z2⟩, st2⟩ := Jvm.LawKit.callS X0 hx (y := (⟨"com/example/narrow_tree/narrowtree/document/XmlSyntaxIsNcNameStartCharacterPinLaw", "in", "(III)Z"⟩ : MethodName)) hown (mvT hZ (hw _ (List.mem_of_getElem? (i := 20) rfl))) (mvT hZ (hw _ (List.mem_of_getElem? (i := 21) rfl))) (mvT hZ (hw _ (List.mem_of_getElem? (i := 18) rfl))) (mvT hZ (hw _ (List.mem_of_getElem? (i := 22) rfl))) (by decide) (backOf (W := 0) (rm3 l Z a0 hw [] p1 (91 : Int32) (94 : Int32) h0 n0 Z0) hZ (hw _ (List.mem_of_getElem? (i := 22) rfl)) (hw _ (List.mem_of_getElem? (i := 18) rfl)) (by decide) (by decide)) (g := (mkF m 19 #[.val (.int p1), .unset] [(.int (94 : Int32)), (.int (91 : Int32)), (.int p1)])) rfl (by rw [hml]; rfl) (argsL := [(.int p1), (.int (91 : Int32)), (.int (94 : Int32))]) (rest := []) (lenOf pd_2_1 rfl) rfl (by show 2 * 0 + _ ≤ _; exact Nat.le_of_eq rfl) (hb hby d2_19) (fun _ _ => ⟨rfl, e0, (by decide : 0 + 0 ≤ _), (by decide : 0 + 0 ≤ _)⟩)
  dsimp only [Pt.U, Pt.locs, Pt.cells, Pt.slots] at X2 l2 y2 z2 st2 hQ2
  subst l2 y2 z2
  obtain ⟨rfl, N2q, eq2⟩ := hQ2
  have N2 := Fr.app N0 N2q
  obtain ⟨_, _, ⟨T3, L3, k3, n3⟩, -, X3, ⟨Lc3, hQ3, l3, y3, z3⟩, st3⟩ := Jvm.LawKit.callS X2 hx (y := (⟨"com/example/narrow_tree/narrowtree/document/XmlSyntaxIsNcNameStartCharacterPinLaw", "in", "(III)Z"⟩ : MethodName)) hown (mvT hZ (hw _ (List.mem_of_getElem? (i := 20) rfl))) (mvT hZ (hw _ (List.mem_of_getElem? (i := 21) rfl))) (mvT hZ (hw _ (List.mem_of_getElem? (i := 18) rfl))) (mvT hZ (hw _ (List.mem_of_getElem? (i := 22) rfl))) (by decide) (backOf (W := 0) (rm3 l Z a0 hw [] p1 (123 : Int32) (191 : Int32) T2.heap n0 (by rw [eq2]; exact Z0)) hZ (hw _ (List.mem_of_getElem? (i := 22) rfl)) (hw _ (List.mem_of_getElem? (i := 18) rfl)) (by decide) (by decide)) (g := (mkF m 37 #[.val (.int p1), .unset] [(.int (191 : Int32)), (.int (123 : Int32)), (.int p1)])) rfl (by rw [hml]; rfl) (argsL := [(.int p1), (.int (123 : Int32)), (.int (191 : Int32))]) (rest := []) (lenOf pd_2_1 rfl) rfl (by show 2 * 0 + _ ≤ _; exact Nat.le_of_eq rfl) (hb hby d2_37) (fun _ _ => ⟨rfl, rfl, (by decide : 0 + 0 ≤ _), (by decide : 0 + 0 ≤ _)⟩)
  dsimp only [Pt.U, Pt.locs, Pt.cells, Pt.slots] at X3 l3 y3 z3 st3 hQ3
  subst l3 y3 z3
  obtain ⟨rfl, N3q, eq3⟩ := hQ3
  have N3 := Fr.app N2 N3q
  obtain ⟨fs, hr, hrun, hended, hW, hsame⟩ := X3.leave (v := some (.int (0 : Int32))) (fun h => by rw [Bd.returns] at h; cases h)
  refine ⟨_, _, pre0 _ ?_, hrun, hended, _, _, rfl, ?_, ⟨_, rfl⟩, hW, hsame.mono (by decide) (by decide)⟩
  · show Steps p.tables e below (s₁.setTop (mkF m 0 #[.val (.int p1), .unset] [])) _
    refine XS.iloadN X0.here hx rfl (hb hby d2_0) rfl ?_
    show Steps p.tables e below (s₁.setTop (mkF m 1 #[.val (.int p1), .unset] [(.int p1)])) _
    refine XS.bipush X0.here hx rfl (hb hby d2_1) ?_
    show Steps p.tables e below (s₁.setTop (mkF m 3 #[.val (.int p1), .unset] [(.int (65 : Int32)), (.int p1)])) _
    refine XS.icmpNo X0.here hx rfl (hb hby d2_3) rfl (flt hc3).1 ?_
    show Steps p.tables e below (s₁.setTop (mkF m 6 #[.val (.int p1), .unset] [])) _
    refine XS.iloadN X0.here hx rfl (hb hby d2_6) rfl ?_
    show Steps p.tables e below (s₁.setTop (mkF m 7 #[.val (.int p1), .unset] [(.int p1)])) _
    refine X0.ldcInt hx hown (mvT hZ (hw _ (List.mem_of_getElem? (i := 7) rfl))) (g := (mkF m 7 #[.val (.int p1), .unset] [(.int p1)])) rfl (hb hby d2_7) _ ?_
    show Steps p.tables e below (s₁.setTop (mkF m 9 #[.val (.int p1), .unset] [(.int (983039 : Int32)), (.int p1)])) _
    refine XS.icmpYes X0.here hx rfl (pc0 := 9) (pc' := 14) rfl (hb hby d2_9) rfl (flt hc9).2.2.2 (by decide) (by decide) ?_
    show Steps p.tables e below (s₁.setTop (mkF m 14 #[.val (.int p1), .unset] [])) _
    refine XS.iloadN X0.here hx rfl (hb hby d2_14) rfl ?_
    show Steps p.tables e below (s₁.setTop (mkF m 15 #[.val (.int p1), .unset] [(.int p1)])) _
    refine XS.bipush X0.here hx rfl (hb hby d2_15) ?_
    show Steps p.tables e below (s₁.setTop (mkF m 17 #[.val (.int p1), .unset] [(.int (91 : Int32)), (.int p1)])) _
    refine XS.bipush X0.here hx rfl (hb hby d2_17) ?_
    show Steps p.tables e below (s₁.setTop (mkF m 19 #[.val (.int p1), .unset] [(.int (94 : Int32)), (.int (91 : Int32)), (.int p1)])) _
    refine st2 _ ?_
    show Steps p.tables e below (T2.setTop (mkF m 22 #[.val (.int p1), .unset] [(.int (inF p1 (91 : Int32) (94 : Int32)))])) _
    refine XS.ifNo X2.here hx rfl (hb hby d2_22) rfl ((if0 _ _).trans (teq (hg22 : (inF p1 (91 : Int32) (94 : Int32)) = (0 : Int32))).2) ?_
    show Steps p.tables e below (T2.setTop (mkF m 25 #[.val (.int p1), .unset] [])) _
    refine XS.iloadN X2.here hx rfl (hb hby d2_25) rfl ?_
    show Steps p.tables e below (T2.setTop (mkF m 26 #[.val (.int p1), .unset] [(.int p1)])) _
    refine XS.bipush X2.here hx rfl (hb hby d2_26) ?_
    show Steps p.tables e below (T2.setTop (mkF m 28 #[.val (.int p1), .unset] [(.int (96 : Int32)), (.int p1)])) _
    refine XS.icmpNo X2.here hx rfl (hb hby d2_28) rfl (feq hc28).1 ?_
    show Steps p.tables e below (T2.setTop (mkF m 31 #[.val (.int p1), .unset] [])) _
    refine XS.iloadN X2.here hx rfl (hb hby d2_31) rfl ?_
    show Steps p.tables e below (T2.setTop (mkF m 32 #[.val (.int p1), .unset] [(.int p1)])) _
    refine XS.bipush X2.here hx rfl (hb hby d2_32) ?_
    show Steps p.tables e below (T2.setTop (mkF m 34 #[.val (.int p1), .unset] [(.int (123 : Int32)), (.int p1)])) _
    refine XS.sipush X2.here hx rfl (hb hby d2_34) ?_
    show Steps p.tables e below (T2.setTop (mkF m 37 #[.val (.int p1), .unset] [(.int (191 : Int32)), (.int (123 : Int32)), (.int p1)])) _
    refine st3 _ ?_
    show Steps p.tables e below (T3.setTop (mkF m 40 #[.val (.int p1), .unset] [(.int (inF p1 (123 : Int32) (191 : Int32)))])) _
    refine XS.ifNo X3.here hx rfl (hb hby d2_40) rfl ((if0 _ _).trans (teq (hg40 : (inF p1 (123 : Int32) (191 : Int32)) = (0 : Int32))).2) ?_
    show Steps p.tables e below (T3.setTop (mkF m 43 #[.val (.int p1), .unset] [])) _
    refine XS.iloadN X3.here hx rfl (hb hby d2_43) rfl ?_
    show Steps p.tables e below (T3.setTop (mkF m 44 #[.val (.int p1), .unset] [(.int p1)])) _
    refine XS.sipush X3.here hx rfl (hb hby d2_44) ?_
    show Steps p.tables e below (T3.setTop (mkF m 47 #[.val (.int p1), .unset] [(.int (215 : Int32)), (.int p1)])) _
    refine XS.icmpNo X3.here hx rfl (hb hby d2_47) rfl (feq hc47).1 ?_
    show Steps p.tables e below (T3.setTop (mkF m 50 #[.val (.int p1), .unset] [])) _
    refine XS.iloadN X3.here hx rfl (hb hby d2_50) rfl ?_
    show Steps p.tables e below (T3.setTop (mkF m 51 #[.val (.int p1), .unset] [(.int p1)])) _
    refine XS.sipush X3.here hx rfl (hb hby d2_51) ?_
    show Steps p.tables e below (T3.setTop (mkF m 54 #[.val (.int p1), .unset] [(.int (247 : Int32)), (.int p1)])) _
    refine XS.icmpYes X3.here hx rfl (pc0 := 54) (pc' := 162) rfl (hb hby d2_54) rfl (teq hc54).1 (by decide) (by decide) ?_
    show Steps p.tables e below (T3.setTop (mkF m 162 #[.val (.int p1), .unset] [])) _
    refine XS.iconst X3.here hx rfl (hb hby d2_162) ?_
    show Steps p.tables e below (T3.setTop (mkF m 163 #[.val (.int p1), .unset] [(.int (1 : Int32))])) _
    refine XS.goto X3.here hx rfl (pc0 := 163) (pc' := 167) rfl (hb hby d2_163) (by decide) (by decide) ?_
    show Steps p.tables e below (T3.setTop (mkF m 167 #[.val (.int p1), .unset] [(.int (1 : Int32))])) _
    refine XS.istoreN X3.here hx rfl (hb hby d2_167) rfl (l' := #[.val (.int p1), .val (.int (1 : Int32))]) rfl ?_
    show Steps p.tables e below (T3.setTop (mkF m 168 #[.val (.int p1), .val (.int (1 : Int32))] [])) _
    refine XS.iloadN X3.here hx rfl (hb hby d2_168) rfl ?_
    show Steps p.tables e below (T3.setTop (mkF m 169 #[.val (.int p1), .val (.int (1 : Int32))] [(.int (1 : Int32))])) _
    refine XS.ifYes X3.here hx rfl (pc0 := 169) (pc' := 176) rfl (hb hby d2_169) rfl ((if0 _ _).trans (feq hc169).2) (by decide) (by decide) ?_
    show Steps p.tables e below (T3.setTop (mkF m 176 #[.val (.int p1), .val (.int (1 : Int32))] [])) _
    refine XS.iconst X3.here hx rfl (hb hby d2_176) ?_
    show Steps p.tables e below (T3.setTop (mkF m 177 #[.val (.int p1), .val (.int (1 : Int32))] [(.int (0 : Int32))])) _
    exact retN X3 hx (t := .boolean) Bd.returns (by simp) (hb hby d2_177) hr
  · show Q2 Z p1 h0 n0 _ T3.heap _
    exact ⟨by simp [rcF, hc3, hc9, hg22, hc28, hg40, hc47, hc54], N3, by rw [eq3, eq2]⟩
theorem d2_57 : decode method_3_code 57 = .ok (.iload_n 0, 1) := by decide +kernel
theorem d2_58 : decode method_3_code 58 = .ok (.sipush 768, 3) := by decide +kernel
theorem d2_61 : decode method_3_code 61 = .ok (.sipush 879, 3) := by decide +kernel
theorem d2_64 : decode method_3_code 64 = .ok (.invokestatic 8, 3) := by decide +kernel
theorem d2_67 : decode method_3_code 67 = .ok (.ifCond .ne 95, 3) := by decide +kernel
set_option maxRecDepth 65536 in
set_option maxHeartbeats 40000000 in
theorem rm2_ftffffftt (l : Launch) (Z : State) (a0 : Array Value) (hw : ∀ d ∈ tables_1, d.before a0 Z = true) (ws : List Jvm.Cond) (p1 : Int32) (h0 : Heap) (n0 : Nat) (Z0 : n0 ≤ h0.size) (hg22 : inF p1 (91 : Int32) (94 : Int32) = (0 : Int32)) (hg40 : inF p1 (123 : Int32) (191 : Int32) = (0 : Int32)) (hg67 : ¬ (inF p1 (768 : Int32) (879 : Int32) = (0 : Int32))) (hc3 : ¬ (p1 < (65 : Int32))) (hc9 : ¬ ((983039 : Int32) < p1)) (hc28 : ¬ (p1 = (96 : Int32))) (hc47 : ¬ (p1 = (215 : Int32))) (hc54 : ¬ (p1 = (247 : Int32))) :
    MetFree l (⟨"com/example/narrow_tree/narrowtree/document/XmlSyntaxIsNcNameStartCharacterPinLaw", "ref", "(I)Z"⟩ : MethodName) (head1 (Jvm.Cond.code (⟨"com/example/narrow_tree/narrowtree/document/XmlSyntaxIsNcNameStartCharacterPinLaw", "ref", "(I)Z"⟩ : MethodName) method_3_code 2 (some .boolean) :: ws) ({ frames := 1, cells := 0, slots := 0, locals := 14 } : Room)) (fun a U => a = #[(.int p1)] ∧ Z.Warmed39 U.vm ∧ U.heap = h0) (fun _ _ _ _ _ => True) (fun _ U o U' => ∃ v L, o = .returned v ∧ Q2 Z p1 h0 n0 v U'.heap L ∧ FrameEnd U o U' L ({ frames := 1, cells := 0, slots := 0, locals := 14 } : Room).cells ({ frames := 1, cells := 0, slots := 0, locals := 14 } : Room).slots) := by
  refine MetFree.of_bodySF (plainFor_of_name pn_2) hisR ?_
  intro p e s m args below meth c s₁ Bd hml0 hP hK
  obtain ⟨rfl, hZ, hh⟩ := hP
  have hx := Bd.exec
  have hby := Bd.bytes
  have hml : c.maxLocals = 2 := hml0
  have hown : s.vm.findClass "com/example/narrow_tree/narrowtree/document/XmlSyntaxIsNcNameStartCharacterPinLaw" = some m.cls := findClass_of_methodNamed Bd.named
  have hnm := (name_of_methodNamed Bd.named Bd.method).1
  have X0 : Stand p l e ({ frames := 1, cells := 0, slots := 0, locals := 14 } : Room) s m #[(.int p1)] below meth c s₁ [] 0 0 := Stand.of_body Bd
  have e0 : s₁.heap = h0 := by rw [← hh, Bd.state]; rfl
  have hc169 : ¬ ((1 : Int32) = (0 : Int32)) := by decide
  have N0 := Fr.nil n0
  have pre0 : ∀ t, Steps p.tables e below (s₁.setTop (mkF m 0 #[.val (.int p1), .unset] [])) t → Steps p.tables e below (s₁.setTop (entryFrame m #[(.int p1)] 2)) t := fun t k => castTop (ef_2 m p1) k
  obtain ⟨_, _, ⟨T2, L2, k2, n2⟩, -, X2, ⟨Lc2, hQ2, l2, y2, z2⟩, st2⟩ := Jvm.LawKit.callS X0 hx (y := (⟨"com/example/narrow_tree/narrowtree/document/XmlSyntaxIsNcNameStartCharacterPinLaw", "in", "(III)Z"⟩ : MethodName)) hown (mvT hZ (hw _ (List.mem_of_getElem? (i := 20) rfl))) (mvT hZ (hw _ (List.mem_of_getElem? (i := 21) rfl))) (mvT hZ (hw _ (List.mem_of_getElem? (i := 18) rfl))) (mvT hZ (hw _ (List.mem_of_getElem? (i := 22) rfl))) (by decide) (backOf (W := 0) (rm3 l Z a0 hw [] p1 (91 : Int32) (94 : Int32) h0 n0 Z0) hZ (hw _ (List.mem_of_getElem? (i := 22) rfl)) (hw _ (List.mem_of_getElem? (i := 18) rfl)) (by decide) (by decide)) (g := (mkF m 19 #[.val (.int p1), .unset] [(.int (94 : Int32)), (.int (91 : Int32)), (.int p1)])) rfl (by rw [hml]; rfl) (argsL := [(.int p1), (.int (91 : Int32)), (.int (94 : Int32))]) (rest := []) (lenOf pd_2_1 rfl) rfl (by show 2 * 0 + _ ≤ _; exact Nat.le_of_eq rfl) (hb hby d2_19) (fun _ _ => ⟨rfl, e0, (by decide : 0 + 0 ≤ _), (by decide : 0 + 0 ≤ _)⟩)
  dsimp only [Pt.U, Pt.locs, Pt.cells, Pt.slots] at X2 l2 y2 z2 st2 hQ2
  subst l2 y2 z2
  obtain ⟨rfl, N2q, eq2⟩ := hQ2
  have N2 := Fr.app N0 N2q
  obtain ⟨_, _, ⟨T3, L3, k3, n3⟩, -, X3, ⟨Lc3, hQ3, l3, y3, z3⟩, st3⟩ := Jvm.LawKit.callS X2 hx (y := (⟨"com/example/narrow_tree/narrowtree/document/XmlSyntaxIsNcNameStartCharacterPinLaw", "in", "(III)Z"⟩ : MethodName)) hown (mvT hZ (hw _ (List.mem_of_getElem? (i := 20) rfl))) (mvT hZ (hw _ (List.mem_of_getElem? (i := 21) rfl))) (mvT hZ (hw _ (List.mem_of_getElem? (i := 18) rfl))) (mvT hZ (hw _ (List.mem_of_getElem? (i := 22) rfl))) (by decide) (backOf (W := 0) (rm3 l Z a0 hw [] p1 (123 : Int32) (191 : Int32) T2.heap n0 (by rw [eq2]; exact Z0)) hZ (hw _ (List.mem_of_getElem? (i := 22) rfl)) (hw _ (List.mem_of_getElem? (i := 18) rfl)) (by decide) (by decide)) (g := (mkF m 37 #[.val (.int p1), .unset] [(.int (191 : Int32)), (.int (123 : Int32)), (.int p1)])) rfl (by rw [hml]; rfl) (argsL := [(.int p1), (.int (123 : Int32)), (.int (191 : Int32))]) (rest := []) (lenOf pd_2_1 rfl) rfl (by show 2 * 0 + _ ≤ _; exact Nat.le_of_eq rfl) (hb hby d2_37) (fun _ _ => ⟨rfl, rfl, (by decide : 0 + 0 ≤ _), (by decide : 0 + 0 ≤ _)⟩)
  dsimp only [Pt.U, Pt.locs, Pt.cells, Pt.slots] at X3 l3 y3 z3 st3 hQ3
  subst l3 y3 z3
  obtain ⟨rfl, N3q, eq3⟩ := hQ3
  have N3 := Fr.app N2 N3q
  obtain ⟨_, _, ⟨T4, L4, k4, n4⟩, -, X4, ⟨Lc4, hQ4, l4, y4, z4⟩, st4⟩ := Jvm.LawKit.callS X3 hx (y := (⟨"com/example/narrow_tree/narrowtree/document/XmlSyntaxIsNcNameStartCharacterPinLaw", "in", "(III)Z"⟩ : MethodName)) hown (mvT hZ (hw _ (List.mem_of_getElem? (i := 20) rfl))) (mvT hZ (hw _ (List.mem_of_getElem? (i := 21) rfl))) (mvT hZ (hw _ (List.mem_of_getElem? (i := 18) rfl))) (mvT hZ (hw _ (List.mem_of_getElem? (i := 22) rfl))) (by decide) (backOf (W := 0) (rm3 l Z a0 hw [] p1 (768 : Int32) (879 : Int32) T3.heap n0 (by rw [eq3, eq2]; exact Z0)) hZ (hw _ (List.mem_of_getElem? (i := 22) rfl)) (hw _ (List.mem_of_getElem? (i := 18) rfl)) (by decide) (by decide)) (g := (mkF m 64 #[.val (.int p1), .unset] [(.int (879 : Int32)), (.int (768 : Int32)), (.int p1)])) rfl (by rw [hml]; rfl) (argsL := [(.int p1), (.int (768 : Int32)), (.int (879 : Int32))]) (rest := []) (lenOf pd_2_1 rfl) rfl (by show 2 * 0 + _ ≤ _; exact Nat.le_of_eq rfl) (hb hby d2_64) (fun _ _ => ⟨rfl, rfl, (by decide : 0 + 0 ≤ _), (by decide : 0 + 0 ≤ _)⟩)
  dsimp only [Pt.U, Pt.locs, Pt.cells, Pt.slots] at X4 l4 y4 z4 st4 hQ4
  subst l4 y4 z4
  obtain ⟨rfl, N4q, eq4⟩ := hQ4
  have N4 := Fr.app N3 N4q
  obtain ⟨fs, hr, hrun, hended, hW, hsame⟩ := X4.leave (v := some (.int (0 : Int32))) (fun h => by rw [Bd.returns] at h; cases h)
  refine ⟨_, _, pre0 _ ?_, hrun, hended, _, _, rfl, ?_, ⟨_, rfl⟩, hW, hsame.mono (by decide) (by decide)⟩
  · show Steps p.tables e below (s₁.setTop (mkF m 0 #[.val (.int p1), .unset] [])) _
    refine XS.iloadN X0.here hx rfl (hb hby d2_0) rfl ?_
    show Steps p.tables e below (s₁.setTop (mkF m 1 #[.val (.int p1), .unset] [(.int p1)])) _
    refine XS.bipush X0.here hx rfl (hb hby d2_1) ?_
    show Steps p.tables e below (s₁.setTop (mkF m 3 #[.val (.int p1), .unset] [(.int (65 : Int32)), (.int p1)])) _
    refine XS.icmpNo X0.here hx rfl (hb hby d2_3) rfl (flt hc3).1 ?_
    show Steps p.tables e below (s₁.setTop (mkF m 6 #[.val (.int p1), .unset] [])) _
    refine XS.iloadN X0.here hx rfl (hb hby d2_6) rfl ?_
    show Steps p.tables e below (s₁.setTop (mkF m 7 #[.val (.int p1), .unset] [(.int p1)])) _
    refine X0.ldcInt hx hown (mvT hZ (hw _ (List.mem_of_getElem? (i := 7) rfl))) (g := (mkF m 7 #[.val (.int p1), .unset] [(.int p1)])) rfl (hb hby d2_7) _ ?_
    show Steps p.tables e below (s₁.setTop (mkF m 9 #[.val (.int p1), .unset] [(.int (983039 : Int32)), (.int p1)])) _
    refine XS.icmpYes X0.here hx rfl (pc0 := 9) (pc' := 14) rfl (hb hby d2_9) rfl (flt hc9).2.2.2 (by decide) (by decide) ?_
    show Steps p.tables e below (s₁.setTop (mkF m 14 #[.val (.int p1), .unset] [])) _
    refine XS.iloadN X0.here hx rfl (hb hby d2_14) rfl ?_
    show Steps p.tables e below (s₁.setTop (mkF m 15 #[.val (.int p1), .unset] [(.int p1)])) _
    refine XS.bipush X0.here hx rfl (hb hby d2_15) ?_
    show Steps p.tables e below (s₁.setTop (mkF m 17 #[.val (.int p1), .unset] [(.int (91 : Int32)), (.int p1)])) _
    refine XS.bipush X0.here hx rfl (hb hby d2_17) ?_
    show Steps p.tables e below (s₁.setTop (mkF m 19 #[.val (.int p1), .unset] [(.int (94 : Int32)), (.int (91 : Int32)), (.int p1)])) _
    refine st2 _ ?_
    show Steps p.tables e below (T2.setTop (mkF m 22 #[.val (.int p1), .unset] [(.int (inF p1 (91 : Int32) (94 : Int32)))])) _
    refine XS.ifNo X2.here hx rfl (hb hby d2_22) rfl ((if0 _ _).trans (teq (hg22 : (inF p1 (91 : Int32) (94 : Int32)) = (0 : Int32))).2) ?_
    show Steps p.tables e below (T2.setTop (mkF m 25 #[.val (.int p1), .unset] [])) _
    refine XS.iloadN X2.here hx rfl (hb hby d2_25) rfl ?_
    show Steps p.tables e below (T2.setTop (mkF m 26 #[.val (.int p1), .unset] [(.int p1)])) _
    refine XS.bipush X2.here hx rfl (hb hby d2_26) ?_
    show Steps p.tables e below (T2.setTop (mkF m 28 #[.val (.int p1), .unset] [(.int (96 : Int32)), (.int p1)])) _
    refine XS.icmpNo X2.here hx rfl (hb hby d2_28) rfl (feq hc28).1 ?_
    show Steps p.tables e below (T2.setTop (mkF m 31 #[.val (.int p1), .unset] [])) _
    refine XS.iloadN X2.here hx rfl (hb hby d2_31) rfl ?_
    show Steps p.tables e below (T2.setTop (mkF m 32 #[.val (.int p1), .unset] [(.int p1)])) _
    refine XS.bipush X2.here hx rfl (hb hby d2_32) ?_
    show Steps p.tables e below (T2.setTop (mkF m 34 #[.val (.int p1), .unset] [(.int (123 : Int32)), (.int p1)])) _
    refine XS.sipush X2.here hx rfl (hb hby d2_34) ?_
    show Steps p.tables e below (T2.setTop (mkF m 37 #[.val (.int p1), .unset] [(.int (191 : Int32)), (.int (123 : Int32)), (.int p1)])) _
    refine st3 _ ?_
    show Steps p.tables e below (T3.setTop (mkF m 40 #[.val (.int p1), .unset] [(.int (inF p1 (123 : Int32) (191 : Int32)))])) _
    refine XS.ifNo X3.here hx rfl (hb hby d2_40) rfl ((if0 _ _).trans (teq (hg40 : (inF p1 (123 : Int32) (191 : Int32)) = (0 : Int32))).2) ?_
    show Steps p.tables e below (T3.setTop (mkF m 43 #[.val (.int p1), .unset] [])) _
    refine XS.iloadN X3.here hx rfl (hb hby d2_43) rfl ?_
    show Steps p.tables e below (T3.setTop (mkF m 44 #[.val (.int p1), .unset] [(.int p1)])) _
    refine XS.sipush X3.here hx rfl (hb hby d2_44) ?_
    show Steps p.tables e below (T3.setTop (mkF m 47 #[.val (.int p1), .unset] [(.int (215 : Int32)), (.int p1)])) _
    refine XS.icmpNo X3.here hx rfl (hb hby d2_47) rfl (feq hc47).1 ?_
    show Steps p.tables e below (T3.setTop (mkF m 50 #[.val (.int p1), .unset] [])) _
    refine XS.iloadN X3.here hx rfl (hb hby d2_50) rfl ?_
    show Steps p.tables e below (T3.setTop (mkF m 51 #[.val (.int p1), .unset] [(.int p1)])) _
    refine XS.sipush X3.here hx rfl (hb hby d2_51) ?_
    show Steps p.tables e below (T3.setTop (mkF m 54 #[.val (.int p1), .unset] [(.int (247 : Int32)), (.int p1)])) _
    refine XS.icmpNo X3.here hx rfl (hb hby d2_54) rfl (feq hc54).1 ?_
    show Steps p.tables e below (T3.setTop (mkF m 57 #[.val (.int p1), .unset] [])) _
    refine XS.iloadN X3.here hx rfl (hb hby d2_57) rfl ?_
    show Steps p.tables e below (T3.setTop (mkF m 58 #[.val (.int p1), .unset] [(.int p1)])) _
    refine XS.sipush X3.here hx rfl (hb hby d2_58) ?_
    show Steps p.tables e below (T3.setTop (mkF m 61 #[.val (.int p1), .unset] [(.int (768 : Int32)), (.int p1)])) _
    refine XS.sipush X3.here hx rfl (hb hby d2_61) ?_
    show Steps p.tables e below (T3.setTop (mkF m 64 #[.val (.int p1), .unset] [(.int (879 : Int32)), (.int (768 : Int32)), (.int p1)])) _
    refine st4 _ ?_
    show Steps p.tables e below (T4.setTop (mkF m 67 #[.val (.int p1), .unset] [(.int (inF p1 (768 : Int32) (879 : Int32)))])) _
    refine XS.ifYes X4.here hx rfl (pc0 := 67) (pc' := 162) rfl (hb hby d2_67) rfl ((if0 _ _).trans (feq (hg67 : ¬ ((inF p1 (768 : Int32) (879 : Int32)) = (0 : Int32)))).2) (by decide) (by decide) ?_
    show Steps p.tables e below (T4.setTop (mkF m 162 #[.val (.int p1), .unset] [])) _
    refine XS.iconst X4.here hx rfl (hb hby d2_162) ?_
    show Steps p.tables e below (T4.setTop (mkF m 163 #[.val (.int p1), .unset] [(.int (1 : Int32))])) _
    refine XS.goto X4.here hx rfl (pc0 := 163) (pc' := 167) rfl (hb hby d2_163) (by decide) (by decide) ?_
    show Steps p.tables e below (T4.setTop (mkF m 167 #[.val (.int p1), .unset] [(.int (1 : Int32))])) _
    refine XS.istoreN X4.here hx rfl (hb hby d2_167) rfl (l' := #[.val (.int p1), .val (.int (1 : Int32))]) rfl ?_
    show Steps p.tables e below (T4.setTop (mkF m 168 #[.val (.int p1), .val (.int (1 : Int32))] [])) _
    refine XS.iloadN X4.here hx rfl (hb hby d2_168) rfl ?_
    show Steps p.tables e below (T4.setTop (mkF m 169 #[.val (.int p1), .val (.int (1 : Int32))] [(.int (1 : Int32))])) _
    refine XS.ifYes X4.here hx rfl (pc0 := 169) (pc' := 176) rfl (hb hby d2_169) rfl ((if0 _ _).trans (feq hc169).2) (by decide) (by decide) ?_
    show Steps p.tables e below (T4.setTop (mkF m 176 #[.val (.int p1), .val (.int (1 : Int32))] [])) _
    refine XS.iconst X4.here hx rfl (hb hby d2_176) ?_
    show Steps p.tables e below (T4.setTop (mkF m 177 #[.val (.int p1), .val (.int (1 : Int32))] [(.int (0 : Int32))])) _
    exact retN X4 hx (t := .boolean) Bd.returns (by simp) (hb hby d2_177) hr
  · show Q2 Z p1 h0 n0 _ T4.heap _
    exact ⟨by simp [rcF, hc3, hc9, hg22, hc28, hg40, hc47, hc54, hg67], N4, by rw [eq4, eq3, eq2]⟩
theorem d2_70 : decode method_3_code 70 = .ok (.iload_n 0, 1) := by decide +kernel
theorem d2_71 : decode method_3_code 71 = .ok (.sipush 894, 3) := by decide +kernel
theorem d2_74 : decode method_3_code 74 = .ok (.if_icmp .eq 88, 3) := by decide +kernel
set_option maxRecDepth 65536 in
set_option maxHeartbeats 40000000 in
theorem rm2_ftfffffftt (l : Launch) (Z : State) (a0 : Array Value) (hw : ∀ d ∈ tables_1, d.before a0 Z = true) (ws : List Jvm.Cond) (p1 : Int32) (h0 : Heap) (n0 : Nat) (Z0 : n0 ≤ h0.size) (hg22 : inF p1 (91 : Int32) (94 : Int32) = (0 : Int32)) (hg40 : inF p1 (123 : Int32) (191 : Int32) = (0 : Int32)) (hg67 : inF p1 (768 : Int32) (879 : Int32) = (0 : Int32)) (hc3 : ¬ (p1 < (65 : Int32))) (hc9 : ¬ ((983039 : Int32) < p1)) (hc28 : ¬ (p1 = (96 : Int32))) (hc47 : ¬ (p1 = (215 : Int32))) (hc54 : ¬ (p1 = (247 : Int32))) (hc74 : p1 = (894 : Int32)) :
    MetFree l (⟨"com/example/narrow_tree/narrowtree/document/XmlSyntaxIsNcNameStartCharacterPinLaw", "ref", "(I)Z"⟩ : MethodName) (head1 (Jvm.Cond.code (⟨"com/example/narrow_tree/narrowtree/document/XmlSyntaxIsNcNameStartCharacterPinLaw", "ref", "(I)Z"⟩ : MethodName) method_3_code 2 (some .boolean) :: ws) ({ frames := 1, cells := 0, slots := 0, locals := 14 } : Room)) (fun a U => a = #[(.int p1)] ∧ Z.Warmed39 U.vm ∧ U.heap = h0) (fun _ _ _ _ _ => True) (fun _ U o U' => ∃ v L, o = .returned v ∧ Q2 Z p1 h0 n0 v U'.heap L ∧ FrameEnd U o U' L ({ frames := 1, cells := 0, slots := 0, locals := 14 } : Room).cells ({ frames := 1, cells := 0, slots := 0, locals := 14 } : Room).slots) := by
  refine MetFree.of_bodySF (plainFor_of_name pn_2) hisR ?_
  intro p e s m args below meth c s₁ Bd hml0 hP hK
  obtain ⟨rfl, hZ, hh⟩ := hP
  have hx := Bd.exec
  have hby := Bd.bytes
  have hml : c.maxLocals = 2 := hml0
  have hown : s.vm.findClass "com/example/narrow_tree/narrowtree/document/XmlSyntaxIsNcNameStartCharacterPinLaw" = some m.cls := findClass_of_methodNamed Bd.named
  have hnm := (name_of_methodNamed Bd.named Bd.method).1
  have X0 : Stand p l e ({ frames := 1, cells := 0, slots := 0, locals := 14 } : Room) s m #[(.int p1)] below meth c s₁ [] 0 0 := Stand.of_body Bd
  have e0 : s₁.heap = h0 := by rw [← hh, Bd.state]; rfl
  have hc169 : ¬ ((1 : Int32) = (0 : Int32)) := by decide
  have N0 := Fr.nil n0
  have pre0 : ∀ t, Steps p.tables e below (s₁.setTop (mkF m 0 #[.val (.int p1), .unset] [])) t → Steps p.tables e below (s₁.setTop (entryFrame m #[(.int p1)] 2)) t := fun t k => castTop (ef_2 m p1) k
  obtain ⟨_, _, ⟨T2, L2, k2, n2⟩, -, X2, ⟨Lc2, hQ2, l2, y2, z2⟩, st2⟩ := Jvm.LawKit.callS X0 hx (y := (⟨"com/example/narrow_tree/narrowtree/document/XmlSyntaxIsNcNameStartCharacterPinLaw", "in", "(III)Z"⟩ : MethodName)) hown (mvT hZ (hw _ (List.mem_of_getElem? (i := 20) rfl))) (mvT hZ (hw _ (List.mem_of_getElem? (i := 21) rfl))) (mvT hZ (hw _ (List.mem_of_getElem? (i := 18) rfl))) (mvT hZ (hw _ (List.mem_of_getElem? (i := 22) rfl))) (by decide) (backOf (W := 0) (rm3 l Z a0 hw [] p1 (91 : Int32) (94 : Int32) h0 n0 Z0) hZ (hw _ (List.mem_of_getElem? (i := 22) rfl)) (hw _ (List.mem_of_getElem? (i := 18) rfl)) (by decide) (by decide)) (g := (mkF m 19 #[.val (.int p1), .unset] [(.int (94 : Int32)), (.int (91 : Int32)), (.int p1)])) rfl (by rw [hml]; rfl) (argsL := [(.int p1), (.int (91 : Int32)), (.int (94 : Int32))]) (rest := []) (lenOf pd_2_1 rfl) rfl (by show 2 * 0 + _ ≤ _; exact Nat.le_of_eq rfl) (hb hby d2_19) (fun _ _ => ⟨rfl, e0, (by decide : 0 + 0 ≤ _), (by decide : 0 + 0 ≤ _)⟩)
  dsimp only [Pt.U, Pt.locs, Pt.cells, Pt.slots] at X2 l2 y2 z2 st2 hQ2
  subst l2 y2 z2
  obtain ⟨rfl, N2q, eq2⟩ := hQ2
  have N2 := Fr.app N0 N2q
  obtain ⟨_, _, ⟨T3, L3, k3, n3⟩, -, X3, ⟨Lc3, hQ3, l3, y3, z3⟩, st3⟩ := Jvm.LawKit.callS X2 hx (y := (⟨"com/example/narrow_tree/narrowtree/document/XmlSyntaxIsNcNameStartCharacterPinLaw", "in", "(III)Z"⟩ : MethodName)) hown (mvT hZ (hw _ (List.mem_of_getElem? (i := 20) rfl))) (mvT hZ (hw _ (List.mem_of_getElem? (i := 21) rfl))) (mvT hZ (hw _ (List.mem_of_getElem? (i := 18) rfl))) (mvT hZ (hw _ (List.mem_of_getElem? (i := 22) rfl))) (by decide) (backOf (W := 0) (rm3 l Z a0 hw [] p1 (123 : Int32) (191 : Int32) T2.heap n0 (by rw [eq2]; exact Z0)) hZ (hw _ (List.mem_of_getElem? (i := 22) rfl)) (hw _ (List.mem_of_getElem? (i := 18) rfl)) (by decide) (by decide)) (g := (mkF m 37 #[.val (.int p1), .unset] [(.int (191 : Int32)), (.int (123 : Int32)), (.int p1)])) rfl (by rw [hml]; rfl) (argsL := [(.int p1), (.int (123 : Int32)), (.int (191 : Int32))]) (rest := []) (lenOf pd_2_1 rfl) rfl (by show 2 * 0 + _ ≤ _; exact Nat.le_of_eq rfl) (hb hby d2_37) (fun _ _ => ⟨rfl, rfl, (by decide : 0 + 0 ≤ _), (by decide : 0 + 0 ≤ _)⟩)
  dsimp only [Pt.U, Pt.locs, Pt.cells, Pt.slots] at X3 l3 y3 z3 st3 hQ3
  subst l3 y3 z3
  obtain ⟨rfl, N3q, eq3⟩ := hQ3
  have N3 := Fr.app N2 N3q
  obtain ⟨_, _, ⟨T4, L4, k4, n4⟩, -, X4, ⟨Lc4, hQ4, l4, y4, z4⟩, st4⟩ := Jvm.LawKit.callS X3 hx (y := (⟨"com/example/narrow_tree/narrowtree/document/XmlSyntaxIsNcNameStartCharacterPinLaw", "in", "(III)Z"⟩ : MethodName)) hown (mvT hZ (hw _ (List.mem_of_getElem? (i := 20) rfl))) (mvT hZ (hw _ (List.mem_of_getElem? (i := 21) rfl))) (mvT hZ (hw _ (List.mem_of_getElem? (i := 18) rfl))) (mvT hZ (hw _ (List.mem_of_getElem? (i := 22) rfl))) (by decide) (backOf (W := 0) (rm3 l Z a0 hw [] p1 (768 : Int32) (879 : Int32) T3.heap n0 (by rw [eq3, eq2]; exact Z0)) hZ (hw _ (List.mem_of_getElem? (i := 22) rfl)) (hw _ (List.mem_of_getElem? (i := 18) rfl)) (by decide) (by decide)) (g := (mkF m 64 #[.val (.int p1), .unset] [(.int (879 : Int32)), (.int (768 : Int32)), (.int p1)])) rfl (by rw [hml]; rfl) (argsL := [(.int p1), (.int (768 : Int32)), (.int (879 : Int32))]) (rest := []) (lenOf pd_2_1 rfl) rfl (by show 2 * 0 + _ ≤ _; exact Nat.le_of_eq rfl) (hb hby d2_64) (fun _ _ => ⟨rfl, rfl, (by decide : 0 + 0 ≤ _), (by decide : 0 + 0 ≤ _)⟩)
  dsimp only [Pt.U, Pt.locs, Pt.cells, Pt.slots] at X4 l4 y4 z4 st4 hQ4
  subst l4 y4 z4
  obtain ⟨rfl, N4q, eq4⟩ := hQ4
  have N4 := Fr.app N3 N4q
  obtain ⟨fs, hr, hrun, hended, hW, hsame⟩ := X4.leave (v := some (.int (0 : Int32))) (fun h => by rw [Bd.returns] at h; cases h)
  refine ⟨_, _, pre0 _ ?_, hrun, hended, _, _, rfl, ?_, ⟨_, rfl⟩, hW, hsame.mono (by decide) (by decide)⟩
  · show Steps p.tables e below (s₁.setTop (mkF m 0 #[.val (.int p1), .unset] [])) _
    refine XS.iloadN X0.here hx rfl (hb hby d2_0) rfl ?_
    show Steps p.tables e below (s₁.setTop (mkF m 1 #[.val (.int p1), .unset] [(.int p1)])) _
    refine XS.bipush X0.here hx rfl (hb hby d2_1) ?_
    show Steps p.tables e below (s₁.setTop (mkF m 3 #[.val (.int p1), .unset] [(.int (65 : Int32)), (.int p1)])) _
    refine XS.icmpNo X0.here hx rfl (hb hby d2_3) rfl (flt hc3).1 ?_
    show Steps p.tables e below (s₁.setTop (mkF m 6 #[.val (.int p1), .unset] [])) _
    refine XS.iloadN X0.here hx rfl (hb hby d2_6) rfl ?_
    show Steps p.tables e below (s₁.setTop (mkF m 7 #[.val (.int p1), .unset] [(.int p1)])) _
    refine X0.ldcInt hx hown (mvT hZ (hw _ (List.mem_of_getElem? (i := 7) rfl))) (g := (mkF m 7 #[.val (.int p1), .unset] [(.int p1)])) rfl (hb hby d2_7) _ ?_
    show Steps p.tables e below (s₁.setTop (mkF m 9 #[.val (.int p1), .unset] [(.int (983039 : Int32)), (.int p1)])) _
    refine XS.icmpYes X0.here hx rfl (pc0 := 9) (pc' := 14) rfl (hb hby d2_9) rfl (flt hc9).2.2.2 (by decide) (by decide) ?_
    show Steps p.tables e below (s₁.setTop (mkF m 14 #[.val (.int p1), .unset] [])) _
    refine XS.iloadN X0.here hx rfl (hb hby d2_14) rfl ?_
    show Steps p.tables e below (s₁.setTop (mkF m 15 #[.val (.int p1), .unset] [(.int p1)])) _
    refine XS.bipush X0.here hx rfl (hb hby d2_15) ?_
    show Steps p.tables e below (s₁.setTop (mkF m 17 #[.val (.int p1), .unset] [(.int (91 : Int32)), (.int p1)])) _
    refine XS.bipush X0.here hx rfl (hb hby d2_17) ?_
    show Steps p.tables e below (s₁.setTop (mkF m 19 #[.val (.int p1), .unset] [(.int (94 : Int32)), (.int (91 : Int32)), (.int p1)])) _
    refine st2 _ ?_
    show Steps p.tables e below (T2.setTop (mkF m 22 #[.val (.int p1), .unset] [(.int (inF p1 (91 : Int32) (94 : Int32)))])) _
    refine XS.ifNo X2.here hx rfl (hb hby d2_22) rfl ((if0 _ _).trans (teq (hg22 : (inF p1 (91 : Int32) (94 : Int32)) = (0 : Int32))).2) ?_
    show Steps p.tables e below (T2.setTop (mkF m 25 #[.val (.int p1), .unset] [])) _
    refine XS.iloadN X2.here hx rfl (hb hby d2_25) rfl ?_
    show Steps p.tables e below (T2.setTop (mkF m 26 #[.val (.int p1), .unset] [(.int p1)])) _
    refine XS.bipush X2.here hx rfl (hb hby d2_26) ?_
    show Steps p.tables e below (T2.setTop (mkF m 28 #[.val (.int p1), .unset] [(.int (96 : Int32)), (.int p1)])) _
    refine XS.icmpNo X2.here hx rfl (hb hby d2_28) rfl (feq hc28).1 ?_
    show Steps p.tables e below (T2.setTop (mkF m 31 #[.val (.int p1), .unset] [])) _
    refine XS.iloadN X2.here hx rfl (hb hby d2_31) rfl ?_
    show Steps p.tables e below (T2.setTop (mkF m 32 #[.val (.int p1), .unset] [(.int p1)])) _
    refine XS.bipush X2.here hx rfl (hb hby d2_32) ?_
    show Steps p.tables e below (T2.setTop (mkF m 34 #[.val (.int p1), .unset] [(.int (123 : Int32)), (.int p1)])) _
    refine XS.sipush X2.here hx rfl (hb hby d2_34) ?_
    show Steps p.tables e below (T2.setTop (mkF m 37 #[.val (.int p1), .unset] [(.int (191 : Int32)), (.int (123 : Int32)), (.int p1)])) _
    refine st3 _ ?_
    show Steps p.tables e below (T3.setTop (mkF m 40 #[.val (.int p1), .unset] [(.int (inF p1 (123 : Int32) (191 : Int32)))])) _
    refine XS.ifNo X3.here hx rfl (hb hby d2_40) rfl ((if0 _ _).trans (teq (hg40 : (inF p1 (123 : Int32) (191 : Int32)) = (0 : Int32))).2) ?_
    show Steps p.tables e below (T3.setTop (mkF m 43 #[.val (.int p1), .unset] [])) _
    refine XS.iloadN X3.here hx rfl (hb hby d2_43) rfl ?_
    show Steps p.tables e below (T3.setTop (mkF m 44 #[.val (.int p1), .unset] [(.int p1)])) _
    refine XS.sipush X3.here hx rfl (hb hby d2_44) ?_
    show Steps p.tables e below (T3.setTop (mkF m 47 #[.val (.int p1), .unset] [(.int (215 : Int32)), (.int p1)])) _
    refine XS.icmpNo X3.here hx rfl (hb hby d2_47) rfl (feq hc47).1 ?_
    show Steps p.tables e below (T3.setTop (mkF m 50 #[.val (.int p1), .unset] [])) _
    refine XS.iloadN X3.here hx rfl (hb hby d2_50) rfl ?_
    show Steps p.tables e below (T3.setTop (mkF m 51 #[.val (.int p1), .unset] [(.int p1)])) _
    refine XS.sipush X3.here hx rfl (hb hby d2_51) ?_
    show Steps p.tables e below (T3.setTop (mkF m 54 #[.val (.int p1), .unset] [(.int (247 : Int32)), (.int p1)])) _
    refine XS.icmpNo X3.here hx rfl (hb hby d2_54) rfl (feq hc54).1 ?_
    show Steps p.tables e below (T3.setTop (mkF m 57 #[.val (.int p1), .unset] [])) _
    refine XS.iloadN X3.here hx rfl (hb hby d2_57) rfl ?_
    show Steps p.tables e below (T3.setTop (mkF m 58 #[.val (.int p1), .unset] [(.int p1)])) _
    refine XS.sipush X3.here hx rfl (hb hby d2_58) ?_
    show Steps p.tables e below (T3.setTop (mkF m 61 #[.val (.int p1), .unset] [(.int (768 : Int32)), (.int p1)])) _
    refine XS.sipush X3.here hx rfl (hb hby d2_61) ?_
    show Steps p.tables e below (T3.setTop (mkF m 64 #[.val (.int p1), .unset] [(.int (879 : Int32)), (.int (768 : Int32)), (.int p1)])) _
    refine st4 _ ?_
    show Steps p.tables e below (T4.setTop (mkF m 67 #[.val (.int p1), .unset] [(.int (inF p1 (768 : Int32) (879 : Int32)))])) _
    refine XS.ifNo X4.here hx rfl (hb hby d2_67) rfl ((if0 _ _).trans (teq (hg67 : (inF p1 (768 : Int32) (879 : Int32)) = (0 : Int32))).2) ?_
    show Steps p.tables e below (T4.setTop (mkF m 70 #[.val (.int p1), .unset] [])) _
    refine XS.iloadN X4.here hx rfl (hb hby d2_70) rfl ?_
    show Steps p.tables e below (T4.setTop (mkF m 71 #[.val (.int p1), .unset] [(.int p1)])) _
    refine XS.sipush X4.here hx rfl (hb hby d2_71) ?_
    show Steps p.tables e below (T4.setTop (mkF m 74 #[.val (.int p1), .unset] [(.int (894 : Int32)), (.int p1)])) _
    refine XS.icmpYes X4.here hx rfl (pc0 := 74) (pc' := 162) rfl (hb hby d2_74) rfl (teq hc74).1 (by decide) (by decide) ?_
    show Steps p.tables e below (T4.setTop (mkF m 162 #[.val (.int p1), .unset] [])) _
    refine XS.iconst X4.here hx rfl (hb hby d2_162) ?_
    show Steps p.tables e below (T4.setTop (mkF m 163 #[.val (.int p1), .unset] [(.int (1 : Int32))])) _
    refine XS.goto X4.here hx rfl (pc0 := 163) (pc' := 167) rfl (hb hby d2_163) (by decide) (by decide) ?_
    show Steps p.tables e below (T4.setTop (mkF m 167 #[.val (.int p1), .unset] [(.int (1 : Int32))])) _
    refine XS.istoreN X4.here hx rfl (hb hby d2_167) rfl (l' := #[.val (.int p1), .val (.int (1 : Int32))]) rfl ?_
    show Steps p.tables e below (T4.setTop (mkF m 168 #[.val (.int p1), .val (.int (1 : Int32))] [])) _
    refine XS.iloadN X4.here hx rfl (hb hby d2_168) rfl ?_
    show Steps p.tables e below (T4.setTop (mkF m 169 #[.val (.int p1), .val (.int (1 : Int32))] [(.int (1 : Int32))])) _
    refine XS.ifYes X4.here hx rfl (pc0 := 169) (pc' := 176) rfl (hb hby d2_169) rfl ((if0 _ _).trans (feq hc169).2) (by decide) (by decide) ?_
    show Steps p.tables e below (T4.setTop (mkF m 176 #[.val (.int p1), .val (.int (1 : Int32))] [])) _
    refine XS.iconst X4.here hx rfl (hb hby d2_176) ?_
    show Steps p.tables e below (T4.setTop (mkF m 177 #[.val (.int p1), .val (.int (1 : Int32))] [(.int (0 : Int32))])) _
    exact retN X4 hx (t := .boolean) Bd.returns (by simp) (hb hby d2_177) hr
  · show Q2 Z p1 h0 n0 _ T4.heap _
    exact ⟨by simp [rcF, hc3, hc9, hg22, hc28, hg40, hc47, hc54, hg67, hc74], N4, by rw [eq4, eq3, eq2]⟩
theorem d2_77 : decode method_3_code 77 = .ok (.iload_n 0, 1) := by decide +kernel
theorem d2_78 : decode method_3_code 78 = .ok (.sipush 8192, 3) := by decide +kernel
theorem d2_81 : decode method_3_code 81 = .ok (.sipush 8203, 3) := by decide +kernel
theorem d2_84 : decode method_3_code 84 = .ok (.invokestatic 8, 3) := by decide +kernel
theorem d2_87 : decode method_3_code 87 = .ok (.ifCond .ne 75, 3) := by decide +kernel
set_option maxRecDepth 65536 in
set_option maxHeartbeats 40000000 in
theorem rm2_ftffffffftt (l : Launch) (Z : State) (a0 : Array Value) (hw : ∀ d ∈ tables_1, d.before a0 Z = true) (ws : List Jvm.Cond) (p1 : Int32) (h0 : Heap) (n0 : Nat) (Z0 : n0 ≤ h0.size) (hg22 : inF p1 (91 : Int32) (94 : Int32) = (0 : Int32)) (hg40 : inF p1 (123 : Int32) (191 : Int32) = (0 : Int32)) (hg67 : inF p1 (768 : Int32) (879 : Int32) = (0 : Int32)) (hg87 : ¬ (inF p1 (8192 : Int32) (8203 : Int32) = (0 : Int32))) (hc3 : ¬ (p1 < (65 : Int32))) (hc9 : ¬ ((983039 : Int32) < p1)) (hc28 : ¬ (p1 = (96 : Int32))) (hc47 : ¬ (p1 = (215 : Int32))) (hc54 : ¬ (p1 = (247 : Int32))) (hc74 : ¬ (p1 = (894 : Int32))) :
    MetFree l (⟨"com/example/narrow_tree/narrowtree/document/XmlSyntaxIsNcNameStartCharacterPinLaw", "ref", "(I)Z"⟩ : MethodName) (head1 (Jvm.Cond.code (⟨"com/example/narrow_tree/narrowtree/document/XmlSyntaxIsNcNameStartCharacterPinLaw", "ref", "(I)Z"⟩ : MethodName) method_3_code 2 (some .boolean) :: ws) ({ frames := 1, cells := 0, slots := 0, locals := 14 } : Room)) (fun a U => a = #[(.int p1)] ∧ Z.Warmed39 U.vm ∧ U.heap = h0) (fun _ _ _ _ _ => True) (fun _ U o U' => ∃ v L, o = .returned v ∧ Q2 Z p1 h0 n0 v U'.heap L ∧ FrameEnd U o U' L ({ frames := 1, cells := 0, slots := 0, locals := 14 } : Room).cells ({ frames := 1, cells := 0, slots := 0, locals := 14 } : Room).slots) := by
  refine MetFree.of_bodySF (plainFor_of_name pn_2) hisR ?_
  intro p e s m args below meth c s₁ Bd hml0 hP hK
  obtain ⟨rfl, hZ, hh⟩ := hP
  have hx := Bd.exec
  have hby := Bd.bytes
  have hml : c.maxLocals = 2 := hml0
  have hown : s.vm.findClass "com/example/narrow_tree/narrowtree/document/XmlSyntaxIsNcNameStartCharacterPinLaw" = some m.cls := findClass_of_methodNamed Bd.named
  have hnm := (name_of_methodNamed Bd.named Bd.method).1
  have X0 : Stand p l e ({ frames := 1, cells := 0, slots := 0, locals := 14 } : Room) s m #[(.int p1)] below meth c s₁ [] 0 0 := Stand.of_body Bd
  have e0 : s₁.heap = h0 := by rw [← hh, Bd.state]; rfl
  have hc169 : ¬ ((1 : Int32) = (0 : Int32)) := by decide
  have N0 := Fr.nil n0
  have pre0 : ∀ t, Steps p.tables e below (s₁.setTop (mkF m 0 #[.val (.int p1), .unset] [])) t → Steps p.tables e below (s₁.setTop (entryFrame m #[(.int p1)] 2)) t := fun t k => castTop (ef_2 m p1) k
  obtain ⟨_, _, ⟨T2, L2, k2, n2⟩, -, X2, ⟨Lc2, hQ2, l2, y2, z2⟩, st2⟩ := Jvm.LawKit.callS X0 hx (y := (⟨"com/example/narrow_tree/narrowtree/document/XmlSyntaxIsNcNameStartCharacterPinLaw", "in", "(III)Z"⟩ : MethodName)) hown (mvT hZ (hw _ (List.mem_of_getElem? (i := 20) rfl))) (mvT hZ (hw _ (List.mem_of_getElem? (i := 21) rfl))) (mvT hZ (hw _ (List.mem_of_getElem? (i := 18) rfl))) (mvT hZ (hw _ (List.mem_of_getElem? (i := 22) rfl))) (by decide) (backOf (W := 0) (rm3 l Z a0 hw [] p1 (91 : Int32) (94 : Int32) h0 n0 Z0) hZ (hw _ (List.mem_of_getElem? (i := 22) rfl)) (hw _ (List.mem_of_getElem? (i := 18) rfl)) (by decide) (by decide)) (g := (mkF m 19 #[.val (.int p1), .unset] [(.int (94 : Int32)), (.int (91 : Int32)), (.int p1)])) rfl (by rw [hml]; rfl) (argsL := [(.int p1), (.int (91 : Int32)), (.int (94 : Int32))]) (rest := []) (lenOf pd_2_1 rfl) rfl (by show 2 * 0 + _ ≤ _; exact Nat.le_of_eq rfl) (hb hby d2_19) (fun _ _ => ⟨rfl, e0, (by decide : 0 + 0 ≤ _), (by decide : 0 + 0 ≤ _)⟩)
  dsimp only [Pt.U, Pt.locs, Pt.cells, Pt.slots] at X2 l2 y2 z2 st2 hQ2
  subst l2 y2 z2
  obtain ⟨rfl, N2q, eq2⟩ := hQ2
  have N2 := Fr.app N0 N2q
  obtain ⟨_, _, ⟨T3, L3, k3, n3⟩, -, X3, ⟨Lc3, hQ3, l3, y3, z3⟩, st3⟩ := Jvm.LawKit.callS X2 hx (y := (⟨"com/example/narrow_tree/narrowtree/document/XmlSyntaxIsNcNameStartCharacterPinLaw", "in", "(III)Z"⟩ : MethodName)) hown (mvT hZ (hw _ (List.mem_of_getElem? (i := 20) rfl))) (mvT hZ (hw _ (List.mem_of_getElem? (i := 21) rfl))) (mvT hZ (hw _ (List.mem_of_getElem? (i := 18) rfl))) (mvT hZ (hw _ (List.mem_of_getElem? (i := 22) rfl))) (by decide) (backOf (W := 0) (rm3 l Z a0 hw [] p1 (123 : Int32) (191 : Int32) T2.heap n0 (by rw [eq2]; exact Z0)) hZ (hw _ (List.mem_of_getElem? (i := 22) rfl)) (hw _ (List.mem_of_getElem? (i := 18) rfl)) (by decide) (by decide)) (g := (mkF m 37 #[.val (.int p1), .unset] [(.int (191 : Int32)), (.int (123 : Int32)), (.int p1)])) rfl (by rw [hml]; rfl) (argsL := [(.int p1), (.int (123 : Int32)), (.int (191 : Int32))]) (rest := []) (lenOf pd_2_1 rfl) rfl (by show 2 * 0 + _ ≤ _; exact Nat.le_of_eq rfl) (hb hby d2_37) (fun _ _ => ⟨rfl, rfl, (by decide : 0 + 0 ≤ _), (by decide : 0 + 0 ≤ _)⟩)
  dsimp only [Pt.U, Pt.locs, Pt.cells, Pt.slots] at X3 l3 y3 z3 st3 hQ3
  subst l3 y3 z3
  obtain ⟨rfl, N3q, eq3⟩ := hQ3
  have N3 := Fr.app N2 N3q
  obtain ⟨_, _, ⟨T4, L4, k4, n4⟩, -, X4, ⟨Lc4, hQ4, l4, y4, z4⟩, st4⟩ := Jvm.LawKit.callS X3 hx (y := (⟨"com/example/narrow_tree/narrowtree/document/XmlSyntaxIsNcNameStartCharacterPinLaw", "in", "(III)Z"⟩ : MethodName)) hown (mvT hZ (hw _ (List.mem_of_getElem? (i := 20) rfl))) (mvT hZ (hw _ (List.mem_of_getElem? (i := 21) rfl))) (mvT hZ (hw _ (List.mem_of_getElem? (i := 18) rfl))) (mvT hZ (hw _ (List.mem_of_getElem? (i := 22) rfl))) (by decide) (backOf (W := 0) (rm3 l Z a0 hw [] p1 (768 : Int32) (879 : Int32) T3.heap n0 (by rw [eq3, eq2]; exact Z0)) hZ (hw _ (List.mem_of_getElem? (i := 22) rfl)) (hw _ (List.mem_of_getElem? (i := 18) rfl)) (by decide) (by decide)) (g := (mkF m 64 #[.val (.int p1), .unset] [(.int (879 : Int32)), (.int (768 : Int32)), (.int p1)])) rfl (by rw [hml]; rfl) (argsL := [(.int p1), (.int (768 : Int32)), (.int (879 : Int32))]) (rest := []) (lenOf pd_2_1 rfl) rfl (by show 2 * 0 + _ ≤ _; exact Nat.le_of_eq rfl) (hb hby d2_64) (fun _ _ => ⟨rfl, rfl, (by decide : 0 + 0 ≤ _), (by decide : 0 + 0 ≤ _)⟩)
  dsimp only [Pt.U, Pt.locs, Pt.cells, Pt.slots] at X4 l4 y4 z4 st4 hQ4
  subst l4 y4 z4
  obtain ⟨rfl, N4q, eq4⟩ := hQ4
  have N4 := Fr.app N3 N4q
  obtain ⟨_, _, ⟨T5, L5, k5, n5⟩, -, X5, ⟨Lc5, hQ5, l5, y5, z5⟩, st5⟩ := Jvm.LawKit.callS X4 hx (y := (⟨"com/example/narrow_tree/narrowtree/document/XmlSyntaxIsNcNameStartCharacterPinLaw", "in", "(III)Z"⟩ : MethodName)) hown (mvT hZ (hw _ (List.mem_of_getElem? (i := 20) rfl))) (mvT hZ (hw _ (List.mem_of_getElem? (i := 21) rfl))) (mvT hZ (hw _ (List.mem_of_getElem? (i := 18) rfl))) (mvT hZ (hw _ (List.mem_of_getElem? (i := 22) rfl))) (by decide) (backOf (W := 0) (rm3 l Z a0 hw [] p1 (8192 : Int32) (8203 : Int32) T4.heap n0 (by rw [eq4, eq3, eq2]; exact Z0)) hZ (hw _ (List.mem_of_getElem? (i := 22) rfl)) (hw _ (List.mem_of_getElem? (i := 18) rfl)) (by decide) (by decide)) (g := (mkF m 84 #[.val (.int p1), .unset] [(.int (8203 : Int32)), (.int (8192 : Int32)), (.int p1)])) rfl (by rw [hml]; rfl) (argsL := [(.int p1), (.int (8192 : Int32)), (.int (8203 : Int32))]) (rest := []) (lenOf pd_2_1 rfl) rfl (by show 2 * 0 + _ ≤ _; exact Nat.le_of_eq rfl) (hb hby d2_84) (fun _ _ => ⟨rfl, rfl, (by decide : 0 + 0 ≤ _), (by decide : 0 + 0 ≤ _)⟩)
  dsimp only [Pt.U, Pt.locs, Pt.cells, Pt.slots] at X5 l5 y5 z5 st5 hQ5
  subst l5 y5 z5
  obtain ⟨rfl, N5q, eq5⟩ := hQ5
  have N5 := Fr.app N4 N5q
  obtain ⟨fs, hr, hrun, hended, hW, hsame⟩ := X5.leave (v := some (.int (0 : Int32))) (fun h => by rw [Bd.returns] at h; cases h)
  refine ⟨_, _, pre0 _ ?_, hrun, hended, _, _, rfl, ?_, ⟨_, rfl⟩, hW, hsame.mono (by decide) (by decide)⟩
  · show Steps p.tables e below (s₁.setTop (mkF m 0 #[.val (.int p1), .unset] [])) _
    refine XS.iloadN X0.here hx rfl (hb hby d2_0) rfl ?_
    show Steps p.tables e below (s₁.setTop (mkF m 1 #[.val (.int p1), .unset] [(.int p1)])) _
    refine XS.bipush X0.here hx rfl (hb hby d2_1) ?_
    show Steps p.tables e below (s₁.setTop (mkF m 3 #[.val (.int p1), .unset] [(.int (65 : Int32)), (.int p1)])) _
    refine XS.icmpNo X0.here hx rfl (hb hby d2_3) rfl (flt hc3).1 ?_
    show Steps p.tables e below (s₁.setTop (mkF m 6 #[.val (.int p1), .unset] [])) _
    refine XS.iloadN X0.here hx rfl (hb hby d2_6) rfl ?_
    show Steps p.tables e below (s₁.setTop (mkF m 7 #[.val (.int p1), .unset] [(.int p1)])) _
    refine X0.ldcInt hx hown (mvT hZ (hw _ (List.mem_of_getElem? (i := 7) rfl))) (g := (mkF m 7 #[.val (.int p1), .unset] [(.int p1)])) rfl (hb hby d2_7) _ ?_
    show Steps p.tables e below (s₁.setTop (mkF m 9 #[.val (.int p1), .unset] [(.int (983039 : Int32)), (.int p1)])) _
    refine XS.icmpYes X0.here hx rfl (pc0 := 9) (pc' := 14) rfl (hb hby d2_9) rfl (flt hc9).2.2.2 (by decide) (by decide) ?_
    show Steps p.tables e below (s₁.setTop (mkF m 14 #[.val (.int p1), .unset] [])) _
    refine XS.iloadN X0.here hx rfl (hb hby d2_14) rfl ?_
    show Steps p.tables e below (s₁.setTop (mkF m 15 #[.val (.int p1), .unset] [(.int p1)])) _
    refine XS.bipush X0.here hx rfl (hb hby d2_15) ?_
    show Steps p.tables e below (s₁.setTop (mkF m 17 #[.val (.int p1), .unset] [(.int (91 : Int32)), (.int p1)])) _
    refine XS.bipush X0.here hx rfl (hb hby d2_17) ?_
    show Steps p.tables e below (s₁.setTop (mkF m 19 #[.val (.int p1), .unset] [(.int (94 : Int32)), (.int (91 : Int32)), (.int p1)])) _
    refine st2 _ ?_
    show Steps p.tables e below (T2.setTop (mkF m 22 #[.val (.int p1), .unset] [(.int (inF p1 (91 : Int32) (94 : Int32)))])) _
    refine XS.ifNo X2.here hx rfl (hb hby d2_22) rfl ((if0 _ _).trans (teq (hg22 : (inF p1 (91 : Int32) (94 : Int32)) = (0 : Int32))).2) ?_
    show Steps p.tables e below (T2.setTop (mkF m 25 #[.val (.int p1), .unset] [])) _
    refine XS.iloadN X2.here hx rfl (hb hby d2_25) rfl ?_
    show Steps p.tables e below (T2.setTop (mkF m 26 #[.val (.int p1), .unset] [(.int p1)])) _
    refine XS.bipush X2.here hx rfl (hb hby d2_26) ?_
    show Steps p.tables e below (T2.setTop (mkF m 28 #[.val (.int p1), .unset] [(.int (96 : Int32)), (.int p1)])) _
    refine XS.icmpNo X2.here hx rfl (hb hby d2_28) rfl (feq hc28).1 ?_
    show Steps p.tables e below (T2.setTop (mkF m 31 #[.val (.int p1), .unset] [])) _
    refine XS.iloadN X2.here hx rfl (hb hby d2_31) rfl ?_
    show Steps p.tables e below (T2.setTop (mkF m 32 #[.val (.int p1), .unset] [(.int p1)])) _
    refine XS.bipush X2.here hx rfl (hb hby d2_32) ?_
    show Steps p.tables e below (T2.setTop (mkF m 34 #[.val (.int p1), .unset] [(.int (123 : Int32)), (.int p1)])) _
    refine XS.sipush X2.here hx rfl (hb hby d2_34) ?_
    show Steps p.tables e below (T2.setTop (mkF m 37 #[.val (.int p1), .unset] [(.int (191 : Int32)), (.int (123 : Int32)), (.int p1)])) _
    refine st3 _ ?_
    show Steps p.tables e below (T3.setTop (mkF m 40 #[.val (.int p1), .unset] [(.int (inF p1 (123 : Int32) (191 : Int32)))])) _
    refine XS.ifNo X3.here hx rfl (hb hby d2_40) rfl ((if0 _ _).trans (teq (hg40 : (inF p1 (123 : Int32) (191 : Int32)) = (0 : Int32))).2) ?_
    show Steps p.tables e below (T3.setTop (mkF m 43 #[.val (.int p1), .unset] [])) _
    refine XS.iloadN X3.here hx rfl (hb hby d2_43) rfl ?_
    show Steps p.tables e below (T3.setTop (mkF m 44 #[.val (.int p1), .unset] [(.int p1)])) _
    refine XS.sipush X3.here hx rfl (hb hby d2_44) ?_
    show Steps p.tables e below (T3.setTop (mkF m 47 #[.val (.int p1), .unset] [(.int (215 : Int32)), (.int p1)])) _
    refine XS.icmpNo X3.here hx rfl (hb hby d2_47) rfl (feq hc47).1 ?_
    show Steps p.tables e below (T3.setTop (mkF m 50 #[.val (.int p1), .unset] [])) _
    refine XS.iloadN X3.here hx rfl (hb hby d2_50) rfl ?_
    show Steps p.tables e below (T3.setTop (mkF m 51 #[.val (.int p1), .unset] [(.int p1)])) _
    refine XS.sipush X3.here hx rfl (hb hby d2_51) ?_
    show Steps p.tables e below (T3.setTop (mkF m 54 #[.val (.int p1), .unset] [(.int (247 : Int32)), (.int p1)])) _
    refine XS.icmpNo X3.here hx rfl (hb hby d2_54) rfl (feq hc54).1 ?_
    show Steps p.tables e below (T3.setTop (mkF m 57 #[.val (.int p1), .unset] [])) _
    refine XS.iloadN X3.here hx rfl (hb hby d2_57) rfl ?_
    show Steps p.tables e below (T3.setTop (mkF m 58 #[.val (.int p1), .unset] [(.int p1)])) _
    refine XS.sipush X3.here hx rfl (hb hby d2_58) ?_
    show Steps p.tables e below (T3.setTop (mkF m 61 #[.val (.int p1), .unset] [(.int (768 : Int32)), (.int p1)])) _
    refine XS.sipush X3.here hx rfl (hb hby d2_61) ?_
    show Steps p.tables e below (T3.setTop (mkF m 64 #[.val (.int p1), .unset] [(.int (879 : Int32)), (.int (768 : Int32)), (.int p1)])) _
    refine st4 _ ?_
    show Steps p.tables e below (T4.setTop (mkF m 67 #[.val (.int p1), .unset] [(.int (inF p1 (768 : Int32) (879 : Int32)))])) _
    refine XS.ifNo X4.here hx rfl (hb hby d2_67) rfl ((if0 _ _).trans (teq (hg67 : (inF p1 (768 : Int32) (879 : Int32)) = (0 : Int32))).2) ?_
    show Steps p.tables e below (T4.setTop (mkF m 70 #[.val (.int p1), .unset] [])) _
    refine XS.iloadN X4.here hx rfl (hb hby d2_70) rfl ?_
    show Steps p.tables e below (T4.setTop (mkF m 71 #[.val (.int p1), .unset] [(.int p1)])) _
    refine XS.sipush X4.here hx rfl (hb hby d2_71) ?_
    show Steps p.tables e below (T4.setTop (mkF m 74 #[.val (.int p1), .unset] [(.int (894 : Int32)), (.int p1)])) _
    refine XS.icmpNo X4.here hx rfl (hb hby d2_74) rfl (feq hc74).1 ?_
    show Steps p.tables e below (T4.setTop (mkF m 77 #[.val (.int p1), .unset] [])) _
    refine XS.iloadN X4.here hx rfl (hb hby d2_77) rfl ?_
    show Steps p.tables e below (T4.setTop (mkF m 78 #[.val (.int p1), .unset] [(.int p1)])) _
    refine XS.sipush X4.here hx rfl (hb hby d2_78) ?_
    show Steps p.tables e below (T4.setTop (mkF m 81 #[.val (.int p1), .unset] [(.int (8192 : Int32)), (.int p1)])) _
    refine XS.sipush X4.here hx rfl (hb hby d2_81) ?_
    show Steps p.tables e below (T4.setTop (mkF m 84 #[.val (.int p1), .unset] [(.int (8203 : Int32)), (.int (8192 : Int32)), (.int p1)])) _
    refine st5 _ ?_
    show Steps p.tables e below (T5.setTop (mkF m 87 #[.val (.int p1), .unset] [(.int (inF p1 (8192 : Int32) (8203 : Int32)))])) _
    refine XS.ifYes X5.here hx rfl (pc0 := 87) (pc' := 162) rfl (hb hby d2_87) rfl ((if0 _ _).trans (feq (hg87 : ¬ ((inF p1 (8192 : Int32) (8203 : Int32)) = (0 : Int32)))).2) (by decide) (by decide) ?_
    show Steps p.tables e below (T5.setTop (mkF m 162 #[.val (.int p1), .unset] [])) _
    refine XS.iconst X5.here hx rfl (hb hby d2_162) ?_
    show Steps p.tables e below (T5.setTop (mkF m 163 #[.val (.int p1), .unset] [(.int (1 : Int32))])) _
    refine XS.goto X5.here hx rfl (pc0 := 163) (pc' := 167) rfl (hb hby d2_163) (by decide) (by decide) ?_
    show Steps p.tables e below (T5.setTop (mkF m 167 #[.val (.int p1), .unset] [(.int (1 : Int32))])) _
    refine XS.istoreN X5.here hx rfl (hb hby d2_167) rfl (l' := #[.val (.int p1), .val (.int (1 : Int32))]) rfl ?_
    show Steps p.tables e below (T5.setTop (mkF m 168 #[.val (.int p1), .val (.int (1 : Int32))] [])) _
    refine XS.iloadN X5.here hx rfl (hb hby d2_168) rfl ?_
    show Steps p.tables e below (T5.setTop (mkF m 169 #[.val (.int p1), .val (.int (1 : Int32))] [(.int (1 : Int32))])) _
    refine XS.ifYes X5.here hx rfl (pc0 := 169) (pc' := 176) rfl (hb hby d2_169) rfl ((if0 _ _).trans (feq hc169).2) (by decide) (by decide) ?_
    show Steps p.tables e below (T5.setTop (mkF m 176 #[.val (.int p1), .val (.int (1 : Int32))] [])) _
    refine XS.iconst X5.here hx rfl (hb hby d2_176) ?_
    show Steps p.tables e below (T5.setTop (mkF m 177 #[.val (.int p1), .val (.int (1 : Int32))] [(.int (0 : Int32))])) _
    exact retN X5 hx (t := .boolean) Bd.returns (by simp) (hb hby d2_177) hr
  · show Q2 Z p1 h0 n0 _ T5.heap _
    exact ⟨by simp [rcF, hc3, hc9, hg22, hc28, hg40, hc47, hc54, hg67, hc74, hg87], N5, by rw [eq5, eq4, eq3, eq2]⟩
theorem d2_90 : decode method_3_code 90 = .ok (.iload_n 0, 1) := by decide +kernel
theorem d2_91 : decode method_3_code 91 = .ok (.sipush 8206, 3) := by decide +kernel
theorem d2_94 : decode method_3_code 94 = .ok (.sipush 8303, 3) := by decide +kernel
theorem d2_97 : decode method_3_code 97 = .ok (.invokestatic 8, 3) := by decide +kernel
theorem d2_100 : decode method_3_code 100 = .ok (.ifCond .ne 62, 3) := by decide +kernel
set_option maxRecDepth 65536 in
set_option maxHeartbeats 40000000 in
theorem rm2_ftfffffffftt (l : Launch) (Z : State) (a0 : Array Value) (hw : ∀ d ∈ tables_1, d.before a0 Z = true) (ws : List Jvm.Cond) (p1 : Int32) (h0 : Heap) (n0 : Nat) (Z0 : n0 ≤ h0.size) (hg22 : inF p1 (91 : Int32) (94 : Int32) = (0 : Int32)) (hg40 : inF p1 (123 : Int32) (191 : Int32) = (0 : Int32)) (hg67 : inF p1 (768 : Int32) (879 : Int32) = (0 : Int32)) (hg87 : inF p1 (8192 : Int32) (8203 : Int32) = (0 : Int32)) (hg100 : ¬ (inF p1 (8206 : Int32) (8303 : Int32) = (0 : Int32))) (hc3 : ¬ (p1 < (65 : Int32))) (hc9 : ¬ ((983039 : Int32) < p1)) (hc28 : ¬ (p1 = (96 : Int32))) (hc47 : ¬ (p1 = (215 : Int32))) (hc54 : ¬ (p1 = (247 : Int32))) (hc74 : ¬ (p1 = (894 : Int32))) :
    MetFree l (⟨"com/example/narrow_tree/narrowtree/document/XmlSyntaxIsNcNameStartCharacterPinLaw", "ref", "(I)Z"⟩ : MethodName) (head1 (Jvm.Cond.code (⟨"com/example/narrow_tree/narrowtree/document/XmlSyntaxIsNcNameStartCharacterPinLaw", "ref", "(I)Z"⟩ : MethodName) method_3_code 2 (some .boolean) :: ws) ({ frames := 1, cells := 0, slots := 0, locals := 14 } : Room)) (fun a U => a = #[(.int p1)] ∧ Z.Warmed39 U.vm ∧ U.heap = h0) (fun _ _ _ _ _ => True) (fun _ U o U' => ∃ v L, o = .returned v ∧ Q2 Z p1 h0 n0 v U'.heap L ∧ FrameEnd U o U' L ({ frames := 1, cells := 0, slots := 0, locals := 14 } : Room).cells ({ frames := 1, cells := 0, slots := 0, locals := 14 } : Room).slots) := by
  refine MetFree.of_bodySF (plainFor_of_name pn_2) hisR ?_
  intro p e s m args below meth c s₁ Bd hml0 hP hK
  obtain ⟨rfl, hZ, hh⟩ := hP
  have hx := Bd.exec
  have hby := Bd.bytes
  have hml : c.maxLocals = 2 := hml0
  have hown : s.vm.findClass "com/example/narrow_tree/narrowtree/document/XmlSyntaxIsNcNameStartCharacterPinLaw" = some m.cls := findClass_of_methodNamed Bd.named
  have hnm := (name_of_methodNamed Bd.named Bd.method).1
  have X0 : Stand p l e ({ frames := 1, cells := 0, slots := 0, locals := 14 } : Room) s m #[(.int p1)] below meth c s₁ [] 0 0 := Stand.of_body Bd
  have e0 : s₁.heap = h0 := by rw [← hh, Bd.state]; rfl
  have hc169 : ¬ ((1 : Int32) = (0 : Int32)) := by decide
  have N0 := Fr.nil n0
  have pre0 : ∀ t, Steps p.tables e below (s₁.setTop (mkF m 0 #[.val (.int p1), .unset] [])) t → Steps p.tables e below (s₁.setTop (entryFrame m #[(.int p1)] 2)) t := fun t k => castTop (ef_2 m p1) k
  obtain ⟨_, _, ⟨T2, L2, k2, n2⟩, -, X2, ⟨Lc2, hQ2, l2, y2, z2⟩, st2⟩ := Jvm.LawKit.callS X0 hx (y := (⟨"com/example/narrow_tree/narrowtree/document/XmlSyntaxIsNcNameStartCharacterPinLaw", "in", "(III)Z"⟩ : MethodName)) hown (mvT hZ (hw _ (List.mem_of_getElem? (i := 20) rfl))) (mvT hZ (hw _ (List.mem_of_getElem? (i := 21) rfl))) (mvT hZ (hw _ (List.mem_of_getElem? (i := 18) rfl))) (mvT hZ (hw _ (List.mem_of_getElem? (i := 22) rfl))) (by decide) (backOf (W := 0) (rm3 l Z a0 hw [] p1 (91 : Int32) (94 : Int32) h0 n0 Z0) hZ (hw _ (List.mem_of_getElem? (i := 22) rfl)) (hw _ (List.mem_of_getElem? (i := 18) rfl)) (by decide) (by decide)) (g := (mkF m 19 #[.val (.int p1), .unset] [(.int (94 : Int32)), (.int (91 : Int32)), (.int p1)])) rfl (by rw [hml]; rfl) (argsL := [(.int p1), (.int (91 : Int32)), (.int (94 : Int32))]) (rest := []) (lenOf pd_2_1 rfl) rfl (by show 2 * 0 + _ ≤ _; exact Nat.le_of_eq rfl) (hb hby d2_19) (fun _ _ => ⟨rfl, e0, (by decide : 0 + 0 ≤ _), (by decide : 0 + 0 ≤ _)⟩)
  dsimp only [Pt.U, Pt.locs, Pt.cells, Pt.slots] at X2 l2 y2 z2 st2 hQ2
  subst l2 y2 z2
  obtain ⟨rfl, N2q, eq2⟩ := hQ2
  have N2 := Fr.app N0 N2q
  obtain ⟨_, _, ⟨T3, L3, k3, n3⟩, -, X3, ⟨Lc3, hQ3, l3, y3, z3⟩, st3⟩ := Jvm.LawKit.callS X2 hx (y := (⟨"com/example/narrow_tree/narrowtree/document/XmlSyntaxIsNcNameStartCharacterPinLaw", "in", "(III)Z"⟩ : MethodName)) hown (mvT hZ (hw _ (List.mem_of_getElem? (i := 20) rfl))) (mvT hZ (hw _ (List.mem_of_getElem? (i := 21) rfl))) (mvT hZ (hw _ (List.mem_of_getElem? (i := 18) rfl))) (mvT hZ (hw _ (List.mem_of_getElem? (i := 22) rfl))) (by decide) (backOf (W := 0) (rm3 l Z a0 hw [] p1 (123 : Int32) (191 : Int32) T2.heap n0 (by rw [eq2]; exact Z0)) hZ (hw _ (List.mem_of_getElem? (i := 22) rfl)) (hw _ (List.mem_of_getElem? (i := 18) rfl)) (by decide) (by decide)) (g := (mkF m 37 #[.val (.int p1), .unset] [(.int (191 : Int32)), (.int (123 : Int32)), (.int p1)])) rfl (by rw [hml]; rfl) (argsL := [(.int p1), (.int (123 : Int32)), (.int (191 : Int32))]) (rest := []) (lenOf pd_2_1 rfl) rfl (by show 2 * 0 + _ ≤ _; exact Nat.le_of_eq rfl) (hb hby d2_37) (fun _ _ => ⟨rfl, rfl, (by decide : 0 + 0 ≤ _), (by decide : 0 + 0 ≤ _)⟩)
  dsimp only [Pt.U, Pt.locs, Pt.cells, Pt.slots] at X3 l3 y3 z3 st3 hQ3
  subst l3 y3 z3
  obtain ⟨rfl, N3q, eq3⟩ := hQ3
  have N3 := Fr.app N2 N3q
  obtain ⟨_, _, ⟨T4, L4, k4, n4⟩, -, X4, ⟨Lc4, hQ4, l4, y4, z4⟩, st4⟩ := Jvm.LawKit.callS X3 hx (y := (⟨"com/example/narrow_tree/narrowtree/document/XmlSyntaxIsNcNameStartCharacterPinLaw", "in", "(III)Z"⟩ : MethodName)) hown (mvT hZ (hw _ (List.mem_of_getElem? (i := 20) rfl))) (mvT hZ (hw _ (List.mem_of_getElem? (i := 21) rfl))) (mvT hZ (hw _ (List.mem_of_getElem? (i := 18) rfl))) (mvT hZ (hw _ (List.mem_of_getElem? (i := 22) rfl))) (by decide) (backOf (W := 0) (rm3 l Z a0 hw [] p1 (768 : Int32) (879 : Int32) T3.heap n0 (by rw [eq3, eq2]; exact Z0)) hZ (hw _ (List.mem_of_getElem? (i := 22) rfl)) (hw _ (List.mem_of_getElem? (i := 18) rfl)) (by decide) (by decide)) (g := (mkF m 64 #[.val (.int p1), .unset] [(.int (879 : Int32)), (.int (768 : Int32)), (.int p1)])) rfl (by rw [hml]; rfl) (argsL := [(.int p1), (.int (768 : Int32)), (.int (879 : Int32))]) (rest := []) (lenOf pd_2_1 rfl) rfl (by show 2 * 0 + _ ≤ _; exact Nat.le_of_eq rfl) (hb hby d2_64) (fun _ _ => ⟨rfl, rfl, (by decide : 0 + 0 ≤ _), (by decide : 0 + 0 ≤ _)⟩)
  dsimp only [Pt.U, Pt.locs, Pt.cells, Pt.slots] at X4 l4 y4 z4 st4 hQ4
  subst l4 y4 z4
  obtain ⟨rfl, N4q, eq4⟩ := hQ4
  have N4 := Fr.app N3 N4q
  obtain ⟨_, _, ⟨T5, L5, k5, n5⟩, -, X5, ⟨Lc5, hQ5, l5, y5, z5⟩, st5⟩ := Jvm.LawKit.callS X4 hx (y := (⟨"com/example/narrow_tree/narrowtree/document/XmlSyntaxIsNcNameStartCharacterPinLaw", "in", "(III)Z"⟩ : MethodName)) hown (mvT hZ (hw _ (List.mem_of_getElem? (i := 20) rfl))) (mvT hZ (hw _ (List.mem_of_getElem? (i := 21) rfl))) (mvT hZ (hw _ (List.mem_of_getElem? (i := 18) rfl))) (mvT hZ (hw _ (List.mem_of_getElem? (i := 22) rfl))) (by decide) (backOf (W := 0) (rm3 l Z a0 hw [] p1 (8192 : Int32) (8203 : Int32) T4.heap n0 (by rw [eq4, eq3, eq2]; exact Z0)) hZ (hw _ (List.mem_of_getElem? (i := 22) rfl)) (hw _ (List.mem_of_getElem? (i := 18) rfl)) (by decide) (by decide)) (g := (mkF m 84 #[.val (.int p1), .unset] [(.int (8203 : Int32)), (.int (8192 : Int32)), (.int p1)])) rfl (by rw [hml]; rfl) (argsL := [(.int p1), (.int (8192 : Int32)), (.int (8203 : Int32))]) (rest := []) (lenOf pd_2_1 rfl) rfl (by show 2 * 0 + _ ≤ _; exact Nat.le_of_eq rfl) (hb hby d2_84) (fun _ _ => ⟨rfl, rfl, (by decide : 0 + 0 ≤ _), (by decide : 0 + 0 ≤ _)⟩)
  dsimp only [Pt.U, Pt.locs, Pt.cells, Pt.slots] at X5 l5 y5 z5 st5 hQ5
  subst l5 y5 z5
  obtain ⟨rfl, N5q, eq5⟩ := hQ5
  have N5 := Fr.app N4 N5q
  obtain ⟨_, _, ⟨T6, L6, k6, n6⟩, -, X6, ⟨Lc6, hQ6, l6, y6, z6⟩, st6⟩ := Jvm.LawKit.callS X5 hx (y := (⟨"com/example/narrow_tree/narrowtree/document/XmlSyntaxIsNcNameStartCharacterPinLaw", "in", "(III)Z"⟩ : MethodName)) hown (mvT hZ (hw _ (List.mem_of_getElem? (i := 20) rfl))) (mvT hZ (hw _ (List.mem_of_getElem? (i := 21) rfl))) (mvT hZ (hw _ (List.mem_of_getElem? (i := 18) rfl))) (mvT hZ (hw _ (List.mem_of_getElem? (i := 22) rfl))) (by decide) (backOf (W := 0) (rm3 l Z a0 hw [] p1 (8206 : Int32) (8303 : Int32) T5.heap n0 (by rw [eq5, eq4, eq3, eq2]; exact Z0)) hZ (hw _ (List.mem_of_getElem? (i := 22) rfl)) (hw _ (List.mem_of_getElem? (i := 18) rfl)) (by decide) (by decide)) (g := (mkF m 97 #[.val (.int p1), .unset] [(.int (8303 : Int32)), (.int (8206 : Int32)), (.int p1)])) rfl (by rw [hml]; rfl) (argsL := [(.int p1), (.int (8206 : Int32)), (.int (8303 : Int32))]) (rest := []) (lenOf pd_2_1 rfl) rfl (by show 2 * 0 + _ ≤ _; exact Nat.le_of_eq rfl) (hb hby d2_97) (fun _ _ => ⟨rfl, rfl, (by decide : 0 + 0 ≤ _), (by decide : 0 + 0 ≤ _)⟩)
  dsimp only [Pt.U, Pt.locs, Pt.cells, Pt.slots] at X6 l6 y6 z6 st6 hQ6
  subst l6 y6 z6
  obtain ⟨rfl, N6q, eq6⟩ := hQ6
  have N6 := Fr.app N5 N6q
  obtain ⟨fs, hr, hrun, hended, hW, hsame⟩ := X6.leave (v := some (.int (0 : Int32))) (fun h => by rw [Bd.returns] at h; cases h)
  refine ⟨_, _, pre0 _ ?_, hrun, hended, _, _, rfl, ?_, ⟨_, rfl⟩, hW, hsame.mono (by decide) (by decide)⟩
  · show Steps p.tables e below (s₁.setTop (mkF m 0 #[.val (.int p1), .unset] [])) _
    refine XS.iloadN X0.here hx rfl (hb hby d2_0) rfl ?_
    show Steps p.tables e below (s₁.setTop (mkF m 1 #[.val (.int p1), .unset] [(.int p1)])) _
    refine XS.bipush X0.here hx rfl (hb hby d2_1) ?_
    show Steps p.tables e below (s₁.setTop (mkF m 3 #[.val (.int p1), .unset] [(.int (65 : Int32)), (.int p1)])) _
    refine XS.icmpNo X0.here hx rfl (hb hby d2_3) rfl (flt hc3).1 ?_
    show Steps p.tables e below (s₁.setTop (mkF m 6 #[.val (.int p1), .unset] [])) _
    refine XS.iloadN X0.here hx rfl (hb hby d2_6) rfl ?_
    show Steps p.tables e below (s₁.setTop (mkF m 7 #[.val (.int p1), .unset] [(.int p1)])) _
    refine X0.ldcInt hx hown (mvT hZ (hw _ (List.mem_of_getElem? (i := 7) rfl))) (g := (mkF m 7 #[.val (.int p1), .unset] [(.int p1)])) rfl (hb hby d2_7) _ ?_
    show Steps p.tables e below (s₁.setTop (mkF m 9 #[.val (.int p1), .unset] [(.int (983039 : Int32)), (.int p1)])) _
    refine XS.icmpYes X0.here hx rfl (pc0 := 9) (pc' := 14) rfl (hb hby d2_9) rfl (flt hc9).2.2.2 (by decide) (by decide) ?_
    show Steps p.tables e below (s₁.setTop (mkF m 14 #[.val (.int p1), .unset] [])) _
    refine XS.iloadN X0.here hx rfl (hb hby d2_14) rfl ?_
    show Steps p.tables e below (s₁.setTop (mkF m 15 #[.val (.int p1), .unset] [(.int p1)])) _
    refine XS.bipush X0.here hx rfl (hb hby d2_15) ?_
    show Steps p.tables e below (s₁.setTop (mkF m 17 #[.val (.int p1), .unset] [(.int (91 : Int32)), (.int p1)])) _
    refine XS.bipush X0.here hx rfl (hb hby d2_17) ?_
    show Steps p.tables e below (s₁.setTop (mkF m 19 #[.val (.int p1), .unset] [(.int (94 : Int32)), (.int (91 : Int32)), (.int p1)])) _
    refine st2 _ ?_
    show Steps p.tables e below (T2.setTop (mkF m 22 #[.val (.int p1), .unset] [(.int (inF p1 (91 : Int32) (94 : Int32)))])) _
    refine XS.ifNo X2.here hx rfl (hb hby d2_22) rfl ((if0 _ _).trans (teq (hg22 : (inF p1 (91 : Int32) (94 : Int32)) = (0 : Int32))).2) ?_
    show Steps p.tables e below (T2.setTop (mkF m 25 #[.val (.int p1), .unset] [])) _
    refine XS.iloadN X2.here hx rfl (hb hby d2_25) rfl ?_
    show Steps p.tables e below (T2.setTop (mkF m 26 #[.val (.int p1), .unset] [(.int p1)])) _
    refine XS.bipush X2.here hx rfl (hb hby d2_26) ?_
    show Steps p.tables e below (T2.setTop (mkF m 28 #[.val (.int p1), .unset] [(.int (96 : Int32)), (.int p1)])) _
    refine XS.icmpNo X2.here hx rfl (hb hby d2_28) rfl (feq hc28).1 ?_
    show Steps p.tables e below (T2.setTop (mkF m 31 #[.val (.int p1), .unset] [])) _
    refine XS.iloadN X2.here hx rfl (hb hby d2_31) rfl ?_
    show Steps p.tables e below (T2.setTop (mkF m 32 #[.val (.int p1), .unset] [(.int p1)])) _
    refine XS.bipush X2.here hx rfl (hb hby d2_32) ?_
    show Steps p.tables e below (T2.setTop (mkF m 34 #[.val (.int p1), .unset] [(.int (123 : Int32)), (.int p1)])) _
    refine XS.sipush X2.here hx rfl (hb hby d2_34) ?_
    show Steps p.tables e below (T2.setTop (mkF m 37 #[.val (.int p1), .unset] [(.int (191 : Int32)), (.int (123 : Int32)), (.int p1)])) _
    refine st3 _ ?_
    show Steps p.tables e below (T3.setTop (mkF m 40 #[.val (.int p1), .unset] [(.int (inF p1 (123 : Int32) (191 : Int32)))])) _
    refine XS.ifNo X3.here hx rfl (hb hby d2_40) rfl ((if0 _ _).trans (teq (hg40 : (inF p1 (123 : Int32) (191 : Int32)) = (0 : Int32))).2) ?_
    show Steps p.tables e below (T3.setTop (mkF m 43 #[.val (.int p1), .unset] [])) _
    refine XS.iloadN X3.here hx rfl (hb hby d2_43) rfl ?_
    show Steps p.tables e below (T3.setTop (mkF m 44 #[.val (.int p1), .unset] [(.int p1)])) _
    refine XS.sipush X3.here hx rfl (hb hby d2_44) ?_
    show Steps p.tables e below (T3.setTop (mkF m 47 #[.val (.int p1), .unset] [(.int (215 : Int32)), (.int p1)])) _
    refine XS.icmpNo X3.here hx rfl (hb hby d2_47) rfl (feq hc47).1 ?_
    show Steps p.tables e below (T3.setTop (mkF m 50 #[.val (.int p1), .unset] [])) _
    refine XS.iloadN X3.here hx rfl (hb hby d2_50) rfl ?_
    show Steps p.tables e below (T3.setTop (mkF m 51 #[.val (.int p1), .unset] [(.int p1)])) _
    refine XS.sipush X3.here hx rfl (hb hby d2_51) ?_
    show Steps p.tables e below (T3.setTop (mkF m 54 #[.val (.int p1), .unset] [(.int (247 : Int32)), (.int p1)])) _
    refine XS.icmpNo X3.here hx rfl (hb hby d2_54) rfl (feq hc54).1 ?_
    show Steps p.tables e below (T3.setTop (mkF m 57 #[.val (.int p1), .unset] [])) _
    refine XS.iloadN X3.here hx rfl (hb hby d2_57) rfl ?_
    show Steps p.tables e below (T3.setTop (mkF m 58 #[.val (.int p1), .unset] [(.int p1)])) _
    refine XS.sipush X3.here hx rfl (hb hby d2_58) ?_
    show Steps p.tables e below (T3.setTop (mkF m 61 #[.val (.int p1), .unset] [(.int (768 : Int32)), (.int p1)])) _
    refine XS.sipush X3.here hx rfl (hb hby d2_61) ?_
    show Steps p.tables e below (T3.setTop (mkF m 64 #[.val (.int p1), .unset] [(.int (879 : Int32)), (.int (768 : Int32)), (.int p1)])) _
    refine st4 _ ?_
    show Steps p.tables e below (T4.setTop (mkF m 67 #[.val (.int p1), .unset] [(.int (inF p1 (768 : Int32) (879 : Int32)))])) _
    refine XS.ifNo X4.here hx rfl (hb hby d2_67) rfl ((if0 _ _).trans (teq (hg67 : (inF p1 (768 : Int32) (879 : Int32)) = (0 : Int32))).2) ?_
    show Steps p.tables e below (T4.setTop (mkF m 70 #[.val (.int p1), .unset] [])) _
    refine XS.iloadN X4.here hx rfl (hb hby d2_70) rfl ?_
    show Steps p.tables e below (T4.setTop (mkF m 71 #[.val (.int p1), .unset] [(.int p1)])) _
    refine XS.sipush X4.here hx rfl (hb hby d2_71) ?_
    show Steps p.tables e below (T4.setTop (mkF m 74 #[.val (.int p1), .unset] [(.int (894 : Int32)), (.int p1)])) _
    refine XS.icmpNo X4.here hx rfl (hb hby d2_74) rfl (feq hc74).1 ?_
    show Steps p.tables e below (T4.setTop (mkF m 77 #[.val (.int p1), .unset] [])) _
    refine XS.iloadN X4.here hx rfl (hb hby d2_77) rfl ?_
    show Steps p.tables e below (T4.setTop (mkF m 78 #[.val (.int p1), .unset] [(.int p1)])) _
    refine XS.sipush X4.here hx rfl (hb hby d2_78) ?_
    show Steps p.tables e below (T4.setTop (mkF m 81 #[.val (.int p1), .unset] [(.int (8192 : Int32)), (.int p1)])) _
    refine XS.sipush X4.here hx rfl (hb hby d2_81) ?_
    show Steps p.tables e below (T4.setTop (mkF m 84 #[.val (.int p1), .unset] [(.int (8203 : Int32)), (.int (8192 : Int32)), (.int p1)])) _
    refine st5 _ ?_
    show Steps p.tables e below (T5.setTop (mkF m 87 #[.val (.int p1), .unset] [(.int (inF p1 (8192 : Int32) (8203 : Int32)))])) _
    refine XS.ifNo X5.here hx rfl (hb hby d2_87) rfl ((if0 _ _).trans (teq (hg87 : (inF p1 (8192 : Int32) (8203 : Int32)) = (0 : Int32))).2) ?_
    show Steps p.tables e below (T5.setTop (mkF m 90 #[.val (.int p1), .unset] [])) _
    refine XS.iloadN X5.here hx rfl (hb hby d2_90) rfl ?_
    show Steps p.tables e below (T5.setTop (mkF m 91 #[.val (.int p1), .unset] [(.int p1)])) _
    refine XS.sipush X5.here hx rfl (hb hby d2_91) ?_
    show Steps p.tables e below (T5.setTop (mkF m 94 #[.val (.int p1), .unset] [(.int (8206 : Int32)), (.int p1)])) _
    refine XS.sipush X5.here hx rfl (hb hby d2_94) ?_
    show Steps p.tables e below (T5.setTop (mkF m 97 #[.val (.int p1), .unset] [(.int (8303 : Int32)), (.int (8206 : Int32)), (.int p1)])) _
    refine st6 _ ?_
    show Steps p.tables e below (T6.setTop (mkF m 100 #[.val (.int p1), .unset] [(.int (inF p1 (8206 : Int32) (8303 : Int32)))])) _
    refine XS.ifYes X6.here hx rfl (pc0 := 100) (pc' := 162) rfl (hb hby d2_100) rfl ((if0 _ _).trans (feq (hg100 : ¬ ((inF p1 (8206 : Int32) (8303 : Int32)) = (0 : Int32)))).2) (by decide) (by decide) ?_
    show Steps p.tables e below (T6.setTop (mkF m 162 #[.val (.int p1), .unset] [])) _
    refine XS.iconst X6.here hx rfl (hb hby d2_162) ?_
    show Steps p.tables e below (T6.setTop (mkF m 163 #[.val (.int p1), .unset] [(.int (1 : Int32))])) _
    refine XS.goto X6.here hx rfl (pc0 := 163) (pc' := 167) rfl (hb hby d2_163) (by decide) (by decide) ?_
    show Steps p.tables e below (T6.setTop (mkF m 167 #[.val (.int p1), .unset] [(.int (1 : Int32))])) _
    refine XS.istoreN X6.here hx rfl (hb hby d2_167) rfl (l' := #[.val (.int p1), .val (.int (1 : Int32))]) rfl ?_
    show Steps p.tables e below (T6.setTop (mkF m 168 #[.val (.int p1), .val (.int (1 : Int32))] [])) _
    refine XS.iloadN X6.here hx rfl (hb hby d2_168) rfl ?_
    show Steps p.tables e below (T6.setTop (mkF m 169 #[.val (.int p1), .val (.int (1 : Int32))] [(.int (1 : Int32))])) _
    refine XS.ifYes X6.here hx rfl (pc0 := 169) (pc' := 176) rfl (hb hby d2_169) rfl ((if0 _ _).trans (feq hc169).2) (by decide) (by decide) ?_
    show Steps p.tables e below (T6.setTop (mkF m 176 #[.val (.int p1), .val (.int (1 : Int32))] [])) _
    refine XS.iconst X6.here hx rfl (hb hby d2_176) ?_
    show Steps p.tables e below (T6.setTop (mkF m 177 #[.val (.int p1), .val (.int (1 : Int32))] [(.int (0 : Int32))])) _
    exact retN X6 hx (t := .boolean) Bd.returns (by simp) (hb hby d2_177) hr
  · show Q2 Z p1 h0 n0 _ T6.heap _
    exact ⟨by simp [rcF, hc3, hc9, hg22, hc28, hg40, hc47, hc54, hg67, hc74, hg87, hg100], N6, by rw [eq6, eq5, eq4, eq3, eq2]⟩
theorem d2_103 : decode method_3_code 103 = .ok (.iload_n 0, 1) := by decide +kernel
theorem d2_104 : decode method_3_code 104 = .ok (.sipush 8592, 3) := by decide +kernel
theorem d2_107 : decode method_3_code 107 = .ok (.sipush 11263, 3) := by decide +kernel
theorem d2_110 : decode method_3_code 110 = .ok (.invokestatic 8, 3) := by decide +kernel
theorem d2_113 : decode method_3_code 113 = .ok (.ifCond .ne 49, 3) := by decide +kernel
set_option maxRecDepth 65536 in
set_option maxHeartbeats 40000000 in
theorem rm2_ftffffffffftt (l : Launch) (Z : State) (a0 : Array Value) (hw : ∀ d ∈ tables_1, d.before a0 Z = true) (ws : List Jvm.Cond) (p1 : Int32) (h0 : Heap) (n0 : Nat) (Z0 : n0 ≤ h0.size) (hg22 : inF p1 (91 : Int32) (94 : Int32) = (0 : Int32)) (hg40 : inF p1 (123 : Int32) (191 : Int32) = (0 : Int32)) (hg67 : inF p1 (768 : Int32) (879 : Int32) = (0 : Int32)) (hg87 : inF p1 (8192 : Int32) (8203 : Int32) = (0 : Int32)) (hg100 : inF p1 (8206 : Int32) (8303 : Int32) = (0 : Int32)) (hg113 : ¬ (inF p1 (8592 : Int32) (11263 : Int32) = (0 : Int32))) (hc3 : ¬ (p1 < (65 : Int32))) (hc9 : ¬ ((983039 : Int32) < p1)) (hc28 : ¬ (p1 = (96 : Int32))) (hc47 : ¬ (p1 = (215 : Int32))) (hc54 : ¬ (p1 = (247 : Int32))) (hc74 : ¬ (p1 = (894 : Int32))) :
    MetFree l (⟨"com/example/narrow_tree/narrowtree/document/XmlSyntaxIsNcNameStartCharacterPinLaw", "ref", "(I)Z"⟩ : MethodName) (head1 (Jvm.Cond.code (⟨"com/example/narrow_tree/narrowtree/document/XmlSyntaxIsNcNameStartCharacterPinLaw", "ref", "(I)Z"⟩ : MethodName) method_3_code 2 (some .boolean) :: ws) ({ frames := 1, cells := 0, slots := 0, locals := 14 } : Room)) (fun a U => a = #[(.int p1)] ∧ Z.Warmed39 U.vm ∧ U.heap = h0) (fun _ _ _ _ _ => True) (fun _ U o U' => ∃ v L, o = .returned v ∧ Q2 Z p1 h0 n0 v U'.heap L ∧ FrameEnd U o U' L ({ frames := 1, cells := 0, slots := 0, locals := 14 } : Room).cells ({ frames := 1, cells := 0, slots := 0, locals := 14 } : Room).slots) := by
  refine MetFree.of_bodySF (plainFor_of_name pn_2) hisR ?_
  intro p e s m args below meth c s₁ Bd hml0 hP hK
  obtain ⟨rfl, hZ, hh⟩ := hP
  have hx := Bd.exec
  have hby := Bd.bytes
  have hml : c.maxLocals = 2 := hml0
  have hown : s.vm.findClass "com/example/narrow_tree/narrowtree/document/XmlSyntaxIsNcNameStartCharacterPinLaw" = some m.cls := findClass_of_methodNamed Bd.named
  have hnm := (name_of_methodNamed Bd.named Bd.method).1
  have X0 : Stand p l e ({ frames := 1, cells := 0, slots := 0, locals := 14 } : Room) s m #[(.int p1)] below meth c s₁ [] 0 0 := Stand.of_body Bd
  have e0 : s₁.heap = h0 := by rw [← hh, Bd.state]; rfl
  have hc169 : ¬ ((1 : Int32) = (0 : Int32)) := by decide
  have N0 := Fr.nil n0
  have pre0 : ∀ t, Steps p.tables e below (s₁.setTop (mkF m 0 #[.val (.int p1), .unset] [])) t → Steps p.tables e below (s₁.setTop (entryFrame m #[(.int p1)] 2)) t := fun t k => castTop (ef_2 m p1) k
  obtain ⟨_, _, ⟨T2, L2, k2, n2⟩, -, X2, ⟨Lc2, hQ2, l2, y2, z2⟩, st2⟩ := Jvm.LawKit.callS X0 hx (y := (⟨"com/example/narrow_tree/narrowtree/document/XmlSyntaxIsNcNameStartCharacterPinLaw", "in", "(III)Z"⟩ : MethodName)) hown (mvT hZ (hw _ (List.mem_of_getElem? (i := 20) rfl))) (mvT hZ (hw _ (List.mem_of_getElem? (i := 21) rfl))) (mvT hZ (hw _ (List.mem_of_getElem? (i := 18) rfl))) (mvT hZ (hw _ (List.mem_of_getElem? (i := 22) rfl))) (by decide) (backOf (W := 0) (rm3 l Z a0 hw [] p1 (91 : Int32) (94 : Int32) h0 n0 Z0) hZ (hw _ (List.mem_of_getElem? (i := 22) rfl)) (hw _ (List.mem_of_getElem? (i := 18) rfl)) (by decide) (by decide)) (g := (mkF m 19 #[.val (.int p1), .unset] [(.int (94 : Int32)), (.int (91 : Int32)), (.int p1)])) rfl (by rw [hml]; rfl) (argsL := [(.int p1), (.int (91 : Int32)), (.int (94 : Int32))]) (rest := []) (lenOf pd_2_1 rfl) rfl (by show 2 * 0 + _ ≤ _; exact Nat.le_of_eq rfl) (hb hby d2_19) (fun _ _ => ⟨rfl, e0, (by decide : 0 + 0 ≤ _), (by decide : 0 + 0 ≤ _)⟩)
  dsimp only [Pt.U, Pt.locs, Pt.cells, Pt.slots] at X2 l2 y2 z2 st2 hQ2
  subst l2 y2 z2
  obtain ⟨rfl, N2q, eq2⟩ := hQ2
  have N2 := Fr.app N0 N2q
  obtain ⟨_, _, ⟨T3, L3, k3, n3⟩, -, X3, ⟨Lc3, hQ3, l3, y3, z3⟩, st3⟩ := Jvm.LawKit.callS X2 hx (y := (⟨"com/example/narrow_tree/narrowtree/document/XmlSyntaxIsNcNameStartCharacterPinLaw", "in", "(III)Z"⟩ : MethodName)) hown (mvT hZ (hw _ (List.mem_of_getElem? (i := 20) rfl))) (mvT hZ (hw _ (List.mem_of_getElem? (i := 21) rfl))) (mvT hZ (hw _ (List.mem_of_getElem? (i := 18) rfl))) (mvT hZ (hw _ (List.mem_of_getElem? (i := 22) rfl))) (by decide) (backOf (W := 0) (rm3 l Z a0 hw [] p1 (123 : Int32) (191 : Int32) T2.heap n0 (by rw [eq2]; exact Z0)) hZ (hw _ (List.mem_of_getElem? (i := 22) rfl)) (hw _ (List.mem_of_getElem? (i := 18) rfl)) (by decide) (by decide)) (g := (mkF m 37 #[.val (.int p1), .unset] [(.int (191 : Int32)), (.int (123 : Int32)), (.int p1)])) rfl (by rw [hml]; rfl) (argsL := [(.int p1), (.int (123 : Int32)), (.int (191 : Int32))]) (rest := []) (lenOf pd_2_1 rfl) rfl (by show 2 * 0 + _ ≤ _; exact Nat.le_of_eq rfl) (hb hby d2_37) (fun _ _ => ⟨rfl, rfl, (by decide : 0 + 0 ≤ _), (by decide : 0 + 0 ≤ _)⟩)
  dsimp only [Pt.U, Pt.locs, Pt.cells, Pt.slots] at X3 l3 y3 z3 st3 hQ3
  subst l3 y3 z3
  obtain ⟨rfl, N3q, eq3⟩ := hQ3
  have N3 := Fr.app N2 N3q
  obtain ⟨_, _, ⟨T4, L4, k4, n4⟩, -, X4, ⟨Lc4, hQ4, l4, y4, z4⟩, st4⟩ := Jvm.LawKit.callS X3 hx (y := (⟨"com/example/narrow_tree/narrowtree/document/XmlSyntaxIsNcNameStartCharacterPinLaw", "in", "(III)Z"⟩ : MethodName)) hown (mvT hZ (hw _ (List.mem_of_getElem? (i := 20) rfl))) (mvT hZ (hw _ (List.mem_of_getElem? (i := 21) rfl))) (mvT hZ (hw _ (List.mem_of_getElem? (i := 18) rfl))) (mvT hZ (hw _ (List.mem_of_getElem? (i := 22) rfl))) (by decide) (backOf (W := 0) (rm3 l Z a0 hw [] p1 (768 : Int32) (879 : Int32) T3.heap n0 (by rw [eq3, eq2]; exact Z0)) hZ (hw _ (List.mem_of_getElem? (i := 22) rfl)) (hw _ (List.mem_of_getElem? (i := 18) rfl)) (by decide) (by decide)) (g := (mkF m 64 #[.val (.int p1), .unset] [(.int (879 : Int32)), (.int (768 : Int32)), (.int p1)])) rfl (by rw [hml]; rfl) (argsL := [(.int p1), (.int (768 : Int32)), (.int (879 : Int32))]) (rest := []) (lenOf pd_2_1 rfl) rfl (by show 2 * 0 + _ ≤ _; exact Nat.le_of_eq rfl) (hb hby d2_64) (fun _ _ => ⟨rfl, rfl, (by decide : 0 + 0 ≤ _), (by decide : 0 + 0 ≤ _)⟩)
  dsimp only [Pt.U, Pt.locs, Pt.cells, Pt.slots] at X4 l4 y4 z4 st4 hQ4
  subst l4 y4 z4
  obtain ⟨rfl, N4q, eq4⟩ := hQ4
  have N4 := Fr.app N3 N4q
  obtain ⟨_, _, ⟨T5, L5, k5, n5⟩, -, X5, ⟨Lc5, hQ5, l5, y5, z5⟩, st5⟩ := Jvm.LawKit.callS X4 hx (y := (⟨"com/example/narrow_tree/narrowtree/document/XmlSyntaxIsNcNameStartCharacterPinLaw", "in", "(III)Z"⟩ : MethodName)) hown (mvT hZ (hw _ (List.mem_of_getElem? (i := 20) rfl))) (mvT hZ (hw _ (List.mem_of_getElem? (i := 21) rfl))) (mvT hZ (hw _ (List.mem_of_getElem? (i := 18) rfl))) (mvT hZ (hw _ (List.mem_of_getElem? (i := 22) rfl))) (by decide) (backOf (W := 0) (rm3 l Z a0 hw [] p1 (8192 : Int32) (8203 : Int32) T4.heap n0 (by rw [eq4, eq3, eq2]; exact Z0)) hZ (hw _ (List.mem_of_getElem? (i := 22) rfl)) (hw _ (List.mem_of_getElem? (i := 18) rfl)) (by decide) (by decide)) (g := (mkF m 84 #[.val (.int p1), .unset] [(.int (8203 : Int32)), (.int (8192 : Int32)), (.int p1)])) rfl (by rw [hml]; rfl) (argsL := [(.int p1), (.int (8192 : Int32)), (.int (8203 : Int32))]) (rest := []) (lenOf pd_2_1 rfl) rfl (by show 2 * 0 + _ ≤ _; exact Nat.le_of_eq rfl) (hb hby d2_84) (fun _ _ => ⟨rfl, rfl, (by decide : 0 + 0 ≤ _), (by decide : 0 + 0 ≤ _)⟩)
  dsimp only [Pt.U, Pt.locs, Pt.cells, Pt.slots] at X5 l5 y5 z5 st5 hQ5
  subst l5 y5 z5
  obtain ⟨rfl, N5q, eq5⟩ := hQ5
  have N5 := Fr.app N4 N5q
  obtain ⟨_, _, ⟨T6, L6, k6, n6⟩, -, X6, ⟨Lc6, hQ6, l6, y6, z6⟩, st6⟩ := Jvm.LawKit.callS X5 hx (y := (⟨"com/example/narrow_tree/narrowtree/document/XmlSyntaxIsNcNameStartCharacterPinLaw", "in", "(III)Z"⟩ : MethodName)) hown (mvT hZ (hw _ (List.mem_of_getElem? (i := 20) rfl))) (mvT hZ (hw _ (List.mem_of_getElem? (i := 21) rfl))) (mvT hZ (hw _ (List.mem_of_getElem? (i := 18) rfl))) (mvT hZ (hw _ (List.mem_of_getElem? (i := 22) rfl))) (by decide) (backOf (W := 0) (rm3 l Z a0 hw [] p1 (8206 : Int32) (8303 : Int32) T5.heap n0 (by rw [eq5, eq4, eq3, eq2]; exact Z0)) hZ (hw _ (List.mem_of_getElem? (i := 22) rfl)) (hw _ (List.mem_of_getElem? (i := 18) rfl)) (by decide) (by decide)) (g := (mkF m 97 #[.val (.int p1), .unset] [(.int (8303 : Int32)), (.int (8206 : Int32)), (.int p1)])) rfl (by rw [hml]; rfl) (argsL := [(.int p1), (.int (8206 : Int32)), (.int (8303 : Int32))]) (rest := []) (lenOf pd_2_1 rfl) rfl (by show 2 * 0 + _ ≤ _; exact Nat.le_of_eq rfl) (hb hby d2_97) (fun _ _ => ⟨rfl, rfl, (by decide : 0 + 0 ≤ _), (by decide : 0 + 0 ≤ _)⟩)
  dsimp only [Pt.U, Pt.locs, Pt.cells, Pt.slots] at X6 l6 y6 z6 st6 hQ6
  subst l6 y6 z6
  obtain ⟨rfl, N6q, eq6⟩ := hQ6
  have N6 := Fr.app N5 N6q
  obtain ⟨_, _, ⟨T7, L7, k7, n7⟩, -, X7, ⟨Lc7, hQ7, l7, y7, z7⟩, st7⟩ := Jvm.LawKit.callS X6 hx (y := (⟨"com/example/narrow_tree/narrowtree/document/XmlSyntaxIsNcNameStartCharacterPinLaw", "in", "(III)Z"⟩ : MethodName)) hown (mvT hZ (hw _ (List.mem_of_getElem? (i := 20) rfl))) (mvT hZ (hw _ (List.mem_of_getElem? (i := 21) rfl))) (mvT hZ (hw _ (List.mem_of_getElem? (i := 18) rfl))) (mvT hZ (hw _ (List.mem_of_getElem? (i := 22) rfl))) (by decide) (backOf (W := 0) (rm3 l Z a0 hw [] p1 (8592 : Int32) (11263 : Int32) T6.heap n0 (by rw [eq6, eq5, eq4, eq3, eq2]; exact Z0)) hZ (hw _ (List.mem_of_getElem? (i := 22) rfl)) (hw _ (List.mem_of_getElem? (i := 18) rfl)) (by decide) (by decide)) (g := (mkF m 110 #[.val (.int p1), .unset] [(.int (11263 : Int32)), (.int (8592 : Int32)), (.int p1)])) rfl (by rw [hml]; rfl) (argsL := [(.int p1), (.int (8592 : Int32)), (.int (11263 : Int32))]) (rest := []) (lenOf pd_2_1 rfl) rfl (by show 2 * 0 + _ ≤ _; exact Nat.le_of_eq rfl) (hb hby d2_110) (fun _ _ => ⟨rfl, rfl, (by decide : 0 + 0 ≤ _), (by decide : 0 + 0 ≤ _)⟩)
  dsimp only [Pt.U, Pt.locs, Pt.cells, Pt.slots] at X7 l7 y7 z7 st7 hQ7
  subst l7 y7 z7
  obtain ⟨rfl, N7q, eq7⟩ := hQ7
  have N7 := Fr.app N6 N7q
  obtain ⟨fs, hr, hrun, hended, hW, hsame⟩ := X7.leave (v := some (.int (0 : Int32))) (fun h => by rw [Bd.returns] at h; cases h)
  refine ⟨_, _, pre0 _ ?_, hrun, hended, _, _, rfl, ?_, ⟨_, rfl⟩, hW, hsame.mono (by decide) (by decide)⟩
  · show Steps p.tables e below (s₁.setTop (mkF m 0 #[.val (.int p1), .unset] [])) _
    refine XS.iloadN X0.here hx rfl (hb hby d2_0) rfl ?_
    show Steps p.tables e below (s₁.setTop (mkF m 1 #[.val (.int p1), .unset] [(.int p1)])) _
    refine XS.bipush X0.here hx rfl (hb hby d2_1) ?_
    show Steps p.tables e below (s₁.setTop (mkF m 3 #[.val (.int p1), .unset] [(.int (65 : Int32)), (.int p1)])) _
    refine XS.icmpNo X0.here hx rfl (hb hby d2_3) rfl (flt hc3).1 ?_
    show Steps p.tables e below (s₁.setTop (mkF m 6 #[.val (.int p1), .unset] [])) _
    refine XS.iloadN X0.here hx rfl (hb hby d2_6) rfl ?_
    show Steps p.tables e below (s₁.setTop (mkF m 7 #[.val (.int p1), .unset] [(.int p1)])) _
    refine X0.ldcInt hx hown (mvT hZ (hw _ (List.mem_of_getElem? (i := 7) rfl))) (g := (mkF m 7 #[.val (.int p1), .unset] [(.int p1)])) rfl (hb hby d2_7) _ ?_
    show Steps p.tables e below (s₁.setTop (mkF m 9 #[.val (.int p1), .unset] [(.int (983039 : Int32)), (.int p1)])) _
    refine XS.icmpYes X0.here hx rfl (pc0 := 9) (pc' := 14) rfl (hb hby d2_9) rfl (flt hc9).2.2.2 (by decide) (by decide) ?_
    show Steps p.tables e below (s₁.setTop (mkF m 14 #[.val (.int p1), .unset] [])) _
    refine XS.iloadN X0.here hx rfl (hb hby d2_14) rfl ?_
    show Steps p.tables e below (s₁.setTop (mkF m 15 #[.val (.int p1), .unset] [(.int p1)])) _
    refine XS.bipush X0.here hx rfl (hb hby d2_15) ?_
    show Steps p.tables e below (s₁.setTop (mkF m 17 #[.val (.int p1), .unset] [(.int (91 : Int32)), (.int p1)])) _
    refine XS.bipush X0.here hx rfl (hb hby d2_17) ?_
    show Steps p.tables e below (s₁.setTop (mkF m 19 #[.val (.int p1), .unset] [(.int (94 : Int32)), (.int (91 : Int32)), (.int p1)])) _
    refine st2 _ ?_
    show Steps p.tables e below (T2.setTop (mkF m 22 #[.val (.int p1), .unset] [(.int (inF p1 (91 : Int32) (94 : Int32)))])) _
    refine XS.ifNo X2.here hx rfl (hb hby d2_22) rfl ((if0 _ _).trans (teq (hg22 : (inF p1 (91 : Int32) (94 : Int32)) = (0 : Int32))).2) ?_
    show Steps p.tables e below (T2.setTop (mkF m 25 #[.val (.int p1), .unset] [])) _
    refine XS.iloadN X2.here hx rfl (hb hby d2_25) rfl ?_
    show Steps p.tables e below (T2.setTop (mkF m 26 #[.val (.int p1), .unset] [(.int p1)])) _
    refine XS.bipush X2.here hx rfl (hb hby d2_26) ?_
    show Steps p.tables e below (T2.setTop (mkF m 28 #[.val (.int p1), .unset] [(.int (96 : Int32)), (.int p1)])) _
    refine XS.icmpNo X2.here hx rfl (hb hby d2_28) rfl (feq hc28).1 ?_
    show Steps p.tables e below (T2.setTop (mkF m 31 #[.val (.int p1), .unset] [])) _
    refine XS.iloadN X2.here hx rfl (hb hby d2_31) rfl ?_
    show Steps p.tables e below (T2.setTop (mkF m 32 #[.val (.int p1), .unset] [(.int p1)])) _
    refine XS.bipush X2.here hx rfl (hb hby d2_32) ?_
    show Steps p.tables e below (T2.setTop (mkF m 34 #[.val (.int p1), .unset] [(.int (123 : Int32)), (.int p1)])) _
    refine XS.sipush X2.here hx rfl (hb hby d2_34) ?_
    show Steps p.tables e below (T2.setTop (mkF m 37 #[.val (.int p1), .unset] [(.int (191 : Int32)), (.int (123 : Int32)), (.int p1)])) _
    refine st3 _ ?_
    show Steps p.tables e below (T3.setTop (mkF m 40 #[.val (.int p1), .unset] [(.int (inF p1 (123 : Int32) (191 : Int32)))])) _
    refine XS.ifNo X3.here hx rfl (hb hby d2_40) rfl ((if0 _ _).trans (teq (hg40 : (inF p1 (123 : Int32) (191 : Int32)) = (0 : Int32))).2) ?_
    show Steps p.tables e below (T3.setTop (mkF m 43 #[.val (.int p1), .unset] [])) _
    refine XS.iloadN X3.here hx rfl (hb hby d2_43) rfl ?_
    show Steps p.tables e below (T3.setTop (mkF m 44 #[.val (.int p1), .unset] [(.int p1)])) _
    refine XS.sipush X3.here hx rfl (hb hby d2_44) ?_
    show Steps p.tables e below (T3.setTop (mkF m 47 #[.val (.int p1), .unset] [(.int (215 : Int32)), (.int p1)])) _
    refine XS.icmpNo X3.here hx rfl (hb hby d2_47) rfl (feq hc47).1 ?_
    show Steps p.tables e below (T3.setTop (mkF m 50 #[.val (.int p1), .unset] [])) _
    refine XS.iloadN X3.here hx rfl (hb hby d2_50) rfl ?_
    show Steps p.tables e below (T3.setTop (mkF m 51 #[.val (.int p1), .unset] [(.int p1)])) _
    refine XS.sipush X3.here hx rfl (hb hby d2_51) ?_
    show Steps p.tables e below (T3.setTop (mkF m 54 #[.val (.int p1), .unset] [(.int (247 : Int32)), (.int p1)])) _
    refine XS.icmpNo X3.here hx rfl (hb hby d2_54) rfl (feq hc54).1 ?_
    show Steps p.tables e below (T3.setTop (mkF m 57 #[.val (.int p1), .unset] [])) _
    refine XS.iloadN X3.here hx rfl (hb hby d2_57) rfl ?_
    show Steps p.tables e below (T3.setTop (mkF m 58 #[.val (.int p1), .unset] [(.int p1)])) _
    refine XS.sipush X3.here hx rfl (hb hby d2_58) ?_
    show Steps p.tables e below (T3.setTop (mkF m 61 #[.val (.int p1), .unset] [(.int (768 : Int32)), (.int p1)])) _
    refine XS.sipush X3.here hx rfl (hb hby d2_61) ?_
    show Steps p.tables e below (T3.setTop (mkF m 64 #[.val (.int p1), .unset] [(.int (879 : Int32)), (.int (768 : Int32)), (.int p1)])) _
    refine st4 _ ?_
    show Steps p.tables e below (T4.setTop (mkF m 67 #[.val (.int p1), .unset] [(.int (inF p1 (768 : Int32) (879 : Int32)))])) _
    refine XS.ifNo X4.here hx rfl (hb hby d2_67) rfl ((if0 _ _).trans (teq (hg67 : (inF p1 (768 : Int32) (879 : Int32)) = (0 : Int32))).2) ?_
    show Steps p.tables e below (T4.setTop (mkF m 70 #[.val (.int p1), .unset] [])) _
    refine XS.iloadN X4.here hx rfl (hb hby d2_70) rfl ?_
    show Steps p.tables e below (T4.setTop (mkF m 71 #[.val (.int p1), .unset] [(.int p1)])) _
    refine XS.sipush X4.here hx rfl (hb hby d2_71) ?_
    show Steps p.tables e below (T4.setTop (mkF m 74 #[.val (.int p1), .unset] [(.int (894 : Int32)), (.int p1)])) _
    refine XS.icmpNo X4.here hx rfl (hb hby d2_74) rfl (feq hc74).1 ?_
    show Steps p.tables e below (T4.setTop (mkF m 77 #[.val (.int p1), .unset] [])) _
    refine XS.iloadN X4.here hx rfl (hb hby d2_77) rfl ?_
    show Steps p.tables e below (T4.setTop (mkF m 78 #[.val (.int p1), .unset] [(.int p1)])) _
    refine XS.sipush X4.here hx rfl (hb hby d2_78) ?_
    show Steps p.tables e below (T4.setTop (mkF m 81 #[.val (.int p1), .unset] [(.int (8192 : Int32)), (.int p1)])) _
    refine XS.sipush X4.here hx rfl (hb hby d2_81) ?_
    show Steps p.tables e below (T4.setTop (mkF m 84 #[.val (.int p1), .unset] [(.int (8203 : Int32)), (.int (8192 : Int32)), (.int p1)])) _
    refine st5 _ ?_
    show Steps p.tables e below (T5.setTop (mkF m 87 #[.val (.int p1), .unset] [(.int (inF p1 (8192 : Int32) (8203 : Int32)))])) _
    refine XS.ifNo X5.here hx rfl (hb hby d2_87) rfl ((if0 _ _).trans (teq (hg87 : (inF p1 (8192 : Int32) (8203 : Int32)) = (0 : Int32))).2) ?_
    show Steps p.tables e below (T5.setTop (mkF m 90 #[.val (.int p1), .unset] [])) _
    refine XS.iloadN X5.here hx rfl (hb hby d2_90) rfl ?_
    show Steps p.tables e below (T5.setTop (mkF m 91 #[.val (.int p1), .unset] [(.int p1)])) _
    refine XS.sipush X5.here hx rfl (hb hby d2_91) ?_
    show Steps p.tables e below (T5.setTop (mkF m 94 #[.val (.int p1), .unset] [(.int (8206 : Int32)), (.int p1)])) _
    refine XS.sipush X5.here hx rfl (hb hby d2_94) ?_
    show Steps p.tables e below (T5.setTop (mkF m 97 #[.val (.int p1), .unset] [(.int (8303 : Int32)), (.int (8206 : Int32)), (.int p1)])) _
    refine st6 _ ?_
    show Steps p.tables e below (T6.setTop (mkF m 100 #[.val (.int p1), .unset] [(.int (inF p1 (8206 : Int32) (8303 : Int32)))])) _
    refine XS.ifNo X6.here hx rfl (hb hby d2_100) rfl ((if0 _ _).trans (teq (hg100 : (inF p1 (8206 : Int32) (8303 : Int32)) = (0 : Int32))).2) ?_
    show Steps p.tables e below (T6.setTop (mkF m 103 #[.val (.int p1), .unset] [])) _
    refine XS.iloadN X6.here hx rfl (hb hby d2_103) rfl ?_
    show Steps p.tables e below (T6.setTop (mkF m 104 #[.val (.int p1), .unset] [(.int p1)])) _
    refine XS.sipush X6.here hx rfl (hb hby d2_104) ?_
    show Steps p.tables e below (T6.setTop (mkF m 107 #[.val (.int p1), .unset] [(.int (8592 : Int32)), (.int p1)])) _
    refine XS.sipush X6.here hx rfl (hb hby d2_107) ?_
    show Steps p.tables e below (T6.setTop (mkF m 110 #[.val (.int p1), .unset] [(.int (11263 : Int32)), (.int (8592 : Int32)), (.int p1)])) _
    refine st7 _ ?_
    show Steps p.tables e below (T7.setTop (mkF m 113 #[.val (.int p1), .unset] [(.int (inF p1 (8592 : Int32) (11263 : Int32)))])) _
    refine XS.ifYes X7.here hx rfl (pc0 := 113) (pc' := 162) rfl (hb hby d2_113) rfl ((if0 _ _).trans (feq (hg113 : ¬ ((inF p1 (8592 : Int32) (11263 : Int32)) = (0 : Int32)))).2) (by decide) (by decide) ?_
    show Steps p.tables e below (T7.setTop (mkF m 162 #[.val (.int p1), .unset] [])) _
    refine XS.iconst X7.here hx rfl (hb hby d2_162) ?_
    show Steps p.tables e below (T7.setTop (mkF m 163 #[.val (.int p1), .unset] [(.int (1 : Int32))])) _
    refine XS.goto X7.here hx rfl (pc0 := 163) (pc' := 167) rfl (hb hby d2_163) (by decide) (by decide) ?_
    show Steps p.tables e below (T7.setTop (mkF m 167 #[.val (.int p1), .unset] [(.int (1 : Int32))])) _
    refine XS.istoreN X7.here hx rfl (hb hby d2_167) rfl (l' := #[.val (.int p1), .val (.int (1 : Int32))]) rfl ?_
    show Steps p.tables e below (T7.setTop (mkF m 168 #[.val (.int p1), .val (.int (1 : Int32))] [])) _
    refine XS.iloadN X7.here hx rfl (hb hby d2_168) rfl ?_
    show Steps p.tables e below (T7.setTop (mkF m 169 #[.val (.int p1), .val (.int (1 : Int32))] [(.int (1 : Int32))])) _
    refine XS.ifYes X7.here hx rfl (pc0 := 169) (pc' := 176) rfl (hb hby d2_169) rfl ((if0 _ _).trans (feq hc169).2) (by decide) (by decide) ?_
    show Steps p.tables e below (T7.setTop (mkF m 176 #[.val (.int p1), .val (.int (1 : Int32))] [])) _
    refine XS.iconst X7.here hx rfl (hb hby d2_176) ?_
    show Steps p.tables e below (T7.setTop (mkF m 177 #[.val (.int p1), .val (.int (1 : Int32))] [(.int (0 : Int32))])) _
    exact retN X7 hx (t := .boolean) Bd.returns (by simp) (hb hby d2_177) hr
  · show Q2 Z p1 h0 n0 _ T7.heap _
    exact ⟨by simp [rcF, hc3, hc9, hg22, hc28, hg40, hc47, hc54, hg67, hc74, hg87, hg100, hg113], N7, by rw [eq7, eq6, eq5, eq4, eq3, eq2]⟩
theorem d2_116 : decode method_3_code 116 = .ok (.iload_n 0, 1) := by decide +kernel
theorem d2_117 : decode method_3_code 117 = .ok (.sipush 12272, 3) := by decide +kernel
theorem d2_120 : decode method_3_code 120 = .ok (.sipush 12288, 3) := by decide +kernel
theorem d2_123 : decode method_3_code 123 = .ok (.invokestatic 8, 3) := by decide +kernel
theorem d2_126 : decode method_3_code 126 = .ok (.ifCond .ne 36, 3) := by decide +kernel
set_option maxRecDepth 65536 in
set_option maxHeartbeats 40000000 in
theorem rm2_ftfffffffffftt (l : Launch) (Z : State) (a0 : Array Value) (hw : ∀ d ∈ tables_1, d.before a0 Z = true) (ws : List Jvm.Cond) (p1 : Int32) (h0 : Heap) (n0 : Nat) (Z0 : n0 ≤ h0.size) (hg22 : inF p1 (91 : Int32) (94 : Int32) = (0 : Int32)) (hg40 : inF p1 (123 : Int32) (191 : Int32) = (0 : Int32)) (hg67 : inF p1 (768 : Int32) (879 : Int32) = (0 : Int32)) (hg87 : inF p1 (8192 : Int32) (8203 : Int32) = (0 : Int32)) (hg100 : inF p1 (8206 : Int32) (8303 : Int32) = (0 : Int32)) (hg113 : inF p1 (8592 : Int32) (11263 : Int32) = (0 : Int32)) (hg126 : ¬ (inF p1 (12272 : Int32) (12288 : Int32) = (0 : Int32))) (hc3 : ¬ (p1 < (65 : Int32))) (hc9 : ¬ ((983039 : Int32) < p1)) (hc28 : ¬ (p1 = (96 : Int32))) (hc47 : ¬ (p1 = (215 : Int32))) (hc54 : ¬ (p1 = (247 : Int32))) (hc74 : ¬ (p1 = (894 : Int32))) :
    MetFree l (⟨"com/example/narrow_tree/narrowtree/document/XmlSyntaxIsNcNameStartCharacterPinLaw", "ref", "(I)Z"⟩ : MethodName) (head1 (Jvm.Cond.code (⟨"com/example/narrow_tree/narrowtree/document/XmlSyntaxIsNcNameStartCharacterPinLaw", "ref", "(I)Z"⟩ : MethodName) method_3_code 2 (some .boolean) :: ws) ({ frames := 1, cells := 0, slots := 0, locals := 14 } : Room)) (fun a U => a = #[(.int p1)] ∧ Z.Warmed39 U.vm ∧ U.heap = h0) (fun _ _ _ _ _ => True) (fun _ U o U' => ∃ v L, o = .returned v ∧ Q2 Z p1 h0 n0 v U'.heap L ∧ FrameEnd U o U' L ({ frames := 1, cells := 0, slots := 0, locals := 14 } : Room).cells ({ frames := 1, cells := 0, slots := 0, locals := 14 } : Room).slots) := by
  refine MetFree.of_bodySF (plainFor_of_name pn_2) hisR ?_
  intro p e s m args below meth c s₁ Bd hml0 hP hK
  obtain ⟨rfl, hZ, hh⟩ := hP
  have hx := Bd.exec
  have hby := Bd.bytes
  have hml : c.maxLocals = 2 := hml0
  have hown : s.vm.findClass "com/example/narrow_tree/narrowtree/document/XmlSyntaxIsNcNameStartCharacterPinLaw" = some m.cls := findClass_of_methodNamed Bd.named
  have hnm := (name_of_methodNamed Bd.named Bd.method).1
  have X0 : Stand p l e ({ frames := 1, cells := 0, slots := 0, locals := 14 } : Room) s m #[(.int p1)] below meth c s₁ [] 0 0 := Stand.of_body Bd
  have e0 : s₁.heap = h0 := by rw [← hh, Bd.state]; rfl
  have hc169 : ¬ ((1 : Int32) = (0 : Int32)) := by decide
  have N0 := Fr.nil n0
  have pre0 : ∀ t, Steps p.tables e below (s₁.setTop (mkF m 0 #[.val (.int p1), .unset] [])) t → Steps p.tables e below (s₁.setTop (entryFrame m #[(.int p1)] 2)) t := fun t k => castTop (ef_2 m p1) k
  obtain ⟨_, _, ⟨T2, L2, k2, n2⟩, -, X2, ⟨Lc2, hQ2, l2, y2, z2⟩, st2⟩ := Jvm.LawKit.callS X0 hx (y := (⟨"com/example/narrow_tree/narrowtree/document/XmlSyntaxIsNcNameStartCharacterPinLaw", "in", "(III)Z"⟩ : MethodName)) hown (mvT hZ (hw _ (List.mem_of_getElem? (i := 20) rfl))) (mvT hZ (hw _ (List.mem_of_getElem? (i := 21) rfl))) (mvT hZ (hw _ (List.mem_of_getElem? (i := 18) rfl))) (mvT hZ (hw _ (List.mem_of_getElem? (i := 22) rfl))) (by decide) (backOf (W := 0) (rm3 l Z a0 hw [] p1 (91 : Int32) (94 : Int32) h0 n0 Z0) hZ (hw _ (List.mem_of_getElem? (i := 22) rfl)) (hw _ (List.mem_of_getElem? (i := 18) rfl)) (by decide) (by decide)) (g := (mkF m 19 #[.val (.int p1), .unset] [(.int (94 : Int32)), (.int (91 : Int32)), (.int p1)])) rfl (by rw [hml]; rfl) (argsL := [(.int p1), (.int (91 : Int32)), (.int (94 : Int32))]) (rest := []) (lenOf pd_2_1 rfl) rfl (by show 2 * 0 + _ ≤ _; exact Nat.le_of_eq rfl) (hb hby d2_19) (fun _ _ => ⟨rfl, e0, (by decide : 0 + 0 ≤ _), (by decide : 0 + 0 ≤ _)⟩)
  dsimp only [Pt.U, Pt.locs, Pt.cells, Pt.slots] at X2 l2 y2 z2 st2 hQ2
  subst l2 y2 z2
  obtain ⟨rfl, N2q, eq2⟩ := hQ2
  have N2 := Fr.app N0 N2q
  obtain ⟨_, _, ⟨T3, L3, k3, n3⟩, -, X3, ⟨Lc3, hQ3, l3, y3, z3⟩, st3⟩ := Jvm.LawKit.callS X2 hx (y := (⟨"com/example/narrow_tree/narrowtree/document/XmlSyntaxIsNcNameStartCharacterPinLaw", "in", "(III)Z"⟩ : MethodName)) hown (mvT hZ (hw _ (List.mem_of_getElem? (i := 20) rfl))) (mvT hZ (hw _ (List.mem_of_getElem? (i := 21) rfl))) (mvT hZ (hw _ (List.mem_of_getElem? (i := 18) rfl))) (mvT hZ (hw _ (List.mem_of_getElem? (i := 22) rfl))) (by decide) (backOf (W := 0) (rm3 l Z a0 hw [] p1 (123 : Int32) (191 : Int32) T2.heap n0 (by rw [eq2]; exact Z0)) hZ (hw _ (List.mem_of_getElem? (i := 22) rfl)) (hw _ (List.mem_of_getElem? (i := 18) rfl)) (by decide) (by decide)) (g := (mkF m 37 #[.val (.int p1), .unset] [(.int (191 : Int32)), (.int (123 : Int32)), (.int p1)])) rfl (by rw [hml]; rfl) (argsL := [(.int p1), (.int (123 : Int32)), (.int (191 : Int32))]) (rest := []) (lenOf pd_2_1 rfl) rfl (by show 2 * 0 + _ ≤ _; exact Nat.le_of_eq rfl) (hb hby d2_37) (fun _ _ => ⟨rfl, rfl, (by decide : 0 + 0 ≤ _), (by decide : 0 + 0 ≤ _)⟩)
  dsimp only [Pt.U, Pt.locs, Pt.cells, Pt.slots] at X3 l3 y3 z3 st3 hQ3
  subst l3 y3 z3
  obtain ⟨rfl, N3q, eq3⟩ := hQ3
  have N3 := Fr.app N2 N3q
  obtain ⟨_, _, ⟨T4, L4, k4, n4⟩, -, X4, ⟨Lc4, hQ4, l4, y4, z4⟩, st4⟩ := Jvm.LawKit.callS X3 hx (y := (⟨"com/example/narrow_tree/narrowtree/document/XmlSyntaxIsNcNameStartCharacterPinLaw", "in", "(III)Z"⟩ : MethodName)) hown (mvT hZ (hw _ (List.mem_of_getElem? (i := 20) rfl))) (mvT hZ (hw _ (List.mem_of_getElem? (i := 21) rfl))) (mvT hZ (hw _ (List.mem_of_getElem? (i := 18) rfl))) (mvT hZ (hw _ (List.mem_of_getElem? (i := 22) rfl))) (by decide) (backOf (W := 0) (rm3 l Z a0 hw [] p1 (768 : Int32) (879 : Int32) T3.heap n0 (by rw [eq3, eq2]; exact Z0)) hZ (hw _ (List.mem_of_getElem? (i := 22) rfl)) (hw _ (List.mem_of_getElem? (i := 18) rfl)) (by decide) (by decide)) (g := (mkF m 64 #[.val (.int p1), .unset] [(.int (879 : Int32)), (.int (768 : Int32)), (.int p1)])) rfl (by rw [hml]; rfl) (argsL := [(.int p1), (.int (768 : Int32)), (.int (879 : Int32))]) (rest := []) (lenOf pd_2_1 rfl) rfl (by show 2 * 0 + _ ≤ _; exact Nat.le_of_eq rfl) (hb hby d2_64) (fun _ _ => ⟨rfl, rfl, (by decide : 0 + 0 ≤ _), (by decide : 0 + 0 ≤ _)⟩)
  dsimp only [Pt.U, Pt.locs, Pt.cells, Pt.slots] at X4 l4 y4 z4 st4 hQ4
  subst l4 y4 z4
  obtain ⟨rfl, N4q, eq4⟩ := hQ4
  have N4 := Fr.app N3 N4q
  obtain ⟨_, _, ⟨T5, L5, k5, n5⟩, -, X5, ⟨Lc5, hQ5, l5, y5, z5⟩, st5⟩ := Jvm.LawKit.callS X4 hx (y := (⟨"com/example/narrow_tree/narrowtree/document/XmlSyntaxIsNcNameStartCharacterPinLaw", "in", "(III)Z"⟩ : MethodName)) hown (mvT hZ (hw _ (List.mem_of_getElem? (i := 20) rfl))) (mvT hZ (hw _ (List.mem_of_getElem? (i := 21) rfl))) (mvT hZ (hw _ (List.mem_of_getElem? (i := 18) rfl))) (mvT hZ (hw _ (List.mem_of_getElem? (i := 22) rfl))) (by decide) (backOf (W := 0) (rm3 l Z a0 hw [] p1 (8192 : Int32) (8203 : Int32) T4.heap n0 (by rw [eq4, eq3, eq2]; exact Z0)) hZ (hw _ (List.mem_of_getElem? (i := 22) rfl)) (hw _ (List.mem_of_getElem? (i := 18) rfl)) (by decide) (by decide)) (g := (mkF m 84 #[.val (.int p1), .unset] [(.int (8203 : Int32)), (.int (8192 : Int32)), (.int p1)])) rfl (by rw [hml]; rfl) (argsL := [(.int p1), (.int (8192 : Int32)), (.int (8203 : Int32))]) (rest := []) (lenOf pd_2_1 rfl) rfl (by show 2 * 0 + _ ≤ _; exact Nat.le_of_eq rfl) (hb hby d2_84) (fun _ _ => ⟨rfl, rfl, (by decide : 0 + 0 ≤ _), (by decide : 0 + 0 ≤ _)⟩)
  dsimp only [Pt.U, Pt.locs, Pt.cells, Pt.slots] at X5 l5 y5 z5 st5 hQ5
  subst l5 y5 z5
  obtain ⟨rfl, N5q, eq5⟩ := hQ5
  have N5 := Fr.app N4 N5q
  obtain ⟨_, _, ⟨T6, L6, k6, n6⟩, -, X6, ⟨Lc6, hQ6, l6, y6, z6⟩, st6⟩ := Jvm.LawKit.callS X5 hx (y := (⟨"com/example/narrow_tree/narrowtree/document/XmlSyntaxIsNcNameStartCharacterPinLaw", "in", "(III)Z"⟩ : MethodName)) hown (mvT hZ (hw _ (List.mem_of_getElem? (i := 20) rfl))) (mvT hZ (hw _ (List.mem_of_getElem? (i := 21) rfl))) (mvT hZ (hw _ (List.mem_of_getElem? (i := 18) rfl))) (mvT hZ (hw _ (List.mem_of_getElem? (i := 22) rfl))) (by decide) (backOf (W := 0) (rm3 l Z a0 hw [] p1 (8206 : Int32) (8303 : Int32) T5.heap n0 (by rw [eq5, eq4, eq3, eq2]; exact Z0)) hZ (hw _ (List.mem_of_getElem? (i := 22) rfl)) (hw _ (List.mem_of_getElem? (i := 18) rfl)) (by decide) (by decide)) (g := (mkF m 97 #[.val (.int p1), .unset] [(.int (8303 : Int32)), (.int (8206 : Int32)), (.int p1)])) rfl (by rw [hml]; rfl) (argsL := [(.int p1), (.int (8206 : Int32)), (.int (8303 : Int32))]) (rest := []) (lenOf pd_2_1 rfl) rfl (by show 2 * 0 + _ ≤ _; exact Nat.le_of_eq rfl) (hb hby d2_97) (fun _ _ => ⟨rfl, rfl, (by decide : 0 + 0 ≤ _), (by decide : 0 + 0 ≤ _)⟩)
  dsimp only [Pt.U, Pt.locs, Pt.cells, Pt.slots] at X6 l6 y6 z6 st6 hQ6
  subst l6 y6 z6
  obtain ⟨rfl, N6q, eq6⟩ := hQ6
  have N6 := Fr.app N5 N6q
  obtain ⟨_, _, ⟨T7, L7, k7, n7⟩, -, X7, ⟨Lc7, hQ7, l7, y7, z7⟩, st7⟩ := Jvm.LawKit.callS X6 hx (y := (⟨"com/example/narrow_tree/narrowtree/document/XmlSyntaxIsNcNameStartCharacterPinLaw", "in", "(III)Z"⟩ : MethodName)) hown (mvT hZ (hw _ (List.mem_of_getElem? (i := 20) rfl))) (mvT hZ (hw _ (List.mem_of_getElem? (i := 21) rfl))) (mvT hZ (hw _ (List.mem_of_getElem? (i := 18) rfl))) (mvT hZ (hw _ (List.mem_of_getElem? (i := 22) rfl))) (by decide) (backOf (W := 0) (rm3 l Z a0 hw [] p1 (8592 : Int32) (11263 : Int32) T6.heap n0 (by rw [eq6, eq5, eq4, eq3, eq2]; exact Z0)) hZ (hw _ (List.mem_of_getElem? (i := 22) rfl)) (hw _ (List.mem_of_getElem? (i := 18) rfl)) (by decide) (by decide)) (g := (mkF m 110 #[.val (.int p1), .unset] [(.int (11263 : Int32)), (.int (8592 : Int32)), (.int p1)])) rfl (by rw [hml]; rfl) (argsL := [(.int p1), (.int (8592 : Int32)), (.int (11263 : Int32))]) (rest := []) (lenOf pd_2_1 rfl) rfl (by show 2 * 0 + _ ≤ _; exact Nat.le_of_eq rfl) (hb hby d2_110) (fun _ _ => ⟨rfl, rfl, (by decide : 0 + 0 ≤ _), (by decide : 0 + 0 ≤ _)⟩)
  dsimp only [Pt.U, Pt.locs, Pt.cells, Pt.slots] at X7 l7 y7 z7 st7 hQ7
  subst l7 y7 z7
  obtain ⟨rfl, N7q, eq7⟩ := hQ7
  have N7 := Fr.app N6 N7q
  obtain ⟨_, _, ⟨T8, L8, k8, n8⟩, -, X8, ⟨Lc8, hQ8, l8, y8, z8⟩, st8⟩ := Jvm.LawKit.callS X7 hx (y := (⟨"com/example/narrow_tree/narrowtree/document/XmlSyntaxIsNcNameStartCharacterPinLaw", "in", "(III)Z"⟩ : MethodName)) hown (mvT hZ (hw _ (List.mem_of_getElem? (i := 20) rfl))) (mvT hZ (hw _ (List.mem_of_getElem? (i := 21) rfl))) (mvT hZ (hw _ (List.mem_of_getElem? (i := 18) rfl))) (mvT hZ (hw _ (List.mem_of_getElem? (i := 22) rfl))) (by decide) (backOf (W := 0) (rm3 l Z a0 hw [] p1 (12272 : Int32) (12288 : Int32) T7.heap n0 (by rw [eq7, eq6, eq5, eq4, eq3, eq2]; exact Z0)) hZ (hw _ (List.mem_of_getElem? (i := 22) rfl)) (hw _ (List.mem_of_getElem? (i := 18) rfl)) (by decide) (by decide)) (g := (mkF m 123 #[.val (.int p1), .unset] [(.int (12288 : Int32)), (.int (12272 : Int32)), (.int p1)])) rfl (by rw [hml]; rfl) (argsL := [(.int p1), (.int (12272 : Int32)), (.int (12288 : Int32))]) (rest := []) (lenOf pd_2_1 rfl) rfl (by show 2 * 0 + _ ≤ _; exact Nat.le_of_eq rfl) (hb hby d2_123) (fun _ _ => ⟨rfl, rfl, (by decide : 0 + 0 ≤ _), (by decide : 0 + 0 ≤ _)⟩)
  dsimp only [Pt.U, Pt.locs, Pt.cells, Pt.slots] at X8 l8 y8 z8 st8 hQ8
  subst l8 y8 z8
  obtain ⟨rfl, N8q, eq8⟩ := hQ8
  have N8 := Fr.app N7 N8q
  obtain ⟨fs, hr, hrun, hended, hW, hsame⟩ := X8.leave (v := some (.int (0 : Int32))) (fun h => by rw [Bd.returns] at h; cases h)
  refine ⟨_, _, pre0 _ ?_, hrun, hended, _, _, rfl, ?_, ⟨_, rfl⟩, hW, hsame.mono (by decide) (by decide)⟩
  · show Steps p.tables e below (s₁.setTop (mkF m 0 #[.val (.int p1), .unset] [])) _
    refine XS.iloadN X0.here hx rfl (hb hby d2_0) rfl ?_
    show Steps p.tables e below (s₁.setTop (mkF m 1 #[.val (.int p1), .unset] [(.int p1)])) _
    refine XS.bipush X0.here hx rfl (hb hby d2_1) ?_
    show Steps p.tables e below (s₁.setTop (mkF m 3 #[.val (.int p1), .unset] [(.int (65 : Int32)), (.int p1)])) _
    refine XS.icmpNo X0.here hx rfl (hb hby d2_3) rfl (flt hc3).1 ?_
    show Steps p.tables e below (s₁.setTop (mkF m 6 #[.val (.int p1), .unset] [])) _
    refine XS.iloadN X0.here hx rfl (hb hby d2_6) rfl ?_
    show Steps p.tables e below (s₁.setTop (mkF m 7 #[.val (.int p1), .unset] [(.int p1)])) _
    refine X0.ldcInt hx hown (mvT hZ (hw _ (List.mem_of_getElem? (i := 7) rfl))) (g := (mkF m 7 #[.val (.int p1), .unset] [(.int p1)])) rfl (hb hby d2_7) _ ?_
    show Steps p.tables e below (s₁.setTop (mkF m 9 #[.val (.int p1), .unset] [(.int (983039 : Int32)), (.int p1)])) _
    refine XS.icmpYes X0.here hx rfl (pc0 := 9) (pc' := 14) rfl (hb hby d2_9) rfl (flt hc9).2.2.2 (by decide) (by decide) ?_
    show Steps p.tables e below (s₁.setTop (mkF m 14 #[.val (.int p1), .unset] [])) _
    refine XS.iloadN X0.here hx rfl (hb hby d2_14) rfl ?_
    show Steps p.tables e below (s₁.setTop (mkF m 15 #[.val (.int p1), .unset] [(.int p1)])) _
    refine XS.bipush X0.here hx rfl (hb hby d2_15) ?_
    show Steps p.tables e below (s₁.setTop (mkF m 17 #[.val (.int p1), .unset] [(.int (91 : Int32)), (.int p1)])) _
    refine XS.bipush X0.here hx rfl (hb hby d2_17) ?_
    show Steps p.tables e below (s₁.setTop (mkF m 19 #[.val (.int p1), .unset] [(.int (94 : Int32)), (.int (91 : Int32)), (.int p1)])) _
    refine st2 _ ?_
    show Steps p.tables e below (T2.setTop (mkF m 22 #[.val (.int p1), .unset] [(.int (inF p1 (91 : Int32) (94 : Int32)))])) _
    refine XS.ifNo X2.here hx rfl (hb hby d2_22) rfl ((if0 _ _).trans (teq (hg22 : (inF p1 (91 : Int32) (94 : Int32)) = (0 : Int32))).2) ?_
    show Steps p.tables e below (T2.setTop (mkF m 25 #[.val (.int p1), .unset] [])) _
    refine XS.iloadN X2.here hx rfl (hb hby d2_25) rfl ?_
    show Steps p.tables e below (T2.setTop (mkF m 26 #[.val (.int p1), .unset] [(.int p1)])) _
    refine XS.bipush X2.here hx rfl (hb hby d2_26) ?_
    show Steps p.tables e below (T2.setTop (mkF m 28 #[.val (.int p1), .unset] [(.int (96 : Int32)), (.int p1)])) _
    refine XS.icmpNo X2.here hx rfl (hb hby d2_28) rfl (feq hc28).1 ?_
    show Steps p.tables e below (T2.setTop (mkF m 31 #[.val (.int p1), .unset] [])) _
    refine XS.iloadN X2.here hx rfl (hb hby d2_31) rfl ?_
    show Steps p.tables e below (T2.setTop (mkF m 32 #[.val (.int p1), .unset] [(.int p1)])) _
    refine XS.bipush X2.here hx rfl (hb hby d2_32) ?_
    show Steps p.tables e below (T2.setTop (mkF m 34 #[.val (.int p1), .unset] [(.int (123 : Int32)), (.int p1)])) _
    refine XS.sipush X2.here hx rfl (hb hby d2_34) ?_
    show Steps p.tables e below (T2.setTop (mkF m 37 #[.val (.int p1), .unset] [(.int (191 : Int32)), (.int (123 : Int32)), (.int p1)])) _
    refine st3 _ ?_
    show Steps p.tables e below (T3.setTop (mkF m 40 #[.val (.int p1), .unset] [(.int (inF p1 (123 : Int32) (191 : Int32)))])) _
    refine XS.ifNo X3.here hx rfl (hb hby d2_40) rfl ((if0 _ _).trans (teq (hg40 : (inF p1 (123 : Int32) (191 : Int32)) = (0 : Int32))).2) ?_
    show Steps p.tables e below (T3.setTop (mkF m 43 #[.val (.int p1), .unset] [])) _
    refine XS.iloadN X3.here hx rfl (hb hby d2_43) rfl ?_
    show Steps p.tables e below (T3.setTop (mkF m 44 #[.val (.int p1), .unset] [(.int p1)])) _
    refine XS.sipush X3.here hx rfl (hb hby d2_44) ?_
    show Steps p.tables e below (T3.setTop (mkF m 47 #[.val (.int p1), .unset] [(.int (215 : Int32)), (.int p1)])) _
    refine XS.icmpNo X3.here hx rfl (hb hby d2_47) rfl (feq hc47).1 ?_
    show Steps p.tables e below (T3.setTop (mkF m 50 #[.val (.int p1), .unset] [])) _
    refine XS.iloadN X3.here hx rfl (hb hby d2_50) rfl ?_
    show Steps p.tables e below (T3.setTop (mkF m 51 #[.val (.int p1), .unset] [(.int p1)])) _
    refine XS.sipush X3.here hx rfl (hb hby d2_51) ?_
    show Steps p.tables e below (T3.setTop (mkF m 54 #[.val (.int p1), .unset] [(.int (247 : Int32)), (.int p1)])) _
    refine XS.icmpNo X3.here hx rfl (hb hby d2_54) rfl (feq hc54).1 ?_
    show Steps p.tables e below (T3.setTop (mkF m 57 #[.val (.int p1), .unset] [])) _
    refine XS.iloadN X3.here hx rfl (hb hby d2_57) rfl ?_
    show Steps p.tables e below (T3.setTop (mkF m 58 #[.val (.int p1), .unset] [(.int p1)])) _
    refine XS.sipush X3.here hx rfl (hb hby d2_58) ?_
    show Steps p.tables e below (T3.setTop (mkF m 61 #[.val (.int p1), .unset] [(.int (768 : Int32)), (.int p1)])) _
    refine XS.sipush X3.here hx rfl (hb hby d2_61) ?_
    show Steps p.tables e below (T3.setTop (mkF m 64 #[.val (.int p1), .unset] [(.int (879 : Int32)), (.int (768 : Int32)), (.int p1)])) _
    refine st4 _ ?_
    show Steps p.tables e below (T4.setTop (mkF m 67 #[.val (.int p1), .unset] [(.int (inF p1 (768 : Int32) (879 : Int32)))])) _
    refine XS.ifNo X4.here hx rfl (hb hby d2_67) rfl ((if0 _ _).trans (teq (hg67 : (inF p1 (768 : Int32) (879 : Int32)) = (0 : Int32))).2) ?_
    show Steps p.tables e below (T4.setTop (mkF m 70 #[.val (.int p1), .unset] [])) _
    refine XS.iloadN X4.here hx rfl (hb hby d2_70) rfl ?_
    show Steps p.tables e below (T4.setTop (mkF m 71 #[.val (.int p1), .unset] [(.int p1)])) _
    refine XS.sipush X4.here hx rfl (hb hby d2_71) ?_
    show Steps p.tables e below (T4.setTop (mkF m 74 #[.val (.int p1), .unset] [(.int (894 : Int32)), (.int p1)])) _
    refine XS.icmpNo X4.here hx rfl (hb hby d2_74) rfl (feq hc74).1 ?_
    show Steps p.tables e below (T4.setTop (mkF m 77 #[.val (.int p1), .unset] [])) _
    refine XS.iloadN X4.here hx rfl (hb hby d2_77) rfl ?_
    show Steps p.tables e below (T4.setTop (mkF m 78 #[.val (.int p1), .unset] [(.int p1)])) _
    refine XS.sipush X4.here hx rfl (hb hby d2_78) ?_
    show Steps p.tables e below (T4.setTop (mkF m 81 #[.val (.int p1), .unset] [(.int (8192 : Int32)), (.int p1)])) _
    refine XS.sipush X4.here hx rfl (hb hby d2_81) ?_
    show Steps p.tables e below (T4.setTop (mkF m 84 #[.val (.int p1), .unset] [(.int (8203 : Int32)), (.int (8192 : Int32)), (.int p1)])) _
    refine st5 _ ?_
    show Steps p.tables e below (T5.setTop (mkF m 87 #[.val (.int p1), .unset] [(.int (inF p1 (8192 : Int32) (8203 : Int32)))])) _
    refine XS.ifNo X5.here hx rfl (hb hby d2_87) rfl ((if0 _ _).trans (teq (hg87 : (inF p1 (8192 : Int32) (8203 : Int32)) = (0 : Int32))).2) ?_
    show Steps p.tables e below (T5.setTop (mkF m 90 #[.val (.int p1), .unset] [])) _
    refine XS.iloadN X5.here hx rfl (hb hby d2_90) rfl ?_
    show Steps p.tables e below (T5.setTop (mkF m 91 #[.val (.int p1), .unset] [(.int p1)])) _
    refine XS.sipush X5.here hx rfl (hb hby d2_91) ?_
    show Steps p.tables e below (T5.setTop (mkF m 94 #[.val (.int p1), .unset] [(.int (8206 : Int32)), (.int p1)])) _
    refine XS.sipush X5.here hx rfl (hb hby d2_94) ?_
    show Steps p.tables e below (T5.setTop (mkF m 97 #[.val (.int p1), .unset] [(.int (8303 : Int32)), (.int (8206 : Int32)), (.int p1)])) _
    refine st6 _ ?_
    show Steps p.tables e below (T6.setTop (mkF m 100 #[.val (.int p1), .unset] [(.int (inF p1 (8206 : Int32) (8303 : Int32)))])) _
    refine XS.ifNo X6.here hx rfl (hb hby d2_100) rfl ((if0 _ _).trans (teq (hg100 : (inF p1 (8206 : Int32) (8303 : Int32)) = (0 : Int32))).2) ?_
    show Steps p.tables e below (T6.setTop (mkF m 103 #[.val (.int p1), .unset] [])) _
    refine XS.iloadN X6.here hx rfl (hb hby d2_103) rfl ?_
    show Steps p.tables e below (T6.setTop (mkF m 104 #[.val (.int p1), .unset] [(.int p1)])) _
    refine XS.sipush X6.here hx rfl (hb hby d2_104) ?_
    show Steps p.tables e below (T6.setTop (mkF m 107 #[.val (.int p1), .unset] [(.int (8592 : Int32)), (.int p1)])) _
    refine XS.sipush X6.here hx rfl (hb hby d2_107) ?_
    show Steps p.tables e below (T6.setTop (mkF m 110 #[.val (.int p1), .unset] [(.int (11263 : Int32)), (.int (8592 : Int32)), (.int p1)])) _
    refine st7 _ ?_
    show Steps p.tables e below (T7.setTop (mkF m 113 #[.val (.int p1), .unset] [(.int (inF p1 (8592 : Int32) (11263 : Int32)))])) _
    refine XS.ifNo X7.here hx rfl (hb hby d2_113) rfl ((if0 _ _).trans (teq (hg113 : (inF p1 (8592 : Int32) (11263 : Int32)) = (0 : Int32))).2) ?_
    show Steps p.tables e below (T7.setTop (mkF m 116 #[.val (.int p1), .unset] [])) _
    refine XS.iloadN X7.here hx rfl (hb hby d2_116) rfl ?_
    show Steps p.tables e below (T7.setTop (mkF m 117 #[.val (.int p1), .unset] [(.int p1)])) _
    refine XS.sipush X7.here hx rfl (hb hby d2_117) ?_
    show Steps p.tables e below (T7.setTop (mkF m 120 #[.val (.int p1), .unset] [(.int (12272 : Int32)), (.int p1)])) _
    refine XS.sipush X7.here hx rfl (hb hby d2_120) ?_
    show Steps p.tables e below (T7.setTop (mkF m 123 #[.val (.int p1), .unset] [(.int (12288 : Int32)), (.int (12272 : Int32)), (.int p1)])) _
    refine st8 _ ?_
    show Steps p.tables e below (T8.setTop (mkF m 126 #[.val (.int p1), .unset] [(.int (inF p1 (12272 : Int32) (12288 : Int32)))])) _
    refine XS.ifYes X8.here hx rfl (pc0 := 126) (pc' := 162) rfl (hb hby d2_126) rfl ((if0 _ _).trans (feq (hg126 : ¬ ((inF p1 (12272 : Int32) (12288 : Int32)) = (0 : Int32)))).2) (by decide) (by decide) ?_
    show Steps p.tables e below (T8.setTop (mkF m 162 #[.val (.int p1), .unset] [])) _
    refine XS.iconst X8.here hx rfl (hb hby d2_162) ?_
    show Steps p.tables e below (T8.setTop (mkF m 163 #[.val (.int p1), .unset] [(.int (1 : Int32))])) _
    refine XS.goto X8.here hx rfl (pc0 := 163) (pc' := 167) rfl (hb hby d2_163) (by decide) (by decide) ?_
    show Steps p.tables e below (T8.setTop (mkF m 167 #[.val (.int p1), .unset] [(.int (1 : Int32))])) _
    refine XS.istoreN X8.here hx rfl (hb hby d2_167) rfl (l' := #[.val (.int p1), .val (.int (1 : Int32))]) rfl ?_
    show Steps p.tables e below (T8.setTop (mkF m 168 #[.val (.int p1), .val (.int (1 : Int32))] [])) _
    refine XS.iloadN X8.here hx rfl (hb hby d2_168) rfl ?_
    show Steps p.tables e below (T8.setTop (mkF m 169 #[.val (.int p1), .val (.int (1 : Int32))] [(.int (1 : Int32))])) _
    refine XS.ifYes X8.here hx rfl (pc0 := 169) (pc' := 176) rfl (hb hby d2_169) rfl ((if0 _ _).trans (feq hc169).2) (by decide) (by decide) ?_
    show Steps p.tables e below (T8.setTop (mkF m 176 #[.val (.int p1), .val (.int (1 : Int32))] [])) _
    refine XS.iconst X8.here hx rfl (hb hby d2_176) ?_
    show Steps p.tables e below (T8.setTop (mkF m 177 #[.val (.int p1), .val (.int (1 : Int32))] [(.int (0 : Int32))])) _
    exact retN X8 hx (t := .boolean) Bd.returns (by simp) (hb hby d2_177) hr
  · show Q2 Z p1 h0 n0 _ T8.heap _
    exact ⟨by simp [rcF, hc3, hc9, hg22, hc28, hg40, hc47, hc54, hg67, hc74, hg87, hg100, hg113, hg126], N8, by rw [eq8, eq7, eq6, eq5, eq4, eq3, eq2]⟩
theorem d2_129 : decode method_3_code 129 = .ok (.iload_n 0, 1) := by decide +kernel
theorem d2_130 : decode method_3_code 130 = .ok (.ldc 14, 2) := by decide +kernel
theorem d2_132 : decode method_3_code 132 = .ok (.ldc 15, 2) := by decide +kernel
theorem d2_134 : decode method_3_code 134 = .ok (.invokestatic 8, 3) := by decide +kernel
theorem d2_137 : decode method_3_code 137 = .ok (.ifCond .ne 25, 3) := by decide +kernel
set_option maxRecDepth 65536 in
set_option maxHeartbeats 40000000 in
theorem rm2_ftffffffffffftt (l : Launch) (Z : State) (a0 : Array Value) (hw : ∀ d ∈ tables_1, d.before a0 Z = true) (ws : List Jvm.Cond) (p1 : Int32) (h0 : Heap) (n0 : Nat) (Z0 : n0 ≤ h0.size) (hg22 : inF p1 (91 : Int32) (94 : Int32) = (0 : Int32)) (hg40 : inF p1 (123 : Int32) (191 : Int32) = (0 : Int32)) (hg67 : inF p1 (768 : Int32) (879 : Int32) = (0 : Int32)) (hg87 : inF p1 (8192 : Int32) (8203 : Int32) = (0 : Int32)) (hg100 : inF p1 (8206 : Int32) (8303 : Int32) = (0 : Int32)) (hg113 : inF p1 (8592 : Int32) (11263 : Int32) = (0 : Int32)) (hg126 : inF p1 (12272 : Int32) (12288 : Int32) = (0 : Int32)) (hg137 : ¬ (inF p1 (55296 : Int32) (63743 : Int32) = (0 : Int32))) (hc3 : ¬ (p1 < (65 : Int32))) (hc9 : ¬ ((983039 : Int32) < p1)) (hc28 : ¬ (p1 = (96 : Int32))) (hc47 : ¬ (p1 = (215 : Int32))) (hc54 : ¬ (p1 = (247 : Int32))) (hc74 : ¬ (p1 = (894 : Int32))) :
    MetFree l (⟨"com/example/narrow_tree/narrowtree/document/XmlSyntaxIsNcNameStartCharacterPinLaw", "ref", "(I)Z"⟩ : MethodName) (head1 (Jvm.Cond.code (⟨"com/example/narrow_tree/narrowtree/document/XmlSyntaxIsNcNameStartCharacterPinLaw", "ref", "(I)Z"⟩ : MethodName) method_3_code 2 (some .boolean) :: ws) ({ frames := 1, cells := 0, slots := 0, locals := 14 } : Room)) (fun a U => a = #[(.int p1)] ∧ Z.Warmed39 U.vm ∧ U.heap = h0) (fun _ _ _ _ _ => True) (fun _ U o U' => ∃ v L, o = .returned v ∧ Q2 Z p1 h0 n0 v U'.heap L ∧ FrameEnd U o U' L ({ frames := 1, cells := 0, slots := 0, locals := 14 } : Room).cells ({ frames := 1, cells := 0, slots := 0, locals := 14 } : Room).slots) := by
  refine MetFree.of_bodySF (plainFor_of_name pn_2) hisR ?_
  intro p e s m args below meth c s₁ Bd hml0 hP hK
  obtain ⟨rfl, hZ, hh⟩ := hP
  have hx := Bd.exec
  have hby := Bd.bytes
  have hml : c.maxLocals = 2 := hml0
  have hown : s.vm.findClass "com/example/narrow_tree/narrowtree/document/XmlSyntaxIsNcNameStartCharacterPinLaw" = some m.cls := findClass_of_methodNamed Bd.named
  have hnm := (name_of_methodNamed Bd.named Bd.method).1
  have X0 : Stand p l e ({ frames := 1, cells := 0, slots := 0, locals := 14 } : Room) s m #[(.int p1)] below meth c s₁ [] 0 0 := Stand.of_body Bd
  have e0 : s₁.heap = h0 := by rw [← hh, Bd.state]; rfl
  have hc169 : ¬ ((1 : Int32) = (0 : Int32)) := by decide
  have N0 := Fr.nil n0
  have pre0 : ∀ t, Steps p.tables e below (s₁.setTop (mkF m 0 #[.val (.int p1), .unset] [])) t → Steps p.tables e below (s₁.setTop (entryFrame m #[(.int p1)] 2)) t := fun t k => castTop (ef_2 m p1) k
  obtain ⟨_, _, ⟨T2, L2, k2, n2⟩, -, X2, ⟨Lc2, hQ2, l2, y2, z2⟩, st2⟩ := Jvm.LawKit.callS X0 hx (y := (⟨"com/example/narrow_tree/narrowtree/document/XmlSyntaxIsNcNameStartCharacterPinLaw", "in", "(III)Z"⟩ : MethodName)) hown (mvT hZ (hw _ (List.mem_of_getElem? (i := 20) rfl))) (mvT hZ (hw _ (List.mem_of_getElem? (i := 21) rfl))) (mvT hZ (hw _ (List.mem_of_getElem? (i := 18) rfl))) (mvT hZ (hw _ (List.mem_of_getElem? (i := 22) rfl))) (by decide) (backOf (W := 0) (rm3 l Z a0 hw [] p1 (91 : Int32) (94 : Int32) h0 n0 Z0) hZ (hw _ (List.mem_of_getElem? (i := 22) rfl)) (hw _ (List.mem_of_getElem? (i := 18) rfl)) (by decide) (by decide)) (g := (mkF m 19 #[.val (.int p1), .unset] [(.int (94 : Int32)), (.int (91 : Int32)), (.int p1)])) rfl (by rw [hml]; rfl) (argsL := [(.int p1), (.int (91 : Int32)), (.int (94 : Int32))]) (rest := []) (lenOf pd_2_1 rfl) rfl (by show 2 * 0 + _ ≤ _; exact Nat.le_of_eq rfl) (hb hby d2_19) (fun _ _ => ⟨rfl, e0, (by decide : 0 + 0 ≤ _), (by decide : 0 + 0 ≤ _)⟩)
  dsimp only [Pt.U, Pt.locs, Pt.cells, Pt.slots] at X2 l2 y2 z2 st2 hQ2
  subst l2 y2 z2
  obtain ⟨rfl, N2q, eq2⟩ := hQ2
  have N2 := Fr.app N0 N2q
  obtain ⟨_, _, ⟨T3, L3, k3, n3⟩, -, X3, ⟨Lc3, hQ3, l3, y3, z3⟩, st3⟩ := Jvm.LawKit.callS X2 hx (y := (⟨"com/example/narrow_tree/narrowtree/document/XmlSyntaxIsNcNameStartCharacterPinLaw", "in", "(III)Z"⟩ : MethodName)) hown (mvT hZ (hw _ (List.mem_of_getElem? (i := 20) rfl))) (mvT hZ (hw _ (List.mem_of_getElem? (i := 21) rfl))) (mvT hZ (hw _ (List.mem_of_getElem? (i := 18) rfl))) (mvT hZ (hw _ (List.mem_of_getElem? (i := 22) rfl))) (by decide) (backOf (W := 0) (rm3 l Z a0 hw [] p1 (123 : Int32) (191 : Int32) T2.heap n0 (by rw [eq2]; exact Z0)) hZ (hw _ (List.mem_of_getElem? (i := 22) rfl)) (hw _ (List.mem_of_getElem? (i := 18) rfl)) (by decide) (by decide)) (g := (mkF m 37 #[.val (.int p1), .unset] [(.int (191 : Int32)), (.int (123 : Int32)), (.int p1)])) rfl (by rw [hml]; rfl) (argsL := [(.int p1), (.int (123 : Int32)), (.int (191 : Int32))]) (rest := []) (lenOf pd_2_1 rfl) rfl (by show 2 * 0 + _ ≤ _; exact Nat.le_of_eq rfl) (hb hby d2_37) (fun _ _ => ⟨rfl, rfl, (by decide : 0 + 0 ≤ _), (by decide : 0 + 0 ≤ _)⟩)
  dsimp only [Pt.U, Pt.locs, Pt.cells, Pt.slots] at X3 l3 y3 z3 st3 hQ3
  subst l3 y3 z3
  obtain ⟨rfl, N3q, eq3⟩ := hQ3
  have N3 := Fr.app N2 N3q
  obtain ⟨_, _, ⟨T4, L4, k4, n4⟩, -, X4, ⟨Lc4, hQ4, l4, y4, z4⟩, st4⟩ := Jvm.LawKit.callS X3 hx (y := (⟨"com/example/narrow_tree/narrowtree/document/XmlSyntaxIsNcNameStartCharacterPinLaw", "in", "(III)Z"⟩ : MethodName)) hown (mvT hZ (hw _ (List.mem_of_getElem? (i := 20) rfl))) (mvT hZ (hw _ (List.mem_of_getElem? (i := 21) rfl))) (mvT hZ (hw _ (List.mem_of_getElem? (i := 18) rfl))) (mvT hZ (hw _ (List.mem_of_getElem? (i := 22) rfl))) (by decide) (backOf (W := 0) (rm3 l Z a0 hw [] p1 (768 : Int32) (879 : Int32) T3.heap n0 (by rw [eq3, eq2]; exact Z0)) hZ (hw _ (List.mem_of_getElem? (i := 22) rfl)) (hw _ (List.mem_of_getElem? (i := 18) rfl)) (by decide) (by decide)) (g := (mkF m 64 #[.val (.int p1), .unset] [(.int (879 : Int32)), (.int (768 : Int32)), (.int p1)])) rfl (by rw [hml]; rfl) (argsL := [(.int p1), (.int (768 : Int32)), (.int (879 : Int32))]) (rest := []) (lenOf pd_2_1 rfl) rfl (by show 2 * 0 + _ ≤ _; exact Nat.le_of_eq rfl) (hb hby d2_64) (fun _ _ => ⟨rfl, rfl, (by decide : 0 + 0 ≤ _), (by decide : 0 + 0 ≤ _)⟩)
  dsimp only [Pt.U, Pt.locs, Pt.cells, Pt.slots] at X4 l4 y4 z4 st4 hQ4
  subst l4 y4 z4
  obtain ⟨rfl, N4q, eq4⟩ := hQ4
  have N4 := Fr.app N3 N4q
  obtain ⟨_, _, ⟨T5, L5, k5, n5⟩, -, X5, ⟨Lc5, hQ5, l5, y5, z5⟩, st5⟩ := Jvm.LawKit.callS X4 hx (y := (⟨"com/example/narrow_tree/narrowtree/document/XmlSyntaxIsNcNameStartCharacterPinLaw", "in", "(III)Z"⟩ : MethodName)) hown (mvT hZ (hw _ (List.mem_of_getElem? (i := 20) rfl))) (mvT hZ (hw _ (List.mem_of_getElem? (i := 21) rfl))) (mvT hZ (hw _ (List.mem_of_getElem? (i := 18) rfl))) (mvT hZ (hw _ (List.mem_of_getElem? (i := 22) rfl))) (by decide) (backOf (W := 0) (rm3 l Z a0 hw [] p1 (8192 : Int32) (8203 : Int32) T4.heap n0 (by rw [eq4, eq3, eq2]; exact Z0)) hZ (hw _ (List.mem_of_getElem? (i := 22) rfl)) (hw _ (List.mem_of_getElem? (i := 18) rfl)) (by decide) (by decide)) (g := (mkF m 84 #[.val (.int p1), .unset] [(.int (8203 : Int32)), (.int (8192 : Int32)), (.int p1)])) rfl (by rw [hml]; rfl) (argsL := [(.int p1), (.int (8192 : Int32)), (.int (8203 : Int32))]) (rest := []) (lenOf pd_2_1 rfl) rfl (by show 2 * 0 + _ ≤ _; exact Nat.le_of_eq rfl) (hb hby d2_84) (fun _ _ => ⟨rfl, rfl, (by decide : 0 + 0 ≤ _), (by decide : 0 + 0 ≤ _)⟩)
  dsimp only [Pt.U, Pt.locs, Pt.cells, Pt.slots] at X5 l5 y5 z5 st5 hQ5
  subst l5 y5 z5
  obtain ⟨rfl, N5q, eq5⟩ := hQ5
  have N5 := Fr.app N4 N5q
  obtain ⟨_, _, ⟨T6, L6, k6, n6⟩, -, X6, ⟨Lc6, hQ6, l6, y6, z6⟩, st6⟩ := Jvm.LawKit.callS X5 hx (y := (⟨"com/example/narrow_tree/narrowtree/document/XmlSyntaxIsNcNameStartCharacterPinLaw", "in", "(III)Z"⟩ : MethodName)) hown (mvT hZ (hw _ (List.mem_of_getElem? (i := 20) rfl))) (mvT hZ (hw _ (List.mem_of_getElem? (i := 21) rfl))) (mvT hZ (hw _ (List.mem_of_getElem? (i := 18) rfl))) (mvT hZ (hw _ (List.mem_of_getElem? (i := 22) rfl))) (by decide) (backOf (W := 0) (rm3 l Z a0 hw [] p1 (8206 : Int32) (8303 : Int32) T5.heap n0 (by rw [eq5, eq4, eq3, eq2]; exact Z0)) hZ (hw _ (List.mem_of_getElem? (i := 22) rfl)) (hw _ (List.mem_of_getElem? (i := 18) rfl)) (by decide) (by decide)) (g := (mkF m 97 #[.val (.int p1), .unset] [(.int (8303 : Int32)), (.int (8206 : Int32)), (.int p1)])) rfl (by rw [hml]; rfl) (argsL := [(.int p1), (.int (8206 : Int32)), (.int (8303 : Int32))]) (rest := []) (lenOf pd_2_1 rfl) rfl (by show 2 * 0 + _ ≤ _; exact Nat.le_of_eq rfl) (hb hby d2_97) (fun _ _ => ⟨rfl, rfl, (by decide : 0 + 0 ≤ _), (by decide : 0 + 0 ≤ _)⟩)
  dsimp only [Pt.U, Pt.locs, Pt.cells, Pt.slots] at X6 l6 y6 z6 st6 hQ6
  subst l6 y6 z6
  obtain ⟨rfl, N6q, eq6⟩ := hQ6
  have N6 := Fr.app N5 N6q
  obtain ⟨_, _, ⟨T7, L7, k7, n7⟩, -, X7, ⟨Lc7, hQ7, l7, y7, z7⟩, st7⟩ := Jvm.LawKit.callS X6 hx (y := (⟨"com/example/narrow_tree/narrowtree/document/XmlSyntaxIsNcNameStartCharacterPinLaw", "in", "(III)Z"⟩ : MethodName)) hown (mvT hZ (hw _ (List.mem_of_getElem? (i := 20) rfl))) (mvT hZ (hw _ (List.mem_of_getElem? (i := 21) rfl))) (mvT hZ (hw _ (List.mem_of_getElem? (i := 18) rfl))) (mvT hZ (hw _ (List.mem_of_getElem? (i := 22) rfl))) (by decide) (backOf (W := 0) (rm3 l Z a0 hw [] p1 (8592 : Int32) (11263 : Int32) T6.heap n0 (by rw [eq6, eq5, eq4, eq3, eq2]; exact Z0)) hZ (hw _ (List.mem_of_getElem? (i := 22) rfl)) (hw _ (List.mem_of_getElem? (i := 18) rfl)) (by decide) (by decide)) (g := (mkF m 110 #[.val (.int p1), .unset] [(.int (11263 : Int32)), (.int (8592 : Int32)), (.int p1)])) rfl (by rw [hml]; rfl) (argsL := [(.int p1), (.int (8592 : Int32)), (.int (11263 : Int32))]) (rest := []) (lenOf pd_2_1 rfl) rfl (by show 2 * 0 + _ ≤ _; exact Nat.le_of_eq rfl) (hb hby d2_110) (fun _ _ => ⟨rfl, rfl, (by decide : 0 + 0 ≤ _), (by decide : 0 + 0 ≤ _)⟩)
  dsimp only [Pt.U, Pt.locs, Pt.cells, Pt.slots] at X7 l7 y7 z7 st7 hQ7
  subst l7 y7 z7
  obtain ⟨rfl, N7q, eq7⟩ := hQ7
  have N7 := Fr.app N6 N7q
  obtain ⟨_, _, ⟨T8, L8, k8, n8⟩, -, X8, ⟨Lc8, hQ8, l8, y8, z8⟩, st8⟩ := Jvm.LawKit.callS X7 hx (y := (⟨"com/example/narrow_tree/narrowtree/document/XmlSyntaxIsNcNameStartCharacterPinLaw", "in", "(III)Z"⟩ : MethodName)) hown (mvT hZ (hw _ (List.mem_of_getElem? (i := 20) rfl))) (mvT hZ (hw _ (List.mem_of_getElem? (i := 21) rfl))) (mvT hZ (hw _ (List.mem_of_getElem? (i := 18) rfl))) (mvT hZ (hw _ (List.mem_of_getElem? (i := 22) rfl))) (by decide) (backOf (W := 0) (rm3 l Z a0 hw [] p1 (12272 : Int32) (12288 : Int32) T7.heap n0 (by rw [eq7, eq6, eq5, eq4, eq3, eq2]; exact Z0)) hZ (hw _ (List.mem_of_getElem? (i := 22) rfl)) (hw _ (List.mem_of_getElem? (i := 18) rfl)) (by decide) (by decide)) (g := (mkF m 123 #[.val (.int p1), .unset] [(.int (12288 : Int32)), (.int (12272 : Int32)), (.int p1)])) rfl (by rw [hml]; rfl) (argsL := [(.int p1), (.int (12272 : Int32)), (.int (12288 : Int32))]) (rest := []) (lenOf pd_2_1 rfl) rfl (by show 2 * 0 + _ ≤ _; exact Nat.le_of_eq rfl) (hb hby d2_123) (fun _ _ => ⟨rfl, rfl, (by decide : 0 + 0 ≤ _), (by decide : 0 + 0 ≤ _)⟩)
  dsimp only [Pt.U, Pt.locs, Pt.cells, Pt.slots] at X8 l8 y8 z8 st8 hQ8
  subst l8 y8 z8
  obtain ⟨rfl, N8q, eq8⟩ := hQ8
  have N8 := Fr.app N7 N8q
  obtain ⟨_, _, ⟨T9, L9, k9, n9⟩, -, X9, ⟨Lc9, hQ9, l9, y9, z9⟩, st9⟩ := Jvm.LawKit.callS X8 hx (y := (⟨"com/example/narrow_tree/narrowtree/document/XmlSyntaxIsNcNameStartCharacterPinLaw", "in", "(III)Z"⟩ : MethodName)) hown (mvT hZ (hw _ (List.mem_of_getElem? (i := 20) rfl))) (mvT hZ (hw _ (List.mem_of_getElem? (i := 21) rfl))) (mvT hZ (hw _ (List.mem_of_getElem? (i := 18) rfl))) (mvT hZ (hw _ (List.mem_of_getElem? (i := 22) rfl))) (by decide) (backOf (W := 0) (rm3 l Z a0 hw [] p1 (55296 : Int32) (63743 : Int32) T8.heap n0 (by rw [eq8, eq7, eq6, eq5, eq4, eq3, eq2]; exact Z0)) hZ (hw _ (List.mem_of_getElem? (i := 22) rfl)) (hw _ (List.mem_of_getElem? (i := 18) rfl)) (by decide) (by decide)) (g := (mkF m 134 #[.val (.int p1), .unset] [(.int (63743 : Int32)), (.int (55296 : Int32)), (.int p1)])) rfl (by rw [hml]; rfl) (argsL := [(.int p1), (.int (55296 : Int32)), (.int (63743 : Int32))]) (rest := []) (lenOf pd_2_1 rfl) rfl (by show 2 * 0 + _ ≤ _; exact Nat.le_of_eq rfl) (hb hby d2_134) (fun _ _ => ⟨rfl, rfl, (by decide : 0 + 0 ≤ _), (by decide : 0 + 0 ≤ _)⟩)
  dsimp only [Pt.U, Pt.locs, Pt.cells, Pt.slots] at X9 l9 y9 z9 st9 hQ9
  subst l9 y9 z9
  obtain ⟨rfl, N9q, eq9⟩ := hQ9
  have N9 := Fr.app N8 N9q
  obtain ⟨fs, hr, hrun, hended, hW, hsame⟩ := X9.leave (v := some (.int (0 : Int32))) (fun h => by rw [Bd.returns] at h; cases h)
  refine ⟨_, _, pre0 _ ?_, hrun, hended, _, _, rfl, ?_, ⟨_, rfl⟩, hW, hsame.mono (by decide) (by decide)⟩
  · show Steps p.tables e below (s₁.setTop (mkF m 0 #[.val (.int p1), .unset] [])) _
    refine XS.iloadN X0.here hx rfl (hb hby d2_0) rfl ?_
    show Steps p.tables e below (s₁.setTop (mkF m 1 #[.val (.int p1), .unset] [(.int p1)])) _
    refine XS.bipush X0.here hx rfl (hb hby d2_1) ?_
    show Steps p.tables e below (s₁.setTop (mkF m 3 #[.val (.int p1), .unset] [(.int (65 : Int32)), (.int p1)])) _
    refine XS.icmpNo X0.here hx rfl (hb hby d2_3) rfl (flt hc3).1 ?_
    show Steps p.tables e below (s₁.setTop (mkF m 6 #[.val (.int p1), .unset] [])) _
    refine XS.iloadN X0.here hx rfl (hb hby d2_6) rfl ?_
    show Steps p.tables e below (s₁.setTop (mkF m 7 #[.val (.int p1), .unset] [(.int p1)])) _
    refine X0.ldcInt hx hown (mvT hZ (hw _ (List.mem_of_getElem? (i := 7) rfl))) (g := (mkF m 7 #[.val (.int p1), .unset] [(.int p1)])) rfl (hb hby d2_7) _ ?_
    show Steps p.tables e below (s₁.setTop (mkF m 9 #[.val (.int p1), .unset] [(.int (983039 : Int32)), (.int p1)])) _
    refine XS.icmpYes X0.here hx rfl (pc0 := 9) (pc' := 14) rfl (hb hby d2_9) rfl (flt hc9).2.2.2 (by decide) (by decide) ?_
    show Steps p.tables e below (s₁.setTop (mkF m 14 #[.val (.int p1), .unset] [])) _
    refine XS.iloadN X0.here hx rfl (hb hby d2_14) rfl ?_
    show Steps p.tables e below (s₁.setTop (mkF m 15 #[.val (.int p1), .unset] [(.int p1)])) _
    refine XS.bipush X0.here hx rfl (hb hby d2_15) ?_
    show Steps p.tables e below (s₁.setTop (mkF m 17 #[.val (.int p1), .unset] [(.int (91 : Int32)), (.int p1)])) _
    refine XS.bipush X0.here hx rfl (hb hby d2_17) ?_
    show Steps p.tables e below (s₁.setTop (mkF m 19 #[.val (.int p1), .unset] [(.int (94 : Int32)), (.int (91 : Int32)), (.int p1)])) _
    refine st2 _ ?_
    show Steps p.tables e below (T2.setTop (mkF m 22 #[.val (.int p1), .unset] [(.int (inF p1 (91 : Int32) (94 : Int32)))])) _
    refine XS.ifNo X2.here hx rfl (hb hby d2_22) rfl ((if0 _ _).trans (teq (hg22 : (inF p1 (91 : Int32) (94 : Int32)) = (0 : Int32))).2) ?_
    show Steps p.tables e below (T2.setTop (mkF m 25 #[.val (.int p1), .unset] [])) _
    refine XS.iloadN X2.here hx rfl (hb hby d2_25) rfl ?_
    show Steps p.tables e below (T2.setTop (mkF m 26 #[.val (.int p1), .unset] [(.int p1)])) _
    refine XS.bipush X2.here hx rfl (hb hby d2_26) ?_
    show Steps p.tables e below (T2.setTop (mkF m 28 #[.val (.int p1), .unset] [(.int (96 : Int32)), (.int p1)])) _
    refine XS.icmpNo X2.here hx rfl (hb hby d2_28) rfl (feq hc28).1 ?_
    show Steps p.tables e below (T2.setTop (mkF m 31 #[.val (.int p1), .unset] [])) _
    refine XS.iloadN X2.here hx rfl (hb hby d2_31) rfl ?_
    show Steps p.tables e below (T2.setTop (mkF m 32 #[.val (.int p1), .unset] [(.int p1)])) _
    refine XS.bipush X2.here hx rfl (hb hby d2_32) ?_
    show Steps p.tables e below (T2.setTop (mkF m 34 #[.val (.int p1), .unset] [(.int (123 : Int32)), (.int p1)])) _
    refine XS.sipush X2.here hx rfl (hb hby d2_34) ?_
    show Steps p.tables e below (T2.setTop (mkF m 37 #[.val (.int p1), .unset] [(.int (191 : Int32)), (.int (123 : Int32)), (.int p1)])) _
    refine st3 _ ?_
    show Steps p.tables e below (T3.setTop (mkF m 40 #[.val (.int p1), .unset] [(.int (inF p1 (123 : Int32) (191 : Int32)))])) _
    refine XS.ifNo X3.here hx rfl (hb hby d2_40) rfl ((if0 _ _).trans (teq (hg40 : (inF p1 (123 : Int32) (191 : Int32)) = (0 : Int32))).2) ?_
    show Steps p.tables e below (T3.setTop (mkF m 43 #[.val (.int p1), .unset] [])) _
    refine XS.iloadN X3.here hx rfl (hb hby d2_43) rfl ?_
    show Steps p.tables e below (T3.setTop (mkF m 44 #[.val (.int p1), .unset] [(.int p1)])) _
    refine XS.sipush X3.here hx rfl (hb hby d2_44) ?_
    show Steps p.tables e below (T3.setTop (mkF m 47 #[.val (.int p1), .unset] [(.int (215 : Int32)), (.int p1)])) _
    refine XS.icmpNo X3.here hx rfl (hb hby d2_47) rfl (feq hc47).1 ?_
    show Steps p.tables e below (T3.setTop (mkF m 50 #[.val (.int p1), .unset] [])) _
    refine XS.iloadN X3.here hx rfl (hb hby d2_50) rfl ?_
    show Steps p.tables e below (T3.setTop (mkF m 51 #[.val (.int p1), .unset] [(.int p1)])) _
    refine XS.sipush X3.here hx rfl (hb hby d2_51) ?_
    show Steps p.tables e below (T3.setTop (mkF m 54 #[.val (.int p1), .unset] [(.int (247 : Int32)), (.int p1)])) _
    refine XS.icmpNo X3.here hx rfl (hb hby d2_54) rfl (feq hc54).1 ?_
    show Steps p.tables e below (T3.setTop (mkF m 57 #[.val (.int p1), .unset] [])) _
    refine XS.iloadN X3.here hx rfl (hb hby d2_57) rfl ?_
    show Steps p.tables e below (T3.setTop (mkF m 58 #[.val (.int p1), .unset] [(.int p1)])) _
    refine XS.sipush X3.here hx rfl (hb hby d2_58) ?_
    show Steps p.tables e below (T3.setTop (mkF m 61 #[.val (.int p1), .unset] [(.int (768 : Int32)), (.int p1)])) _
    refine XS.sipush X3.here hx rfl (hb hby d2_61) ?_
    show Steps p.tables e below (T3.setTop (mkF m 64 #[.val (.int p1), .unset] [(.int (879 : Int32)), (.int (768 : Int32)), (.int p1)])) _
    refine st4 _ ?_
    show Steps p.tables e below (T4.setTop (mkF m 67 #[.val (.int p1), .unset] [(.int (inF p1 (768 : Int32) (879 : Int32)))])) _
    refine XS.ifNo X4.here hx rfl (hb hby d2_67) rfl ((if0 _ _).trans (teq (hg67 : (inF p1 (768 : Int32) (879 : Int32)) = (0 : Int32))).2) ?_
    show Steps p.tables e below (T4.setTop (mkF m 70 #[.val (.int p1), .unset] [])) _
    refine XS.iloadN X4.here hx rfl (hb hby d2_70) rfl ?_
    show Steps p.tables e below (T4.setTop (mkF m 71 #[.val (.int p1), .unset] [(.int p1)])) _
    refine XS.sipush X4.here hx rfl (hb hby d2_71) ?_
    show Steps p.tables e below (T4.setTop (mkF m 74 #[.val (.int p1), .unset] [(.int (894 : Int32)), (.int p1)])) _
    refine XS.icmpNo X4.here hx rfl (hb hby d2_74) rfl (feq hc74).1 ?_
    show Steps p.tables e below (T4.setTop (mkF m 77 #[.val (.int p1), .unset] [])) _
    refine XS.iloadN X4.here hx rfl (hb hby d2_77) rfl ?_
    show Steps p.tables e below (T4.setTop (mkF m 78 #[.val (.int p1), .unset] [(.int p1)])) _
    refine XS.sipush X4.here hx rfl (hb hby d2_78) ?_
    show Steps p.tables e below (T4.setTop (mkF m 81 #[.val (.int p1), .unset] [(.int (8192 : Int32)), (.int p1)])) _
    refine XS.sipush X4.here hx rfl (hb hby d2_81) ?_
    show Steps p.tables e below (T4.setTop (mkF m 84 #[.val (.int p1), .unset] [(.int (8203 : Int32)), (.int (8192 : Int32)), (.int p1)])) _
    refine st5 _ ?_
    show Steps p.tables e below (T5.setTop (mkF m 87 #[.val (.int p1), .unset] [(.int (inF p1 (8192 : Int32) (8203 : Int32)))])) _
    refine XS.ifNo X5.here hx rfl (hb hby d2_87) rfl ((if0 _ _).trans (teq (hg87 : (inF p1 (8192 : Int32) (8203 : Int32)) = (0 : Int32))).2) ?_
    show Steps p.tables e below (T5.setTop (mkF m 90 #[.val (.int p1), .unset] [])) _
    refine XS.iloadN X5.here hx rfl (hb hby d2_90) rfl ?_
    show Steps p.tables e below (T5.setTop (mkF m 91 #[.val (.int p1), .unset] [(.int p1)])) _
    refine XS.sipush X5.here hx rfl (hb hby d2_91) ?_
    show Steps p.tables e below (T5.setTop (mkF m 94 #[.val (.int p1), .unset] [(.int (8206 : Int32)), (.int p1)])) _
    refine XS.sipush X5.here hx rfl (hb hby d2_94) ?_
    show Steps p.tables e below (T5.setTop (mkF m 97 #[.val (.int p1), .unset] [(.int (8303 : Int32)), (.int (8206 : Int32)), (.int p1)])) _
    refine st6 _ ?_
    show Steps p.tables e below (T6.setTop (mkF m 100 #[.val (.int p1), .unset] [(.int (inF p1 (8206 : Int32) (8303 : Int32)))])) _
    refine XS.ifNo X6.here hx rfl (hb hby d2_100) rfl ((if0 _ _).trans (teq (hg100 : (inF p1 (8206 : Int32) (8303 : Int32)) = (0 : Int32))).2) ?_
    show Steps p.tables e below (T6.setTop (mkF m 103 #[.val (.int p1), .unset] [])) _
    refine XS.iloadN X6.here hx rfl (hb hby d2_103) rfl ?_
    show Steps p.tables e below (T6.setTop (mkF m 104 #[.val (.int p1), .unset] [(.int p1)])) _
    refine XS.sipush X6.here hx rfl (hb hby d2_104) ?_
    show Steps p.tables e below (T6.setTop (mkF m 107 #[.val (.int p1), .unset] [(.int (8592 : Int32)), (.int p1)])) _
    refine XS.sipush X6.here hx rfl (hb hby d2_107) ?_
    show Steps p.tables e below (T6.setTop (mkF m 110 #[.val (.int p1), .unset] [(.int (11263 : Int32)), (.int (8592 : Int32)), (.int p1)])) _
    refine st7 _ ?_
    show Steps p.tables e below (T7.setTop (mkF m 113 #[.val (.int p1), .unset] [(.int (inF p1 (8592 : Int32) (11263 : Int32)))])) _
    refine XS.ifNo X7.here hx rfl (hb hby d2_113) rfl ((if0 _ _).trans (teq (hg113 : (inF p1 (8592 : Int32) (11263 : Int32)) = (0 : Int32))).2) ?_
    show Steps p.tables e below (T7.setTop (mkF m 116 #[.val (.int p1), .unset] [])) _
    refine XS.iloadN X7.here hx rfl (hb hby d2_116) rfl ?_
    show Steps p.tables e below (T7.setTop (mkF m 117 #[.val (.int p1), .unset] [(.int p1)])) _
    refine XS.sipush X7.here hx rfl (hb hby d2_117) ?_
    show Steps p.tables e below (T7.setTop (mkF m 120 #[.val (.int p1), .unset] [(.int (12272 : Int32)), (.int p1)])) _
    refine XS.sipush X7.here hx rfl (hb hby d2_120) ?_
    show Steps p.tables e below (T7.setTop (mkF m 123 #[.val (.int p1), .unset] [(.int (12288 : Int32)), (.int (12272 : Int32)), (.int p1)])) _
    refine st8 _ ?_
    show Steps p.tables e below (T8.setTop (mkF m 126 #[.val (.int p1), .unset] [(.int (inF p1 (12272 : Int32) (12288 : Int32)))])) _
    refine XS.ifNo X8.here hx rfl (hb hby d2_126) rfl ((if0 _ _).trans (teq (hg126 : (inF p1 (12272 : Int32) (12288 : Int32)) = (0 : Int32))).2) ?_
    show Steps p.tables e below (T8.setTop (mkF m 129 #[.val (.int p1), .unset] [])) _
    refine XS.iloadN X8.here hx rfl (hb hby d2_129) rfl ?_
    show Steps p.tables e below (T8.setTop (mkF m 130 #[.val (.int p1), .unset] [(.int p1)])) _
    refine X8.ldcInt hx hown (mvT hZ (hw _ (List.mem_of_getElem? (i := 23) rfl))) (g := (mkF m 130 #[.val (.int p1), .unset] [(.int p1)])) rfl (hb hby d2_130) _ ?_
    show Steps p.tables e below (T8.setTop (mkF m 132 #[.val (.int p1), .unset] [(.int (55296 : Int32)), (.int p1)])) _
    refine X8.ldcInt hx hown (mvT hZ (hw _ (List.mem_of_getElem? (i := 24) rfl))) (g := (mkF m 132 #[.val (.int p1), .unset] [(.int (55296 : Int32)), (.int p1)])) rfl (hb hby d2_132) _ ?_
    show Steps p.tables e below (T8.setTop (mkF m 134 #[.val (.int p1), .unset] [(.int (63743 : Int32)), (.int (55296 : Int32)), (.int p1)])) _
    refine st9 _ ?_
    show Steps p.tables e below (T9.setTop (mkF m 137 #[.val (.int p1), .unset] [(.int (inF p1 (55296 : Int32) (63743 : Int32)))])) _
    refine XS.ifYes X9.here hx rfl (pc0 := 137) (pc' := 162) rfl (hb hby d2_137) rfl ((if0 _ _).trans (feq (hg137 : ¬ ((inF p1 (55296 : Int32) (63743 : Int32)) = (0 : Int32)))).2) (by decide) (by decide) ?_
    show Steps p.tables e below (T9.setTop (mkF m 162 #[.val (.int p1), .unset] [])) _
    refine XS.iconst X9.here hx rfl (hb hby d2_162) ?_
    show Steps p.tables e below (T9.setTop (mkF m 163 #[.val (.int p1), .unset] [(.int (1 : Int32))])) _
    refine XS.goto X9.here hx rfl (pc0 := 163) (pc' := 167) rfl (hb hby d2_163) (by decide) (by decide) ?_
    show Steps p.tables e below (T9.setTop (mkF m 167 #[.val (.int p1), .unset] [(.int (1 : Int32))])) _
    refine XS.istoreN X9.here hx rfl (hb hby d2_167) rfl (l' := #[.val (.int p1), .val (.int (1 : Int32))]) rfl ?_
    show Steps p.tables e below (T9.setTop (mkF m 168 #[.val (.int p1), .val (.int (1 : Int32))] [])) _
    refine XS.iloadN X9.here hx rfl (hb hby d2_168) rfl ?_
    show Steps p.tables e below (T9.setTop (mkF m 169 #[.val (.int p1), .val (.int (1 : Int32))] [(.int (1 : Int32))])) _
    refine XS.ifYes X9.here hx rfl (pc0 := 169) (pc' := 176) rfl (hb hby d2_169) rfl ((if0 _ _).trans (feq hc169).2) (by decide) (by decide) ?_
    show Steps p.tables e below (T9.setTop (mkF m 176 #[.val (.int p1), .val (.int (1 : Int32))] [])) _
    refine XS.iconst X9.here hx rfl (hb hby d2_176) ?_
    show Steps p.tables e below (T9.setTop (mkF m 177 #[.val (.int p1), .val (.int (1 : Int32))] [(.int (0 : Int32))])) _
    exact retN X9 hx (t := .boolean) Bd.returns (by simp) (hb hby d2_177) hr
  · show Q2 Z p1 h0 n0 _ T9.heap _
    exact ⟨by simp [rcF, hc3, hc9, hg22, hc28, hg40, hc47, hc54, hg67, hc74, hg87, hg100, hg113, hg126, hg137], N9, by rw [eq9, eq8, eq7, eq6, eq5, eq4, eq3, eq2]⟩
theorem d2_140 : decode method_3_code 140 = .ok (.iload_n 0, 1) := by decide +kernel
theorem d2_141 : decode method_3_code 141 = .ok (.ldc 16, 2) := by decide +kernel
theorem d2_143 : decode method_3_code 143 = .ok (.ldc 17, 2) := by decide +kernel
theorem d2_145 : decode method_3_code 145 = .ok (.invokestatic 8, 3) := by decide +kernel
theorem d2_148 : decode method_3_code 148 = .ok (.ifCond .ne 14, 3) := by decide +kernel
set_option maxRecDepth 65536 in
set_option maxHeartbeats 40000000 in
theorem rm2_ftfffffffffffftt (l : Launch) (Z : State) (a0 : Array Value) (hw : ∀ d ∈ tables_1, d.before a0 Z = true) (ws : List Jvm.Cond) (p1 : Int32) (h0 : Heap) (n0 : Nat) (Z0 : n0 ≤ h0.size) (hg22 : inF p1 (91 : Int32) (94 : Int32) = (0 : Int32)) (hg40 : inF p1 (123 : Int32) (191 : Int32) = (0 : Int32)) (hg67 : inF p1 (768 : Int32) (879 : Int32) = (0 : Int32)) (hg87 : inF p1 (8192 : Int32) (8203 : Int32) = (0 : Int32)) (hg100 : inF p1 (8206 : Int32) (8303 : Int32) = (0 : Int32)) (hg113 : inF p1 (8592 : Int32) (11263 : Int32) = (0 : Int32)) (hg126 : inF p1 (12272 : Int32) (12288 : Int32) = (0 : Int32)) (hg137 : inF p1 (55296 : Int32) (63743 : Int32) = (0 : Int32)) (hg148 : ¬ (inF p1 (64976 : Int32) (65007 : Int32) = (0 : Int32))) (hc3 : ¬ (p1 < (65 : Int32))) (hc9 : ¬ ((983039 : Int32) < p1)) (hc28 : ¬ (p1 = (96 : Int32))) (hc47 : ¬ (p1 = (215 : Int32))) (hc54 : ¬ (p1 = (247 : Int32))) (hc74 : ¬ (p1 = (894 : Int32))) :
    MetFree l (⟨"com/example/narrow_tree/narrowtree/document/XmlSyntaxIsNcNameStartCharacterPinLaw", "ref", "(I)Z"⟩ : MethodName) (head1 (Jvm.Cond.code (⟨"com/example/narrow_tree/narrowtree/document/XmlSyntaxIsNcNameStartCharacterPinLaw", "ref", "(I)Z"⟩ : MethodName) method_3_code 2 (some .boolean) :: ws) ({ frames := 1, cells := 0, slots := 0, locals := 14 } : Room)) (fun a U => a = #[(.int p1)] ∧ Z.Warmed39 U.vm ∧ U.heap = h0) (fun _ _ _ _ _ => True) (fun _ U o U' => ∃ v L, o = .returned v ∧ Q2 Z p1 h0 n0 v U'.heap L ∧ FrameEnd U o U' L ({ frames := 1, cells := 0, slots := 0, locals := 14 } : Room).cells ({ frames := 1, cells := 0, slots := 0, locals := 14 } : Room).slots) := by
  refine MetFree.of_bodySF (plainFor_of_name pn_2) hisR ?_
  intro p e s m args below meth c s₁ Bd hml0 hP hK
  obtain ⟨rfl, hZ, hh⟩ := hP
  have hx := Bd.exec
  have hby := Bd.bytes
  have hml : c.maxLocals = 2 := hml0
  have hown : s.vm.findClass "com/example/narrow_tree/narrowtree/document/XmlSyntaxIsNcNameStartCharacterPinLaw" = some m.cls := findClass_of_methodNamed Bd.named
  have hnm := (name_of_methodNamed Bd.named Bd.method).1
  have X0 : Stand p l e ({ frames := 1, cells := 0, slots := 0, locals := 14 } : Room) s m #[(.int p1)] below meth c s₁ [] 0 0 := Stand.of_body Bd
  have e0 : s₁.heap = h0 := by rw [← hh, Bd.state]; rfl
  have hc169 : ¬ ((1 : Int32) = (0 : Int32)) := by decide
  have N0 := Fr.nil n0
  have pre0 : ∀ t, Steps p.tables e below (s₁.setTop (mkF m 0 #[.val (.int p1), .unset] [])) t → Steps p.tables e below (s₁.setTop (entryFrame m #[(.int p1)] 2)) t := fun t k => castTop (ef_2 m p1) k
  obtain ⟨_, _, ⟨T2, L2, k2, n2⟩, -, X2, ⟨Lc2, hQ2, l2, y2, z2⟩, st2⟩ := Jvm.LawKit.callS X0 hx (y := (⟨"com/example/narrow_tree/narrowtree/document/XmlSyntaxIsNcNameStartCharacterPinLaw", "in", "(III)Z"⟩ : MethodName)) hown (mvT hZ (hw _ (List.mem_of_getElem? (i := 20) rfl))) (mvT hZ (hw _ (List.mem_of_getElem? (i := 21) rfl))) (mvT hZ (hw _ (List.mem_of_getElem? (i := 18) rfl))) (mvT hZ (hw _ (List.mem_of_getElem? (i := 22) rfl))) (by decide) (backOf (W := 0) (rm3 l Z a0 hw [] p1 (91 : Int32) (94 : Int32) h0 n0 Z0) hZ (hw _ (List.mem_of_getElem? (i := 22) rfl)) (hw _ (List.mem_of_getElem? (i := 18) rfl)) (by decide) (by decide)) (g := (mkF m 19 #[.val (.int p1), .unset] [(.int (94 : Int32)), (.int (91 : Int32)), (.int p1)])) rfl (by rw [hml]; rfl) (argsL := [(.int p1), (.int (91 : Int32)), (.int (94 : Int32))]) (rest := []) (lenOf pd_2_1 rfl) rfl (by show 2 * 0 + _ ≤ _; exact Nat.le_of_eq rfl) (hb hby d2_19) (fun _ _ => ⟨rfl, e0, (by decide : 0 + 0 ≤ _), (by decide : 0 + 0 ≤ _)⟩)
  dsimp only [Pt.U, Pt.locs, Pt.cells, Pt.slots] at X2 l2 y2 z2 st2 hQ2
  subst l2 y2 z2
  obtain ⟨rfl, N2q, eq2⟩ := hQ2
  have N2 := Fr.app N0 N2q
  obtain ⟨_, _, ⟨T3, L3, k3, n3⟩, -, X3, ⟨Lc3, hQ3, l3, y3, z3⟩, st3⟩ := Jvm.LawKit.callS X2 hx (y := (⟨"com/example/narrow_tree/narrowtree/document/XmlSyntaxIsNcNameStartCharacterPinLaw", "in", "(III)Z"⟩ : MethodName)) hown (mvT hZ (hw _ (List.mem_of_getElem? (i := 20) rfl))) (mvT hZ (hw _ (List.mem_of_getElem? (i := 21) rfl))) (mvT hZ (hw _ (List.mem_of_getElem? (i := 18) rfl))) (mvT hZ (hw _ (List.mem_of_getElem? (i := 22) rfl))) (by decide) (backOf (W := 0) (rm3 l Z a0 hw [] p1 (123 : Int32) (191 : Int32) T2.heap n0 (by rw [eq2]; exact Z0)) hZ (hw _ (List.mem_of_getElem? (i := 22) rfl)) (hw _ (List.mem_of_getElem? (i := 18) rfl)) (by decide) (by decide)) (g := (mkF m 37 #[.val (.int p1), .unset] [(.int (191 : Int32)), (.int (123 : Int32)), (.int p1)])) rfl (by rw [hml]; rfl) (argsL := [(.int p1), (.int (123 : Int32)), (.int (191 : Int32))]) (rest := []) (lenOf pd_2_1 rfl) rfl (by show 2 * 0 + _ ≤ _; exact Nat.le_of_eq rfl) (hb hby d2_37) (fun _ _ => ⟨rfl, rfl, (by decide : 0 + 0 ≤ _), (by decide : 0 + 0 ≤ _)⟩)
  dsimp only [Pt.U, Pt.locs, Pt.cells, Pt.slots] at X3 l3 y3 z3 st3 hQ3
  subst l3 y3 z3
  obtain ⟨rfl, N3q, eq3⟩ := hQ3
  have N3 := Fr.app N2 N3q
  obtain ⟨_, _, ⟨T4, L4, k4, n4⟩, -, X4, ⟨Lc4, hQ4, l4, y4, z4⟩, st4⟩ := Jvm.LawKit.callS X3 hx (y := (⟨"com/example/narrow_tree/narrowtree/document/XmlSyntaxIsNcNameStartCharacterPinLaw", "in", "(III)Z"⟩ : MethodName)) hown (mvT hZ (hw _ (List.mem_of_getElem? (i := 20) rfl))) (mvT hZ (hw _ (List.mem_of_getElem? (i := 21) rfl))) (mvT hZ (hw _ (List.mem_of_getElem? (i := 18) rfl))) (mvT hZ (hw _ (List.mem_of_getElem? (i := 22) rfl))) (by decide) (backOf (W := 0) (rm3 l Z a0 hw [] p1 (768 : Int32) (879 : Int32) T3.heap n0 (by rw [eq3, eq2]; exact Z0)) hZ (hw _ (List.mem_of_getElem? (i := 22) rfl)) (hw _ (List.mem_of_getElem? (i := 18) rfl)) (by decide) (by decide)) (g := (mkF m 64 #[.val (.int p1), .unset] [(.int (879 : Int32)), (.int (768 : Int32)), (.int p1)])) rfl (by rw [hml]; rfl) (argsL := [(.int p1), (.int (768 : Int32)), (.int (879 : Int32))]) (rest := []) (lenOf pd_2_1 rfl) rfl (by show 2 * 0 + _ ≤ _; exact Nat.le_of_eq rfl) (hb hby d2_64) (fun _ _ => ⟨rfl, rfl, (by decide : 0 + 0 ≤ _), (by decide : 0 + 0 ≤ _)⟩)
  dsimp only [Pt.U, Pt.locs, Pt.cells, Pt.slots] at X4 l4 y4 z4 st4 hQ4
  subst l4 y4 z4
  obtain ⟨rfl, N4q, eq4⟩ := hQ4
  have N4 := Fr.app N3 N4q
  obtain ⟨_, _, ⟨T5, L5, k5, n5⟩, -, X5, ⟨Lc5, hQ5, l5, y5, z5⟩, st5⟩ := Jvm.LawKit.callS X4 hx (y := (⟨"com/example/narrow_tree/narrowtree/document/XmlSyntaxIsNcNameStartCharacterPinLaw", "in", "(III)Z"⟩ : MethodName)) hown (mvT hZ (hw _ (List.mem_of_getElem? (i := 20) rfl))) (mvT hZ (hw _ (List.mem_of_getElem? (i := 21) rfl))) (mvT hZ (hw _ (List.mem_of_getElem? (i := 18) rfl))) (mvT hZ (hw _ (List.mem_of_getElem? (i := 22) rfl))) (by decide) (backOf (W := 0) (rm3 l Z a0 hw [] p1 (8192 : Int32) (8203 : Int32) T4.heap n0 (by rw [eq4, eq3, eq2]; exact Z0)) hZ (hw _ (List.mem_of_getElem? (i := 22) rfl)) (hw _ (List.mem_of_getElem? (i := 18) rfl)) (by decide) (by decide)) (g := (mkF m 84 #[.val (.int p1), .unset] [(.int (8203 : Int32)), (.int (8192 : Int32)), (.int p1)])) rfl (by rw [hml]; rfl) (argsL := [(.int p1), (.int (8192 : Int32)), (.int (8203 : Int32))]) (rest := []) (lenOf pd_2_1 rfl) rfl (by show 2 * 0 + _ ≤ _; exact Nat.le_of_eq rfl) (hb hby d2_84) (fun _ _ => ⟨rfl, rfl, (by decide : 0 + 0 ≤ _), (by decide : 0 + 0 ≤ _)⟩)
  dsimp only [Pt.U, Pt.locs, Pt.cells, Pt.slots] at X5 l5 y5 z5 st5 hQ5
  subst l5 y5 z5
  obtain ⟨rfl, N5q, eq5⟩ := hQ5
  have N5 := Fr.app N4 N5q
  obtain ⟨_, _, ⟨T6, L6, k6, n6⟩, -, X6, ⟨Lc6, hQ6, l6, y6, z6⟩, st6⟩ := Jvm.LawKit.callS X5 hx (y := (⟨"com/example/narrow_tree/narrowtree/document/XmlSyntaxIsNcNameStartCharacterPinLaw", "in", "(III)Z"⟩ : MethodName)) hown (mvT hZ (hw _ (List.mem_of_getElem? (i := 20) rfl))) (mvT hZ (hw _ (List.mem_of_getElem? (i := 21) rfl))) (mvT hZ (hw _ (List.mem_of_getElem? (i := 18) rfl))) (mvT hZ (hw _ (List.mem_of_getElem? (i := 22) rfl))) (by decide) (backOf (W := 0) (rm3 l Z a0 hw [] p1 (8206 : Int32) (8303 : Int32) T5.heap n0 (by rw [eq5, eq4, eq3, eq2]; exact Z0)) hZ (hw _ (List.mem_of_getElem? (i := 22) rfl)) (hw _ (List.mem_of_getElem? (i := 18) rfl)) (by decide) (by decide)) (g := (mkF m 97 #[.val (.int p1), .unset] [(.int (8303 : Int32)), (.int (8206 : Int32)), (.int p1)])) rfl (by rw [hml]; rfl) (argsL := [(.int p1), (.int (8206 : Int32)), (.int (8303 : Int32))]) (rest := []) (lenOf pd_2_1 rfl) rfl (by show 2 * 0 + _ ≤ _; exact Nat.le_of_eq rfl) (hb hby d2_97) (fun _ _ => ⟨rfl, rfl, (by decide : 0 + 0 ≤ _), (by decide : 0 + 0 ≤ _)⟩)
  dsimp only [Pt.U, Pt.locs, Pt.cells, Pt.slots] at X6 l6 y6 z6 st6 hQ6
  subst l6 y6 z6
  obtain ⟨rfl, N6q, eq6⟩ := hQ6
  have N6 := Fr.app N5 N6q
  obtain ⟨_, _, ⟨T7, L7, k7, n7⟩, -, X7, ⟨Lc7, hQ7, l7, y7, z7⟩, st7⟩ := Jvm.LawKit.callS X6 hx (y := (⟨"com/example/narrow_tree/narrowtree/document/XmlSyntaxIsNcNameStartCharacterPinLaw", "in", "(III)Z"⟩ : MethodName)) hown (mvT hZ (hw _ (List.mem_of_getElem? (i := 20) rfl))) (mvT hZ (hw _ (List.mem_of_getElem? (i := 21) rfl))) (mvT hZ (hw _ (List.mem_of_getElem? (i := 18) rfl))) (mvT hZ (hw _ (List.mem_of_getElem? (i := 22) rfl))) (by decide) (backOf (W := 0) (rm3 l Z a0 hw [] p1 (8592 : Int32) (11263 : Int32) T6.heap n0 (by rw [eq6, eq5, eq4, eq3, eq2]; exact Z0)) hZ (hw _ (List.mem_of_getElem? (i := 22) rfl)) (hw _ (List.mem_of_getElem? (i := 18) rfl)) (by decide) (by decide)) (g := (mkF m 110 #[.val (.int p1), .unset] [(.int (11263 : Int32)), (.int (8592 : Int32)), (.int p1)])) rfl (by rw [hml]; rfl) (argsL := [(.int p1), (.int (8592 : Int32)), (.int (11263 : Int32))]) (rest := []) (lenOf pd_2_1 rfl) rfl (by show 2 * 0 + _ ≤ _; exact Nat.le_of_eq rfl) (hb hby d2_110) (fun _ _ => ⟨rfl, rfl, (by decide : 0 + 0 ≤ _), (by decide : 0 + 0 ≤ _)⟩)
  dsimp only [Pt.U, Pt.locs, Pt.cells, Pt.slots] at X7 l7 y7 z7 st7 hQ7
  subst l7 y7 z7
  obtain ⟨rfl, N7q, eq7⟩ := hQ7
  have N7 := Fr.app N6 N7q
  obtain ⟨_, _, ⟨T8, L8, k8, n8⟩, -, X8, ⟨Lc8, hQ8, l8, y8, z8⟩, st8⟩ := Jvm.LawKit.callS X7 hx (y := (⟨"com/example/narrow_tree/narrowtree/document/XmlSyntaxIsNcNameStartCharacterPinLaw", "in", "(III)Z"⟩ : MethodName)) hown (mvT hZ (hw _ (List.mem_of_getElem? (i := 20) rfl))) (mvT hZ (hw _ (List.mem_of_getElem? (i := 21) rfl))) (mvT hZ (hw _ (List.mem_of_getElem? (i := 18) rfl))) (mvT hZ (hw _ (List.mem_of_getElem? (i := 22) rfl))) (by decide) (backOf (W := 0) (rm3 l Z a0 hw [] p1 (12272 : Int32) (12288 : Int32) T7.heap n0 (by rw [eq7, eq6, eq5, eq4, eq3, eq2]; exact Z0)) hZ (hw _ (List.mem_of_getElem? (i := 22) rfl)) (hw _ (List.mem_of_getElem? (i := 18) rfl)) (by decide) (by decide)) (g := (mkF m 123 #[.val (.int p1), .unset] [(.int (12288 : Int32)), (.int (12272 : Int32)), (.int p1)])) rfl (by rw [hml]; rfl) (argsL := [(.int p1), (.int (12272 : Int32)), (.int (12288 : Int32))]) (rest := []) (lenOf pd_2_1 rfl) rfl (by show 2 * 0 + _ ≤ _; exact Nat.le_of_eq rfl) (hb hby d2_123) (fun _ _ => ⟨rfl, rfl, (by decide : 0 + 0 ≤ _), (by decide : 0 + 0 ≤ _)⟩)
  dsimp only [Pt.U, Pt.locs, Pt.cells, Pt.slots] at X8 l8 y8 z8 st8 hQ8
  subst l8 y8 z8
  obtain ⟨rfl, N8q, eq8⟩ := hQ8
  have N8 := Fr.app N7 N8q
  obtain ⟨_, _, ⟨T9, L9, k9, n9⟩, -, X9, ⟨Lc9, hQ9, l9, y9, z9⟩, st9⟩ := Jvm.LawKit.callS X8 hx (y := (⟨"com/example/narrow_tree/narrowtree/document/XmlSyntaxIsNcNameStartCharacterPinLaw", "in", "(III)Z"⟩ : MethodName)) hown (mvT hZ (hw _ (List.mem_of_getElem? (i := 20) rfl))) (mvT hZ (hw _ (List.mem_of_getElem? (i := 21) rfl))) (mvT hZ (hw _ (List.mem_of_getElem? (i := 18) rfl))) (mvT hZ (hw _ (List.mem_of_getElem? (i := 22) rfl))) (by decide) (backOf (W := 0) (rm3 l Z a0 hw [] p1 (55296 : Int32) (63743 : Int32) T8.heap n0 (by rw [eq8, eq7, eq6, eq5, eq4, eq3, eq2]; exact Z0)) hZ (hw _ (List.mem_of_getElem? (i := 22) rfl)) (hw _ (List.mem_of_getElem? (i := 18) rfl)) (by decide) (by decide)) (g := (mkF m 134 #[.val (.int p1), .unset] [(.int (63743 : Int32)), (.int (55296 : Int32)), (.int p1)])) rfl (by rw [hml]; rfl) (argsL := [(.int p1), (.int (55296 : Int32)), (.int (63743 : Int32))]) (rest := []) (lenOf pd_2_1 rfl) rfl (by show 2 * 0 + _ ≤ _; exact Nat.le_of_eq rfl) (hb hby d2_134) (fun _ _ => ⟨rfl, rfl, (by decide : 0 + 0 ≤ _), (by decide : 0 + 0 ≤ _)⟩)
  dsimp only [Pt.U, Pt.locs, Pt.cells, Pt.slots] at X9 l9 y9 z9 st9 hQ9
  subst l9 y9 z9
  obtain ⟨rfl, N9q, eq9⟩ := hQ9
  have N9 := Fr.app N8 N9q
  obtain ⟨_, _, ⟨T10, L10, k10, n10⟩, -, X10, ⟨Lc10, hQ10, l10, y10, z10⟩, st10⟩ := Jvm.LawKit.callS X9 hx (y := (⟨"com/example/narrow_tree/narrowtree/document/XmlSyntaxIsNcNameStartCharacterPinLaw", "in", "(III)Z"⟩ : MethodName)) hown (mvT hZ (hw _ (List.mem_of_getElem? (i := 20) rfl))) (mvT hZ (hw _ (List.mem_of_getElem? (i := 21) rfl))) (mvT hZ (hw _ (List.mem_of_getElem? (i := 18) rfl))) (mvT hZ (hw _ (List.mem_of_getElem? (i := 22) rfl))) (by decide) (backOf (W := 0) (rm3 l Z a0 hw [] p1 (64976 : Int32) (65007 : Int32) T9.heap n0 (by rw [eq9, eq8, eq7, eq6, eq5, eq4, eq3, eq2]; exact Z0)) hZ (hw _ (List.mem_of_getElem? (i := 22) rfl)) (hw _ (List.mem_of_getElem? (i := 18) rfl)) (by decide) (by decide)) (g := (mkF m 145 #[.val (.int p1), .unset] [(.int (65007 : Int32)), (.int (64976 : Int32)), (.int p1)])) rfl (by rw [hml]; rfl) (argsL := [(.int p1), (.int (64976 : Int32)), (.int (65007 : Int32))]) (rest := []) (lenOf pd_2_1 rfl) rfl (by show 2 * 0 + _ ≤ _; exact Nat.le_of_eq rfl) (hb hby d2_145) (fun _ _ => ⟨rfl, rfl, (by decide : 0 + 0 ≤ _), (by decide : 0 + 0 ≤ _)⟩)
  dsimp only [Pt.U, Pt.locs, Pt.cells, Pt.slots] at X10 l10 y10 z10 st10 hQ10
  subst l10 y10 z10
  obtain ⟨rfl, N10q, eq10⟩ := hQ10
  have N10 := Fr.app N9 N10q
  obtain ⟨fs, hr, hrun, hended, hW, hsame⟩ := X10.leave (v := some (.int (0 : Int32))) (fun h => by rw [Bd.returns] at h; cases h)
  refine ⟨_, _, pre0 _ ?_, hrun, hended, _, _, rfl, ?_, ⟨_, rfl⟩, hW, hsame.mono (by decide) (by decide)⟩
  · show Steps p.tables e below (s₁.setTop (mkF m 0 #[.val (.int p1), .unset] [])) _
    refine XS.iloadN X0.here hx rfl (hb hby d2_0) rfl ?_
    show Steps p.tables e below (s₁.setTop (mkF m 1 #[.val (.int p1), .unset] [(.int p1)])) _
    refine XS.bipush X0.here hx rfl (hb hby d2_1) ?_
    show Steps p.tables e below (s₁.setTop (mkF m 3 #[.val (.int p1), .unset] [(.int (65 : Int32)), (.int p1)])) _
    refine XS.icmpNo X0.here hx rfl (hb hby d2_3) rfl (flt hc3).1 ?_
    show Steps p.tables e below (s₁.setTop (mkF m 6 #[.val (.int p1), .unset] [])) _
    refine XS.iloadN X0.here hx rfl (hb hby d2_6) rfl ?_
    show Steps p.tables e below (s₁.setTop (mkF m 7 #[.val (.int p1), .unset] [(.int p1)])) _
    refine X0.ldcInt hx hown (mvT hZ (hw _ (List.mem_of_getElem? (i := 7) rfl))) (g := (mkF m 7 #[.val (.int p1), .unset] [(.int p1)])) rfl (hb hby d2_7) _ ?_
    show Steps p.tables e below (s₁.setTop (mkF m 9 #[.val (.int p1), .unset] [(.int (983039 : Int32)), (.int p1)])) _
    refine XS.icmpYes X0.here hx rfl (pc0 := 9) (pc' := 14) rfl (hb hby d2_9) rfl (flt hc9).2.2.2 (by decide) (by decide) ?_
    show Steps p.tables e below (s₁.setTop (mkF m 14 #[.val (.int p1), .unset] [])) _
    refine XS.iloadN X0.here hx rfl (hb hby d2_14) rfl ?_
    show Steps p.tables e below (s₁.setTop (mkF m 15 #[.val (.int p1), .unset] [(.int p1)])) _
    refine XS.bipush X0.here hx rfl (hb hby d2_15) ?_
    show Steps p.tables e below (s₁.setTop (mkF m 17 #[.val (.int p1), .unset] [(.int (91 : Int32)), (.int p1)])) _
    refine XS.bipush X0.here hx rfl (hb hby d2_17) ?_
    show Steps p.tables e below (s₁.setTop (mkF m 19 #[.val (.int p1), .unset] [(.int (94 : Int32)), (.int (91 : Int32)), (.int p1)])) _
    refine st2 _ ?_
    show Steps p.tables e below (T2.setTop (mkF m 22 #[.val (.int p1), .unset] [(.int (inF p1 (91 : Int32) (94 : Int32)))])) _
    refine XS.ifNo X2.here hx rfl (hb hby d2_22) rfl ((if0 _ _).trans (teq (hg22 : (inF p1 (91 : Int32) (94 : Int32)) = (0 : Int32))).2) ?_
    show Steps p.tables e below (T2.setTop (mkF m 25 #[.val (.int p1), .unset] [])) _
    refine XS.iloadN X2.here hx rfl (hb hby d2_25) rfl ?_
    show Steps p.tables e below (T2.setTop (mkF m 26 #[.val (.int p1), .unset] [(.int p1)])) _
    refine XS.bipush X2.here hx rfl (hb hby d2_26) ?_
    show Steps p.tables e below (T2.setTop (mkF m 28 #[.val (.int p1), .unset] [(.int (96 : Int32)), (.int p1)])) _
    refine XS.icmpNo X2.here hx rfl (hb hby d2_28) rfl (feq hc28).1 ?_
    show Steps p.tables e below (T2.setTop (mkF m 31 #[.val (.int p1), .unset] [])) _
    refine XS.iloadN X2.here hx rfl (hb hby d2_31) rfl ?_
    show Steps p.tables e below (T2.setTop (mkF m 32 #[.val (.int p1), .unset] [(.int p1)])) _
    refine XS.bipush X2.here hx rfl (hb hby d2_32) ?_
    show Steps p.tables e below (T2.setTop (mkF m 34 #[.val (.int p1), .unset] [(.int (123 : Int32)), (.int p1)])) _
    refine XS.sipush X2.here hx rfl (hb hby d2_34) ?_
    show Steps p.tables e below (T2.setTop (mkF m 37 #[.val (.int p1), .unset] [(.int (191 : Int32)), (.int (123 : Int32)), (.int p1)])) _
    refine st3 _ ?_
    show Steps p.tables e below (T3.setTop (mkF m 40 #[.val (.int p1), .unset] [(.int (inF p1 (123 : Int32) (191 : Int32)))])) _
    refine XS.ifNo X3.here hx rfl (hb hby d2_40) rfl ((if0 _ _).trans (teq (hg40 : (inF p1 (123 : Int32) (191 : Int32)) = (0 : Int32))).2) ?_
    show Steps p.tables e below (T3.setTop (mkF m 43 #[.val (.int p1), .unset] [])) _
    refine XS.iloadN X3.here hx rfl (hb hby d2_43) rfl ?_
    show Steps p.tables e below (T3.setTop (mkF m 44 #[.val (.int p1), .unset] [(.int p1)])) _
    refine XS.sipush X3.here hx rfl (hb hby d2_44) ?_
    show Steps p.tables e below (T3.setTop (mkF m 47 #[.val (.int p1), .unset] [(.int (215 : Int32)), (.int p1)])) _
    refine XS.icmpNo X3.here hx rfl (hb hby d2_47) rfl (feq hc47).1 ?_
    show Steps p.tables e below (T3.setTop (mkF m 50 #[.val (.int p1), .unset] [])) _
    refine XS.iloadN X3.here hx rfl (hb hby d2_50) rfl ?_
    show Steps p.tables e below (T3.setTop (mkF m 51 #[.val (.int p1), .unset] [(.int p1)])) _
    refine XS.sipush X3.here hx rfl (hb hby d2_51) ?_
    show Steps p.tables e below (T3.setTop (mkF m 54 #[.val (.int p1), .unset] [(.int (247 : Int32)), (.int p1)])) _
    refine XS.icmpNo X3.here hx rfl (hb hby d2_54) rfl (feq hc54).1 ?_
    show Steps p.tables e below (T3.setTop (mkF m 57 #[.val (.int p1), .unset] [])) _
    refine XS.iloadN X3.here hx rfl (hb hby d2_57) rfl ?_
    show Steps p.tables e below (T3.setTop (mkF m 58 #[.val (.int p1), .unset] [(.int p1)])) _
    refine XS.sipush X3.here hx rfl (hb hby d2_58) ?_
    show Steps p.tables e below (T3.setTop (mkF m 61 #[.val (.int p1), .unset] [(.int (768 : Int32)), (.int p1)])) _
    refine XS.sipush X3.here hx rfl (hb hby d2_61) ?_
    show Steps p.tables e below (T3.setTop (mkF m 64 #[.val (.int p1), .unset] [(.int (879 : Int32)), (.int (768 : Int32)), (.int p1)])) _
    refine st4 _ ?_
    show Steps p.tables e below (T4.setTop (mkF m 67 #[.val (.int p1), .unset] [(.int (inF p1 (768 : Int32) (879 : Int32)))])) _
    refine XS.ifNo X4.here hx rfl (hb hby d2_67) rfl ((if0 _ _).trans (teq (hg67 : (inF p1 (768 : Int32) (879 : Int32)) = (0 : Int32))).2) ?_
    show Steps p.tables e below (T4.setTop (mkF m 70 #[.val (.int p1), .unset] [])) _
    refine XS.iloadN X4.here hx rfl (hb hby d2_70) rfl ?_
    show Steps p.tables e below (T4.setTop (mkF m 71 #[.val (.int p1), .unset] [(.int p1)])) _
    refine XS.sipush X4.here hx rfl (hb hby d2_71) ?_
    show Steps p.tables e below (T4.setTop (mkF m 74 #[.val (.int p1), .unset] [(.int (894 : Int32)), (.int p1)])) _
    refine XS.icmpNo X4.here hx rfl (hb hby d2_74) rfl (feq hc74).1 ?_
    show Steps p.tables e below (T4.setTop (mkF m 77 #[.val (.int p1), .unset] [])) _
    refine XS.iloadN X4.here hx rfl (hb hby d2_77) rfl ?_
    show Steps p.tables e below (T4.setTop (mkF m 78 #[.val (.int p1), .unset] [(.int p1)])) _
    refine XS.sipush X4.here hx rfl (hb hby d2_78) ?_
    show Steps p.tables e below (T4.setTop (mkF m 81 #[.val (.int p1), .unset] [(.int (8192 : Int32)), (.int p1)])) _
    refine XS.sipush X4.here hx rfl (hb hby d2_81) ?_
    show Steps p.tables e below (T4.setTop (mkF m 84 #[.val (.int p1), .unset] [(.int (8203 : Int32)), (.int (8192 : Int32)), (.int p1)])) _
    refine st5 _ ?_
    show Steps p.tables e below (T5.setTop (mkF m 87 #[.val (.int p1), .unset] [(.int (inF p1 (8192 : Int32) (8203 : Int32)))])) _
    refine XS.ifNo X5.here hx rfl (hb hby d2_87) rfl ((if0 _ _).trans (teq (hg87 : (inF p1 (8192 : Int32) (8203 : Int32)) = (0 : Int32))).2) ?_
    show Steps p.tables e below (T5.setTop (mkF m 90 #[.val (.int p1), .unset] [])) _
    refine XS.iloadN X5.here hx rfl (hb hby d2_90) rfl ?_
    show Steps p.tables e below (T5.setTop (mkF m 91 #[.val (.int p1), .unset] [(.int p1)])) _
    refine XS.sipush X5.here hx rfl (hb hby d2_91) ?_
    show Steps p.tables e below (T5.setTop (mkF m 94 #[.val (.int p1), .unset] [(.int (8206 : Int32)), (.int p1)])) _
    refine XS.sipush X5.here hx rfl (hb hby d2_94) ?_
    show Steps p.tables e below (T5.setTop (mkF m 97 #[.val (.int p1), .unset] [(.int (8303 : Int32)), (.int (8206 : Int32)), (.int p1)])) _
    refine st6 _ ?_
    show Steps p.tables e below (T6.setTop (mkF m 100 #[.val (.int p1), .unset] [(.int (inF p1 (8206 : Int32) (8303 : Int32)))])) _
    refine XS.ifNo X6.here hx rfl (hb hby d2_100) rfl ((if0 _ _).trans (teq (hg100 : (inF p1 (8206 : Int32) (8303 : Int32)) = (0 : Int32))).2) ?_
    show Steps p.tables e below (T6.setTop (mkF m 103 #[.val (.int p1), .unset] [])) _
    refine XS.iloadN X6.here hx rfl (hb hby d2_103) rfl ?_
    show Steps p.tables e below (T6.setTop (mkF m 104 #[.val (.int p1), .unset] [(.int p1)])) _
    refine XS.sipush X6.here hx rfl (hb hby d2_104) ?_
    show Steps p.tables e below (T6.setTop (mkF m 107 #[.val (.int p1), .unset] [(.int (8592 : Int32)), (.int p1)])) _
    refine XS.sipush X6.here hx rfl (hb hby d2_107) ?_
    show Steps p.tables e below (T6.setTop (mkF m 110 #[.val (.int p1), .unset] [(.int (11263 : Int32)), (.int (8592 : Int32)), (.int p1)])) _
    refine st7 _ ?_
    show Steps p.tables e below (T7.setTop (mkF m 113 #[.val (.int p1), .unset] [(.int (inF p1 (8592 : Int32) (11263 : Int32)))])) _
    refine XS.ifNo X7.here hx rfl (hb hby d2_113) rfl ((if0 _ _).trans (teq (hg113 : (inF p1 (8592 : Int32) (11263 : Int32)) = (0 : Int32))).2) ?_
    show Steps p.tables e below (T7.setTop (mkF m 116 #[.val (.int p1), .unset] [])) _
    refine XS.iloadN X7.here hx rfl (hb hby d2_116) rfl ?_
    show Steps p.tables e below (T7.setTop (mkF m 117 #[.val (.int p1), .unset] [(.int p1)])) _
    refine XS.sipush X7.here hx rfl (hb hby d2_117) ?_
    show Steps p.tables e below (T7.setTop (mkF m 120 #[.val (.int p1), .unset] [(.int (12272 : Int32)), (.int p1)])) _
    refine XS.sipush X7.here hx rfl (hb hby d2_120) ?_
    show Steps p.tables e below (T7.setTop (mkF m 123 #[.val (.int p1), .unset] [(.int (12288 : Int32)), (.int (12272 : Int32)), (.int p1)])) _
    refine st8 _ ?_
    show Steps p.tables e below (T8.setTop (mkF m 126 #[.val (.int p1), .unset] [(.int (inF p1 (12272 : Int32) (12288 : Int32)))])) _
    refine XS.ifNo X8.here hx rfl (hb hby d2_126) rfl ((if0 _ _).trans (teq (hg126 : (inF p1 (12272 : Int32) (12288 : Int32)) = (0 : Int32))).2) ?_
    show Steps p.tables e below (T8.setTop (mkF m 129 #[.val (.int p1), .unset] [])) _
    refine XS.iloadN X8.here hx rfl (hb hby d2_129) rfl ?_
    show Steps p.tables e below (T8.setTop (mkF m 130 #[.val (.int p1), .unset] [(.int p1)])) _
    refine X8.ldcInt hx hown (mvT hZ (hw _ (List.mem_of_getElem? (i := 23) rfl))) (g := (mkF m 130 #[.val (.int p1), .unset] [(.int p1)])) rfl (hb hby d2_130) _ ?_
    show Steps p.tables e below (T8.setTop (mkF m 132 #[.val (.int p1), .unset] [(.int (55296 : Int32)), (.int p1)])) _
    refine X8.ldcInt hx hown (mvT hZ (hw _ (List.mem_of_getElem? (i := 24) rfl))) (g := (mkF m 132 #[.val (.int p1), .unset] [(.int (55296 : Int32)), (.int p1)])) rfl (hb hby d2_132) _ ?_
    show Steps p.tables e below (T8.setTop (mkF m 134 #[.val (.int p1), .unset] [(.int (63743 : Int32)), (.int (55296 : Int32)), (.int p1)])) _
    refine st9 _ ?_
    show Steps p.tables e below (T9.setTop (mkF m 137 #[.val (.int p1), .unset] [(.int (inF p1 (55296 : Int32) (63743 : Int32)))])) _
    refine XS.ifNo X9.here hx rfl (hb hby d2_137) rfl ((if0 _ _).trans (teq (hg137 : (inF p1 (55296 : Int32) (63743 : Int32)) = (0 : Int32))).2) ?_
    show Steps p.tables e below (T9.setTop (mkF m 140 #[.val (.int p1), .unset] [])) _
    refine XS.iloadN X9.here hx rfl (hb hby d2_140) rfl ?_
    show Steps p.tables e below (T9.setTop (mkF m 141 #[.val (.int p1), .unset] [(.int p1)])) _
    refine X9.ldcInt hx hown (mvT hZ (hw _ (List.mem_of_getElem? (i := 25) rfl))) (g := (mkF m 141 #[.val (.int p1), .unset] [(.int p1)])) rfl (hb hby d2_141) _ ?_
    show Steps p.tables e below (T9.setTop (mkF m 143 #[.val (.int p1), .unset] [(.int (64976 : Int32)), (.int p1)])) _
    refine X9.ldcInt hx hown (mvT hZ (hw _ (List.mem_of_getElem? (i := 26) rfl))) (g := (mkF m 143 #[.val (.int p1), .unset] [(.int (64976 : Int32)), (.int p1)])) rfl (hb hby d2_143) _ ?_
    show Steps p.tables e below (T9.setTop (mkF m 145 #[.val (.int p1), .unset] [(.int (65007 : Int32)), (.int (64976 : Int32)), (.int p1)])) _
    refine st10 _ ?_
    show Steps p.tables e below (T10.setTop (mkF m 148 #[.val (.int p1), .unset] [(.int (inF p1 (64976 : Int32) (65007 : Int32)))])) _
    refine XS.ifYes X10.here hx rfl (pc0 := 148) (pc' := 162) rfl (hb hby d2_148) rfl ((if0 _ _).trans (feq (hg148 : ¬ ((inF p1 (64976 : Int32) (65007 : Int32)) = (0 : Int32)))).2) (by decide) (by decide) ?_
    show Steps p.tables e below (T10.setTop (mkF m 162 #[.val (.int p1), .unset] [])) _
    refine XS.iconst X10.here hx rfl (hb hby d2_162) ?_
    show Steps p.tables e below (T10.setTop (mkF m 163 #[.val (.int p1), .unset] [(.int (1 : Int32))])) _
    refine XS.goto X10.here hx rfl (pc0 := 163) (pc' := 167) rfl (hb hby d2_163) (by decide) (by decide) ?_
    show Steps p.tables e below (T10.setTop (mkF m 167 #[.val (.int p1), .unset] [(.int (1 : Int32))])) _
    refine XS.istoreN X10.here hx rfl (hb hby d2_167) rfl (l' := #[.val (.int p1), .val (.int (1 : Int32))]) rfl ?_
    show Steps p.tables e below (T10.setTop (mkF m 168 #[.val (.int p1), .val (.int (1 : Int32))] [])) _
    refine XS.iloadN X10.here hx rfl (hb hby d2_168) rfl ?_
    show Steps p.tables e below (T10.setTop (mkF m 169 #[.val (.int p1), .val (.int (1 : Int32))] [(.int (1 : Int32))])) _
    refine XS.ifYes X10.here hx rfl (pc0 := 169) (pc' := 176) rfl (hb hby d2_169) rfl ((if0 _ _).trans (feq hc169).2) (by decide) (by decide) ?_
    show Steps p.tables e below (T10.setTop (mkF m 176 #[.val (.int p1), .val (.int (1 : Int32))] [])) _
    refine XS.iconst X10.here hx rfl (hb hby d2_176) ?_
    show Steps p.tables e below (T10.setTop (mkF m 177 #[.val (.int p1), .val (.int (1 : Int32))] [(.int (0 : Int32))])) _
    exact retN X10 hx (t := .boolean) Bd.returns (by simp) (hb hby d2_177) hr
  · show Q2 Z p1 h0 n0 _ T10.heap _
    exact ⟨by simp [rcF, hc3, hc9, hg22, hc28, hg40, hc47, hc54, hg67, hc74, hg87, hg100, hg113, hg126, hg137, hg148], N10, by rw [eq10, eq9, eq8, eq7, eq6, eq5, eq4, eq3, eq2]⟩
theorem d2_151 : decode method_3_code 151 = .ok (.iload_n 0, 1) := by decide +kernel
theorem d2_152 : decode method_3_code 152 = .ok (.ldc 18, 2) := by decide +kernel
theorem d2_154 : decode method_3_code 154 = .ok (.ldc 19, 2) := by decide +kernel
theorem d2_156 : decode method_3_code 156 = .ok (.invokestatic 8, 3) := by decide +kernel
theorem d2_159 : decode method_3_code 159 = .ok (.ifCond .eq 7, 3) := by decide +kernel
set_option maxRecDepth 65536 in
set_option maxHeartbeats 40000000 in
theorem rm2_ftfffffffffffffft (l : Launch) (Z : State) (a0 : Array Value) (hw : ∀ d ∈ tables_1, d.before a0 Z = true) (ws : List Jvm.Cond) (p1 : Int32) (h0 : Heap) (n0 : Nat) (Z0 : n0 ≤ h0.size) (hg22 : inF p1 (91 : Int32) (94 : Int32) = (0 : Int32)) (hg40 : inF p1 (123 : Int32) (191 : Int32) = (0 : Int32)) (hg67 : inF p1 (768 : Int32) (879 : Int32) = (0 : Int32)) (hg87 : inF p1 (8192 : Int32) (8203 : Int32) = (0 : Int32)) (hg100 : inF p1 (8206 : Int32) (8303 : Int32) = (0 : Int32)) (hg113 : inF p1 (8592 : Int32) (11263 : Int32) = (0 : Int32)) (hg126 : inF p1 (12272 : Int32) (12288 : Int32) = (0 : Int32)) (hg137 : inF p1 (55296 : Int32) (63743 : Int32) = (0 : Int32)) (hg148 : inF p1 (64976 : Int32) (65007 : Int32) = (0 : Int32)) (hg159 : ¬ (inF p1 (65534 : Int32) (65535 : Int32) = (0 : Int32))) (hc3 : ¬ (p1 < (65 : Int32))) (hc9 : ¬ ((983039 : Int32) < p1)) (hc28 : ¬ (p1 = (96 : Int32))) (hc47 : ¬ (p1 = (215 : Int32))) (hc54 : ¬ (p1 = (247 : Int32))) (hc74 : ¬ (p1 = (894 : Int32))) :
    MetFree l (⟨"com/example/narrow_tree/narrowtree/document/XmlSyntaxIsNcNameStartCharacterPinLaw", "ref", "(I)Z"⟩ : MethodName) (head1 (Jvm.Cond.code (⟨"com/example/narrow_tree/narrowtree/document/XmlSyntaxIsNcNameStartCharacterPinLaw", "ref", "(I)Z"⟩ : MethodName) method_3_code 2 (some .boolean) :: ws) ({ frames := 1, cells := 0, slots := 0, locals := 14 } : Room)) (fun a U => a = #[(.int p1)] ∧ Z.Warmed39 U.vm ∧ U.heap = h0) (fun _ _ _ _ _ => True) (fun _ U o U' => ∃ v L, o = .returned v ∧ Q2 Z p1 h0 n0 v U'.heap L ∧ FrameEnd U o U' L ({ frames := 1, cells := 0, slots := 0, locals := 14 } : Room).cells ({ frames := 1, cells := 0, slots := 0, locals := 14 } : Room).slots) := by
  refine MetFree.of_bodySF (plainFor_of_name pn_2) hisR ?_
  intro p e s m args below meth c s₁ Bd hml0 hP hK
  obtain ⟨rfl, hZ, hh⟩ := hP
  have hx := Bd.exec
  have hby := Bd.bytes
  have hml : c.maxLocals = 2 := hml0
  have hown : s.vm.findClass "com/example/narrow_tree/narrowtree/document/XmlSyntaxIsNcNameStartCharacterPinLaw" = some m.cls := findClass_of_methodNamed Bd.named
  have hnm := (name_of_methodNamed Bd.named Bd.method).1
  have X0 : Stand p l e ({ frames := 1, cells := 0, slots := 0, locals := 14 } : Room) s m #[(.int p1)] below meth c s₁ [] 0 0 := Stand.of_body Bd
  have e0 : s₁.heap = h0 := by rw [← hh, Bd.state]; rfl
  have hc169 : ¬ ((1 : Int32) = (0 : Int32)) := by decide
  have N0 := Fr.nil n0
  have pre0 : ∀ t, Steps p.tables e below (s₁.setTop (mkF m 0 #[.val (.int p1), .unset] [])) t → Steps p.tables e below (s₁.setTop (entryFrame m #[(.int p1)] 2)) t := fun t k => castTop (ef_2 m p1) k
  obtain ⟨_, _, ⟨T2, L2, k2, n2⟩, -, X2, ⟨Lc2, hQ2, l2, y2, z2⟩, st2⟩ := Jvm.LawKit.callS X0 hx (y := (⟨"com/example/narrow_tree/narrowtree/document/XmlSyntaxIsNcNameStartCharacterPinLaw", "in", "(III)Z"⟩ : MethodName)) hown (mvT hZ (hw _ (List.mem_of_getElem? (i := 20) rfl))) (mvT hZ (hw _ (List.mem_of_getElem? (i := 21) rfl))) (mvT hZ (hw _ (List.mem_of_getElem? (i := 18) rfl))) (mvT hZ (hw _ (List.mem_of_getElem? (i := 22) rfl))) (by decide) (backOf (W := 0) (rm3 l Z a0 hw [] p1 (91 : Int32) (94 : Int32) h0 n0 Z0) hZ (hw _ (List.mem_of_getElem? (i := 22) rfl)) (hw _ (List.mem_of_getElem? (i := 18) rfl)) (by decide) (by decide)) (g := (mkF m 19 #[.val (.int p1), .unset] [(.int (94 : Int32)), (.int (91 : Int32)), (.int p1)])) rfl (by rw [hml]; rfl) (argsL := [(.int p1), (.int (91 : Int32)), (.int (94 : Int32))]) (rest := []) (lenOf pd_2_1 rfl) rfl (by show 2 * 0 + _ ≤ _; exact Nat.le_of_eq rfl) (hb hby d2_19) (fun _ _ => ⟨rfl, e0, (by decide : 0 + 0 ≤ _), (by decide : 0 + 0 ≤ _)⟩)
  dsimp only [Pt.U, Pt.locs, Pt.cells, Pt.slots] at X2 l2 y2 z2 st2 hQ2
  subst l2 y2 z2
  obtain ⟨rfl, N2q, eq2⟩ := hQ2
  have N2 := Fr.app N0 N2q
  obtain ⟨_, _, ⟨T3, L3, k3, n3⟩, -, X3, ⟨Lc3, hQ3, l3, y3, z3⟩, st3⟩ := Jvm.LawKit.callS X2 hx (y := (⟨"com/example/narrow_tree/narrowtree/document/XmlSyntaxIsNcNameStartCharacterPinLaw", "in", "(III)Z"⟩ : MethodName)) hown (mvT hZ (hw _ (List.mem_of_getElem? (i := 20) rfl))) (mvT hZ (hw _ (List.mem_of_getElem? (i := 21) rfl))) (mvT hZ (hw _ (List.mem_of_getElem? (i := 18) rfl))) (mvT hZ (hw _ (List.mem_of_getElem? (i := 22) rfl))) (by decide) (backOf (W := 0) (rm3 l Z a0 hw [] p1 (123 : Int32) (191 : Int32) T2.heap n0 (by rw [eq2]; exact Z0)) hZ (hw _ (List.mem_of_getElem? (i := 22) rfl)) (hw _ (List.mem_of_getElem? (i := 18) rfl)) (by decide) (by decide)) (g := (mkF m 37 #[.val (.int p1), .unset] [(.int (191 : Int32)), (.int (123 : Int32)), (.int p1)])) rfl (by rw [hml]; rfl) (argsL := [(.int p1), (.int (123 : Int32)), (.int (191 : Int32))]) (rest := []) (lenOf pd_2_1 rfl) rfl (by show 2 * 0 + _ ≤ _; exact Nat.le_of_eq rfl) (hb hby d2_37) (fun _ _ => ⟨rfl, rfl, (by decide : 0 + 0 ≤ _), (by decide : 0 + 0 ≤ _)⟩)
  dsimp only [Pt.U, Pt.locs, Pt.cells, Pt.slots] at X3 l3 y3 z3 st3 hQ3
  subst l3 y3 z3
  obtain ⟨rfl, N3q, eq3⟩ := hQ3
  have N3 := Fr.app N2 N3q
  obtain ⟨_, _, ⟨T4, L4, k4, n4⟩, -, X4, ⟨Lc4, hQ4, l4, y4, z4⟩, st4⟩ := Jvm.LawKit.callS X3 hx (y := (⟨"com/example/narrow_tree/narrowtree/document/XmlSyntaxIsNcNameStartCharacterPinLaw", "in", "(III)Z"⟩ : MethodName)) hown (mvT hZ (hw _ (List.mem_of_getElem? (i := 20) rfl))) (mvT hZ (hw _ (List.mem_of_getElem? (i := 21) rfl))) (mvT hZ (hw _ (List.mem_of_getElem? (i := 18) rfl))) (mvT hZ (hw _ (List.mem_of_getElem? (i := 22) rfl))) (by decide) (backOf (W := 0) (rm3 l Z a0 hw [] p1 (768 : Int32) (879 : Int32) T3.heap n0 (by rw [eq3, eq2]; exact Z0)) hZ (hw _ (List.mem_of_getElem? (i := 22) rfl)) (hw _ (List.mem_of_getElem? (i := 18) rfl)) (by decide) (by decide)) (g := (mkF m 64 #[.val (.int p1), .unset] [(.int (879 : Int32)), (.int (768 : Int32)), (.int p1)])) rfl (by rw [hml]; rfl) (argsL := [(.int p1), (.int (768 : Int32)), (.int (879 : Int32))]) (rest := []) (lenOf pd_2_1 rfl) rfl (by show 2 * 0 + _ ≤ _; exact Nat.le_of_eq rfl) (hb hby d2_64) (fun _ _ => ⟨rfl, rfl, (by decide : 0 + 0 ≤ _), (by decide : 0 + 0 ≤ _)⟩)
  dsimp only [Pt.U, Pt.locs, Pt.cells, Pt.slots] at X4 l4 y4 z4 st4 hQ4
  subst l4 y4 z4
  obtain ⟨rfl, N4q, eq4⟩ := hQ4
  have N4 := Fr.app N3 N4q
  obtain ⟨_, _, ⟨T5, L5, k5, n5⟩, -, X5, ⟨Lc5, hQ5, l5, y5, z5⟩, st5⟩ := Jvm.LawKit.callS X4 hx (y := (⟨"com/example/narrow_tree/narrowtree/document/XmlSyntaxIsNcNameStartCharacterPinLaw", "in", "(III)Z"⟩ : MethodName)) hown (mvT hZ (hw _ (List.mem_of_getElem? (i := 20) rfl))) (mvT hZ (hw _ (List.mem_of_getElem? (i := 21) rfl))) (mvT hZ (hw _ (List.mem_of_getElem? (i := 18) rfl))) (mvT hZ (hw _ (List.mem_of_getElem? (i := 22) rfl))) (by decide) (backOf (W := 0) (rm3 l Z a0 hw [] p1 (8192 : Int32) (8203 : Int32) T4.heap n0 (by rw [eq4, eq3, eq2]; exact Z0)) hZ (hw _ (List.mem_of_getElem? (i := 22) rfl)) (hw _ (List.mem_of_getElem? (i := 18) rfl)) (by decide) (by decide)) (g := (mkF m 84 #[.val (.int p1), .unset] [(.int (8203 : Int32)), (.int (8192 : Int32)), (.int p1)])) rfl (by rw [hml]; rfl) (argsL := [(.int p1), (.int (8192 : Int32)), (.int (8203 : Int32))]) (rest := []) (lenOf pd_2_1 rfl) rfl (by show 2 * 0 + _ ≤ _; exact Nat.le_of_eq rfl) (hb hby d2_84) (fun _ _ => ⟨rfl, rfl, (by decide : 0 + 0 ≤ _), (by decide : 0 + 0 ≤ _)⟩)
  dsimp only [Pt.U, Pt.locs, Pt.cells, Pt.slots] at X5 l5 y5 z5 st5 hQ5
  subst l5 y5 z5
  obtain ⟨rfl, N5q, eq5⟩ := hQ5
  have N5 := Fr.app N4 N5q
  obtain ⟨_, _, ⟨T6, L6, k6, n6⟩, -, X6, ⟨Lc6, hQ6, l6, y6, z6⟩, st6⟩ := Jvm.LawKit.callS X5 hx (y := (⟨"com/example/narrow_tree/narrowtree/document/XmlSyntaxIsNcNameStartCharacterPinLaw", "in", "(III)Z"⟩ : MethodName)) hown (mvT hZ (hw _ (List.mem_of_getElem? (i := 20) rfl))) (mvT hZ (hw _ (List.mem_of_getElem? (i := 21) rfl))) (mvT hZ (hw _ (List.mem_of_getElem? (i := 18) rfl))) (mvT hZ (hw _ (List.mem_of_getElem? (i := 22) rfl))) (by decide) (backOf (W := 0) (rm3 l Z a0 hw [] p1 (8206 : Int32) (8303 : Int32) T5.heap n0 (by rw [eq5, eq4, eq3, eq2]; exact Z0)) hZ (hw _ (List.mem_of_getElem? (i := 22) rfl)) (hw _ (List.mem_of_getElem? (i := 18) rfl)) (by decide) (by decide)) (g := (mkF m 97 #[.val (.int p1), .unset] [(.int (8303 : Int32)), (.int (8206 : Int32)), (.int p1)])) rfl (by rw [hml]; rfl) (argsL := [(.int p1), (.int (8206 : Int32)), (.int (8303 : Int32))]) (rest := []) (lenOf pd_2_1 rfl) rfl (by show 2 * 0 + _ ≤ _; exact Nat.le_of_eq rfl) (hb hby d2_97) (fun _ _ => ⟨rfl, rfl, (by decide : 0 + 0 ≤ _), (by decide : 0 + 0 ≤ _)⟩)
  dsimp only [Pt.U, Pt.locs, Pt.cells, Pt.slots] at X6 l6 y6 z6 st6 hQ6
  subst l6 y6 z6
  obtain ⟨rfl, N6q, eq6⟩ := hQ6
  have N6 := Fr.app N5 N6q
  obtain ⟨_, _, ⟨T7, L7, k7, n7⟩, -, X7, ⟨Lc7, hQ7, l7, y7, z7⟩, st7⟩ := Jvm.LawKit.callS X6 hx (y := (⟨"com/example/narrow_tree/narrowtree/document/XmlSyntaxIsNcNameStartCharacterPinLaw", "in", "(III)Z"⟩ : MethodName)) hown (mvT hZ (hw _ (List.mem_of_getElem? (i := 20) rfl))) (mvT hZ (hw _ (List.mem_of_getElem? (i := 21) rfl))) (mvT hZ (hw _ (List.mem_of_getElem? (i := 18) rfl))) (mvT hZ (hw _ (List.mem_of_getElem? (i := 22) rfl))) (by decide) (backOf (W := 0) (rm3 l Z a0 hw [] p1 (8592 : Int32) (11263 : Int32) T6.heap n0 (by rw [eq6, eq5, eq4, eq3, eq2]; exact Z0)) hZ (hw _ (List.mem_of_getElem? (i := 22) rfl)) (hw _ (List.mem_of_getElem? (i := 18) rfl)) (by decide) (by decide)) (g := (mkF m 110 #[.val (.int p1), .unset] [(.int (11263 : Int32)), (.int (8592 : Int32)), (.int p1)])) rfl (by rw [hml]; rfl) (argsL := [(.int p1), (.int (8592 : Int32)), (.int (11263 : Int32))]) (rest := []) (lenOf pd_2_1 rfl) rfl (by show 2 * 0 + _ ≤ _; exact Nat.le_of_eq rfl) (hb hby d2_110) (fun _ _ => ⟨rfl, rfl, (by decide : 0 + 0 ≤ _), (by decide : 0 + 0 ≤ _)⟩)
  dsimp only [Pt.U, Pt.locs, Pt.cells, Pt.slots] at X7 l7 y7 z7 st7 hQ7
  subst l7 y7 z7
  obtain ⟨rfl, N7q, eq7⟩ := hQ7
  have N7 := Fr.app N6 N7q
  obtain ⟨_, _, ⟨T8, L8, k8, n8⟩, -, X8, ⟨Lc8, hQ8, l8, y8, z8⟩, st8⟩ := Jvm.LawKit.callS X7 hx (y := (⟨"com/example/narrow_tree/narrowtree/document/XmlSyntaxIsNcNameStartCharacterPinLaw", "in", "(III)Z"⟩ : MethodName)) hown (mvT hZ (hw _ (List.mem_of_getElem? (i := 20) rfl))) (mvT hZ (hw _ (List.mem_of_getElem? (i := 21) rfl))) (mvT hZ (hw _ (List.mem_of_getElem? (i := 18) rfl))) (mvT hZ (hw _ (List.mem_of_getElem? (i := 22) rfl))) (by decide) (backOf (W := 0) (rm3 l Z a0 hw [] p1 (12272 : Int32) (12288 : Int32) T7.heap n0 (by rw [eq7, eq6, eq5, eq4, eq3, eq2]; exact Z0)) hZ (hw _ (List.mem_of_getElem? (i := 22) rfl)) (hw _ (List.mem_of_getElem? (i := 18) rfl)) (by decide) (by decide)) (g := (mkF m 123 #[.val (.int p1), .unset] [(.int (12288 : Int32)), (.int (12272 : Int32)), (.int p1)])) rfl (by rw [hml]; rfl) (argsL := [(.int p1), (.int (12272 : Int32)), (.int (12288 : Int32))]) (rest := []) (lenOf pd_2_1 rfl) rfl (by show 2 * 0 + _ ≤ _; exact Nat.le_of_eq rfl) (hb hby d2_123) (fun _ _ => ⟨rfl, rfl, (by decide : 0 + 0 ≤ _), (by decide : 0 + 0 ≤ _)⟩)
  dsimp only [Pt.U, Pt.locs, Pt.cells, Pt.slots] at X8 l8 y8 z8 st8 hQ8
  subst l8 y8 z8
  obtain ⟨rfl, N8q, eq8⟩ := hQ8
  have N8 := Fr.app N7 N8q
  obtain ⟨_, _, ⟨T9, L9, k9, n9⟩, -, X9, ⟨Lc9, hQ9, l9, y9, z9⟩, st9⟩ := Jvm.LawKit.callS X8 hx (y := (⟨"com/example/narrow_tree/narrowtree/document/XmlSyntaxIsNcNameStartCharacterPinLaw", "in", "(III)Z"⟩ : MethodName)) hown (mvT hZ (hw _ (List.mem_of_getElem? (i := 20) rfl))) (mvT hZ (hw _ (List.mem_of_getElem? (i := 21) rfl))) (mvT hZ (hw _ (List.mem_of_getElem? (i := 18) rfl))) (mvT hZ (hw _ (List.mem_of_getElem? (i := 22) rfl))) (by decide) (backOf (W := 0) (rm3 l Z a0 hw [] p1 (55296 : Int32) (63743 : Int32) T8.heap n0 (by rw [eq8, eq7, eq6, eq5, eq4, eq3, eq2]; exact Z0)) hZ (hw _ (List.mem_of_getElem? (i := 22) rfl)) (hw _ (List.mem_of_getElem? (i := 18) rfl)) (by decide) (by decide)) (g := (mkF m 134 #[.val (.int p1), .unset] [(.int (63743 : Int32)), (.int (55296 : Int32)), (.int p1)])) rfl (by rw [hml]; rfl) (argsL := [(.int p1), (.int (55296 : Int32)), (.int (63743 : Int32))]) (rest := []) (lenOf pd_2_1 rfl) rfl (by show 2 * 0 + _ ≤ _; exact Nat.le_of_eq rfl) (hb hby d2_134) (fun _ _ => ⟨rfl, rfl, (by decide : 0 + 0 ≤ _), (by decide : 0 + 0 ≤ _)⟩)
  dsimp only [Pt.U, Pt.locs, Pt.cells, Pt.slots] at X9 l9 y9 z9 st9 hQ9
  subst l9 y9 z9
  obtain ⟨rfl, N9q, eq9⟩ := hQ9
  have N9 := Fr.app N8 N9q
  obtain ⟨_, _, ⟨T10, L10, k10, n10⟩, -, X10, ⟨Lc10, hQ10, l10, y10, z10⟩, st10⟩ := Jvm.LawKit.callS X9 hx (y := (⟨"com/example/narrow_tree/narrowtree/document/XmlSyntaxIsNcNameStartCharacterPinLaw", "in", "(III)Z"⟩ : MethodName)) hown (mvT hZ (hw _ (List.mem_of_getElem? (i := 20) rfl))) (mvT hZ (hw _ (List.mem_of_getElem? (i := 21) rfl))) (mvT hZ (hw _ (List.mem_of_getElem? (i := 18) rfl))) (mvT hZ (hw _ (List.mem_of_getElem? (i := 22) rfl))) (by decide) (backOf (W := 0) (rm3 l Z a0 hw [] p1 (64976 : Int32) (65007 : Int32) T9.heap n0 (by rw [eq9, eq8, eq7, eq6, eq5, eq4, eq3, eq2]; exact Z0)) hZ (hw _ (List.mem_of_getElem? (i := 22) rfl)) (hw _ (List.mem_of_getElem? (i := 18) rfl)) (by decide) (by decide)) (g := (mkF m 145 #[.val (.int p1), .unset] [(.int (65007 : Int32)), (.int (64976 : Int32)), (.int p1)])) rfl (by rw [hml]; rfl) (argsL := [(.int p1), (.int (64976 : Int32)), (.int (65007 : Int32))]) (rest := []) (lenOf pd_2_1 rfl) rfl (by show 2 * 0 + _ ≤ _; exact Nat.le_of_eq rfl) (hb hby d2_145) (fun _ _ => ⟨rfl, rfl, (by decide : 0 + 0 ≤ _), (by decide : 0 + 0 ≤ _)⟩)
  dsimp only [Pt.U, Pt.locs, Pt.cells, Pt.slots] at X10 l10 y10 z10 st10 hQ10
  subst l10 y10 z10
  obtain ⟨rfl, N10q, eq10⟩ := hQ10
  have N10 := Fr.app N9 N10q
  obtain ⟨_, _, ⟨T11, L11, k11, n11⟩, -, X11, ⟨Lc11, hQ11, l11, y11, z11⟩, st11⟩ := Jvm.LawKit.callS X10 hx (y := (⟨"com/example/narrow_tree/narrowtree/document/XmlSyntaxIsNcNameStartCharacterPinLaw", "in", "(III)Z"⟩ : MethodName)) hown (mvT hZ (hw _ (List.mem_of_getElem? (i := 20) rfl))) (mvT hZ (hw _ (List.mem_of_getElem? (i := 21) rfl))) (mvT hZ (hw _ (List.mem_of_getElem? (i := 18) rfl))) (mvT hZ (hw _ (List.mem_of_getElem? (i := 22) rfl))) (by decide) (backOf (W := 0) (rm3 l Z a0 hw [] p1 (65534 : Int32) (65535 : Int32) T10.heap n0 (by rw [eq10, eq9, eq8, eq7, eq6, eq5, eq4, eq3, eq2]; exact Z0)) hZ (hw _ (List.mem_of_getElem? (i := 22) rfl)) (hw _ (List.mem_of_getElem? (i := 18) rfl)) (by decide) (by decide)) (g := (mkF m 156 #[.val (.int p1), .unset] [(.int (65535 : Int32)), (.int (65534 : Int32)), (.int p1)])) rfl (by rw [hml]; rfl) (argsL := [(.int p1), (.int (65534 : Int32)), (.int (65535 : Int32))]) (rest := []) (lenOf pd_2_1 rfl) rfl (by show 2 * 0 + _ ≤ _; exact Nat.le_of_eq rfl) (hb hby d2_156) (fun _ _ => ⟨rfl, rfl, (by decide : 0 + 0 ≤ _), (by decide : 0 + 0 ≤ _)⟩)
  dsimp only [Pt.U, Pt.locs, Pt.cells, Pt.slots] at X11 l11 y11 z11 st11 hQ11
  subst l11 y11 z11
  obtain ⟨rfl, N11q, eq11⟩ := hQ11
  have N11 := Fr.app N10 N11q
  obtain ⟨fs, hr, hrun, hended, hW, hsame⟩ := X11.leave (v := some (.int (0 : Int32))) (fun h => by rw [Bd.returns] at h; cases h)
  refine ⟨_, _, pre0 _ ?_, hrun, hended, _, _, rfl, ?_, ⟨_, rfl⟩, hW, hsame.mono (by decide) (by decide)⟩
  · show Steps p.tables e below (s₁.setTop (mkF m 0 #[.val (.int p1), .unset] [])) _
    refine XS.iloadN X0.here hx rfl (hb hby d2_0) rfl ?_
    show Steps p.tables e below (s₁.setTop (mkF m 1 #[.val (.int p1), .unset] [(.int p1)])) _
    refine XS.bipush X0.here hx rfl (hb hby d2_1) ?_
    show Steps p.tables e below (s₁.setTop (mkF m 3 #[.val (.int p1), .unset] [(.int (65 : Int32)), (.int p1)])) _
    refine XS.icmpNo X0.here hx rfl (hb hby d2_3) rfl (flt hc3).1 ?_
    show Steps p.tables e below (s₁.setTop (mkF m 6 #[.val (.int p1), .unset] [])) _
    refine XS.iloadN X0.here hx rfl (hb hby d2_6) rfl ?_
    show Steps p.tables e below (s₁.setTop (mkF m 7 #[.val (.int p1), .unset] [(.int p1)])) _
    refine X0.ldcInt hx hown (mvT hZ (hw _ (List.mem_of_getElem? (i := 7) rfl))) (g := (mkF m 7 #[.val (.int p1), .unset] [(.int p1)])) rfl (hb hby d2_7) _ ?_
    show Steps p.tables e below (s₁.setTop (mkF m 9 #[.val (.int p1), .unset] [(.int (983039 : Int32)), (.int p1)])) _
    refine XS.icmpYes X0.here hx rfl (pc0 := 9) (pc' := 14) rfl (hb hby d2_9) rfl (flt hc9).2.2.2 (by decide) (by decide) ?_
    show Steps p.tables e below (s₁.setTop (mkF m 14 #[.val (.int p1), .unset] [])) _
    refine XS.iloadN X0.here hx rfl (hb hby d2_14) rfl ?_
    show Steps p.tables e below (s₁.setTop (mkF m 15 #[.val (.int p1), .unset] [(.int p1)])) _
    refine XS.bipush X0.here hx rfl (hb hby d2_15) ?_
    show Steps p.tables e below (s₁.setTop (mkF m 17 #[.val (.int p1), .unset] [(.int (91 : Int32)), (.int p1)])) _
    refine XS.bipush X0.here hx rfl (hb hby d2_17) ?_
    show Steps p.tables e below (s₁.setTop (mkF m 19 #[.val (.int p1), .unset] [(.int (94 : Int32)), (.int (91 : Int32)), (.int p1)])) _
    refine st2 _ ?_
    show Steps p.tables e below (T2.setTop (mkF m 22 #[.val (.int p1), .unset] [(.int (inF p1 (91 : Int32) (94 : Int32)))])) _
    refine XS.ifNo X2.here hx rfl (hb hby d2_22) rfl ((if0 _ _).trans (teq (hg22 : (inF p1 (91 : Int32) (94 : Int32)) = (0 : Int32))).2) ?_
    show Steps p.tables e below (T2.setTop (mkF m 25 #[.val (.int p1), .unset] [])) _
    refine XS.iloadN X2.here hx rfl (hb hby d2_25) rfl ?_
    show Steps p.tables e below (T2.setTop (mkF m 26 #[.val (.int p1), .unset] [(.int p1)])) _
    refine XS.bipush X2.here hx rfl (hb hby d2_26) ?_
    show Steps p.tables e below (T2.setTop (mkF m 28 #[.val (.int p1), .unset] [(.int (96 : Int32)), (.int p1)])) _
    refine XS.icmpNo X2.here hx rfl (hb hby d2_28) rfl (feq hc28).1 ?_
    show Steps p.tables e below (T2.setTop (mkF m 31 #[.val (.int p1), .unset] [])) _
    refine XS.iloadN X2.here hx rfl (hb hby d2_31) rfl ?_
    show Steps p.tables e below (T2.setTop (mkF m 32 #[.val (.int p1), .unset] [(.int p1)])) _
    refine XS.bipush X2.here hx rfl (hb hby d2_32) ?_
    show Steps p.tables e below (T2.setTop (mkF m 34 #[.val (.int p1), .unset] [(.int (123 : Int32)), (.int p1)])) _
    refine XS.sipush X2.here hx rfl (hb hby d2_34) ?_
    show Steps p.tables e below (T2.setTop (mkF m 37 #[.val (.int p1), .unset] [(.int (191 : Int32)), (.int (123 : Int32)), (.int p1)])) _
    refine st3 _ ?_
    show Steps p.tables e below (T3.setTop (mkF m 40 #[.val (.int p1), .unset] [(.int (inF p1 (123 : Int32) (191 : Int32)))])) _
    refine XS.ifNo X3.here hx rfl (hb hby d2_40) rfl ((if0 _ _).trans (teq (hg40 : (inF p1 (123 : Int32) (191 : Int32)) = (0 : Int32))).2) ?_
    show Steps p.tables e below (T3.setTop (mkF m 43 #[.val (.int p1), .unset] [])) _
    refine XS.iloadN X3.here hx rfl (hb hby d2_43) rfl ?_
    show Steps p.tables e below (T3.setTop (mkF m 44 #[.val (.int p1), .unset] [(.int p1)])) _
    refine XS.sipush X3.here hx rfl (hb hby d2_44) ?_
    show Steps p.tables e below (T3.setTop (mkF m 47 #[.val (.int p1), .unset] [(.int (215 : Int32)), (.int p1)])) _
    refine XS.icmpNo X3.here hx rfl (hb hby d2_47) rfl (feq hc47).1 ?_
    show Steps p.tables e below (T3.setTop (mkF m 50 #[.val (.int p1), .unset] [])) _
    refine XS.iloadN X3.here hx rfl (hb hby d2_50) rfl ?_
    show Steps p.tables e below (T3.setTop (mkF m 51 #[.val (.int p1), .unset] [(.int p1)])) _
    refine XS.sipush X3.here hx rfl (hb hby d2_51) ?_
    show Steps p.tables e below (T3.setTop (mkF m 54 #[.val (.int p1), .unset] [(.int (247 : Int32)), (.int p1)])) _
    refine XS.icmpNo X3.here hx rfl (hb hby d2_54) rfl (feq hc54).1 ?_
    show Steps p.tables e below (T3.setTop (mkF m 57 #[.val (.int p1), .unset] [])) _
    refine XS.iloadN X3.here hx rfl (hb hby d2_57) rfl ?_
    show Steps p.tables e below (T3.setTop (mkF m 58 #[.val (.int p1), .unset] [(.int p1)])) _
    refine XS.sipush X3.here hx rfl (hb hby d2_58) ?_
    show Steps p.tables e below (T3.setTop (mkF m 61 #[.val (.int p1), .unset] [(.int (768 : Int32)), (.int p1)])) _
    refine XS.sipush X3.here hx rfl (hb hby d2_61) ?_
    show Steps p.tables e below (T3.setTop (mkF m 64 #[.val (.int p1), .unset] [(.int (879 : Int32)), (.int (768 : Int32)), (.int p1)])) _
    refine st4 _ ?_
    show Steps p.tables e below (T4.setTop (mkF m 67 #[.val (.int p1), .unset] [(.int (inF p1 (768 : Int32) (879 : Int32)))])) _
    refine XS.ifNo X4.here hx rfl (hb hby d2_67) rfl ((if0 _ _).trans (teq (hg67 : (inF p1 (768 : Int32) (879 : Int32)) = (0 : Int32))).2) ?_
    show Steps p.tables e below (T4.setTop (mkF m 70 #[.val (.int p1), .unset] [])) _
    refine XS.iloadN X4.here hx rfl (hb hby d2_70) rfl ?_
    show Steps p.tables e below (T4.setTop (mkF m 71 #[.val (.int p1), .unset] [(.int p1)])) _
    refine XS.sipush X4.here hx rfl (hb hby d2_71) ?_
    show Steps p.tables e below (T4.setTop (mkF m 74 #[.val (.int p1), .unset] [(.int (894 : Int32)), (.int p1)])) _
    refine XS.icmpNo X4.here hx rfl (hb hby d2_74) rfl (feq hc74).1 ?_
    show Steps p.tables e below (T4.setTop (mkF m 77 #[.val (.int p1), .unset] [])) _
    refine XS.iloadN X4.here hx rfl (hb hby d2_77) rfl ?_
    show Steps p.tables e below (T4.setTop (mkF m 78 #[.val (.int p1), .unset] [(.int p1)])) _
    refine XS.sipush X4.here hx rfl (hb hby d2_78) ?_
    show Steps p.tables e below (T4.setTop (mkF m 81 #[.val (.int p1), .unset] [(.int (8192 : Int32)), (.int p1)])) _
    refine XS.sipush X4.here hx rfl (hb hby d2_81) ?_
    show Steps p.tables e below (T4.setTop (mkF m 84 #[.val (.int p1), .unset] [(.int (8203 : Int32)), (.int (8192 : Int32)), (.int p1)])) _
    refine st5 _ ?_
    show Steps p.tables e below (T5.setTop (mkF m 87 #[.val (.int p1), .unset] [(.int (inF p1 (8192 : Int32) (8203 : Int32)))])) _
    refine XS.ifNo X5.here hx rfl (hb hby d2_87) rfl ((if0 _ _).trans (teq (hg87 : (inF p1 (8192 : Int32) (8203 : Int32)) = (0 : Int32))).2) ?_
    show Steps p.tables e below (T5.setTop (mkF m 90 #[.val (.int p1), .unset] [])) _
    refine XS.iloadN X5.here hx rfl (hb hby d2_90) rfl ?_
    show Steps p.tables e below (T5.setTop (mkF m 91 #[.val (.int p1), .unset] [(.int p1)])) _
    refine XS.sipush X5.here hx rfl (hb hby d2_91) ?_
    show Steps p.tables e below (T5.setTop (mkF m 94 #[.val (.int p1), .unset] [(.int (8206 : Int32)), (.int p1)])) _
    refine XS.sipush X5.here hx rfl (hb hby d2_94) ?_
    show Steps p.tables e below (T5.setTop (mkF m 97 #[.val (.int p1), .unset] [(.int (8303 : Int32)), (.int (8206 : Int32)), (.int p1)])) _
    refine st6 _ ?_
    show Steps p.tables e below (T6.setTop (mkF m 100 #[.val (.int p1), .unset] [(.int (inF p1 (8206 : Int32) (8303 : Int32)))])) _
    refine XS.ifNo X6.here hx rfl (hb hby d2_100) rfl ((if0 _ _).trans (teq (hg100 : (inF p1 (8206 : Int32) (8303 : Int32)) = (0 : Int32))).2) ?_
    show Steps p.tables e below (T6.setTop (mkF m 103 #[.val (.int p1), .unset] [])) _
    refine XS.iloadN X6.here hx rfl (hb hby d2_103) rfl ?_
    show Steps p.tables e below (T6.setTop (mkF m 104 #[.val (.int p1), .unset] [(.int p1)])) _
    refine XS.sipush X6.here hx rfl (hb hby d2_104) ?_
    show Steps p.tables e below (T6.setTop (mkF m 107 #[.val (.int p1), .unset] [(.int (8592 : Int32)), (.int p1)])) _
    refine XS.sipush X6.here hx rfl (hb hby d2_107) ?_
    show Steps p.tables e below (T6.setTop (mkF m 110 #[.val (.int p1), .unset] [(.int (11263 : Int32)), (.int (8592 : Int32)), (.int p1)])) _
    refine st7 _ ?_
    show Steps p.tables e below (T7.setTop (mkF m 113 #[.val (.int p1), .unset] [(.int (inF p1 (8592 : Int32) (11263 : Int32)))])) _
    refine XS.ifNo X7.here hx rfl (hb hby d2_113) rfl ((if0 _ _).trans (teq (hg113 : (inF p1 (8592 : Int32) (11263 : Int32)) = (0 : Int32))).2) ?_
    show Steps p.tables e below (T7.setTop (mkF m 116 #[.val (.int p1), .unset] [])) _
    refine XS.iloadN X7.here hx rfl (hb hby d2_116) rfl ?_
    show Steps p.tables e below (T7.setTop (mkF m 117 #[.val (.int p1), .unset] [(.int p1)])) _
    refine XS.sipush X7.here hx rfl (hb hby d2_117) ?_
    show Steps p.tables e below (T7.setTop (mkF m 120 #[.val (.int p1), .unset] [(.int (12272 : Int32)), (.int p1)])) _
    refine XS.sipush X7.here hx rfl (hb hby d2_120) ?_
    show Steps p.tables e below (T7.setTop (mkF m 123 #[.val (.int p1), .unset] [(.int (12288 : Int32)), (.int (12272 : Int32)), (.int p1)])) _
    refine st8 _ ?_
    show Steps p.tables e below (T8.setTop (mkF m 126 #[.val (.int p1), .unset] [(.int (inF p1 (12272 : Int32) (12288 : Int32)))])) _
    refine XS.ifNo X8.here hx rfl (hb hby d2_126) rfl ((if0 _ _).trans (teq (hg126 : (inF p1 (12272 : Int32) (12288 : Int32)) = (0 : Int32))).2) ?_
    show Steps p.tables e below (T8.setTop (mkF m 129 #[.val (.int p1), .unset] [])) _
    refine XS.iloadN X8.here hx rfl (hb hby d2_129) rfl ?_
    show Steps p.tables e below (T8.setTop (mkF m 130 #[.val (.int p1), .unset] [(.int p1)])) _
    refine X8.ldcInt hx hown (mvT hZ (hw _ (List.mem_of_getElem? (i := 23) rfl))) (g := (mkF m 130 #[.val (.int p1), .unset] [(.int p1)])) rfl (hb hby d2_130) _ ?_
    show Steps p.tables e below (T8.setTop (mkF m 132 #[.val (.int p1), .unset] [(.int (55296 : Int32)), (.int p1)])) _
    refine X8.ldcInt hx hown (mvT hZ (hw _ (List.mem_of_getElem? (i := 24) rfl))) (g := (mkF m 132 #[.val (.int p1), .unset] [(.int (55296 : Int32)), (.int p1)])) rfl (hb hby d2_132) _ ?_
    show Steps p.tables e below (T8.setTop (mkF m 134 #[.val (.int p1), .unset] [(.int (63743 : Int32)), (.int (55296 : Int32)), (.int p1)])) _
    refine st9 _ ?_
    show Steps p.tables e below (T9.setTop (mkF m 137 #[.val (.int p1), .unset] [(.int (inF p1 (55296 : Int32) (63743 : Int32)))])) _
    refine XS.ifNo X9.here hx rfl (hb hby d2_137) rfl ((if0 _ _).trans (teq (hg137 : (inF p1 (55296 : Int32) (63743 : Int32)) = (0 : Int32))).2) ?_
    show Steps p.tables e below (T9.setTop (mkF m 140 #[.val (.int p1), .unset] [])) _
    refine XS.iloadN X9.here hx rfl (hb hby d2_140) rfl ?_
    show Steps p.tables e below (T9.setTop (mkF m 141 #[.val (.int p1), .unset] [(.int p1)])) _
    refine X9.ldcInt hx hown (mvT hZ (hw _ (List.mem_of_getElem? (i := 25) rfl))) (g := (mkF m 141 #[.val (.int p1), .unset] [(.int p1)])) rfl (hb hby d2_141) _ ?_
    show Steps p.tables e below (T9.setTop (mkF m 143 #[.val (.int p1), .unset] [(.int (64976 : Int32)), (.int p1)])) _
    refine X9.ldcInt hx hown (mvT hZ (hw _ (List.mem_of_getElem? (i := 26) rfl))) (g := (mkF m 143 #[.val (.int p1), .unset] [(.int (64976 : Int32)), (.int p1)])) rfl (hb hby d2_143) _ ?_
    show Steps p.tables e below (T9.setTop (mkF m 145 #[.val (.int p1), .unset] [(.int (65007 : Int32)), (.int (64976 : Int32)), (.int p1)])) _
    refine st10 _ ?_
    show Steps p.tables e below (T10.setTop (mkF m 148 #[.val (.int p1), .unset] [(.int (inF p1 (64976 : Int32) (65007 : Int32)))])) _
    refine XS.ifNo X10.here hx rfl (hb hby d2_148) rfl ((if0 _ _).trans (teq (hg148 : (inF p1 (64976 : Int32) (65007 : Int32)) = (0 : Int32))).2) ?_
    show Steps p.tables e below (T10.setTop (mkF m 151 #[.val (.int p1), .unset] [])) _
    refine XS.iloadN X10.here hx rfl (hb hby d2_151) rfl ?_
    show Steps p.tables e below (T10.setTop (mkF m 152 #[.val (.int p1), .unset] [(.int p1)])) _
    refine X10.ldcInt hx hown (mvT hZ (hw _ (List.mem_of_getElem? (i := 27) rfl))) (g := (mkF m 152 #[.val (.int p1), .unset] [(.int p1)])) rfl (hb hby d2_152) _ ?_
    show Steps p.tables e below (T10.setTop (mkF m 154 #[.val (.int p1), .unset] [(.int (65534 : Int32)), (.int p1)])) _
    refine X10.ldcInt hx hown (mvT hZ (hw _ (List.mem_of_getElem? (i := 28) rfl))) (g := (mkF m 154 #[.val (.int p1), .unset] [(.int (65534 : Int32)), (.int p1)])) rfl (hb hby d2_154) _ ?_
    show Steps p.tables e below (T10.setTop (mkF m 156 #[.val (.int p1), .unset] [(.int (65535 : Int32)), (.int (65534 : Int32)), (.int p1)])) _
    refine st11 _ ?_
    show Steps p.tables e below (T11.setTop (mkF m 159 #[.val (.int p1), .unset] [(.int (inF p1 (65534 : Int32) (65535 : Int32)))])) _
    refine XS.ifNo X11.here hx rfl (hb hby d2_159) rfl ((if0 _ _).trans (feq (hg159 : ¬ ((inF p1 (65534 : Int32) (65535 : Int32)) = (0 : Int32)))).1) ?_
    show Steps p.tables e below (T11.setTop (mkF m 162 #[.val (.int p1), .unset] [])) _
    refine XS.iconst X11.here hx rfl (hb hby d2_162) ?_
    show Steps p.tables e below (T11.setTop (mkF m 163 #[.val (.int p1), .unset] [(.int (1 : Int32))])) _
    refine XS.goto X11.here hx rfl (pc0 := 163) (pc' := 167) rfl (hb hby d2_163) (by decide) (by decide) ?_
    show Steps p.tables e below (T11.setTop (mkF m 167 #[.val (.int p1), .unset] [(.int (1 : Int32))])) _
    refine XS.istoreN X11.here hx rfl (hb hby d2_167) rfl (l' := #[.val (.int p1), .val (.int (1 : Int32))]) rfl ?_
    show Steps p.tables e below (T11.setTop (mkF m 168 #[.val (.int p1), .val (.int (1 : Int32))] [])) _
    refine XS.iloadN X11.here hx rfl (hb hby d2_168) rfl ?_
    show Steps p.tables e below (T11.setTop (mkF m 169 #[.val (.int p1), .val (.int (1 : Int32))] [(.int (1 : Int32))])) _
    refine XS.ifYes X11.here hx rfl (pc0 := 169) (pc' := 176) rfl (hb hby d2_169) rfl ((if0 _ _).trans (feq hc169).2) (by decide) (by decide) ?_
    show Steps p.tables e below (T11.setTop (mkF m 176 #[.val (.int p1), .val (.int (1 : Int32))] [])) _
    refine XS.iconst X11.here hx rfl (hb hby d2_176) ?_
    show Steps p.tables e below (T11.setTop (mkF m 177 #[.val (.int p1), .val (.int (1 : Int32))] [(.int (0 : Int32))])) _
    exact retN X11 hx (t := .boolean) Bd.returns (by simp) (hb hby d2_177) hr
  · show Q2 Z p1 h0 n0 _ T11.heap _
    exact ⟨by simp [rcF, hc3, hc9, hg22, hc28, hg40, hc47, hc54, hg67, hc74, hg87, hg100, hg113, hg126, hg137, hg148, hg159], N11, by rw [eq11, eq10, eq9, eq8, eq7, eq6, eq5, eq4, eq3, eq2]⟩
theorem d2_166 : decode method_3_code 166 = .ok (.iconst 0, 1) := by decide +kernel
theorem d2_172 : decode method_3_code 172 = .ok (.iconst 1, 1) := by decide +kernel
theorem d2_173 : decode method_3_code 173 = .ok (.goto 4, 3) := by decide +kernel
set_option maxRecDepth 65536 in
set_option maxHeartbeats 40000000 in
theorem rm2_ftffffffffffffftf (l : Launch) (Z : State) (a0 : Array Value) (hw : ∀ d ∈ tables_1, d.before a0 Z = true) (ws : List Jvm.Cond) (p1 : Int32) (h0 : Heap) (n0 : Nat) (Z0 : n0 ≤ h0.size) (hg22 : inF p1 (91 : Int32) (94 : Int32) = (0 : Int32)) (hg40 : inF p1 (123 : Int32) (191 : Int32) = (0 : Int32)) (hg67 : inF p1 (768 : Int32) (879 : Int32) = (0 : Int32)) (hg87 : inF p1 (8192 : Int32) (8203 : Int32) = (0 : Int32)) (hg100 : inF p1 (8206 : Int32) (8303 : Int32) = (0 : Int32)) (hg113 : inF p1 (8592 : Int32) (11263 : Int32) = (0 : Int32)) (hg126 : inF p1 (12272 : Int32) (12288 : Int32) = (0 : Int32)) (hg137 : inF p1 (55296 : Int32) (63743 : Int32) = (0 : Int32)) (hg148 : inF p1 (64976 : Int32) (65007 : Int32) = (0 : Int32)) (hg159 : inF p1 (65534 : Int32) (65535 : Int32) = (0 : Int32)) (hc3 : ¬ (p1 < (65 : Int32))) (hc9 : ¬ ((983039 : Int32) < p1)) (hc28 : ¬ (p1 = (96 : Int32))) (hc47 : ¬ (p1 = (215 : Int32))) (hc54 : ¬ (p1 = (247 : Int32))) (hc74 : ¬ (p1 = (894 : Int32))) :
    MetFree l (⟨"com/example/narrow_tree/narrowtree/document/XmlSyntaxIsNcNameStartCharacterPinLaw", "ref", "(I)Z"⟩ : MethodName) (head1 (Jvm.Cond.code (⟨"com/example/narrow_tree/narrowtree/document/XmlSyntaxIsNcNameStartCharacterPinLaw", "ref", "(I)Z"⟩ : MethodName) method_3_code 2 (some .boolean) :: ws) ({ frames := 1, cells := 0, slots := 0, locals := 14 } : Room)) (fun a U => a = #[(.int p1)] ∧ Z.Warmed39 U.vm ∧ U.heap = h0) (fun _ _ _ _ _ => True) (fun _ U o U' => ∃ v L, o = .returned v ∧ Q2 Z p1 h0 n0 v U'.heap L ∧ FrameEnd U o U' L ({ frames := 1, cells := 0, slots := 0, locals := 14 } : Room).cells ({ frames := 1, cells := 0, slots := 0, locals := 14 } : Room).slots) := by
  refine MetFree.of_bodySF (plainFor_of_name pn_2) hisR ?_
  intro p e s m args below meth c s₁ Bd hml0 hP hK
  obtain ⟨rfl, hZ, hh⟩ := hP
  have hx := Bd.exec
  have hby := Bd.bytes
  have hml : c.maxLocals = 2 := hml0
  have hown : s.vm.findClass "com/example/narrow_tree/narrowtree/document/XmlSyntaxIsNcNameStartCharacterPinLaw" = some m.cls := findClass_of_methodNamed Bd.named
  have hnm := (name_of_methodNamed Bd.named Bd.method).1
  have X0 : Stand p l e ({ frames := 1, cells := 0, slots := 0, locals := 14 } : Room) s m #[(.int p1)] below meth c s₁ [] 0 0 := Stand.of_body Bd
  have e0 : s₁.heap = h0 := by rw [← hh, Bd.state]; rfl
  have N0 := Fr.nil n0
  have pre0 : ∀ t, Steps p.tables e below (s₁.setTop (mkF m 0 #[.val (.int p1), .unset] [])) t → Steps p.tables e below (s₁.setTop (entryFrame m #[(.int p1)] 2)) t := fun t k => castTop (ef_2 m p1) k
  obtain ⟨_, _, ⟨T2, L2, k2, n2⟩, -, X2, ⟨Lc2, hQ2, l2, y2, z2⟩, st2⟩ := Jvm.LawKit.callS X0 hx (y := (⟨"com/example/narrow_tree/narrowtree/document/XmlSyntaxIsNcNameStartCharacterPinLaw", "in", "(III)Z"⟩ : MethodName)) hown (mvT hZ (hw _ (List.mem_of_getElem? (i := 20) rfl))) (mvT hZ (hw _ (List.mem_of_getElem? (i := 21) rfl))) (mvT hZ (hw _ (List.mem_of_getElem? (i := 18) rfl))) (mvT hZ (hw _ (List.mem_of_getElem? (i := 22) rfl))) (by decide) (backOf (W := 0) (rm3 l Z a0 hw [] p1 (91 : Int32) (94 : Int32) h0 n0 Z0) hZ (hw _ (List.mem_of_getElem? (i := 22) rfl)) (hw _ (List.mem_of_getElem? (i := 18) rfl)) (by decide) (by decide)) (g := (mkF m 19 #[.val (.int p1), .unset] [(.int (94 : Int32)), (.int (91 : Int32)), (.int p1)])) rfl (by rw [hml]; rfl) (argsL := [(.int p1), (.int (91 : Int32)), (.int (94 : Int32))]) (rest := []) (lenOf pd_2_1 rfl) rfl (by show 2 * 0 + _ ≤ _; exact Nat.le_of_eq rfl) (hb hby d2_19) (fun _ _ => ⟨rfl, e0, (by decide : 0 + 0 ≤ _), (by decide : 0 + 0 ≤ _)⟩)
  dsimp only [Pt.U, Pt.locs, Pt.cells, Pt.slots] at X2 l2 y2 z2 st2 hQ2
  subst l2 y2 z2
  obtain ⟨rfl, N2q, eq2⟩ := hQ2
  have N2 := Fr.app N0 N2q
  obtain ⟨_, _, ⟨T3, L3, k3, n3⟩, -, X3, ⟨Lc3, hQ3, l3, y3, z3⟩, st3⟩ := Jvm.LawKit.callS X2 hx (y := (⟨"com/example/narrow_tree/narrowtree/document/XmlSyntaxIsNcNameStartCharacterPinLaw", "in", "(III)Z"⟩ : MethodName)) hown (mvT hZ (hw _ (List.mem_of_getElem? (i := 20) rfl))) (mvT hZ (hw _ (List.mem_of_getElem? (i := 21) rfl))) (mvT hZ (hw _ (List.mem_of_getElem? (i := 18) rfl))) (mvT hZ (hw _ (List.mem_of_getElem? (i := 22) rfl))) (by decide) (backOf (W := 0) (rm3 l Z a0 hw [] p1 (123 : Int32) (191 : Int32) T2.heap n0 (by rw [eq2]; exact Z0)) hZ (hw _ (List.mem_of_getElem? (i := 22) rfl)) (hw _ (List.mem_of_getElem? (i := 18) rfl)) (by decide) (by decide)) (g := (mkF m 37 #[.val (.int p1), .unset] [(.int (191 : Int32)), (.int (123 : Int32)), (.int p1)])) rfl (by rw [hml]; rfl) (argsL := [(.int p1), (.int (123 : Int32)), (.int (191 : Int32))]) (rest := []) (lenOf pd_2_1 rfl) rfl (by show 2 * 0 + _ ≤ _; exact Nat.le_of_eq rfl) (hb hby d2_37) (fun _ _ => ⟨rfl, rfl, (by decide : 0 + 0 ≤ _), (by decide : 0 + 0 ≤ _)⟩)
  dsimp only [Pt.U, Pt.locs, Pt.cells, Pt.slots] at X3 l3 y3 z3 st3 hQ3
  subst l3 y3 z3
  obtain ⟨rfl, N3q, eq3⟩ := hQ3
  have N3 := Fr.app N2 N3q
  obtain ⟨_, _, ⟨T4, L4, k4, n4⟩, -, X4, ⟨Lc4, hQ4, l4, y4, z4⟩, st4⟩ := Jvm.LawKit.callS X3 hx (y := (⟨"com/example/narrow_tree/narrowtree/document/XmlSyntaxIsNcNameStartCharacterPinLaw", "in", "(III)Z"⟩ : MethodName)) hown (mvT hZ (hw _ (List.mem_of_getElem? (i := 20) rfl))) (mvT hZ (hw _ (List.mem_of_getElem? (i := 21) rfl))) (mvT hZ (hw _ (List.mem_of_getElem? (i := 18) rfl))) (mvT hZ (hw _ (List.mem_of_getElem? (i := 22) rfl))) (by decide) (backOf (W := 0) (rm3 l Z a0 hw [] p1 (768 : Int32) (879 : Int32) T3.heap n0 (by rw [eq3, eq2]; exact Z0)) hZ (hw _ (List.mem_of_getElem? (i := 22) rfl)) (hw _ (List.mem_of_getElem? (i := 18) rfl)) (by decide) (by decide)) (g := (mkF m 64 #[.val (.int p1), .unset] [(.int (879 : Int32)), (.int (768 : Int32)), (.int p1)])) rfl (by rw [hml]; rfl) (argsL := [(.int p1), (.int (768 : Int32)), (.int (879 : Int32))]) (rest := []) (lenOf pd_2_1 rfl) rfl (by show 2 * 0 + _ ≤ _; exact Nat.le_of_eq rfl) (hb hby d2_64) (fun _ _ => ⟨rfl, rfl, (by decide : 0 + 0 ≤ _), (by decide : 0 + 0 ≤ _)⟩)
  dsimp only [Pt.U, Pt.locs, Pt.cells, Pt.slots] at X4 l4 y4 z4 st4 hQ4
  subst l4 y4 z4
  obtain ⟨rfl, N4q, eq4⟩ := hQ4
  have N4 := Fr.app N3 N4q
  obtain ⟨_, _, ⟨T5, L5, k5, n5⟩, -, X5, ⟨Lc5, hQ5, l5, y5, z5⟩, st5⟩ := Jvm.LawKit.callS X4 hx (y := (⟨"com/example/narrow_tree/narrowtree/document/XmlSyntaxIsNcNameStartCharacterPinLaw", "in", "(III)Z"⟩ : MethodName)) hown (mvT hZ (hw _ (List.mem_of_getElem? (i := 20) rfl))) (mvT hZ (hw _ (List.mem_of_getElem? (i := 21) rfl))) (mvT hZ (hw _ (List.mem_of_getElem? (i := 18) rfl))) (mvT hZ (hw _ (List.mem_of_getElem? (i := 22) rfl))) (by decide) (backOf (W := 0) (rm3 l Z a0 hw [] p1 (8192 : Int32) (8203 : Int32) T4.heap n0 (by rw [eq4, eq3, eq2]; exact Z0)) hZ (hw _ (List.mem_of_getElem? (i := 22) rfl)) (hw _ (List.mem_of_getElem? (i := 18) rfl)) (by decide) (by decide)) (g := (mkF m 84 #[.val (.int p1), .unset] [(.int (8203 : Int32)), (.int (8192 : Int32)), (.int p1)])) rfl (by rw [hml]; rfl) (argsL := [(.int p1), (.int (8192 : Int32)), (.int (8203 : Int32))]) (rest := []) (lenOf pd_2_1 rfl) rfl (by show 2 * 0 + _ ≤ _; exact Nat.le_of_eq rfl) (hb hby d2_84) (fun _ _ => ⟨rfl, rfl, (by decide : 0 + 0 ≤ _), (by decide : 0 + 0 ≤ _)⟩)
  dsimp only [Pt.U, Pt.locs, Pt.cells, Pt.slots] at X5 l5 y5 z5 st5 hQ5
  subst l5 y5 z5
  obtain ⟨rfl, N5q, eq5⟩ := hQ5
  have N5 := Fr.app N4 N5q
  obtain ⟨_, _, ⟨T6, L6, k6, n6⟩, -, X6, ⟨Lc6, hQ6, l6, y6, z6⟩, st6⟩ := Jvm.LawKit.callS X5 hx (y := (⟨"com/example/narrow_tree/narrowtree/document/XmlSyntaxIsNcNameStartCharacterPinLaw", "in", "(III)Z"⟩ : MethodName)) hown (mvT hZ (hw _ (List.mem_of_getElem? (i := 20) rfl))) (mvT hZ (hw _ (List.mem_of_getElem? (i := 21) rfl))) (mvT hZ (hw _ (List.mem_of_getElem? (i := 18) rfl))) (mvT hZ (hw _ (List.mem_of_getElem? (i := 22) rfl))) (by decide) (backOf (W := 0) (rm3 l Z a0 hw [] p1 (8206 : Int32) (8303 : Int32) T5.heap n0 (by rw [eq5, eq4, eq3, eq2]; exact Z0)) hZ (hw _ (List.mem_of_getElem? (i := 22) rfl)) (hw _ (List.mem_of_getElem? (i := 18) rfl)) (by decide) (by decide)) (g := (mkF m 97 #[.val (.int p1), .unset] [(.int (8303 : Int32)), (.int (8206 : Int32)), (.int p1)])) rfl (by rw [hml]; rfl) (argsL := [(.int p1), (.int (8206 : Int32)), (.int (8303 : Int32))]) (rest := []) (lenOf pd_2_1 rfl) rfl (by show 2 * 0 + _ ≤ _; exact Nat.le_of_eq rfl) (hb hby d2_97) (fun _ _ => ⟨rfl, rfl, (by decide : 0 + 0 ≤ _), (by decide : 0 + 0 ≤ _)⟩)
  dsimp only [Pt.U, Pt.locs, Pt.cells, Pt.slots] at X6 l6 y6 z6 st6 hQ6
  subst l6 y6 z6
  obtain ⟨rfl, N6q, eq6⟩ := hQ6
  have N6 := Fr.app N5 N6q
  obtain ⟨_, _, ⟨T7, L7, k7, n7⟩, -, X7, ⟨Lc7, hQ7, l7, y7, z7⟩, st7⟩ := Jvm.LawKit.callS X6 hx (y := (⟨"com/example/narrow_tree/narrowtree/document/XmlSyntaxIsNcNameStartCharacterPinLaw", "in", "(III)Z"⟩ : MethodName)) hown (mvT hZ (hw _ (List.mem_of_getElem? (i := 20) rfl))) (mvT hZ (hw _ (List.mem_of_getElem? (i := 21) rfl))) (mvT hZ (hw _ (List.mem_of_getElem? (i := 18) rfl))) (mvT hZ (hw _ (List.mem_of_getElem? (i := 22) rfl))) (by decide) (backOf (W := 0) (rm3 l Z a0 hw [] p1 (8592 : Int32) (11263 : Int32) T6.heap n0 (by rw [eq6, eq5, eq4, eq3, eq2]; exact Z0)) hZ (hw _ (List.mem_of_getElem? (i := 22) rfl)) (hw _ (List.mem_of_getElem? (i := 18) rfl)) (by decide) (by decide)) (g := (mkF m 110 #[.val (.int p1), .unset] [(.int (11263 : Int32)), (.int (8592 : Int32)), (.int p1)])) rfl (by rw [hml]; rfl) (argsL := [(.int p1), (.int (8592 : Int32)), (.int (11263 : Int32))]) (rest := []) (lenOf pd_2_1 rfl) rfl (by show 2 * 0 + _ ≤ _; exact Nat.le_of_eq rfl) (hb hby d2_110) (fun _ _ => ⟨rfl, rfl, (by decide : 0 + 0 ≤ _), (by decide : 0 + 0 ≤ _)⟩)
  dsimp only [Pt.U, Pt.locs, Pt.cells, Pt.slots] at X7 l7 y7 z7 st7 hQ7
  subst l7 y7 z7
  obtain ⟨rfl, N7q, eq7⟩ := hQ7
  have N7 := Fr.app N6 N7q
  obtain ⟨_, _, ⟨T8, L8, k8, n8⟩, -, X8, ⟨Lc8, hQ8, l8, y8, z8⟩, st8⟩ := Jvm.LawKit.callS X7 hx (y := (⟨"com/example/narrow_tree/narrowtree/document/XmlSyntaxIsNcNameStartCharacterPinLaw", "in", "(III)Z"⟩ : MethodName)) hown (mvT hZ (hw _ (List.mem_of_getElem? (i := 20) rfl))) (mvT hZ (hw _ (List.mem_of_getElem? (i := 21) rfl))) (mvT hZ (hw _ (List.mem_of_getElem? (i := 18) rfl))) (mvT hZ (hw _ (List.mem_of_getElem? (i := 22) rfl))) (by decide) (backOf (W := 0) (rm3 l Z a0 hw [] p1 (12272 : Int32) (12288 : Int32) T7.heap n0 (by rw [eq7, eq6, eq5, eq4, eq3, eq2]; exact Z0)) hZ (hw _ (List.mem_of_getElem? (i := 22) rfl)) (hw _ (List.mem_of_getElem? (i := 18) rfl)) (by decide) (by decide)) (g := (mkF m 123 #[.val (.int p1), .unset] [(.int (12288 : Int32)), (.int (12272 : Int32)), (.int p1)])) rfl (by rw [hml]; rfl) (argsL := [(.int p1), (.int (12272 : Int32)), (.int (12288 : Int32))]) (rest := []) (lenOf pd_2_1 rfl) rfl (by show 2 * 0 + _ ≤ _; exact Nat.le_of_eq rfl) (hb hby d2_123) (fun _ _ => ⟨rfl, rfl, (by decide : 0 + 0 ≤ _), (by decide : 0 + 0 ≤ _)⟩)
  dsimp only [Pt.U, Pt.locs, Pt.cells, Pt.slots] at X8 l8 y8 z8 st8 hQ8
  subst l8 y8 z8
  obtain ⟨rfl, N8q, eq8⟩ := hQ8
  have N8 := Fr.app N7 N8q
  obtain ⟨_, _, ⟨T9, L9, k9, n9⟩, -, X9, ⟨Lc9, hQ9, l9, y9, z9⟩, st9⟩ := Jvm.LawKit.callS X8 hx (y := (⟨"com/example/narrow_tree/narrowtree/document/XmlSyntaxIsNcNameStartCharacterPinLaw", "in", "(III)Z"⟩ : MethodName)) hown (mvT hZ (hw _ (List.mem_of_getElem? (i := 20) rfl))) (mvT hZ (hw _ (List.mem_of_getElem? (i := 21) rfl))) (mvT hZ (hw _ (List.mem_of_getElem? (i := 18) rfl))) (mvT hZ (hw _ (List.mem_of_getElem? (i := 22) rfl))) (by decide) (backOf (W := 0) (rm3 l Z a0 hw [] p1 (55296 : Int32) (63743 : Int32) T8.heap n0 (by rw [eq8, eq7, eq6, eq5, eq4, eq3, eq2]; exact Z0)) hZ (hw _ (List.mem_of_getElem? (i := 22) rfl)) (hw _ (List.mem_of_getElem? (i := 18) rfl)) (by decide) (by decide)) (g := (mkF m 134 #[.val (.int p1), .unset] [(.int (63743 : Int32)), (.int (55296 : Int32)), (.int p1)])) rfl (by rw [hml]; rfl) (argsL := [(.int p1), (.int (55296 : Int32)), (.int (63743 : Int32))]) (rest := []) (lenOf pd_2_1 rfl) rfl (by show 2 * 0 + _ ≤ _; exact Nat.le_of_eq rfl) (hb hby d2_134) (fun _ _ => ⟨rfl, rfl, (by decide : 0 + 0 ≤ _), (by decide : 0 + 0 ≤ _)⟩)
  dsimp only [Pt.U, Pt.locs, Pt.cells, Pt.slots] at X9 l9 y9 z9 st9 hQ9
  subst l9 y9 z9
  obtain ⟨rfl, N9q, eq9⟩ := hQ9
  have N9 := Fr.app N8 N9q
  obtain ⟨_, _, ⟨T10, L10, k10, n10⟩, -, X10, ⟨Lc10, hQ10, l10, y10, z10⟩, st10⟩ := Jvm.LawKit.callS X9 hx (y := (⟨"com/example/narrow_tree/narrowtree/document/XmlSyntaxIsNcNameStartCharacterPinLaw", "in", "(III)Z"⟩ : MethodName)) hown (mvT hZ (hw _ (List.mem_of_getElem? (i := 20) rfl))) (mvT hZ (hw _ (List.mem_of_getElem? (i := 21) rfl))) (mvT hZ (hw _ (List.mem_of_getElem? (i := 18) rfl))) (mvT hZ (hw _ (List.mem_of_getElem? (i := 22) rfl))) (by decide) (backOf (W := 0) (rm3 l Z a0 hw [] p1 (64976 : Int32) (65007 : Int32) T9.heap n0 (by rw [eq9, eq8, eq7, eq6, eq5, eq4, eq3, eq2]; exact Z0)) hZ (hw _ (List.mem_of_getElem? (i := 22) rfl)) (hw _ (List.mem_of_getElem? (i := 18) rfl)) (by decide) (by decide)) (g := (mkF m 145 #[.val (.int p1), .unset] [(.int (65007 : Int32)), (.int (64976 : Int32)), (.int p1)])) rfl (by rw [hml]; rfl) (argsL := [(.int p1), (.int (64976 : Int32)), (.int (65007 : Int32))]) (rest := []) (lenOf pd_2_1 rfl) rfl (by show 2 * 0 + _ ≤ _; exact Nat.le_of_eq rfl) (hb hby d2_145) (fun _ _ => ⟨rfl, rfl, (by decide : 0 + 0 ≤ _), (by decide : 0 + 0 ≤ _)⟩)
  dsimp only [Pt.U, Pt.locs, Pt.cells, Pt.slots] at X10 l10 y10 z10 st10 hQ10
  subst l10 y10 z10
  obtain ⟨rfl, N10q, eq10⟩ := hQ10
  have N10 := Fr.app N9 N10q
  obtain ⟨_, _, ⟨T11, L11, k11, n11⟩, -, X11, ⟨Lc11, hQ11, l11, y11, z11⟩, st11⟩ := Jvm.LawKit.callS X10 hx (y := (⟨"com/example/narrow_tree/narrowtree/document/XmlSyntaxIsNcNameStartCharacterPinLaw", "in", "(III)Z"⟩ : MethodName)) hown (mvT hZ (hw _ (List.mem_of_getElem? (i := 20) rfl))) (mvT hZ (hw _ (List.mem_of_getElem? (i := 21) rfl))) (mvT hZ (hw _ (List.mem_of_getElem? (i := 18) rfl))) (mvT hZ (hw _ (List.mem_of_getElem? (i := 22) rfl))) (by decide) (backOf (W := 0) (rm3 l Z a0 hw [] p1 (65534 : Int32) (65535 : Int32) T10.heap n0 (by rw [eq10, eq9, eq8, eq7, eq6, eq5, eq4, eq3, eq2]; exact Z0)) hZ (hw _ (List.mem_of_getElem? (i := 22) rfl)) (hw _ (List.mem_of_getElem? (i := 18) rfl)) (by decide) (by decide)) (g := (mkF m 156 #[.val (.int p1), .unset] [(.int (65535 : Int32)), (.int (65534 : Int32)), (.int p1)])) rfl (by rw [hml]; rfl) (argsL := [(.int p1), (.int (65534 : Int32)), (.int (65535 : Int32))]) (rest := []) (lenOf pd_2_1 rfl) rfl (by show 2 * 0 + _ ≤ _; exact Nat.le_of_eq rfl) (hb hby d2_156) (fun _ _ => ⟨rfl, rfl, (by decide : 0 + 0 ≤ _), (by decide : 0 + 0 ≤ _)⟩)
  dsimp only [Pt.U, Pt.locs, Pt.cells, Pt.slots] at X11 l11 y11 z11 st11 hQ11
  subst l11 y11 z11
  obtain ⟨rfl, N11q, eq11⟩ := hQ11
  have N11 := Fr.app N10 N11q
  obtain ⟨fs, hr, hrun, hended, hW, hsame⟩ := X11.leave (v := some (.int (1 : Int32))) (fun h => by rw [Bd.returns] at h; cases h)
  refine ⟨_, _, pre0 _ ?_, hrun, hended, _, _, rfl, ?_, ⟨_, rfl⟩, hW, hsame.mono (by decide) (by decide)⟩
  · show Steps p.tables e below (s₁.setTop (mkF m 0 #[.val (.int p1), .unset] [])) _
    refine XS.iloadN X0.here hx rfl (hb hby d2_0) rfl ?_
    show Steps p.tables e below (s₁.setTop (mkF m 1 #[.val (.int p1), .unset] [(.int p1)])) _
    refine XS.bipush X0.here hx rfl (hb hby d2_1) ?_
    show Steps p.tables e below (s₁.setTop (mkF m 3 #[.val (.int p1), .unset] [(.int (65 : Int32)), (.int p1)])) _
    refine XS.icmpNo X0.here hx rfl (hb hby d2_3) rfl (flt hc3).1 ?_
    show Steps p.tables e below (s₁.setTop (mkF m 6 #[.val (.int p1), .unset] [])) _
    refine XS.iloadN X0.here hx rfl (hb hby d2_6) rfl ?_
    show Steps p.tables e below (s₁.setTop (mkF m 7 #[.val (.int p1), .unset] [(.int p1)])) _
    refine X0.ldcInt hx hown (mvT hZ (hw _ (List.mem_of_getElem? (i := 7) rfl))) (g := (mkF m 7 #[.val (.int p1), .unset] [(.int p1)])) rfl (hb hby d2_7) _ ?_
    show Steps p.tables e below (s₁.setTop (mkF m 9 #[.val (.int p1), .unset] [(.int (983039 : Int32)), (.int p1)])) _
    refine XS.icmpYes X0.here hx rfl (pc0 := 9) (pc' := 14) rfl (hb hby d2_9) rfl (flt hc9).2.2.2 (by decide) (by decide) ?_
    show Steps p.tables e below (s₁.setTop (mkF m 14 #[.val (.int p1), .unset] [])) _
    refine XS.iloadN X0.here hx rfl (hb hby d2_14) rfl ?_
    show Steps p.tables e below (s₁.setTop (mkF m 15 #[.val (.int p1), .unset] [(.int p1)])) _
    refine XS.bipush X0.here hx rfl (hb hby d2_15) ?_
    show Steps p.tables e below (s₁.setTop (mkF m 17 #[.val (.int p1), .unset] [(.int (91 : Int32)), (.int p1)])) _
    refine XS.bipush X0.here hx rfl (hb hby d2_17) ?_
    show Steps p.tables e below (s₁.setTop (mkF m 19 #[.val (.int p1), .unset] [(.int (94 : Int32)), (.int (91 : Int32)), (.int p1)])) _
    refine st2 _ ?_
    show Steps p.tables e below (T2.setTop (mkF m 22 #[.val (.int p1), .unset] [(.int (inF p1 (91 : Int32) (94 : Int32)))])) _
    refine XS.ifNo X2.here hx rfl (hb hby d2_22) rfl ((if0 _ _).trans (teq (hg22 : (inF p1 (91 : Int32) (94 : Int32)) = (0 : Int32))).2) ?_
    show Steps p.tables e below (T2.setTop (mkF m 25 #[.val (.int p1), .unset] [])) _
    refine XS.iloadN X2.here hx rfl (hb hby d2_25) rfl ?_
    show Steps p.tables e below (T2.setTop (mkF m 26 #[.val (.int p1), .unset] [(.int p1)])) _
    refine XS.bipush X2.here hx rfl (hb hby d2_26) ?_
    show Steps p.tables e below (T2.setTop (mkF m 28 #[.val (.int p1), .unset] [(.int (96 : Int32)), (.int p1)])) _
    refine XS.icmpNo X2.here hx rfl (hb hby d2_28) rfl (feq hc28).1 ?_
    show Steps p.tables e below (T2.setTop (mkF m 31 #[.val (.int p1), .unset] [])) _
    refine XS.iloadN X2.here hx rfl (hb hby d2_31) rfl ?_
    show Steps p.tables e below (T2.setTop (mkF m 32 #[.val (.int p1), .unset] [(.int p1)])) _
    refine XS.bipush X2.here hx rfl (hb hby d2_32) ?_
    show Steps p.tables e below (T2.setTop (mkF m 34 #[.val (.int p1), .unset] [(.int (123 : Int32)), (.int p1)])) _
    refine XS.sipush X2.here hx rfl (hb hby d2_34) ?_
    show Steps p.tables e below (T2.setTop (mkF m 37 #[.val (.int p1), .unset] [(.int (191 : Int32)), (.int (123 : Int32)), (.int p1)])) _
    refine st3 _ ?_
    show Steps p.tables e below (T3.setTop (mkF m 40 #[.val (.int p1), .unset] [(.int (inF p1 (123 : Int32) (191 : Int32)))])) _
    refine XS.ifNo X3.here hx rfl (hb hby d2_40) rfl ((if0 _ _).trans (teq (hg40 : (inF p1 (123 : Int32) (191 : Int32)) = (0 : Int32))).2) ?_
    show Steps p.tables e below (T3.setTop (mkF m 43 #[.val (.int p1), .unset] [])) _
    refine XS.iloadN X3.here hx rfl (hb hby d2_43) rfl ?_
    show Steps p.tables e below (T3.setTop (mkF m 44 #[.val (.int p1), .unset] [(.int p1)])) _
    refine XS.sipush X3.here hx rfl (hb hby d2_44) ?_
    show Steps p.tables e below (T3.setTop (mkF m 47 #[.val (.int p1), .unset] [(.int (215 : Int32)), (.int p1)])) _
    refine XS.icmpNo X3.here hx rfl (hb hby d2_47) rfl (feq hc47).1 ?_
    show Steps p.tables e below (T3.setTop (mkF m 50 #[.val (.int p1), .unset] [])) _
    refine XS.iloadN X3.here hx rfl (hb hby d2_50) rfl ?_
    show Steps p.tables e below (T3.setTop (mkF m 51 #[.val (.int p1), .unset] [(.int p1)])) _
    refine XS.sipush X3.here hx rfl (hb hby d2_51) ?_
    show Steps p.tables e below (T3.setTop (mkF m 54 #[.val (.int p1), .unset] [(.int (247 : Int32)), (.int p1)])) _
    refine XS.icmpNo X3.here hx rfl (hb hby d2_54) rfl (feq hc54).1 ?_
    show Steps p.tables e below (T3.setTop (mkF m 57 #[.val (.int p1), .unset] [])) _
    refine XS.iloadN X3.here hx rfl (hb hby d2_57) rfl ?_
    show Steps p.tables e below (T3.setTop (mkF m 58 #[.val (.int p1), .unset] [(.int p1)])) _
    refine XS.sipush X3.here hx rfl (hb hby d2_58) ?_
    show Steps p.tables e below (T3.setTop (mkF m 61 #[.val (.int p1), .unset] [(.int (768 : Int32)), (.int p1)])) _
    refine XS.sipush X3.here hx rfl (hb hby d2_61) ?_
    show Steps p.tables e below (T3.setTop (mkF m 64 #[.val (.int p1), .unset] [(.int (879 : Int32)), (.int (768 : Int32)), (.int p1)])) _
    refine st4 _ ?_
    show Steps p.tables e below (T4.setTop (mkF m 67 #[.val (.int p1), .unset] [(.int (inF p1 (768 : Int32) (879 : Int32)))])) _
    refine XS.ifNo X4.here hx rfl (hb hby d2_67) rfl ((if0 _ _).trans (teq (hg67 : (inF p1 (768 : Int32) (879 : Int32)) = (0 : Int32))).2) ?_
    show Steps p.tables e below (T4.setTop (mkF m 70 #[.val (.int p1), .unset] [])) _
    refine XS.iloadN X4.here hx rfl (hb hby d2_70) rfl ?_
    show Steps p.tables e below (T4.setTop (mkF m 71 #[.val (.int p1), .unset] [(.int p1)])) _
    refine XS.sipush X4.here hx rfl (hb hby d2_71) ?_
    show Steps p.tables e below (T4.setTop (mkF m 74 #[.val (.int p1), .unset] [(.int (894 : Int32)), (.int p1)])) _
    refine XS.icmpNo X4.here hx rfl (hb hby d2_74) rfl (feq hc74).1 ?_
    show Steps p.tables e below (T4.setTop (mkF m 77 #[.val (.int p1), .unset] [])) _
    refine XS.iloadN X4.here hx rfl (hb hby d2_77) rfl ?_
    show Steps p.tables e below (T4.setTop (mkF m 78 #[.val (.int p1), .unset] [(.int p1)])) _
    refine XS.sipush X4.here hx rfl (hb hby d2_78) ?_
    show Steps p.tables e below (T4.setTop (mkF m 81 #[.val (.int p1), .unset] [(.int (8192 : Int32)), (.int p1)])) _
    refine XS.sipush X4.here hx rfl (hb hby d2_81) ?_
    show Steps p.tables e below (T4.setTop (mkF m 84 #[.val (.int p1), .unset] [(.int (8203 : Int32)), (.int (8192 : Int32)), (.int p1)])) _
    refine st5 _ ?_
    show Steps p.tables e below (T5.setTop (mkF m 87 #[.val (.int p1), .unset] [(.int (inF p1 (8192 : Int32) (8203 : Int32)))])) _
    refine XS.ifNo X5.here hx rfl (hb hby d2_87) rfl ((if0 _ _).trans (teq (hg87 : (inF p1 (8192 : Int32) (8203 : Int32)) = (0 : Int32))).2) ?_
    show Steps p.tables e below (T5.setTop (mkF m 90 #[.val (.int p1), .unset] [])) _
    refine XS.iloadN X5.here hx rfl (hb hby d2_90) rfl ?_
    show Steps p.tables e below (T5.setTop (mkF m 91 #[.val (.int p1), .unset] [(.int p1)])) _
    refine XS.sipush X5.here hx rfl (hb hby d2_91) ?_
    show Steps p.tables e below (T5.setTop (mkF m 94 #[.val (.int p1), .unset] [(.int (8206 : Int32)), (.int p1)])) _
    refine XS.sipush X5.here hx rfl (hb hby d2_94) ?_
    show Steps p.tables e below (T5.setTop (mkF m 97 #[.val (.int p1), .unset] [(.int (8303 : Int32)), (.int (8206 : Int32)), (.int p1)])) _
    refine st6 _ ?_
    show Steps p.tables e below (T6.setTop (mkF m 100 #[.val (.int p1), .unset] [(.int (inF p1 (8206 : Int32) (8303 : Int32)))])) _
    refine XS.ifNo X6.here hx rfl (hb hby d2_100) rfl ((if0 _ _).trans (teq (hg100 : (inF p1 (8206 : Int32) (8303 : Int32)) = (0 : Int32))).2) ?_
    show Steps p.tables e below (T6.setTop (mkF m 103 #[.val (.int p1), .unset] [])) _
    refine XS.iloadN X6.here hx rfl (hb hby d2_103) rfl ?_
    show Steps p.tables e below (T6.setTop (mkF m 104 #[.val (.int p1), .unset] [(.int p1)])) _
    refine XS.sipush X6.here hx rfl (hb hby d2_104) ?_
    show Steps p.tables e below (T6.setTop (mkF m 107 #[.val (.int p1), .unset] [(.int (8592 : Int32)), (.int p1)])) _
    refine XS.sipush X6.here hx rfl (hb hby d2_107) ?_
    show Steps p.tables e below (T6.setTop (mkF m 110 #[.val (.int p1), .unset] [(.int (11263 : Int32)), (.int (8592 : Int32)), (.int p1)])) _
    refine st7 _ ?_
    show Steps p.tables e below (T7.setTop (mkF m 113 #[.val (.int p1), .unset] [(.int (inF p1 (8592 : Int32) (11263 : Int32)))])) _
    refine XS.ifNo X7.here hx rfl (hb hby d2_113) rfl ((if0 _ _).trans (teq (hg113 : (inF p1 (8592 : Int32) (11263 : Int32)) = (0 : Int32))).2) ?_
    show Steps p.tables e below (T7.setTop (mkF m 116 #[.val (.int p1), .unset] [])) _
    refine XS.iloadN X7.here hx rfl (hb hby d2_116) rfl ?_
    show Steps p.tables e below (T7.setTop (mkF m 117 #[.val (.int p1), .unset] [(.int p1)])) _
    refine XS.sipush X7.here hx rfl (hb hby d2_117) ?_
    show Steps p.tables e below (T7.setTop (mkF m 120 #[.val (.int p1), .unset] [(.int (12272 : Int32)), (.int p1)])) _
    refine XS.sipush X7.here hx rfl (hb hby d2_120) ?_
    show Steps p.tables e below (T7.setTop (mkF m 123 #[.val (.int p1), .unset] [(.int (12288 : Int32)), (.int (12272 : Int32)), (.int p1)])) _
    refine st8 _ ?_
    show Steps p.tables e below (T8.setTop (mkF m 126 #[.val (.int p1), .unset] [(.int (inF p1 (12272 : Int32) (12288 : Int32)))])) _
    refine XS.ifNo X8.here hx rfl (hb hby d2_126) rfl ((if0 _ _).trans (teq (hg126 : (inF p1 (12272 : Int32) (12288 : Int32)) = (0 : Int32))).2) ?_
    show Steps p.tables e below (T8.setTop (mkF m 129 #[.val (.int p1), .unset] [])) _
    refine XS.iloadN X8.here hx rfl (hb hby d2_129) rfl ?_
    show Steps p.tables e below (T8.setTop (mkF m 130 #[.val (.int p1), .unset] [(.int p1)])) _
    refine X8.ldcInt hx hown (mvT hZ (hw _ (List.mem_of_getElem? (i := 23) rfl))) (g := (mkF m 130 #[.val (.int p1), .unset] [(.int p1)])) rfl (hb hby d2_130) _ ?_
    show Steps p.tables e below (T8.setTop (mkF m 132 #[.val (.int p1), .unset] [(.int (55296 : Int32)), (.int p1)])) _
    refine X8.ldcInt hx hown (mvT hZ (hw _ (List.mem_of_getElem? (i := 24) rfl))) (g := (mkF m 132 #[.val (.int p1), .unset] [(.int (55296 : Int32)), (.int p1)])) rfl (hb hby d2_132) _ ?_
    show Steps p.tables e below (T8.setTop (mkF m 134 #[.val (.int p1), .unset] [(.int (63743 : Int32)), (.int (55296 : Int32)), (.int p1)])) _
    refine st9 _ ?_
    show Steps p.tables e below (T9.setTop (mkF m 137 #[.val (.int p1), .unset] [(.int (inF p1 (55296 : Int32) (63743 : Int32)))])) _
    refine XS.ifNo X9.here hx rfl (hb hby d2_137) rfl ((if0 _ _).trans (teq (hg137 : (inF p1 (55296 : Int32) (63743 : Int32)) = (0 : Int32))).2) ?_
    show Steps p.tables e below (T9.setTop (mkF m 140 #[.val (.int p1), .unset] [])) _
    refine XS.iloadN X9.here hx rfl (hb hby d2_140) rfl ?_
    show Steps p.tables e below (T9.setTop (mkF m 141 #[.val (.int p1), .unset] [(.int p1)])) _
    refine X9.ldcInt hx hown (mvT hZ (hw _ (List.mem_of_getElem? (i := 25) rfl))) (g := (mkF m 141 #[.val (.int p1), .unset] [(.int p1)])) rfl (hb hby d2_141) _ ?_
    show Steps p.tables e below (T9.setTop (mkF m 143 #[.val (.int p1), .unset] [(.int (64976 : Int32)), (.int p1)])) _
    refine X9.ldcInt hx hown (mvT hZ (hw _ (List.mem_of_getElem? (i := 26) rfl))) (g := (mkF m 143 #[.val (.int p1), .unset] [(.int (64976 : Int32)), (.int p1)])) rfl (hb hby d2_143) _ ?_
    show Steps p.tables e below (T9.setTop (mkF m 145 #[.val (.int p1), .unset] [(.int (65007 : Int32)), (.int (64976 : Int32)), (.int p1)])) _
    refine st10 _ ?_
    show Steps p.tables e below (T10.setTop (mkF m 148 #[.val (.int p1), .unset] [(.int (inF p1 (64976 : Int32) (65007 : Int32)))])) _
    refine XS.ifNo X10.here hx rfl (hb hby d2_148) rfl ((if0 _ _).trans (teq (hg148 : (inF p1 (64976 : Int32) (65007 : Int32)) = (0 : Int32))).2) ?_
    show Steps p.tables e below (T10.setTop (mkF m 151 #[.val (.int p1), .unset] [])) _
    refine XS.iloadN X10.here hx rfl (hb hby d2_151) rfl ?_
    show Steps p.tables e below (T10.setTop (mkF m 152 #[.val (.int p1), .unset] [(.int p1)])) _
    refine X10.ldcInt hx hown (mvT hZ (hw _ (List.mem_of_getElem? (i := 27) rfl))) (g := (mkF m 152 #[.val (.int p1), .unset] [(.int p1)])) rfl (hb hby d2_152) _ ?_
    show Steps p.tables e below (T10.setTop (mkF m 154 #[.val (.int p1), .unset] [(.int (65534 : Int32)), (.int p1)])) _
    refine X10.ldcInt hx hown (mvT hZ (hw _ (List.mem_of_getElem? (i := 28) rfl))) (g := (mkF m 154 #[.val (.int p1), .unset] [(.int (65534 : Int32)), (.int p1)])) rfl (hb hby d2_154) _ ?_
    show Steps p.tables e below (T10.setTop (mkF m 156 #[.val (.int p1), .unset] [(.int (65535 : Int32)), (.int (65534 : Int32)), (.int p1)])) _
    refine st11 _ ?_
    show Steps p.tables e below (T11.setTop (mkF m 159 #[.val (.int p1), .unset] [(.int (inF p1 (65534 : Int32) (65535 : Int32)))])) _
    refine XS.ifYes X11.here hx rfl (pc0 := 159) (pc' := 166) rfl (hb hby d2_159) rfl ((if0 _ _).trans (teq (hg159 : (inF p1 (65534 : Int32) (65535 : Int32)) = (0 : Int32))).1) (by decide) (by decide) ?_
    show Steps p.tables e below (T11.setTop (mkF m 166 #[.val (.int p1), .unset] [])) _
    refine XS.iconst X11.here hx rfl (hb hby d2_166) ?_
    show Steps p.tables e below (T11.setTop (mkF m 167 #[.val (.int p1), .unset] [(.int (0 : Int32))])) _
    refine XS.istoreN X11.here hx rfl (hb hby d2_167) rfl (l' := #[.val (.int p1), .val (.int (0 : Int32))]) rfl ?_
    show Steps p.tables e below (T11.setTop (mkF m 168 #[.val (.int p1), .val (.int (0 : Int32))] [])) _
    refine XS.iloadN X11.here hx rfl (hb hby d2_168) rfl ?_
    show Steps p.tables e below (T11.setTop (mkF m 169 #[.val (.int p1), .val (.int (0 : Int32))] [(.int (0 : Int32))])) _
    refine XS.ifNo X11.here hx rfl (hb hby d2_169) rfl ((if0 _ _).trans (teq (rfl : (0 : Int32) = (0 : Int32))).2) ?_
    show Steps p.tables e below (T11.setTop (mkF m 172 #[.val (.int p1), .val (.int (0 : Int32))] [])) _
    refine XS.iconst X11.here hx rfl (hb hby d2_172) ?_
    show Steps p.tables e below (T11.setTop (mkF m 173 #[.val (.int p1), .val (.int (0 : Int32))] [(.int (1 : Int32))])) _
    refine XS.goto X11.here hx rfl (pc0 := 173) (pc' := 177) rfl (hb hby d2_173) (by decide) (by decide) ?_
    show Steps p.tables e below (T11.setTop (mkF m 177 #[.val (.int p1), .val (.int (0 : Int32))] [(.int (1 : Int32))])) _
    exact retN X11 hx (t := .boolean) Bd.returns (by simp) (hb hby d2_177) hr
  · show Q2 Z p1 h0 n0 _ T11.heap _
    exact ⟨by simp [rcF, hc3, hc9, hg22, hc28, hg40, hc47, hc54, hg67, hc74, hg87, hg100, hg113, hg126, hg137, hg148, hg159], N11, by rw [eq11, eq10, eq9, eq8, eq7, eq6, eq5, eq4, eq3, eq2]⟩
theorem rm2 (l : Launch) (Z : State) (a0 : Array Value) (hw : ∀ d ∈ tables_1, d.before a0 Z = true) (ws : List Jvm.Cond) (p1 : Int32) (h0 : Heap) (n0 : Nat) (Z0 : n0 ≤ h0.size) :
    MetFree l (⟨"com/example/narrow_tree/narrowtree/document/XmlSyntaxIsNcNameStartCharacterPinLaw", "ref", "(I)Z"⟩ : MethodName) (head1 (Jvm.Cond.code (⟨"com/example/narrow_tree/narrowtree/document/XmlSyntaxIsNcNameStartCharacterPinLaw", "ref", "(I)Z"⟩ : MethodName) method_3_code 2 (some .boolean) :: ws) ({ frames := 1, cells := 0, slots := 0, locals := 14 } : Room)) (fun a U => a = #[(.int p1)] ∧ Z.Warmed39 U.vm ∧ U.heap = h0) (fun _ _ _ _ _ => True) (fun _ U o U' => ∃ v L, o = .returned v ∧ Q2 Z p1 h0 n0 v U'.heap L ∧ FrameEnd U o U' L ({ frames := 1, cells := 0, slots := 0, locals := 14 } : Room).cells ({ frames := 1, cells := 0, slots := 0, locals := 14 } : Room).slots) := by
  by_cases hc3 : p1 < (65 : Int32)
  · exact rm2_t l Z a0 hw ws p1 h0 n0 Z0 hc3
  by_cases hc9 : (983039 : Int32) < p1
  · exact rm2_ff l Z a0 hw ws p1 h0 n0 Z0 hc3 hc9
  by_cases hg22 : inF p1 (91 : Int32) (94 : Int32) = (0 : Int32)
  case neg => exact rm2_fttt l Z a0 hw ws p1 h0 n0 Z0 hg22 hc3 hc9
  by_cases hc28 : p1 = (96 : Int32)
  · exact rm2_ftftt l Z a0 hw ws p1 h0 n0 Z0 hg22 hc3 hc9 hc28
  by_cases hg40 : inF p1 (123 : Int32) (191 : Int32) = (0 : Int32)
  case neg => exact rm2_ftfftt l Z a0 hw ws p1 h0 n0 Z0 hg22 hg40 hc3 hc9 hc28
  by_cases hc47 : p1 = (215 : Int32)
  · exact rm2_ftffftt l Z a0 hw ws p1 h0 n0 Z0 hg22 hg40 hc3 hc9 hc28 hc47
  by_cases hc54 : p1 = (247 : Int32)
  · exact rm2_ftfffftt l Z a0 hw ws p1 h0 n0 Z0 hg22 hg40 hc3 hc9 hc28 hc47 hc54
  by_cases hg67 : inF p1 (768 : Int32) (879 : Int32) = (0 : Int32)
  case neg => exact rm2_ftffffftt l Z a0 hw ws p1 h0 n0 Z0 hg22 hg40 hg67 hc3 hc9 hc28 hc47 hc54
  by_cases hc74 : p1 = (894 : Int32)
  · exact rm2_ftfffffftt l Z a0 hw ws p1 h0 n0 Z0 hg22 hg40 hg67 hc3 hc9 hc28 hc47 hc54 hc74
  by_cases hg87 : inF p1 (8192 : Int32) (8203 : Int32) = (0 : Int32)
  case neg => exact rm2_ftffffffftt l Z a0 hw ws p1 h0 n0 Z0 hg22 hg40 hg67 hg87 hc3 hc9 hc28 hc47 hc54 hc74
  by_cases hg100 : inF p1 (8206 : Int32) (8303 : Int32) = (0 : Int32)
  case neg => exact rm2_ftfffffffftt l Z a0 hw ws p1 h0 n0 Z0 hg22 hg40 hg67 hg87 hg100 hc3 hc9 hc28 hc47 hc54 hc74
  by_cases hg113 : inF p1 (8592 : Int32) (11263 : Int32) = (0 : Int32)
  case neg => exact rm2_ftffffffffftt l Z a0 hw ws p1 h0 n0 Z0 hg22 hg40 hg67 hg87 hg100 hg113 hc3 hc9 hc28 hc47 hc54 hc74
  by_cases hg126 : inF p1 (12272 : Int32) (12288 : Int32) = (0 : Int32)
  case neg => exact rm2_ftfffffffffftt l Z a0 hw ws p1 h0 n0 Z0 hg22 hg40 hg67 hg87 hg100 hg113 hg126 hc3 hc9 hc28 hc47 hc54 hc74
  by_cases hg137 : inF p1 (55296 : Int32) (63743 : Int32) = (0 : Int32)
  case neg => exact rm2_ftffffffffffftt l Z a0 hw ws p1 h0 n0 Z0 hg22 hg40 hg67 hg87 hg100 hg113 hg126 hg137 hc3 hc9 hc28 hc47 hc54 hc74
  by_cases hg148 : inF p1 (64976 : Int32) (65007 : Int32) = (0 : Int32)
  case neg => exact rm2_ftfffffffffffftt l Z a0 hw ws p1 h0 n0 Z0 hg22 hg40 hg67 hg87 hg100 hg113 hg126 hg137 hg148 hc3 hc9 hc28 hc47 hc54 hc74
  by_cases hg159 : inF p1 (65534 : Int32) (65535 : Int32) = (0 : Int32)
  case neg => exact rm2_ftfffffffffffffft l Z a0 hw ws p1 h0 n0 Z0 hg22 hg40 hg67 hg87 hg100 hg113 hg126 hg137 hg148 hg159 hc3 hc9 hc28 hc47 hc54 hc74
  exact rm2_ftffffffffffffftf l Z a0 hw ws p1 h0 n0 Z0 hg22 hg40 hg67 hg87 hg100 hg113 hg126 hg137 hg148 hg159 hc3 hc9 hc28 hc47 hc54 hc74
theorem own_gin (p lo hi : Int32) (a b : Int) (ha : lo.toInt = a) (hb : hi.toInt = b) : ¬ (¬ inF p lo hi = 0) ↔ ¬ (a ≤ p.toInt ∧ p.toInt ≤ b) := by
  rw [inF]
  by_cases h1 : p < lo
  · rw [if_pos h1]; rw [Int32.lt_iff_toInt_lt] at h1
    exact ⟨fun _ q => by omega, fun _ q => q rfl⟩
  · by_cases h2 : hi < p
    · rw [if_neg h1, if_pos h2]; rw [Int32.lt_iff_toInt_lt] at h2
      exact ⟨fun _ q => by omega, fun _ q => q rfl⟩
    · rw [if_neg h1, if_neg h2]; rw [Int32.lt_iff_toInt_lt] at h1 h2
      exact ⟨fun q => absurd (by decide) q, fun q => absurd ⟨by omega, by omega⟩ q⟩
theorem own_geq (p c : Int32) (a : Int) (ha : c.toInt = a) : ¬ p = c ↔ ¬ (p.toInt = a) := by
  rw [← ha, Int32.toInt_inj]
theorem own_glt (p c : Int32) (a : Int) (ha : c.toInt = a) : ¬ p < c ↔ ¬ p.toInt < a := by
  rw [← ha, Int32.lt_iff_toInt_lt]
theorem own_ggt (p c : Int32) (a : Int) (ha : c.toInt = a) : ¬ c < p ↔ ¬ a < p.toInt := by
  rw [← ha, Int32.lt_iff_toInt_lt]
theorem own_if1 {c : Prop} [Decidable c] : (if c then (0 : Int32) else 1) = 1 ↔ ¬ c := by
  by_cases h : c
  · rw [if_pos h]; exact ⟨fun z => absurd z (by decide), fun z => absurd h z⟩
  · rw [if_neg h]; exact ⟨fun _ => h, fun _ => rfl⟩
theorem own_if {c : Prop} [Decidable c] {y : Int32} : (if c then (0 : Int32) else y) = 1 ↔ (¬ c ∧ y = 1) := by
  by_cases h : c
  · rw [if_pos h]; exact ⟨fun z => absurd z (by decide), fun z => absurd h z.1⟩
  · rw [if_neg h]; exact ⟨fun z => ⟨h, z⟩, fun z => z.2⟩
theorem own_if0 {c : Prop} [Decidable c] {y : Int32} (h : y = 0 ∨ y = 1) : (if c then (0 : Int32) else y) = 0 ∨ (if c then (0 : Int32) else y) = 1 := by
  by_cases q : c
  · rw [if_pos q]; exact Or.inl rfl
  · rw [if_neg q]; exact h
theorem own_rcF (p : Int32) : rcF p = 1 ↔ (¬ p.toInt < 65 ∧ ¬ 983039 < p.toInt ∧ ¬ (91 ≤ p.toInt ∧ p.toInt ≤ 94) ∧ ¬ (p.toInt = 96) ∧ ¬ (123 ≤ p.toInt ∧ p.toInt ≤ 191) ∧ ¬ (p.toInt = 215) ∧ ¬ (p.toInt = 247) ∧ ¬ (768 ≤ p.toInt ∧ p.toInt ≤ 879) ∧ ¬ (p.toInt = 894) ∧ ¬ (8192 ≤ p.toInt ∧ p.toInt ≤ 8203) ∧ ¬ (8206 ≤ p.toInt ∧ p.toInt ≤ 8303) ∧ ¬ (8592 ≤ p.toInt ∧ p.toInt ≤ 11263) ∧ ¬ (12272 ≤ p.toInt ∧ p.toInt ≤ 12288) ∧ ¬ (55296 ≤ p.toInt ∧ p.toInt ≤ 63743) ∧ ¬ (64976 ≤ p.toInt ∧ p.toInt ≤ 65007) ∧ ¬ (65534 ≤ p.toInt ∧ p.toInt ≤ 65535)) := by
  rw [rcF]
  refine own_if.trans (and_congr (own_glt p 65 65 (by decide)) ?_)
  refine own_if.trans (and_congr (own_ggt p 983039 983039 (by decide)) ?_)
  refine own_if.trans (and_congr (own_gin p 91 94 91 94 (by decide) (by decide)) ?_)
  refine own_if.trans (and_congr (own_geq p 96 96 (by decide)) ?_)
  refine own_if.trans (and_congr (own_gin p 123 191 123 191 (by decide) (by decide)) ?_)
  refine own_if.trans (and_congr (own_geq p 215 215 (by decide)) ?_)
  refine own_if.trans (and_congr (own_geq p 247 247 (by decide)) ?_)
  refine own_if.trans (and_congr (own_gin p 768 879 768 879 (by decide) (by decide)) ?_)
  refine own_if.trans (and_congr (own_geq p 894 894 (by decide)) ?_)
  refine own_if.trans (and_congr (own_gin p 8192 8203 8192 8203 (by decide) (by decide)) ?_)
  refine own_if.trans (and_congr (own_gin p 8206 8303 8206 8303 (by decide) (by decide)) ?_)
  refine own_if.trans (and_congr (own_gin p 8592 11263 8592 11263 (by decide) (by decide)) ?_)
  refine own_if.trans (and_congr (own_gin p 12272 12288 12272 12288 (by decide) (by decide)) ?_)
  refine own_if.trans (and_congr (own_gin p 55296 63743 55296 63743 (by decide) (by decide)) ?_)
  refine own_if.trans (and_congr (own_gin p 64976 65007 64976 65007 (by decide) (by decide)) ?_)
  exact own_if1.trans (own_gin p 65534 65535 65534 65535 (by decide) (by decide))
theorem own_r01 (p : Int32) : rcF p = 0 ∨ rcF p = 1 := by
  rw [rcF]
  refine own_if0 ?_
  refine own_if0 ?_
  refine own_if0 ?_
  refine own_if0 ?_
  refine own_if0 ?_
  refine own_if0 ?_
  refine own_if0 ?_
  refine own_if0 ?_
  refine own_if0 ?_
  refine own_if0 ?_
  refine own_if0 ?_
  refine own_if0 ?_
  refine own_if0 ?_
  refine own_if0 ?_
  refine own_if0 ?_
  refine own_if0 ?_
  exact Or.inr rfl
theorem own_int (x : Int) : ((65 ≤ x ∧ x ≤ 90) ∨ x = 95 ∨ (97 ≤ x ∧ x ≤ 122) ∨ (192 ≤ x ∧ x ≤ 214) ∨ (216 ≤ x ∧ x ≤ 246) ∨ (248 ≤ x ∧ x ≤ 767) ∨ (880 ≤ x ∧ x ≤ 893) ∨ (895 ≤ x ∧ x ≤ 8191) ∨ (8204 ≤ x ∧ x ≤ 8205) ∨ (8304 ≤ x ∧ x ≤ 8591) ∨ (11264 ≤ x ∧ x ≤ 12271) ∨ (12289 ≤ x ∧ x ≤ 55295) ∨ (63744 ≤ x ∧ x ≤ 64975) ∨ (65008 ≤ x ∧ x ≤ 65533) ∨ (65536 ≤ x ∧ x ≤ 983039)) ↔ (¬ x < 65 ∧ ¬ 983039 < x ∧ ¬ (91 ≤ x ∧ x ≤ 94) ∧ ¬ (x = 96) ∧ ¬ (123 ≤ x ∧ x ≤ 191) ∧ ¬ (x = 215) ∧ ¬ (x = 247) ∧ ¬ (768 ≤ x ∧ x ≤ 879) ∧ ¬ (x = 894) ∧ ¬ (8192 ≤ x ∧ x ≤ 8203) ∧ ¬ (8206 ≤ x ∧ x ≤ 8303) ∧ ¬ (8592 ≤ x ∧ x ≤ 11263) ∧ ¬ (12272 ≤ x ∧ x ≤ 12288) ∧ ¬ (55296 ≤ x ∧ x ≤ 63743) ∧ ¬ (64976 ≤ x ∧ x ≤ 65007) ∧ ¬ (65534 ≤ x ∧ x ≤ 65535)) := by omega
theorem own_same (p : Int32) : ncF p = rcF p := by
  have h1 := (own_ncF p).trans ((own_int p.toInt).trans (own_rcF p).symm)
  rcases own_b0 p with a | a <;> rcases own_r01 p with b | b
  · exact a.trans b.symm
  · exact absurd (h1.mpr b) (fun z => absurd (a.symm.trans z) (by decide))
  · exact absurd (h1.mp a) (fun z => absurd (b.symm.trans z) (by decide))
  · exact a.trans b.symm
theorem own_irem (x y : Int32) : remI x y = x % y := irem_eq_mod x y
theorem own_idx (p : Int32) : ¬ (remI (p &&& (2147483647 : Int32)) (29 : Int32)) < 0 ∧ (remI (p &&& (2147483647 : Int32)) (29 : Int32)) < 29 := by
  have h0 : 0 ≤ (p &&& (2147483647 : Int32)).toInt := by
    have := c_mask p 2147483647 31 (by decide) (by decide); rw [this]; omega
  have h1 := (c_iremV (p &&& (2147483647 : Int32)) 29).1 h0 (by decide)
  have e0 : (0 : Int32).toInt = 0 := by decide
  have e9 : (29 : Int32).toInt = 29 := by decide
  rw [own_irem, Int32.lt_iff_toInt_lt, Int32.lt_iff_toInt_lt, e0, e9]; rw [e9] at h1; omega
theorem own_slot {c : Cell} {vs : List Value} {d : Value} (H : Has c vs d) (G : ∀ i, i < c.slots.size → fits .int (vs.getD i d) = true) (k : Nat) (hk : k < c.slots.size) : ∃ w : Int32, c.slots[k]? = some (.int w) := by
  have h1 := H k hk
  have h2 := G k hk
  generalize vs.getD k d = v at *
  cases v with
  | int w => exact ⟨w, h1⟩
  | _ => simp [fits] at h2
theorem pn_0 : plainName "com/example/narrow_tree/narrowtree/document/XmlSyntaxIsNcNameStartCharacterPinLaw" = true := by first | (simp [plainName, overriddenIn]; done) | decide +kernel
theorem pd_0_0 : parseMethodDescriptor "(I)Z" = some ⟨[.int], some .boolean⟩ := by decide +kernel
theorem ef_0 (m : MethodId) (x0 : Int32) (x1 : Int32) (x2 : Int32) : entryFrame m #[(.int x0), (.int x1), (.int x2)] maxLocals = mkF m 0 #[.val (.int x0), .val (.int x1), .val (.int x2), .unset, .unset, .unset, .unset, .unset] [] := by first | (simp [entryFrame, mkF, argsToLocals, Value.category, maxLocals]; done) | rfl
def Q0 (Z : State) (p1 : Int32) (p2 : Int32) (p3 : Int32) (h0 : Heap) (n0 : Nat) (v : Option Value) (h : Heap) (L : List Loc) : Prop := v = some (.int (1 : Int32)) ∧ Fr n0 L
set_option maxRecDepth 65536 in
set_option maxHeartbeats 40000000 in
theorem rm0 (l : Launch) (Z : State) (a0 : Array Value) (hw : ∀ d ∈ tables_1, d.before a0 Z = true) (ws : List Jvm.Cond) (p1 : Int32) (p2 : Int32) (p3 : Int32) (h0 : Heap) (n0 : Nat) (Z0 : n0 ≤ h0.size) :
    MetFree l x (head1 (Jvm.Cond.code x code maxLocals ret :: ws) room_1) (fun a U => a = #[(.int p1), (.int p2), (.int p3)] ∧ Z.Warmed39 U.vm ∧ U.heap = h0) (fun _ _ _ _ _ => True) (fun _ U o U' => ∃ v L, o = .returned v ∧ Q0 Z p1 p2 p3 h0 n0 v U'.heap L ∧ FrameEnd U o U' L room_1.cells room_1.slots) := by
  refine MetFree.of_bodySF (plainFor_of_name pn_0) hisR ?_
  intro p e s m args below meth c s₁ Bd hml0 hP hK
  obtain ⟨rfl, hZ, hh⟩ := hP
  have hx := Bd.exec
  have hby := Bd.bytes
  have hml : c.maxLocals = 8 := hml0
  have hown : s.vm.findClass "com/example/narrow_tree/narrowtree/document/XmlSyntaxIsNcNameStartCharacterPinLaw" = some m.cls := findClass_of_methodNamed Bd.named
  have hnm := (name_of_methodNamed Bd.named Bd.method).1
  have X0 : Stand p l e room_1 s m #[(.int p1), (.int p2), (.int p3)] below meth c s₁ [] 0 0 := Stand.of_body Bd
  have e0 : s₁.heap = h0 := by rw [← hh, Bd.state]; rfl
  have hnz208 : ¬ ((3 : Int32) = (0 : Int32)) := by decide
  have hc254 : ¬ ((1 : Int32) = (0 : Int32)) := by decide
  have hc259 : ¬ ((1 : Int32) = (0 : Int32)) := by decide
  have N0 := Fr.nil n0
  have hnz196 : ¬ ((29 : Int32) = (0 : Int32)) := by decide
  have pre0 : ∀ t, Steps p.tables e below (s₁.setTop (mkF m 0 #[.val (.int p1), .val (.int p2), .val (.int p3), .unset, .unset, .unset, .unset, .unset] [])) t → Steps p.tables e below (s₁.setTop (entryFrame m #[(.int p1), (.int p2), (.int p3)] maxLocals)) t := fun t k => castTop (ef_0 m p1 p2 p3) k
  obtain ⟨T4, h4, k4, X4, e4, E4, A4, st4⟩ := newP X0 hx hZ (hw _ (List.mem_of_getElem? (i := 0) rfl)) e0 (g := (mkF m 2 #[.val (.int p1), .val (.int p2), .val (.int p3), .unset, .unset, .unset, .unset, .unset] [(.int (29 : Int32))])) rfl (hb hby at_2) rfl (by decide) (cap := 29) (by decide) (by decide) (by decide) (by decide)
  obtain ⟨b4, g4⟩ : ∃ z, z = h0.size := ⟨_, rfl⟩
  rw [← g4] at A4 st4
  have V_b4 : Arv Z h4 b4 k4 .int (29 : Int32) [(.int (0 : Int32)), (.int (0 : Int32)), (.int (0 : Int32)), (.int (0 : Int32)), (.int (0 : Int32)), (.int (0 : Int32)), (.int (0 : Int32)), (.int (0 : Int32)), (.int (0 : Int32)), (.int (0 : Int32)), (.int (0 : Int32)), (.int (0 : Int32)), (.int (0 : Int32)), (.int (0 : Int32)), (.int (0 : Int32)), (.int (0 : Int32)), (.int (0 : Int32)), (.int (0 : Int32)), (.int (0 : Int32)), (.int (0 : Int32)), (.int (0 : Int32)), (.int (0 : Int32)), (.int (0 : Int32)), (.int (0 : Int32)), (.int (0 : Int32)), (.int (0 : Int32)), (.int (0 : Int32)), (.int (0 : Int32)), (.int (0 : Int32))] (.int (0 : Int32)) := (Arv.new A4 (by decide)).pad (pad_rep [] (.int (0 : Int32)) 29)
  have g_b4 : n0 ≤ b4 := Nat.le_trans Z0 (Nat.le_of_eq g4.symm)
  obtain ⟨vs4, l4, V_b4⟩ : ∃ vs : List Value, vs.length = 29 ∧ Arv Z h4 b4 k4 .int (29 : Int32) vs (.int (0 : Int32)) := ⟨_, rfl, V_b4⟩
  have sz_b4 : h0.size ≤ b4 := (Nat.le_trans (Keep.refl h0 []).1 (Nat.le_of_eq g4.symm))
  have K4 : Keep h0 h4 [] := (Keep.refl h0 []).ext E4
  obtain ⟨cl_b4_8, Ar_b4, q_b4, S_b4, N_b4, H_b4, G_b4⟩ := V_b4
  have hin8 : ¬ ((0 : Int32) < 0 ∨ cl_b4_8.slots.size ≤ ((0 : Int32)).toNatClampNeg) := inb_of S_b4 ⟨by decide, by decide⟩
  obtain ⟨T5, h5, X5, e5, W5, st5⟩ := stI X4 hx hZ e4 Ar_b4 (j := (0 : Int32)) hin8 (g := (mkF m 8 #[.val (.int p1), .val (.int p2), .val (.int p3), .unset, .unset, .unset, .unset, .unset] [(.int (65 : Int32)), (.int (0 : Int32)), (.ref b4), (.ref b4)])) rfl rfl (hb hby at_8)
  obtain ⟨vs5, l5, V_b4_5⟩ : ∃ vs : List Value, vs.length = 29 ∧ Arv Z h5 b4 k4 .int (29 : Int32) vs (.int (0 : Int32)) := ⟨_, (List.length_set ..).trans l4, Arv.set Ar_b4 q_b4 S_b4 N_b4 H_b4 G_b4 rfl W5 0 (by decide) (by rw [l4]; decide)⟩
  have K5 : Keep h0 h5 [] := K4.wr W5 (Or.inr sz_b4)
  have N5 := Fr.snoc X5 N0 g_b4
  obtain ⟨cl_b4_13, Ar_b4, q_b4, S_b4, N_b4, H_b4, G_b4⟩ := V_b4_5
  have hin13 : ¬ ((1 : Int32) < 0 ∨ cl_b4_13.slots.size ≤ ((1 : Int32)).toNatClampNeg) := inb_of S_b4 ⟨by decide, by decide⟩
  obtain ⟨T6, h6, X6, e6, W6, st6⟩ := stI X5 hx hZ e5 Ar_b4 (j := (1 : Int32)) hin13 (g := (mkF m 13 #[.val (.int p1), .val (.int p2), .val (.int p3), .unset, .unset, .unset, .unset, .unset] [(.int (90 : Int32)), (.int (1 : Int32)), (.ref b4), (.ref b4)])) rfl rfl (hb hby at_13)
  obtain ⟨vs6, l6, V_b4_6⟩ : ∃ vs : List Value, vs.length = 29 ∧ Arv Z h6 b4 k4 .int (29 : Int32) vs (.int (0 : Int32)) := ⟨_, (List.length_set ..).trans l5, Arv.set Ar_b4 q_b4 S_b4 N_b4 H_b4 G_b4 rfl W6 1 (by decide) (by rw [l5]; decide)⟩
  have K6 : Keep h0 h6 [] := K5.wr W6 (Or.inr sz_b4)
  have N6 := Fr.snoc X6 N5 g_b4
  obtain ⟨cl_b4_18, Ar_b4, q_b4, S_b4, N_b4, H_b4, G_b4⟩ := V_b4_6
  have hin18 : ¬ ((2 : Int32) < 0 ∨ cl_b4_18.slots.size ≤ ((2 : Int32)).toNatClampNeg) := inb_of S_b4 ⟨by decide, by decide⟩
  obtain ⟨T7, h7, X7, e7, W7, st7⟩ := stI X6 hx hZ e6 Ar_b4 (j := (2 : Int32)) hin18 (g := (mkF m 18 #[.val (.int p1), .val (.int p2), .val (.int p3), .unset, .unset, .unset, .unset, .unset] [(.int (95 : Int32)), (.int (2 : Int32)), (.ref b4), (.ref b4)])) rfl rfl (hb hby at_18)
  obtain ⟨vs7, l7, V_b4_7⟩ : ∃ vs : List Value, vs.length = 29 ∧ Arv Z h7 b4 k4 .int (29 : Int32) vs (.int (0 : Int32)) := ⟨_, (List.length_set ..).trans l6, Arv.set Ar_b4 q_b4 S_b4 N_b4 H_b4 G_b4 rfl W7 2 (by decide) (by rw [l6]; decide)⟩
  have K7 : Keep h0 h7 [] := K6.wr W7 (Or.inr sz_b4)
  have N7 := Fr.snoc X7 N6 g_b4
  obtain ⟨cl_b4_23, Ar_b4, q_b4, S_b4, N_b4, H_b4, G_b4⟩ := V_b4_7
  have hin23 : ¬ ((3 : Int32) < 0 ∨ cl_b4_23.slots.size ≤ ((3 : Int32)).toNatClampNeg) := inb_of S_b4 ⟨by decide, by decide⟩
  obtain ⟨T8, h8, X8, e8, W8, st8⟩ := stI X7 hx hZ e7 Ar_b4 (j := (3 : Int32)) hin23 (g := (mkF m 23 #[.val (.int p1), .val (.int p2), .val (.int p3), .unset, .unset, .unset, .unset, .unset] [(.int (97 : Int32)), (.int (3 : Int32)), (.ref b4), (.ref b4)])) rfl rfl (hb hby at_23)
  obtain ⟨vs8, l8, V_b4_8⟩ : ∃ vs : List Value, vs.length = 29 ∧ Arv Z h8 b4 k4 .int (29 : Int32) vs (.int (0 : Int32)) := ⟨_, (List.length_set ..).trans l7, Arv.set Ar_b4 q_b4 S_b4 N_b4 H_b4 G_b4 rfl W8 3 (by decide) (by rw [l7]; decide)⟩
  have K8 : Keep h0 h8 [] := K7.wr W8 (Or.inr sz_b4)
  have N8 := Fr.snoc X8 N7 g_b4
  obtain ⟨cl_b4_28, Ar_b4, q_b4, S_b4, N_b4, H_b4, G_b4⟩ := V_b4_8
  have hin28 : ¬ ((4 : Int32) < 0 ∨ cl_b4_28.slots.size ≤ ((4 : Int32)).toNatClampNeg) := inb_of S_b4 ⟨by decide, by decide⟩
  obtain ⟨T9, h9, X9, e9, W9, st9⟩ := stI X8 hx hZ e8 Ar_b4 (j := (4 : Int32)) hin28 (g := (mkF m 28 #[.val (.int p1), .val (.int p2), .val (.int p3), .unset, .unset, .unset, .unset, .unset] [(.int (122 : Int32)), (.int (4 : Int32)), (.ref b4), (.ref b4)])) rfl rfl (hb hby at_28)
  obtain ⟨vs9, l9, V_b4_9⟩ : ∃ vs : List Value, vs.length = 29 ∧ Arv Z h9 b4 k4 .int (29 : Int32) vs (.int (0 : Int32)) := ⟨_, (List.length_set ..).trans l8, Arv.set Ar_b4 q_b4 S_b4 N_b4 H_b4 G_b4 rfl W9 4 (by decide) (by rw [l8]; decide)⟩
  have K9 : Keep h0 h9 [] := K8.wr W9 (Or.inr sz_b4)
  have N9 := Fr.snoc X9 N8 g_b4
  obtain ⟨cl_b4_34, Ar_b4, q_b4, S_b4, N_b4, H_b4, G_b4⟩ := V_b4_9
  have hin34 : ¬ ((5 : Int32) < 0 ∨ cl_b4_34.slots.size ≤ ((5 : Int32)).toNatClampNeg) := inb_of S_b4 ⟨by decide, by decide⟩
  obtain ⟨T10, h10, X10, e10, W10, st10⟩ := stI X9 hx hZ e9 Ar_b4 (j := (5 : Int32)) hin34 (g := (mkF m 34 #[.val (.int p1), .val (.int p2), .val (.int p3), .unset, .unset, .unset, .unset, .unset] [(.int (192 : Int32)), (.int (5 : Int32)), (.ref b4), (.ref b4)])) rfl rfl (hb hby at_34)
  obtain ⟨vs10, l10, V_b4_10⟩ : ∃ vs : List Value, vs.length = 29 ∧ Arv Z h10 b4 k4 .int (29 : Int32) vs (.int (0 : Int32)) := ⟨_, (List.length_set ..).trans l9, Arv.set Ar_b4 q_b4 S_b4 N_b4 H_b4 G_b4 rfl W10 5 (by decide) (by rw [l9]; decide)⟩
  have K10 : Keep h0 h10 [] := K9.wr W10 (Or.inr sz_b4)
  have N10 := Fr.snoc X10 N9 g_b4
  obtain ⟨cl_b4_41, Ar_b4, q_b4, S_b4, N_b4, H_b4, G_b4⟩ := V_b4_10
  have hin41 : ¬ ((6 : Int32) < 0 ∨ cl_b4_41.slots.size ≤ ((6 : Int32)).toNatClampNeg) := inb_of S_b4 ⟨by decide, by decide⟩
  obtain ⟨T11, h11, X11, e11, W11, st11⟩ := stI X10 hx hZ e10 Ar_b4 (j := (6 : Int32)) hin41 (g := (mkF m 41 #[.val (.int p1), .val (.int p2), .val (.int p3), .unset, .unset, .unset, .unset, .unset] [(.int (214 : Int32)), (.int (6 : Int32)), (.ref b4), (.ref b4)])) rfl rfl (hb hby at_41)
  obtain ⟨vs11, l11, V_b4_11⟩ : ∃ vs : List Value, vs.length = 29 ∧ Arv Z h11 b4 k4 .int (29 : Int32) vs (.int (0 : Int32)) := ⟨_, (List.length_set ..).trans l10, Arv.set Ar_b4 q_b4 S_b4 N_b4 H_b4 G_b4 rfl W11 6 (by decide) (by rw [l10]; decide)⟩
  have K11 : Keep h0 h11 [] := K10.wr W11 (Or.inr sz_b4)
  have N11 := Fr.snoc X11 N10 g_b4
  obtain ⟨cl_b4_48, Ar_b4, q_b4, S_b4, N_b4, H_b4, G_b4⟩ := V_b4_11
  have hin48 : ¬ ((7 : Int32) < 0 ∨ cl_b4_48.slots.size ≤ ((7 : Int32)).toNatClampNeg) := inb_of S_b4 ⟨by decide, by decide⟩
  obtain ⟨T12, h12, X12, e12, W12, st12⟩ := stI X11 hx hZ e11 Ar_b4 (j := (7 : Int32)) hin48 (g := (mkF m 48 #[.val (.int p1), .val (.int p2), .val (.int p3), .unset, .unset, .unset, .unset, .unset] [(.int (216 : Int32)), (.int (7 : Int32)), (.ref b4), (.ref b4)])) rfl rfl (hb hby at_48)
  obtain ⟨vs12, l12, V_b4_12⟩ : ∃ vs : List Value, vs.length = 29 ∧ Arv Z h12 b4 k4 .int (29 : Int32) vs (.int (0 : Int32)) := ⟨_, (List.length_set ..).trans l11, Arv.set Ar_b4 q_b4 S_b4 N_b4 H_b4 G_b4 rfl W12 7 (by decide) (by rw [l11]; decide)⟩
  have K12 : Keep h0 h12 [] := K11.wr W12 (Or.inr sz_b4)
  have N12 := Fr.snoc X12 N11 g_b4
  obtain ⟨cl_b4_55, Ar_b4, q_b4, S_b4, N_b4, H_b4, G_b4⟩ := V_b4_12
  have hin55 : ¬ ((8 : Int32) < 0 ∨ cl_b4_55.slots.size ≤ ((8 : Int32)).toNatClampNeg) := inb_of S_b4 ⟨by decide, by decide⟩
  obtain ⟨T13, h13, X13, e13, W13, st13⟩ := stI X12 hx hZ e12 Ar_b4 (j := (8 : Int32)) hin55 (g := (mkF m 55 #[.val (.int p1), .val (.int p2), .val (.int p3), .unset, .unset, .unset, .unset, .unset] [(.int (246 : Int32)), (.int (8 : Int32)), (.ref b4), (.ref b4)])) rfl rfl (hb hby at_55)
  obtain ⟨vs13, l13, V_b4_13⟩ : ∃ vs : List Value, vs.length = 29 ∧ Arv Z h13 b4 k4 .int (29 : Int32) vs (.int (0 : Int32)) := ⟨_, (List.length_set ..).trans l12, Arv.set Ar_b4 q_b4 S_b4 N_b4 H_b4 G_b4 rfl W13 8 (by decide) (by rw [l12]; decide)⟩
  have K13 : Keep h0 h13 [] := K12.wr W13 (Or.inr sz_b4)
  have N13 := Fr.snoc X13 N12 g_b4
  obtain ⟨cl_b4_62, Ar_b4, q_b4, S_b4, N_b4, H_b4, G_b4⟩ := V_b4_13
  have hin62 : ¬ ((9 : Int32) < 0 ∨ cl_b4_62.slots.size ≤ ((9 : Int32)).toNatClampNeg) := inb_of S_b4 ⟨by decide, by decide⟩
  obtain ⟨T14, h14, X14, e14, W14, st14⟩ := stI X13 hx hZ e13 Ar_b4 (j := (9 : Int32)) hin62 (g := (mkF m 62 #[.val (.int p1), .val (.int p2), .val (.int p3), .unset, .unset, .unset, .unset, .unset] [(.int (248 : Int32)), (.int (9 : Int32)), (.ref b4), (.ref b4)])) rfl rfl (hb hby at_62)
  obtain ⟨vs14, l14, V_b4_14⟩ : ∃ vs : List Value, vs.length = 29 ∧ Arv Z h14 b4 k4 .int (29 : Int32) vs (.int (0 : Int32)) := ⟨_, (List.length_set ..).trans l13, Arv.set Ar_b4 q_b4 S_b4 N_b4 H_b4 G_b4 rfl W14 9 (by decide) (by rw [l13]; decide)⟩
  have K14 : Keep h0 h14 [] := K13.wr W14 (Or.inr sz_b4)
  have N14 := Fr.snoc X14 N13 g_b4
  obtain ⟨cl_b4_69, Ar_b4, q_b4, S_b4, N_b4, H_b4, G_b4⟩ := V_b4_14
  have hin69 : ¬ ((10 : Int32) < 0 ∨ cl_b4_69.slots.size ≤ ((10 : Int32)).toNatClampNeg) := inb_of S_b4 ⟨by decide, by decide⟩
  obtain ⟨T15, h15, X15, e15, W15, st15⟩ := stI X14 hx hZ e14 Ar_b4 (j := (10 : Int32)) hin69 (g := (mkF m 69 #[.val (.int p1), .val (.int p2), .val (.int p3), .unset, .unset, .unset, .unset, .unset] [(.int (767 : Int32)), (.int (10 : Int32)), (.ref b4), (.ref b4)])) rfl rfl (hb hby at_69)
  obtain ⟨vs15, l15, V_b4_15⟩ : ∃ vs : List Value, vs.length = 29 ∧ Arv Z h15 b4 k4 .int (29 : Int32) vs (.int (0 : Int32)) := ⟨_, (List.length_set ..).trans l14, Arv.set Ar_b4 q_b4 S_b4 N_b4 H_b4 G_b4 rfl W15 10 (by decide) (by rw [l14]; decide)⟩
  have K15 : Keep h0 h15 [] := K14.wr W15 (Or.inr sz_b4)
  have N15 := Fr.snoc X15 N14 g_b4
  obtain ⟨cl_b4_76, Ar_b4, q_b4, S_b4, N_b4, H_b4, G_b4⟩ := V_b4_15
  have hin76 : ¬ ((11 : Int32) < 0 ∨ cl_b4_76.slots.size ≤ ((11 : Int32)).toNatClampNeg) := inb_of S_b4 ⟨by decide, by decide⟩
  obtain ⟨T16, h16, X16, e16, W16, st16⟩ := stI X15 hx hZ e15 Ar_b4 (j := (11 : Int32)) hin76 (g := (mkF m 76 #[.val (.int p1), .val (.int p2), .val (.int p3), .unset, .unset, .unset, .unset, .unset] [(.int (880 : Int32)), (.int (11 : Int32)), (.ref b4), (.ref b4)])) rfl rfl (hb hby at_76)
  obtain ⟨vs16, l16, V_b4_16⟩ : ∃ vs : List Value, vs.length = 29 ∧ Arv Z h16 b4 k4 .int (29 : Int32) vs (.int (0 : Int32)) := ⟨_, (List.length_set ..).trans l15, Arv.set Ar_b4 q_b4 S_b4 N_b4 H_b4 G_b4 rfl W16 11 (by decide) (by rw [l15]; decide)⟩
  have K16 : Keep h0 h16 [] := K15.wr W16 (Or.inr sz_b4)
  have N16 := Fr.snoc X16 N15 g_b4
  obtain ⟨cl_b4_83, Ar_b4, q_b4, S_b4, N_b4, H_b4, G_b4⟩ := V_b4_16
  have hin83 : ¬ ((12 : Int32) < 0 ∨ cl_b4_83.slots.size ≤ ((12 : Int32)).toNatClampNeg) := inb_of S_b4 ⟨by decide, by decide⟩
  obtain ⟨T17, h17, X17, e17, W17, st17⟩ := stI X16 hx hZ e16 Ar_b4 (j := (12 : Int32)) hin83 (g := (mkF m 83 #[.val (.int p1), .val (.int p2), .val (.int p3), .unset, .unset, .unset, .unset, .unset] [(.int (893 : Int32)), (.int (12 : Int32)), (.ref b4), (.ref b4)])) rfl rfl (hb hby at_83)
  obtain ⟨vs17, l17, V_b4_17⟩ : ∃ vs : List Value, vs.length = 29 ∧ Arv Z h17 b4 k4 .int (29 : Int32) vs (.int (0 : Int32)) := ⟨_, (List.length_set ..).trans l16, Arv.set Ar_b4 q_b4 S_b4 N_b4 H_b4 G_b4 rfl W17 12 (by decide) (by rw [l16]; decide)⟩
  have K17 : Keep h0 h17 [] := K16.wr W17 (Or.inr sz_b4)
  have N17 := Fr.snoc X17 N16 g_b4
  obtain ⟨cl_b4_90, Ar_b4, q_b4, S_b4, N_b4, H_b4, G_b4⟩ := V_b4_17
  have hin90 : ¬ ((13 : Int32) < 0 ∨ cl_b4_90.slots.size ≤ ((13 : Int32)).toNatClampNeg) := inb_of S_b4 ⟨by decide, by decide⟩
  obtain ⟨T18, h18, X18, e18, W18, st18⟩ := stI X17 hx hZ e17 Ar_b4 (j := (13 : Int32)) hin90 (g := (mkF m 90 #[.val (.int p1), .val (.int p2), .val (.int p3), .unset, .unset, .unset, .unset, .unset] [(.int (895 : Int32)), (.int (13 : Int32)), (.ref b4), (.ref b4)])) rfl rfl (hb hby at_90)
  obtain ⟨vs18, l18, V_b4_18⟩ : ∃ vs : List Value, vs.length = 29 ∧ Arv Z h18 b4 k4 .int (29 : Int32) vs (.int (0 : Int32)) := ⟨_, (List.length_set ..).trans l17, Arv.set Ar_b4 q_b4 S_b4 N_b4 H_b4 G_b4 rfl W18 13 (by decide) (by rw [l17]; decide)⟩
  have K18 : Keep h0 h18 [] := K17.wr W18 (Or.inr sz_b4)
  have N18 := Fr.snoc X18 N17 g_b4
  obtain ⟨cl_b4_97, Ar_b4, q_b4, S_b4, N_b4, H_b4, G_b4⟩ := V_b4_18
  have hin97 : ¬ ((14 : Int32) < 0 ∨ cl_b4_97.slots.size ≤ ((14 : Int32)).toNatClampNeg) := inb_of S_b4 ⟨by decide, by decide⟩
  obtain ⟨T19, h19, X19, e19, W19, st19⟩ := stI X18 hx hZ e18 Ar_b4 (j := (14 : Int32)) hin97 (g := (mkF m 97 #[.val (.int p1), .val (.int p2), .val (.int p3), .unset, .unset, .unset, .unset, .unset] [(.int (8191 : Int32)), (.int (14 : Int32)), (.ref b4), (.ref b4)])) rfl rfl (hb hby at_97)
  obtain ⟨vs19, l19, V_b4_19⟩ : ∃ vs : List Value, vs.length = 29 ∧ Arv Z h19 b4 k4 .int (29 : Int32) vs (.int (0 : Int32)) := ⟨_, (List.length_set ..).trans l18, Arv.set Ar_b4 q_b4 S_b4 N_b4 H_b4 G_b4 rfl W19 14 (by decide) (by rw [l18]; decide)⟩
  have K19 : Keep h0 h19 [] := K18.wr W19 (Or.inr sz_b4)
  have N19 := Fr.snoc X19 N18 g_b4
  obtain ⟨cl_b4_104, Ar_b4, q_b4, S_b4, N_b4, H_b4, G_b4⟩ := V_b4_19
  have hin104 : ¬ ((15 : Int32) < 0 ∨ cl_b4_104.slots.size ≤ ((15 : Int32)).toNatClampNeg) := inb_of S_b4 ⟨by decide, by decide⟩
  obtain ⟨T20, h20, X20, e20, W20, st20⟩ := stI X19 hx hZ e19 Ar_b4 (j := (15 : Int32)) hin104 (g := (mkF m 104 #[.val (.int p1), .val (.int p2), .val (.int p3), .unset, .unset, .unset, .unset, .unset] [(.int (8204 : Int32)), (.int (15 : Int32)), (.ref b4), (.ref b4)])) rfl rfl (hb hby at_104)
  obtain ⟨vs20, l20, V_b4_20⟩ : ∃ vs : List Value, vs.length = 29 ∧ Arv Z h20 b4 k4 .int (29 : Int32) vs (.int (0 : Int32)) := ⟨_, (List.length_set ..).trans l19, Arv.set Ar_b4 q_b4 S_b4 N_b4 H_b4 G_b4 rfl W20 15 (by decide) (by rw [l19]; decide)⟩
  have K20 : Keep h0 h20 [] := K19.wr W20 (Or.inr sz_b4)
  have N20 := Fr.snoc X20 N19 g_b4
  obtain ⟨cl_b4_111, Ar_b4, q_b4, S_b4, N_b4, H_b4, G_b4⟩ := V_b4_20
  have hin111 : ¬ ((16 : Int32) < 0 ∨ cl_b4_111.slots.size ≤ ((16 : Int32)).toNatClampNeg) := inb_of S_b4 ⟨by decide, by decide⟩
  obtain ⟨T21, h21, X21, e21, W21, st21⟩ := stI X20 hx hZ e20 Ar_b4 (j := (16 : Int32)) hin111 (g := (mkF m 111 #[.val (.int p1), .val (.int p2), .val (.int p3), .unset, .unset, .unset, .unset, .unset] [(.int (8205 : Int32)), (.int (16 : Int32)), (.ref b4), (.ref b4)])) rfl rfl (hb hby at_111)
  obtain ⟨vs21, l21, V_b4_21⟩ : ∃ vs : List Value, vs.length = 29 ∧ Arv Z h21 b4 k4 .int (29 : Int32) vs (.int (0 : Int32)) := ⟨_, (List.length_set ..).trans l20, Arv.set Ar_b4 q_b4 S_b4 N_b4 H_b4 G_b4 rfl W21 16 (by decide) (by rw [l20]; decide)⟩
  have K21 : Keep h0 h21 [] := K20.wr W21 (Or.inr sz_b4)
  have N21 := Fr.snoc X21 N20 g_b4
  obtain ⟨cl_b4_118, Ar_b4, q_b4, S_b4, N_b4, H_b4, G_b4⟩ := V_b4_21
  have hin118 : ¬ ((17 : Int32) < 0 ∨ cl_b4_118.slots.size ≤ ((17 : Int32)).toNatClampNeg) := inb_of S_b4 ⟨by decide, by decide⟩
  obtain ⟨T22, h22, X22, e22, W22, st22⟩ := stI X21 hx hZ e21 Ar_b4 (j := (17 : Int32)) hin118 (g := (mkF m 118 #[.val (.int p1), .val (.int p2), .val (.int p3), .unset, .unset, .unset, .unset, .unset] [(.int (8304 : Int32)), (.int (17 : Int32)), (.ref b4), (.ref b4)])) rfl rfl (hb hby at_118)
  obtain ⟨vs22, l22, V_b4_22⟩ : ∃ vs : List Value, vs.length = 29 ∧ Arv Z h22 b4 k4 .int (29 : Int32) vs (.int (0 : Int32)) := ⟨_, (List.length_set ..).trans l21, Arv.set Ar_b4 q_b4 S_b4 N_b4 H_b4 G_b4 rfl W22 17 (by decide) (by rw [l21]; decide)⟩
  have K22 : Keep h0 h22 [] := K21.wr W22 (Or.inr sz_b4)
  have N22 := Fr.snoc X22 N21 g_b4
  obtain ⟨cl_b4_125, Ar_b4, q_b4, S_b4, N_b4, H_b4, G_b4⟩ := V_b4_22
  have hin125 : ¬ ((18 : Int32) < 0 ∨ cl_b4_125.slots.size ≤ ((18 : Int32)).toNatClampNeg) := inb_of S_b4 ⟨by decide, by decide⟩
  obtain ⟨T23, h23, X23, e23, W23, st23⟩ := stI X22 hx hZ e22 Ar_b4 (j := (18 : Int32)) hin125 (g := (mkF m 125 #[.val (.int p1), .val (.int p2), .val (.int p3), .unset, .unset, .unset, .unset, .unset] [(.int (8591 : Int32)), (.int (18 : Int32)), (.ref b4), (.ref b4)])) rfl rfl (hb hby at_125)
  obtain ⟨vs23, l23, V_b4_23⟩ : ∃ vs : List Value, vs.length = 29 ∧ Arv Z h23 b4 k4 .int (29 : Int32) vs (.int (0 : Int32)) := ⟨_, (List.length_set ..).trans l22, Arv.set Ar_b4 q_b4 S_b4 N_b4 H_b4 G_b4 rfl W23 18 (by decide) (by rw [l22]; decide)⟩
  have K23 : Keep h0 h23 [] := K22.wr W23 (Or.inr sz_b4)
  have N23 := Fr.snoc X23 N22 g_b4
  obtain ⟨cl_b4_132, Ar_b4, q_b4, S_b4, N_b4, H_b4, G_b4⟩ := V_b4_23
  have hin132 : ¬ ((19 : Int32) < 0 ∨ cl_b4_132.slots.size ≤ ((19 : Int32)).toNatClampNeg) := inb_of S_b4 ⟨by decide, by decide⟩
  obtain ⟨T24, h24, X24, e24, W24, st24⟩ := stI X23 hx hZ e23 Ar_b4 (j := (19 : Int32)) hin132 (g := (mkF m 132 #[.val (.int p1), .val (.int p2), .val (.int p3), .unset, .unset, .unset, .unset, .unset] [(.int (11264 : Int32)), (.int (19 : Int32)), (.ref b4), (.ref b4)])) rfl rfl (hb hby at_132)
  obtain ⟨vs24, l24, V_b4_24⟩ : ∃ vs : List Value, vs.length = 29 ∧ Arv Z h24 b4 k4 .int (29 : Int32) vs (.int (0 : Int32)) := ⟨_, (List.length_set ..).trans l23, Arv.set Ar_b4 q_b4 S_b4 N_b4 H_b4 G_b4 rfl W24 19 (by decide) (by rw [l23]; decide)⟩
  have K24 : Keep h0 h24 [] := K23.wr W24 (Or.inr sz_b4)
  have N24 := Fr.snoc X24 N23 g_b4
  obtain ⟨cl_b4_139, Ar_b4, q_b4, S_b4, N_b4, H_b4, G_b4⟩ := V_b4_24
  have hin139 : ¬ ((20 : Int32) < 0 ∨ cl_b4_139.slots.size ≤ ((20 : Int32)).toNatClampNeg) := inb_of S_b4 ⟨by decide, by decide⟩
  obtain ⟨T25, h25, X25, e25, W25, st25⟩ := stI X24 hx hZ e24 Ar_b4 (j := (20 : Int32)) hin139 (g := (mkF m 139 #[.val (.int p1), .val (.int p2), .val (.int p3), .unset, .unset, .unset, .unset, .unset] [(.int (12271 : Int32)), (.int (20 : Int32)), (.ref b4), (.ref b4)])) rfl rfl (hb hby at_139)
  obtain ⟨vs25, l25, V_b4_25⟩ : ∃ vs : List Value, vs.length = 29 ∧ Arv Z h25 b4 k4 .int (29 : Int32) vs (.int (0 : Int32)) := ⟨_, (List.length_set ..).trans l24, Arv.set Ar_b4 q_b4 S_b4 N_b4 H_b4 G_b4 rfl W25 20 (by decide) (by rw [l24]; decide)⟩
  have K25 : Keep h0 h25 [] := K24.wr W25 (Or.inr sz_b4)
  have N25 := Fr.snoc X25 N24 g_b4
  obtain ⟨cl_b4_146, Ar_b4, q_b4, S_b4, N_b4, H_b4, G_b4⟩ := V_b4_25
  have hin146 : ¬ ((21 : Int32) < 0 ∨ cl_b4_146.slots.size ≤ ((21 : Int32)).toNatClampNeg) := inb_of S_b4 ⟨by decide, by decide⟩
  obtain ⟨T26, h26, X26, e26, W26, st26⟩ := stI X25 hx hZ e25 Ar_b4 (j := (21 : Int32)) hin146 (g := (mkF m 146 #[.val (.int p1), .val (.int p2), .val (.int p3), .unset, .unset, .unset, .unset, .unset] [(.int (12289 : Int32)), (.int (21 : Int32)), (.ref b4), (.ref b4)])) rfl rfl (hb hby at_146)
  obtain ⟨vs26, l26, V_b4_26⟩ : ∃ vs : List Value, vs.length = 29 ∧ Arv Z h26 b4 k4 .int (29 : Int32) vs (.int (0 : Int32)) := ⟨_, (List.length_set ..).trans l25, Arv.set Ar_b4 q_b4 S_b4 N_b4 H_b4 G_b4 rfl W26 21 (by decide) (by rw [l25]; decide)⟩
  have K26 : Keep h0 h26 [] := K25.wr W26 (Or.inr sz_b4)
  have N26 := Fr.snoc X26 N25 g_b4
  obtain ⟨cl_b4_152, Ar_b4, q_b4, S_b4, N_b4, H_b4, G_b4⟩ := V_b4_26
  have hin152 : ¬ ((22 : Int32) < 0 ∨ cl_b4_152.slots.size ≤ ((22 : Int32)).toNatClampNeg) := inb_of S_b4 ⟨by decide, by decide⟩
  obtain ⟨T27, h27, X27, e27, W27, st27⟩ := stI X26 hx hZ e26 Ar_b4 (j := (22 : Int32)) hin152 (g := (mkF m 152 #[.val (.int p1), .val (.int p2), .val (.int p3), .unset, .unset, .unset, .unset, .unset] [(.int (55295 : Int32)), (.int (22 : Int32)), (.ref b4), (.ref b4)])) rfl rfl (hb hby at_152)
  obtain ⟨vs27, l27, V_b4_27⟩ : ∃ vs : List Value, vs.length = 29 ∧ Arv Z h27 b4 k4 .int (29 : Int32) vs (.int (0 : Int32)) := ⟨_, (List.length_set ..).trans l26, Arv.set Ar_b4 q_b4 S_b4 N_b4 H_b4 G_b4 rfl W27 22 (by decide) (by rw [l26]; decide)⟩
  have K27 : Keep h0 h27 [] := K26.wr W27 (Or.inr sz_b4)
  have N27 := Fr.snoc X27 N26 g_b4
  obtain ⟨cl_b4_158, Ar_b4, q_b4, S_b4, N_b4, H_b4, G_b4⟩ := V_b4_27
  have hin158 : ¬ ((23 : Int32) < 0 ∨ cl_b4_158.slots.size ≤ ((23 : Int32)).toNatClampNeg) := inb_of S_b4 ⟨by decide, by decide⟩
  obtain ⟨T28, h28, X28, e28, W28, st28⟩ := stI X27 hx hZ e27 Ar_b4 (j := (23 : Int32)) hin158 (g := (mkF m 158 #[.val (.int p1), .val (.int p2), .val (.int p3), .unset, .unset, .unset, .unset, .unset] [(.int (63744 : Int32)), (.int (23 : Int32)), (.ref b4), (.ref b4)])) rfl rfl (hb hby at_158)
  obtain ⟨vs28, l28, V_b4_28⟩ : ∃ vs : List Value, vs.length = 29 ∧ Arv Z h28 b4 k4 .int (29 : Int32) vs (.int (0 : Int32)) := ⟨_, (List.length_set ..).trans l27, Arv.set Ar_b4 q_b4 S_b4 N_b4 H_b4 G_b4 rfl W28 23 (by decide) (by rw [l27]; decide)⟩
  have K28 : Keep h0 h28 [] := K27.wr W28 (Or.inr sz_b4)
  have N28 := Fr.snoc X28 N27 g_b4
  obtain ⟨cl_b4_164, Ar_b4, q_b4, S_b4, N_b4, H_b4, G_b4⟩ := V_b4_28
  have hin164 : ¬ ((24 : Int32) < 0 ∨ cl_b4_164.slots.size ≤ ((24 : Int32)).toNatClampNeg) := inb_of S_b4 ⟨by decide, by decide⟩
  obtain ⟨T29, h29, X29, e29, W29, st29⟩ := stI X28 hx hZ e28 Ar_b4 (j := (24 : Int32)) hin164 (g := (mkF m 164 #[.val (.int p1), .val (.int p2), .val (.int p3), .unset, .unset, .unset, .unset, .unset] [(.int (64975 : Int32)), (.int (24 : Int32)), (.ref b4), (.ref b4)])) rfl rfl (hb hby at_164)
  obtain ⟨vs29, l29, V_b4_29⟩ : ∃ vs : List Value, vs.length = 29 ∧ Arv Z h29 b4 k4 .int (29 : Int32) vs (.int (0 : Int32)) := ⟨_, (List.length_set ..).trans l28, Arv.set Ar_b4 q_b4 S_b4 N_b4 H_b4 G_b4 rfl W29 24 (by decide) (by rw [l28]; decide)⟩
  have K29 : Keep h0 h29 [] := K28.wr W29 (Or.inr sz_b4)
  have N29 := Fr.snoc X29 N28 g_b4
  obtain ⟨cl_b4_170, Ar_b4, q_b4, S_b4, N_b4, H_b4, G_b4⟩ := V_b4_29
  have hin170 : ¬ ((25 : Int32) < 0 ∨ cl_b4_170.slots.size ≤ ((25 : Int32)).toNatClampNeg) := inb_of S_b4 ⟨by decide, by decide⟩
  obtain ⟨T30, h30, X30, e30, W30, st30⟩ := stI X29 hx hZ e29 Ar_b4 (j := (25 : Int32)) hin170 (g := (mkF m 170 #[.val (.int p1), .val (.int p2), .val (.int p3), .unset, .unset, .unset, .unset, .unset] [(.int (65008 : Int32)), (.int (25 : Int32)), (.ref b4), (.ref b4)])) rfl rfl (hb hby at_170)
  obtain ⟨vs30, l30, V_b4_30⟩ : ∃ vs : List Value, vs.length = 29 ∧ Arv Z h30 b4 k4 .int (29 : Int32) vs (.int (0 : Int32)) := ⟨_, (List.length_set ..).trans l29, Arv.set Ar_b4 q_b4 S_b4 N_b4 H_b4 G_b4 rfl W30 25 (by decide) (by rw [l29]; decide)⟩
  have K30 : Keep h0 h30 [] := K29.wr W30 (Or.inr sz_b4)
  have N30 := Fr.snoc X30 N29 g_b4
  obtain ⟨cl_b4_176, Ar_b4, q_b4, S_b4, N_b4, H_b4, G_b4⟩ := V_b4_30
  have hin176 : ¬ ((26 : Int32) < 0 ∨ cl_b4_176.slots.size ≤ ((26 : Int32)).toNatClampNeg) := inb_of S_b4 ⟨by decide, by decide⟩
  obtain ⟨T31, h31, X31, e31, W31, st31⟩ := stI X30 hx hZ e30 Ar_b4 (j := (26 : Int32)) hin176 (g := (mkF m 176 #[.val (.int p1), .val (.int p2), .val (.int p3), .unset, .unset, .unset, .unset, .unset] [(.int (65533 : Int32)), (.int (26 : Int32)), (.ref b4), (.ref b4)])) rfl rfl (hb hby at_176)
  obtain ⟨vs31, l31, V_b4_31⟩ : ∃ vs : List Value, vs.length = 29 ∧ Arv Z h31 b4 k4 .int (29 : Int32) vs (.int (0 : Int32)) := ⟨_, (List.length_set ..).trans l30, Arv.set Ar_b4 q_b4 S_b4 N_b4 H_b4 G_b4 rfl W31 26 (by decide) (by rw [l30]; decide)⟩
  have K31 : Keep h0 h31 [] := K30.wr W31 (Or.inr sz_b4)
  have N31 := Fr.snoc X31 N30 g_b4
  obtain ⟨cl_b4_182, Ar_b4, q_b4, S_b4, N_b4, H_b4, G_b4⟩ := V_b4_31
  have hin182 : ¬ ((27 : Int32) < 0 ∨ cl_b4_182.slots.size ≤ ((27 : Int32)).toNatClampNeg) := inb_of S_b4 ⟨by decide, by decide⟩
  obtain ⟨T32, h32, X32, e32, W32, st32⟩ := stI X31 hx hZ e31 Ar_b4 (j := (27 : Int32)) hin182 (g := (mkF m 182 #[.val (.int p1), .val (.int p2), .val (.int p3), .unset, .unset, .unset, .unset, .unset] [(.int (65536 : Int32)), (.int (27 : Int32)), (.ref b4), (.ref b4)])) rfl rfl (hb hby at_182)
  obtain ⟨vs32, l32, V_b4_32⟩ : ∃ vs : List Value, vs.length = 29 ∧ Arv Z h32 b4 k4 .int (29 : Int32) vs (.int (0 : Int32)) := ⟨_, (List.length_set ..).trans l31, Arv.set Ar_b4 q_b4 S_b4 N_b4 H_b4 G_b4 rfl W32 27 (by decide) (by rw [l31]; decide)⟩
  have K32 : Keep h0 h32 [] := K31.wr W32 (Or.inr sz_b4)
  have N32 := Fr.snoc X32 N31 g_b4
  obtain ⟨cl_b4_188, Ar_b4, q_b4, S_b4, N_b4, H_b4, G_b4⟩ := V_b4_32
  have hin188 : ¬ ((28 : Int32) < 0 ∨ cl_b4_188.slots.size ≤ ((28 : Int32)).toNatClampNeg) := inb_of S_b4 ⟨by decide, by decide⟩
  obtain ⟨T33, h33, X33, e33, W33, st33⟩ := stI X32 hx hZ e32 Ar_b4 (j := (28 : Int32)) hin188 (g := (mkF m 188 #[.val (.int p1), .val (.int p2), .val (.int p3), .unset, .unset, .unset, .unset, .unset] [(.int (983039 : Int32)), (.int (28 : Int32)), (.ref b4), (.ref b4)])) rfl rfl (hb hby at_188)
  obtain ⟨vs33, l33, V_b4_33⟩ : ∃ vs : List Value, vs.length = 29 ∧ Arv Z h33 b4 k4 .int (29 : Int32) vs (.int (0 : Int32)) := ⟨_, (List.length_set ..).trans l32, Arv.set Ar_b4 q_b4 S_b4 N_b4 H_b4 G_b4 rfl W33 28 (by decide) (by rw [l32]; decide)⟩
  have K33 : Keep h0 h33 [] := K32.wr W33 (Or.inr sz_b4)
  have N33 := Fr.snoc X33 N32 g_b4
  obtain ⟨cl_b4_195, Ar_b4, -, S_b4, N_b4, H_b4, G_b4⟩ := V_b4_33
  have hin202 : ¬ ((remI (p2 &&& (2147483647 : Int32)) (29 : Int32)) < 0 ∨ cl_b4_195.slots.size ≤ ((remI (p2 &&& (2147483647 : Int32)) (29 : Int32))).toNatClampNeg) := inb_of S_b4 (own_idx p2)
  obtain ⟨w34, hat202⟩ := own_slot H_b4 G_b4 ((remI (p2 &&& (2147483647 : Int32)) (29 : Int32))).toNatClampNeg (Nat.lt_of_not_le fun z => hin202 (Or.inr z))
  have Z33 : n0 ≤ h33.size := Nat.le_trans Z0 K33.1
  obtain ⟨LL33, X33, N33⟩ := own_pack X33 N33
  obtain ⟨_, _, ⟨T35, L35, k35, n35⟩, -, X35, ⟨Lc35, hQ35, l35, y35, z35⟩, st35⟩ := Jvm.LawKit.callS X33 hx (y := (⟨"com/example/narrow_tree/narrowtree/document/XmlSyntax", "isNcNameStartCharacter", "(I)Z"⟩ : MethodName)) hown (mvT hZ (hw _ (List.mem_of_getElem? (i := 9) rfl))) (mvT hZ (hw _ (List.mem_of_getElem? (i := 10) rfl))) (mvT hZ (hw _ (List.mem_of_getElem? (i := 11) rfl))) (mvT hZ (hw _ (List.mem_of_getElem? (i := 12) rfl))) (by decide) (backOf (W := 0) (rm1 l Z a0 hw [] p1 h33 n0 Z33) hZ (hw _ (List.mem_of_getElem? (i := 12) rfl)) (hw _ (List.mem_of_getElem? (i := 11) rfl)) (by decide) (by decide)) (g := (mkF m 215 #[.val (.int p1), .val (.int p2), .val (.int p3), .val (.ref b4), .val (.int (remI (p2 &&& (2147483647 : Int32)) (29 : Int32))), .val (.int ((w34 + (remI (p3 &&& (2147483647 : Int32)) (3 : Int32))) - (1 : Int32))), .unset, .unset] [(.int p1)])) rfl (by rw [hml]; rfl) (argsL := [(.int p1)]) (rest := []) (lenOf pd_0_0 rfl) rfl (by show 2 * 0 + _ ≤ _; exact Nat.le_of_eq rfl) (hb hby at_215) (fun _ _ => ⟨rfl, e33, (by decide : 1 + 0 ≤ _), (by decide : 29 + 0 ≤ _)⟩)
  dsimp only [Pt.U, Pt.locs, Pt.cells, Pt.slots] at X35 l35 y35 z35 st35 hQ35
  subst l35 y35 z35
  obtain ⟨rfl, N35q, eq35⟩ := hQ35
  have N35 := Fr.app N33 N35q
  obtain ⟨_, _, ⟨T36, L36, k36, n36⟩, -, X36, ⟨Lc36, hQ36, l36, y36, z36⟩, st36⟩ := Jvm.LawKit.callS X35 hx (y := (⟨"com/example/narrow_tree/narrowtree/document/XmlSyntaxIsNcNameStartCharacterPinLaw", "ref", "(I)Z"⟩ : MethodName)) hown (mvT hZ (hw _ (List.mem_of_getElem? (i := 16) rfl))) (mvT hZ (hw _ (List.mem_of_getElem? (i := 17) rfl))) (mvT hZ (hw _ (List.mem_of_getElem? (i := 18) rfl))) (mvT hZ (hw _ (List.mem_of_getElem? (i := 19) rfl))) (by decide) (backOf (W := 1) (rm2 l Z a0 hw [] p1 T35.heap n0 (by rw [eq35]; exact Z33)) hZ (hw _ (List.mem_of_getElem? (i := 19) rfl)) (hw _ (List.mem_of_getElem? (i := 18) rfl)) (by decide) (by decide)) (g := (mkF m 219 #[.val (.int p1), .val (.int p2), .val (.int p3), .val (.ref b4), .val (.int (remI (p2 &&& (2147483647 : Int32)) (29 : Int32))), .val (.int ((w34 + (remI (p3 &&& (2147483647 : Int32)) (3 : Int32))) - (1 : Int32))), .unset, .unset] [(.int p1), (.int (ncF p1))])) rfl (by rw [hml]; rfl) (argsL := [(.int p1)]) (rest := [(.int (ncF p1))]) (lenOf pd_0_0 rfl) rfl (by show 2 * 0 + _ ≤ _; exact Nat.le_of_eq rfl) (hb hby at_219) (fun _ _ => ⟨rfl, rfl, (by decide : 1 + 0 ≤ _), (by decide : 29 + 0 ≤ _)⟩)
  dsimp only [Pt.U, Pt.locs, Pt.cells, Pt.slots] at X36 l36 y36 z36 st36 hQ36
  subst l36 y36 z36
  obtain ⟨rfl, N36q, eq36⟩ := hQ36
  have N36 := Fr.app N35 N36q
  obtain ⟨_, _, ⟨T37, L37, k37, n37⟩, -, X37, ⟨Lc37, hQ37, l37, y37, z37⟩, st37⟩ := Jvm.LawKit.callS X36 hx (y := (⟨"com/example/narrow_tree/narrowtree/document/XmlSyntax", "isNcNameStartCharacter", "(I)Z"⟩ : MethodName)) hown (mvT hZ (hw _ (List.mem_of_getElem? (i := 9) rfl))) (mvT hZ (hw _ (List.mem_of_getElem? (i := 10) rfl))) (mvT hZ (hw _ (List.mem_of_getElem? (i := 11) rfl))) (mvT hZ (hw _ (List.mem_of_getElem? (i := 12) rfl))) (by decide) (backOf (W := 0) (rm1 l Z a0 hw [] ((w34 + (remI (p3 &&& (2147483647 : Int32)) (3 : Int32))) - (1 : Int32)) T36.heap n0 (by rw [eq36, eq35]; exact Z33)) hZ (hw _ (List.mem_of_getElem? (i := 12) rfl)) (hw _ (List.mem_of_getElem? (i := 11) rfl)) (by decide) (by decide)) (g := (mkF m 234 #[.val (.int p1), .val (.int p2), .val (.int p3), .val (.ref b4), .val (.int (remI (p2 &&& (2147483647 : Int32)) (29 : Int32))), .val (.int ((w34 + (remI (p3 &&& (2147483647 : Int32)) (3 : Int32))) - (1 : Int32))), .val (.int (1 : Int32)), .unset] [(.int ((w34 + (remI (p3 &&& (2147483647 : Int32)) (3 : Int32))) - (1 : Int32)))])) rfl (by rw [hml]; rfl) (argsL := [(.int ((w34 + (remI (p3 &&& (2147483647 : Int32)) (3 : Int32))) - (1 : Int32)))]) (rest := []) (lenOf pd_0_0 rfl) rfl (by show 2 * 0 + _ ≤ _; exact Nat.le_of_eq rfl) (hb hby at_234) (fun _ _ => ⟨rfl, rfl, (by decide : 1 + 0 ≤ _), (by decide : 29 + 0 ≤ _)⟩)
  dsimp only [Pt.U, Pt.locs, Pt.cells, Pt.slots] at X37 l37 y37 z37 st37 hQ37
  subst l37 y37 z37
  obtain ⟨rfl, N37q, eq37⟩ := hQ37
  have N37 := Fr.app N36 N37q
  obtain ⟨_, _, ⟨T38, L38, k38, n38⟩, -, X38, ⟨Lc38, hQ38, l38, y38, z38⟩, st38⟩ := Jvm.LawKit.callS X37 hx (y := (⟨"com/example/narrow_tree/narrowtree/document/XmlSyntaxIsNcNameStartCharacterPinLaw", "ref", "(I)Z"⟩ : MethodName)) hown (mvT hZ (hw _ (List.mem_of_getElem? (i := 16) rfl))) (mvT hZ (hw _ (List.mem_of_getElem? (i := 17) rfl))) (mvT hZ (hw _ (List.mem_of_getElem? (i := 18) rfl))) (mvT hZ (hw _ (List.mem_of_getElem? (i := 19) rfl))) (by decide) (backOf (W := 1) (rm2 l Z a0 hw [] ((w34 + (remI (p3 &&& (2147483647 : Int32)) (3 : Int32))) - (1 : Int32)) T37.heap n0 (by rw [eq37, eq36, eq35]; exact Z33)) hZ (hw _ (List.mem_of_getElem? (i := 19) rfl)) (hw _ (List.mem_of_getElem? (i := 18) rfl)) (by decide) (by decide)) (g := (mkF m 239 #[.val (.int p1), .val (.int p2), .val (.int p3), .val (.ref b4), .val (.int (remI (p2 &&& (2147483647 : Int32)) (29 : Int32))), .val (.int ((w34 + (remI (p3 &&& (2147483647 : Int32)) (3 : Int32))) - (1 : Int32))), .val (.int (1 : Int32)), .unset] [(.int ((w34 + (remI (p3 &&& (2147483647 : Int32)) (3 : Int32))) - (1 : Int32))), (.int (ncF ((w34 + (remI (p3 &&& (2147483647 : Int32)) (3 : Int32))) - (1 : Int32))))])) rfl (by rw [hml]; rfl) (argsL := [(.int ((w34 + (remI (p3 &&& (2147483647 : Int32)) (3 : Int32))) - (1 : Int32)))]) (rest := [(.int (ncF ((w34 + (remI (p3 &&& (2147483647 : Int32)) (3 : Int32))) - (1 : Int32))))]) (lenOf pd_0_0 rfl) rfl (by show 2 * 0 + _ ≤ _; exact Nat.le_of_eq rfl) (hb hby at_239) (fun _ _ => ⟨rfl, rfl, (by decide : 1 + 0 ≤ _), (by decide : 29 + 0 ≤ _)⟩)
  dsimp only [Pt.U, Pt.locs, Pt.cells, Pt.slots] at X38 l38 y38 z38 st38 hQ38
  subst l38 y38 z38
  obtain ⟨rfl, N38q, eq38⟩ := hQ38
  have N38 := Fr.app N37 N38q
  obtain ⟨fs, hr, hrun, hended, hW, hsame⟩ := X38.leave (v := some (.int (1 : Int32))) (fun h => by rw [Bd.returns] at h; cases h)
  refine ⟨_, _, pre0 _ ?_, hrun, hended, _, _, rfl, ?_, ⟨_, rfl⟩, hW, hsame.mono (by decide) (by decide)⟩
  · show Steps p.tables e below (s₁.setTop (mkF m 0 #[.val (.int p1), .val (.int p2), .val (.int p3), .unset, .unset, .unset, .unset, .unset] [])) _
    refine XS.bipush X0.here hx rfl (hb hby at_0) ?_
    show Steps p.tables e below (s₁.setTop (mkF m 2 #[.val (.int p1), .val (.int p2), .val (.int p3), .unset, .unset, .unset, .unset, .unset] [(.int (29 : Int32))])) _
    refine st4 _ ?_
    show Steps p.tables e below (T4.setTop (mkF m 4 #[.val (.int p1), .val (.int p2), .val (.int p3), .unset, .unset, .unset, .unset, .unset] [(.ref b4)])) _
    refine XS.dup X4.here hx rfl (hb hby at_4) rfl rfl ?_
    show Steps p.tables e below (T4.setTop (mkF m 5 #[.val (.int p1), .val (.int p2), .val (.int p3), .unset, .unset, .unset, .unset, .unset] [(.ref b4), (.ref b4)])) _
    refine XS.iconst X4.here hx rfl (hb hby at_5) ?_
    show Steps p.tables e below (T4.setTop (mkF m 6 #[.val (.int p1), .val (.int p2), .val (.int p3), .unset, .unset, .unset, .unset, .unset] [(.int (0 : Int32)), (.ref b4), (.ref b4)])) _
    refine XS.bipush X4.here hx rfl (hb hby at_6) ?_
    show Steps p.tables e below (T4.setTop (mkF m 8 #[.val (.int p1), .val (.int p2), .val (.int p3), .unset, .unset, .unset, .unset, .unset] [(.int (65 : Int32)), (.int (0 : Int32)), (.ref b4), (.ref b4)])) _
    refine st5 _ ?_
    show Steps p.tables e below (T5.setTop (mkF m 9 #[.val (.int p1), .val (.int p2), .val (.int p3), .unset, .unset, .unset, .unset, .unset] [(.ref b4)])) _
    refine XS.dup X5.here hx rfl (hb hby at_9) rfl rfl ?_
    show Steps p.tables e below (T5.setTop (mkF m 10 #[.val (.int p1), .val (.int p2), .val (.int p3), .unset, .unset, .unset, .unset, .unset] [(.ref b4), (.ref b4)])) _
    refine XS.iconst X5.here hx rfl (hb hby at_10) ?_
    show Steps p.tables e below (T5.setTop (mkF m 11 #[.val (.int p1), .val (.int p2), .val (.int p3), .unset, .unset, .unset, .unset, .unset] [(.int (1 : Int32)), (.ref b4), (.ref b4)])) _
    refine XS.bipush X5.here hx rfl (hb hby at_11) ?_
    show Steps p.tables e below (T5.setTop (mkF m 13 #[.val (.int p1), .val (.int p2), .val (.int p3), .unset, .unset, .unset, .unset, .unset] [(.int (90 : Int32)), (.int (1 : Int32)), (.ref b4), (.ref b4)])) _
    refine st6 _ ?_
    show Steps p.tables e below (T6.setTop (mkF m 14 #[.val (.int p1), .val (.int p2), .val (.int p3), .unset, .unset, .unset, .unset, .unset] [(.ref b4)])) _
    refine XS.dup X6.here hx rfl (hb hby at_14) rfl rfl ?_
    show Steps p.tables e below (T6.setTop (mkF m 15 #[.val (.int p1), .val (.int p2), .val (.int p3), .unset, .unset, .unset, .unset, .unset] [(.ref b4), (.ref b4)])) _
    refine XS.iconst X6.here hx rfl (hb hby at_15) ?_
    show Steps p.tables e below (T6.setTop (mkF m 16 #[.val (.int p1), .val (.int p2), .val (.int p3), .unset, .unset, .unset, .unset, .unset] [(.int (2 : Int32)), (.ref b4), (.ref b4)])) _
    refine XS.bipush X6.here hx rfl (hb hby at_16) ?_
    show Steps p.tables e below (T6.setTop (mkF m 18 #[.val (.int p1), .val (.int p2), .val (.int p3), .unset, .unset, .unset, .unset, .unset] [(.int (95 : Int32)), (.int (2 : Int32)), (.ref b4), (.ref b4)])) _
    refine st7 _ ?_
    show Steps p.tables e below (T7.setTop (mkF m 19 #[.val (.int p1), .val (.int p2), .val (.int p3), .unset, .unset, .unset, .unset, .unset] [(.ref b4)])) _
    refine XS.dup X7.here hx rfl (hb hby at_19) rfl rfl ?_
    show Steps p.tables e below (T7.setTop (mkF m 20 #[.val (.int p1), .val (.int p2), .val (.int p3), .unset, .unset, .unset, .unset, .unset] [(.ref b4), (.ref b4)])) _
    refine XS.iconst X7.here hx rfl (hb hby at_20) ?_
    show Steps p.tables e below (T7.setTop (mkF m 21 #[.val (.int p1), .val (.int p2), .val (.int p3), .unset, .unset, .unset, .unset, .unset] [(.int (3 : Int32)), (.ref b4), (.ref b4)])) _
    refine XS.bipush X7.here hx rfl (hb hby at_21) ?_
    show Steps p.tables e below (T7.setTop (mkF m 23 #[.val (.int p1), .val (.int p2), .val (.int p3), .unset, .unset, .unset, .unset, .unset] [(.int (97 : Int32)), (.int (3 : Int32)), (.ref b4), (.ref b4)])) _
    refine st8 _ ?_
    show Steps p.tables e below (T8.setTop (mkF m 24 #[.val (.int p1), .val (.int p2), .val (.int p3), .unset, .unset, .unset, .unset, .unset] [(.ref b4)])) _
    refine XS.dup X8.here hx rfl (hb hby at_24) rfl rfl ?_
    show Steps p.tables e below (T8.setTop (mkF m 25 #[.val (.int p1), .val (.int p2), .val (.int p3), .unset, .unset, .unset, .unset, .unset] [(.ref b4), (.ref b4)])) _
    refine XS.iconst X8.here hx rfl (hb hby at_25) ?_
    show Steps p.tables e below (T8.setTop (mkF m 26 #[.val (.int p1), .val (.int p2), .val (.int p3), .unset, .unset, .unset, .unset, .unset] [(.int (4 : Int32)), (.ref b4), (.ref b4)])) _
    refine XS.bipush X8.here hx rfl (hb hby at_26) ?_
    show Steps p.tables e below (T8.setTop (mkF m 28 #[.val (.int p1), .val (.int p2), .val (.int p3), .unset, .unset, .unset, .unset, .unset] [(.int (122 : Int32)), (.int (4 : Int32)), (.ref b4), (.ref b4)])) _
    refine st9 _ ?_
    show Steps p.tables e below (T9.setTop (mkF m 29 #[.val (.int p1), .val (.int p2), .val (.int p3), .unset, .unset, .unset, .unset, .unset] [(.ref b4)])) _
    refine XS.dup X9.here hx rfl (hb hby at_29) rfl rfl ?_
    show Steps p.tables e below (T9.setTop (mkF m 30 #[.val (.int p1), .val (.int p2), .val (.int p3), .unset, .unset, .unset, .unset, .unset] [(.ref b4), (.ref b4)])) _
    refine XS.iconst X9.here hx rfl (hb hby at_30) ?_
    show Steps p.tables e below (T9.setTop (mkF m 31 #[.val (.int p1), .val (.int p2), .val (.int p3), .unset, .unset, .unset, .unset, .unset] [(.int (5 : Int32)), (.ref b4), (.ref b4)])) _
    refine XS.sipush X9.here hx rfl (hb hby at_31) ?_
    show Steps p.tables e below (T9.setTop (mkF m 34 #[.val (.int p1), .val (.int p2), .val (.int p3), .unset, .unset, .unset, .unset, .unset] [(.int (192 : Int32)), (.int (5 : Int32)), (.ref b4), (.ref b4)])) _
    refine st10 _ ?_
    show Steps p.tables e below (T10.setTop (mkF m 35 #[.val (.int p1), .val (.int p2), .val (.int p3), .unset, .unset, .unset, .unset, .unset] [(.ref b4)])) _
    refine XS.dup X10.here hx rfl (hb hby at_35) rfl rfl ?_
    show Steps p.tables e below (T10.setTop (mkF m 36 #[.val (.int p1), .val (.int p2), .val (.int p3), .unset, .unset, .unset, .unset, .unset] [(.ref b4), (.ref b4)])) _
    refine XS.bipush X10.here hx rfl (hb hby at_36) ?_
    show Steps p.tables e below (T10.setTop (mkF m 38 #[.val (.int p1), .val (.int p2), .val (.int p3), .unset, .unset, .unset, .unset, .unset] [(.int (6 : Int32)), (.ref b4), (.ref b4)])) _
    refine XS.sipush X10.here hx rfl (hb hby at_38) ?_
    show Steps p.tables e below (T10.setTop (mkF m 41 #[.val (.int p1), .val (.int p2), .val (.int p3), .unset, .unset, .unset, .unset, .unset] [(.int (214 : Int32)), (.int (6 : Int32)), (.ref b4), (.ref b4)])) _
    refine st11 _ ?_
    show Steps p.tables e below (T11.setTop (mkF m 42 #[.val (.int p1), .val (.int p2), .val (.int p3), .unset, .unset, .unset, .unset, .unset] [(.ref b4)])) _
    refine XS.dup X11.here hx rfl (hb hby at_42) rfl rfl ?_
    show Steps p.tables e below (T11.setTop (mkF m 43 #[.val (.int p1), .val (.int p2), .val (.int p3), .unset, .unset, .unset, .unset, .unset] [(.ref b4), (.ref b4)])) _
    refine XS.bipush X11.here hx rfl (hb hby at_43) ?_
    show Steps p.tables e below (T11.setTop (mkF m 45 #[.val (.int p1), .val (.int p2), .val (.int p3), .unset, .unset, .unset, .unset, .unset] [(.int (7 : Int32)), (.ref b4), (.ref b4)])) _
    refine XS.sipush X11.here hx rfl (hb hby at_45) ?_
    show Steps p.tables e below (T11.setTop (mkF m 48 #[.val (.int p1), .val (.int p2), .val (.int p3), .unset, .unset, .unset, .unset, .unset] [(.int (216 : Int32)), (.int (7 : Int32)), (.ref b4), (.ref b4)])) _
    refine st12 _ ?_
    show Steps p.tables e below (T12.setTop (mkF m 49 #[.val (.int p1), .val (.int p2), .val (.int p3), .unset, .unset, .unset, .unset, .unset] [(.ref b4)])) _
    refine XS.dup X12.here hx rfl (hb hby at_49) rfl rfl ?_
    show Steps p.tables e below (T12.setTop (mkF m 50 #[.val (.int p1), .val (.int p2), .val (.int p3), .unset, .unset, .unset, .unset, .unset] [(.ref b4), (.ref b4)])) _
    refine XS.bipush X12.here hx rfl (hb hby at_50) ?_
    show Steps p.tables e below (T12.setTop (mkF m 52 #[.val (.int p1), .val (.int p2), .val (.int p3), .unset, .unset, .unset, .unset, .unset] [(.int (8 : Int32)), (.ref b4), (.ref b4)])) _
    refine XS.sipush X12.here hx rfl (hb hby at_52) ?_
    show Steps p.tables e below (T12.setTop (mkF m 55 #[.val (.int p1), .val (.int p2), .val (.int p3), .unset, .unset, .unset, .unset, .unset] [(.int (246 : Int32)), (.int (8 : Int32)), (.ref b4), (.ref b4)])) _
    refine st13 _ ?_
    show Steps p.tables e below (T13.setTop (mkF m 56 #[.val (.int p1), .val (.int p2), .val (.int p3), .unset, .unset, .unset, .unset, .unset] [(.ref b4)])) _
    refine XS.dup X13.here hx rfl (hb hby at_56) rfl rfl ?_
    show Steps p.tables e below (T13.setTop (mkF m 57 #[.val (.int p1), .val (.int p2), .val (.int p3), .unset, .unset, .unset, .unset, .unset] [(.ref b4), (.ref b4)])) _
    refine XS.bipush X13.here hx rfl (hb hby at_57) ?_
    show Steps p.tables e below (T13.setTop (mkF m 59 #[.val (.int p1), .val (.int p2), .val (.int p3), .unset, .unset, .unset, .unset, .unset] [(.int (9 : Int32)), (.ref b4), (.ref b4)])) _
    refine XS.sipush X13.here hx rfl (hb hby at_59) ?_
    show Steps p.tables e below (T13.setTop (mkF m 62 #[.val (.int p1), .val (.int p2), .val (.int p3), .unset, .unset, .unset, .unset, .unset] [(.int (248 : Int32)), (.int (9 : Int32)), (.ref b4), (.ref b4)])) _
    refine st14 _ ?_
    show Steps p.tables e below (T14.setTop (mkF m 63 #[.val (.int p1), .val (.int p2), .val (.int p3), .unset, .unset, .unset, .unset, .unset] [(.ref b4)])) _
    refine XS.dup X14.here hx rfl (hb hby at_63) rfl rfl ?_
    show Steps p.tables e below (T14.setTop (mkF m 64 #[.val (.int p1), .val (.int p2), .val (.int p3), .unset, .unset, .unset, .unset, .unset] [(.ref b4), (.ref b4)])) _
    refine XS.bipush X14.here hx rfl (hb hby at_64) ?_
    show Steps p.tables e below (T14.setTop (mkF m 66 #[.val (.int p1), .val (.int p2), .val (.int p3), .unset, .unset, .unset, .unset, .unset] [(.int (10 : Int32)), (.ref b4), (.ref b4)])) _
    refine XS.sipush X14.here hx rfl (hb hby at_66) ?_
    show Steps p.tables e below (T14.setTop (mkF m 69 #[.val (.int p1), .val (.int p2), .val (.int p3), .unset, .unset, .unset, .unset, .unset] [(.int (767 : Int32)), (.int (10 : Int32)), (.ref b4), (.ref b4)])) _
    refine st15 _ ?_
    show Steps p.tables e below (T15.setTop (mkF m 70 #[.val (.int p1), .val (.int p2), .val (.int p3), .unset, .unset, .unset, .unset, .unset] [(.ref b4)])) _
    refine XS.dup X15.here hx rfl (hb hby at_70) rfl rfl ?_
    show Steps p.tables e below (T15.setTop (mkF m 71 #[.val (.int p1), .val (.int p2), .val (.int p3), .unset, .unset, .unset, .unset, .unset] [(.ref b4), (.ref b4)])) _
    refine XS.bipush X15.here hx rfl (hb hby at_71) ?_
    show Steps p.tables e below (T15.setTop (mkF m 73 #[.val (.int p1), .val (.int p2), .val (.int p3), .unset, .unset, .unset, .unset, .unset] [(.int (11 : Int32)), (.ref b4), (.ref b4)])) _
    refine XS.sipush X15.here hx rfl (hb hby at_73) ?_
    show Steps p.tables e below (T15.setTop (mkF m 76 #[.val (.int p1), .val (.int p2), .val (.int p3), .unset, .unset, .unset, .unset, .unset] [(.int (880 : Int32)), (.int (11 : Int32)), (.ref b4), (.ref b4)])) _
    refine st16 _ ?_
    show Steps p.tables e below (T16.setTop (mkF m 77 #[.val (.int p1), .val (.int p2), .val (.int p3), .unset, .unset, .unset, .unset, .unset] [(.ref b4)])) _
    refine XS.dup X16.here hx rfl (hb hby at_77) rfl rfl ?_
    show Steps p.tables e below (T16.setTop (mkF m 78 #[.val (.int p1), .val (.int p2), .val (.int p3), .unset, .unset, .unset, .unset, .unset] [(.ref b4), (.ref b4)])) _
    refine XS.bipush X16.here hx rfl (hb hby at_78) ?_
    show Steps p.tables e below (T16.setTop (mkF m 80 #[.val (.int p1), .val (.int p2), .val (.int p3), .unset, .unset, .unset, .unset, .unset] [(.int (12 : Int32)), (.ref b4), (.ref b4)])) _
    refine XS.sipush X16.here hx rfl (hb hby at_80) ?_
    show Steps p.tables e below (T16.setTop (mkF m 83 #[.val (.int p1), .val (.int p2), .val (.int p3), .unset, .unset, .unset, .unset, .unset] [(.int (893 : Int32)), (.int (12 : Int32)), (.ref b4), (.ref b4)])) _
    refine st17 _ ?_
    show Steps p.tables e below (T17.setTop (mkF m 84 #[.val (.int p1), .val (.int p2), .val (.int p3), .unset, .unset, .unset, .unset, .unset] [(.ref b4)])) _
    refine XS.dup X17.here hx rfl (hb hby at_84) rfl rfl ?_
    show Steps p.tables e below (T17.setTop (mkF m 85 #[.val (.int p1), .val (.int p2), .val (.int p3), .unset, .unset, .unset, .unset, .unset] [(.ref b4), (.ref b4)])) _
    refine XS.bipush X17.here hx rfl (hb hby at_85) ?_
    show Steps p.tables e below (T17.setTop (mkF m 87 #[.val (.int p1), .val (.int p2), .val (.int p3), .unset, .unset, .unset, .unset, .unset] [(.int (13 : Int32)), (.ref b4), (.ref b4)])) _
    refine XS.sipush X17.here hx rfl (hb hby at_87) ?_
    show Steps p.tables e below (T17.setTop (mkF m 90 #[.val (.int p1), .val (.int p2), .val (.int p3), .unset, .unset, .unset, .unset, .unset] [(.int (895 : Int32)), (.int (13 : Int32)), (.ref b4), (.ref b4)])) _
    refine st18 _ ?_
    show Steps p.tables e below (T18.setTop (mkF m 91 #[.val (.int p1), .val (.int p2), .val (.int p3), .unset, .unset, .unset, .unset, .unset] [(.ref b4)])) _
    refine XS.dup X18.here hx rfl (hb hby at_91) rfl rfl ?_
    show Steps p.tables e below (T18.setTop (mkF m 92 #[.val (.int p1), .val (.int p2), .val (.int p3), .unset, .unset, .unset, .unset, .unset] [(.ref b4), (.ref b4)])) _
    refine XS.bipush X18.here hx rfl (hb hby at_92) ?_
    show Steps p.tables e below (T18.setTop (mkF m 94 #[.val (.int p1), .val (.int p2), .val (.int p3), .unset, .unset, .unset, .unset, .unset] [(.int (14 : Int32)), (.ref b4), (.ref b4)])) _
    refine XS.sipush X18.here hx rfl (hb hby at_94) ?_
    show Steps p.tables e below (T18.setTop (mkF m 97 #[.val (.int p1), .val (.int p2), .val (.int p3), .unset, .unset, .unset, .unset, .unset] [(.int (8191 : Int32)), (.int (14 : Int32)), (.ref b4), (.ref b4)])) _
    refine st19 _ ?_
    show Steps p.tables e below (T19.setTop (mkF m 98 #[.val (.int p1), .val (.int p2), .val (.int p3), .unset, .unset, .unset, .unset, .unset] [(.ref b4)])) _
    refine XS.dup X19.here hx rfl (hb hby at_98) rfl rfl ?_
    show Steps p.tables e below (T19.setTop (mkF m 99 #[.val (.int p1), .val (.int p2), .val (.int p3), .unset, .unset, .unset, .unset, .unset] [(.ref b4), (.ref b4)])) _
    refine XS.bipush X19.here hx rfl (hb hby at_99) ?_
    show Steps p.tables e below (T19.setTop (mkF m 101 #[.val (.int p1), .val (.int p2), .val (.int p3), .unset, .unset, .unset, .unset, .unset] [(.int (15 : Int32)), (.ref b4), (.ref b4)])) _
    refine XS.sipush X19.here hx rfl (hb hby at_101) ?_
    show Steps p.tables e below (T19.setTop (mkF m 104 #[.val (.int p1), .val (.int p2), .val (.int p3), .unset, .unset, .unset, .unset, .unset] [(.int (8204 : Int32)), (.int (15 : Int32)), (.ref b4), (.ref b4)])) _
    refine st20 _ ?_
    show Steps p.tables e below (T20.setTop (mkF m 105 #[.val (.int p1), .val (.int p2), .val (.int p3), .unset, .unset, .unset, .unset, .unset] [(.ref b4)])) _
    refine XS.dup X20.here hx rfl (hb hby at_105) rfl rfl ?_
    show Steps p.tables e below (T20.setTop (mkF m 106 #[.val (.int p1), .val (.int p2), .val (.int p3), .unset, .unset, .unset, .unset, .unset] [(.ref b4), (.ref b4)])) _
    refine XS.bipush X20.here hx rfl (hb hby at_106) ?_
    show Steps p.tables e below (T20.setTop (mkF m 108 #[.val (.int p1), .val (.int p2), .val (.int p3), .unset, .unset, .unset, .unset, .unset] [(.int (16 : Int32)), (.ref b4), (.ref b4)])) _
    refine XS.sipush X20.here hx rfl (hb hby at_108) ?_
    show Steps p.tables e below (T20.setTop (mkF m 111 #[.val (.int p1), .val (.int p2), .val (.int p3), .unset, .unset, .unset, .unset, .unset] [(.int (8205 : Int32)), (.int (16 : Int32)), (.ref b4), (.ref b4)])) _
    refine st21 _ ?_
    show Steps p.tables e below (T21.setTop (mkF m 112 #[.val (.int p1), .val (.int p2), .val (.int p3), .unset, .unset, .unset, .unset, .unset] [(.ref b4)])) _
    refine XS.dup X21.here hx rfl (hb hby at_112) rfl rfl ?_
    show Steps p.tables e below (T21.setTop (mkF m 113 #[.val (.int p1), .val (.int p2), .val (.int p3), .unset, .unset, .unset, .unset, .unset] [(.ref b4), (.ref b4)])) _
    refine XS.bipush X21.here hx rfl (hb hby at_113) ?_
    show Steps p.tables e below (T21.setTop (mkF m 115 #[.val (.int p1), .val (.int p2), .val (.int p3), .unset, .unset, .unset, .unset, .unset] [(.int (17 : Int32)), (.ref b4), (.ref b4)])) _
    refine XS.sipush X21.here hx rfl (hb hby at_115) ?_
    show Steps p.tables e below (T21.setTop (mkF m 118 #[.val (.int p1), .val (.int p2), .val (.int p3), .unset, .unset, .unset, .unset, .unset] [(.int (8304 : Int32)), (.int (17 : Int32)), (.ref b4), (.ref b4)])) _
    refine st22 _ ?_
    show Steps p.tables e below (T22.setTop (mkF m 119 #[.val (.int p1), .val (.int p2), .val (.int p3), .unset, .unset, .unset, .unset, .unset] [(.ref b4)])) _
    refine XS.dup X22.here hx rfl (hb hby at_119) rfl rfl ?_
    show Steps p.tables e below (T22.setTop (mkF m 120 #[.val (.int p1), .val (.int p2), .val (.int p3), .unset, .unset, .unset, .unset, .unset] [(.ref b4), (.ref b4)])) _
    refine XS.bipush X22.here hx rfl (hb hby at_120) ?_
    show Steps p.tables e below (T22.setTop (mkF m 122 #[.val (.int p1), .val (.int p2), .val (.int p3), .unset, .unset, .unset, .unset, .unset] [(.int (18 : Int32)), (.ref b4), (.ref b4)])) _
    refine XS.sipush X22.here hx rfl (hb hby at_122) ?_
    show Steps p.tables e below (T22.setTop (mkF m 125 #[.val (.int p1), .val (.int p2), .val (.int p3), .unset, .unset, .unset, .unset, .unset] [(.int (8591 : Int32)), (.int (18 : Int32)), (.ref b4), (.ref b4)])) _
    refine st23 _ ?_
    show Steps p.tables e below (T23.setTop (mkF m 126 #[.val (.int p1), .val (.int p2), .val (.int p3), .unset, .unset, .unset, .unset, .unset] [(.ref b4)])) _
    refine XS.dup X23.here hx rfl (hb hby at_126) rfl rfl ?_
    show Steps p.tables e below (T23.setTop (mkF m 127 #[.val (.int p1), .val (.int p2), .val (.int p3), .unset, .unset, .unset, .unset, .unset] [(.ref b4), (.ref b4)])) _
    refine XS.bipush X23.here hx rfl (hb hby at_127) ?_
    show Steps p.tables e below (T23.setTop (mkF m 129 #[.val (.int p1), .val (.int p2), .val (.int p3), .unset, .unset, .unset, .unset, .unset] [(.int (19 : Int32)), (.ref b4), (.ref b4)])) _
    refine XS.sipush X23.here hx rfl (hb hby at_129) ?_
    show Steps p.tables e below (T23.setTop (mkF m 132 #[.val (.int p1), .val (.int p2), .val (.int p3), .unset, .unset, .unset, .unset, .unset] [(.int (11264 : Int32)), (.int (19 : Int32)), (.ref b4), (.ref b4)])) _
    refine st24 _ ?_
    show Steps p.tables e below (T24.setTop (mkF m 133 #[.val (.int p1), .val (.int p2), .val (.int p3), .unset, .unset, .unset, .unset, .unset] [(.ref b4)])) _
    refine XS.dup X24.here hx rfl (hb hby at_133) rfl rfl ?_
    show Steps p.tables e below (T24.setTop (mkF m 134 #[.val (.int p1), .val (.int p2), .val (.int p3), .unset, .unset, .unset, .unset, .unset] [(.ref b4), (.ref b4)])) _
    refine XS.bipush X24.here hx rfl (hb hby at_134) ?_
    show Steps p.tables e below (T24.setTop (mkF m 136 #[.val (.int p1), .val (.int p2), .val (.int p3), .unset, .unset, .unset, .unset, .unset] [(.int (20 : Int32)), (.ref b4), (.ref b4)])) _
    refine XS.sipush X24.here hx rfl (hb hby at_136) ?_
    show Steps p.tables e below (T24.setTop (mkF m 139 #[.val (.int p1), .val (.int p2), .val (.int p3), .unset, .unset, .unset, .unset, .unset] [(.int (12271 : Int32)), (.int (20 : Int32)), (.ref b4), (.ref b4)])) _
    refine st25 _ ?_
    show Steps p.tables e below (T25.setTop (mkF m 140 #[.val (.int p1), .val (.int p2), .val (.int p3), .unset, .unset, .unset, .unset, .unset] [(.ref b4)])) _
    refine XS.dup X25.here hx rfl (hb hby at_140) rfl rfl ?_
    show Steps p.tables e below (T25.setTop (mkF m 141 #[.val (.int p1), .val (.int p2), .val (.int p3), .unset, .unset, .unset, .unset, .unset] [(.ref b4), (.ref b4)])) _
    refine XS.bipush X25.here hx rfl (hb hby at_141) ?_
    show Steps p.tables e below (T25.setTop (mkF m 143 #[.val (.int p1), .val (.int p2), .val (.int p3), .unset, .unset, .unset, .unset, .unset] [(.int (21 : Int32)), (.ref b4), (.ref b4)])) _
    refine XS.sipush X25.here hx rfl (hb hby at_143) ?_
    show Steps p.tables e below (T25.setTop (mkF m 146 #[.val (.int p1), .val (.int p2), .val (.int p3), .unset, .unset, .unset, .unset, .unset] [(.int (12289 : Int32)), (.int (21 : Int32)), (.ref b4), (.ref b4)])) _
    refine st26 _ ?_
    show Steps p.tables e below (T26.setTop (mkF m 147 #[.val (.int p1), .val (.int p2), .val (.int p3), .unset, .unset, .unset, .unset, .unset] [(.ref b4)])) _
    refine XS.dup X26.here hx rfl (hb hby at_147) rfl rfl ?_
    show Steps p.tables e below (T26.setTop (mkF m 148 #[.val (.int p1), .val (.int p2), .val (.int p3), .unset, .unset, .unset, .unset, .unset] [(.ref b4), (.ref b4)])) _
    refine XS.bipush X26.here hx rfl (hb hby at_148) ?_
    show Steps p.tables e below (T26.setTop (mkF m 150 #[.val (.int p1), .val (.int p2), .val (.int p3), .unset, .unset, .unset, .unset, .unset] [(.int (22 : Int32)), (.ref b4), (.ref b4)])) _
    refine X26.ldcInt hx hown (mvT hZ (hw _ (List.mem_of_getElem? (i := 1) rfl))) (g := (mkF m 150 #[.val (.int p1), .val (.int p2), .val (.int p3), .unset, .unset, .unset, .unset, .unset] [(.int (22 : Int32)), (.ref b4), (.ref b4)])) rfl (hb hby at_150) _ ?_
    show Steps p.tables e below (T26.setTop (mkF m 152 #[.val (.int p1), .val (.int p2), .val (.int p3), .unset, .unset, .unset, .unset, .unset] [(.int (55295 : Int32)), (.int (22 : Int32)), (.ref b4), (.ref b4)])) _
    refine st27 _ ?_
    show Steps p.tables e below (T27.setTop (mkF m 153 #[.val (.int p1), .val (.int p2), .val (.int p3), .unset, .unset, .unset, .unset, .unset] [(.ref b4)])) _
    refine XS.dup X27.here hx rfl (hb hby at_153) rfl rfl ?_
    show Steps p.tables e below (T27.setTop (mkF m 154 #[.val (.int p1), .val (.int p2), .val (.int p3), .unset, .unset, .unset, .unset, .unset] [(.ref b4), (.ref b4)])) _
    refine XS.bipush X27.here hx rfl (hb hby at_154) ?_
    show Steps p.tables e below (T27.setTop (mkF m 156 #[.val (.int p1), .val (.int p2), .val (.int p3), .unset, .unset, .unset, .unset, .unset] [(.int (23 : Int32)), (.ref b4), (.ref b4)])) _
    refine X27.ldcInt hx hown (mvT hZ (hw _ (List.mem_of_getElem? (i := 2) rfl))) (g := (mkF m 156 #[.val (.int p1), .val (.int p2), .val (.int p3), .unset, .unset, .unset, .unset, .unset] [(.int (23 : Int32)), (.ref b4), (.ref b4)])) rfl (hb hby at_156) _ ?_
    show Steps p.tables e below (T27.setTop (mkF m 158 #[.val (.int p1), .val (.int p2), .val (.int p3), .unset, .unset, .unset, .unset, .unset] [(.int (63744 : Int32)), (.int (23 : Int32)), (.ref b4), (.ref b4)])) _
    refine st28 _ ?_
    show Steps p.tables e below (T28.setTop (mkF m 159 #[.val (.int p1), .val (.int p2), .val (.int p3), .unset, .unset, .unset, .unset, .unset] [(.ref b4)])) _
    refine XS.dup X28.here hx rfl (hb hby at_159) rfl rfl ?_
    show Steps p.tables e below (T28.setTop (mkF m 160 #[.val (.int p1), .val (.int p2), .val (.int p3), .unset, .unset, .unset, .unset, .unset] [(.ref b4), (.ref b4)])) _
    refine XS.bipush X28.here hx rfl (hb hby at_160) ?_
    show Steps p.tables e below (T28.setTop (mkF m 162 #[.val (.int p1), .val (.int p2), .val (.int p3), .unset, .unset, .unset, .unset, .unset] [(.int (24 : Int32)), (.ref b4), (.ref b4)])) _
    refine X28.ldcInt hx hown (mvT hZ (hw _ (List.mem_of_getElem? (i := 3) rfl))) (g := (mkF m 162 #[.val (.int p1), .val (.int p2), .val (.int p3), .unset, .unset, .unset, .unset, .unset] [(.int (24 : Int32)), (.ref b4), (.ref b4)])) rfl (hb hby at_162) _ ?_
    show Steps p.tables e below (T28.setTop (mkF m 164 #[.val (.int p1), .val (.int p2), .val (.int p3), .unset, .unset, .unset, .unset, .unset] [(.int (64975 : Int32)), (.int (24 : Int32)), (.ref b4), (.ref b4)])) _
    refine st29 _ ?_
    show Steps p.tables e below (T29.setTop (mkF m 165 #[.val (.int p1), .val (.int p2), .val (.int p3), .unset, .unset, .unset, .unset, .unset] [(.ref b4)])) _
    refine XS.dup X29.here hx rfl (hb hby at_165) rfl rfl ?_
    show Steps p.tables e below (T29.setTop (mkF m 166 #[.val (.int p1), .val (.int p2), .val (.int p3), .unset, .unset, .unset, .unset, .unset] [(.ref b4), (.ref b4)])) _
    refine XS.bipush X29.here hx rfl (hb hby at_166) ?_
    show Steps p.tables e below (T29.setTop (mkF m 168 #[.val (.int p1), .val (.int p2), .val (.int p3), .unset, .unset, .unset, .unset, .unset] [(.int (25 : Int32)), (.ref b4), (.ref b4)])) _
    refine X29.ldcInt hx hown (mvT hZ (hw _ (List.mem_of_getElem? (i := 4) rfl))) (g := (mkF m 168 #[.val (.int p1), .val (.int p2), .val (.int p3), .unset, .unset, .unset, .unset, .unset] [(.int (25 : Int32)), (.ref b4), (.ref b4)])) rfl (hb hby at_168) _ ?_
    show Steps p.tables e below (T29.setTop (mkF m 170 #[.val (.int p1), .val (.int p2), .val (.int p3), .unset, .unset, .unset, .unset, .unset] [(.int (65008 : Int32)), (.int (25 : Int32)), (.ref b4), (.ref b4)])) _
    refine st30 _ ?_
    show Steps p.tables e below (T30.setTop (mkF m 171 #[.val (.int p1), .val (.int p2), .val (.int p3), .unset, .unset, .unset, .unset, .unset] [(.ref b4)])) _
    refine XS.dup X30.here hx rfl (hb hby at_171) rfl rfl ?_
    show Steps p.tables e below (T30.setTop (mkF m 172 #[.val (.int p1), .val (.int p2), .val (.int p3), .unset, .unset, .unset, .unset, .unset] [(.ref b4), (.ref b4)])) _
    refine XS.bipush X30.here hx rfl (hb hby at_172) ?_
    show Steps p.tables e below (T30.setTop (mkF m 174 #[.val (.int p1), .val (.int p2), .val (.int p3), .unset, .unset, .unset, .unset, .unset] [(.int (26 : Int32)), (.ref b4), (.ref b4)])) _
    refine X30.ldcInt hx hown (mvT hZ (hw _ (List.mem_of_getElem? (i := 5) rfl))) (g := (mkF m 174 #[.val (.int p1), .val (.int p2), .val (.int p3), .unset, .unset, .unset, .unset, .unset] [(.int (26 : Int32)), (.ref b4), (.ref b4)])) rfl (hb hby at_174) _ ?_
    show Steps p.tables e below (T30.setTop (mkF m 176 #[.val (.int p1), .val (.int p2), .val (.int p3), .unset, .unset, .unset, .unset, .unset] [(.int (65533 : Int32)), (.int (26 : Int32)), (.ref b4), (.ref b4)])) _
    refine st31 _ ?_
    show Steps p.tables e below (T31.setTop (mkF m 177 #[.val (.int p1), .val (.int p2), .val (.int p3), .unset, .unset, .unset, .unset, .unset] [(.ref b4)])) _
    refine XS.dup X31.here hx rfl (hb hby at_177) rfl rfl ?_
    show Steps p.tables e below (T31.setTop (mkF m 178 #[.val (.int p1), .val (.int p2), .val (.int p3), .unset, .unset, .unset, .unset, .unset] [(.ref b4), (.ref b4)])) _
    refine XS.bipush X31.here hx rfl (hb hby at_178) ?_
    show Steps p.tables e below (T31.setTop (mkF m 180 #[.val (.int p1), .val (.int p2), .val (.int p3), .unset, .unset, .unset, .unset, .unset] [(.int (27 : Int32)), (.ref b4), (.ref b4)])) _
    refine X31.ldcInt hx hown (mvT hZ (hw _ (List.mem_of_getElem? (i := 6) rfl))) (g := (mkF m 180 #[.val (.int p1), .val (.int p2), .val (.int p3), .unset, .unset, .unset, .unset, .unset] [(.int (27 : Int32)), (.ref b4), (.ref b4)])) rfl (hb hby at_180) _ ?_
    show Steps p.tables e below (T31.setTop (mkF m 182 #[.val (.int p1), .val (.int p2), .val (.int p3), .unset, .unset, .unset, .unset, .unset] [(.int (65536 : Int32)), (.int (27 : Int32)), (.ref b4), (.ref b4)])) _
    refine st32 _ ?_
    show Steps p.tables e below (T32.setTop (mkF m 183 #[.val (.int p1), .val (.int p2), .val (.int p3), .unset, .unset, .unset, .unset, .unset] [(.ref b4)])) _
    refine XS.dup X32.here hx rfl (hb hby at_183) rfl rfl ?_
    show Steps p.tables e below (T32.setTop (mkF m 184 #[.val (.int p1), .val (.int p2), .val (.int p3), .unset, .unset, .unset, .unset, .unset] [(.ref b4), (.ref b4)])) _
    refine XS.bipush X32.here hx rfl (hb hby at_184) ?_
    show Steps p.tables e below (T32.setTop (mkF m 186 #[.val (.int p1), .val (.int p2), .val (.int p3), .unset, .unset, .unset, .unset, .unset] [(.int (28 : Int32)), (.ref b4), (.ref b4)])) _
    refine X32.ldcInt hx hown (mvT hZ (hw _ (List.mem_of_getElem? (i := 7) rfl))) (g := (mkF m 186 #[.val (.int p1), .val (.int p2), .val (.int p3), .unset, .unset, .unset, .unset, .unset] [(.int (28 : Int32)), (.ref b4), (.ref b4)])) rfl (hb hby at_186) _ ?_
    show Steps p.tables e below (T32.setTop (mkF m 188 #[.val (.int p1), .val (.int p2), .val (.int p3), .unset, .unset, .unset, .unset, .unset] [(.int (983039 : Int32)), (.int (28 : Int32)), (.ref b4), (.ref b4)])) _
    refine st33 _ ?_
    show Steps p.tables e below (T33.setTop (mkF m 189 #[.val (.int p1), .val (.int p2), .val (.int p3), .unset, .unset, .unset, .unset, .unset] [(.ref b4)])) _
    refine XS.astoreN X33.here hx rfl (hb hby at_189) rfl rfl (l' := #[.val (.int p1), .val (.int p2), .val (.int p3), .val (.ref b4), .unset, .unset, .unset, .unset]) rfl ?_
    show Steps p.tables e below (T33.setTop (mkF m 190 #[.val (.int p1), .val (.int p2), .val (.int p3), .val (.ref b4), .unset, .unset, .unset, .unset] [])) _
    refine XS.iloadN X33.here hx rfl (hb hby at_190) rfl ?_
    show Steps p.tables e below (T33.setTop (mkF m 191 #[.val (.int p1), .val (.int p2), .val (.int p3), .val (.ref b4), .unset, .unset, .unset, .unset] [(.int p2)])) _
    refine X33.ldcInt hx hown (mvT hZ (hw _ (List.mem_of_getElem? (i := 8) rfl))) (g := (mkF m 191 #[.val (.int p1), .val (.int p2), .val (.int p3), .val (.ref b4), .unset, .unset, .unset, .unset] [(.int p2)])) rfl (hb hby at_191) _ ?_
    show Steps p.tables e below (T33.setTop (mkF m 193 #[.val (.int p1), .val (.int p2), .val (.int p3), .val (.ref b4), .unset, .unset, .unset, .unset] [(.int (2147483647 : Int32)), (.int p2)])) _
    refine XS.iand X33.here hx rfl (hb hby at_193) rfl ?_
    show Steps p.tables e below (T33.setTop (mkF m 194 #[.val (.int p1), .val (.int p2), .val (.int p3), .val (.ref b4), .unset, .unset, .unset, .unset] [(.int (p2 &&& (2147483647 : Int32)))])) _
    refine XS.aloadN X33.here hx rfl (hb hby at_194) rfl rfl ?_
    show Steps p.tables e below (T33.setTop (mkF m 195 #[.val (.int p1), .val (.int p2), .val (.int p3), .val (.ref b4), .unset, .unset, .unset, .unset] [(.ref b4), (.int (p2 &&& (2147483647 : Int32)))])) _
    refine X33.arraylength hx (by rw [e33]; exact Ar_b4.1) (State.isArrayOf_alike hZ.alike Ar_b4.2.1) (g := (mkF m 195 #[.val (.int p1), .val (.int p2), .val (.int p3), .val (.ref b4), .unset, .unset, .unset, .unset] [(.ref b4), (.int (p2 &&& (2147483647 : Int32)))])) rfl rfl (hb hby at_195) _ ?_
    rw [len_of S_b4 N_b4]
    show Steps p.tables e below (T33.setTop (mkF m 196 #[.val (.int p1), .val (.int p2), .val (.int p3), .val (.ref b4), .unset, .unset, .unset, .unset] [(.int (29 : Int32)), (.int (p2 &&& (2147483647 : Int32)))])) _
    refine XS.irem X33.here hx rfl (hb hby at_196) rfl hnz196 ?_
    show Steps p.tables e below (T33.setTop (mkF m 197 #[.val (.int p1), .val (.int p2), .val (.int p3), .val (.ref b4), .unset, .unset, .unset, .unset] [(.int (remI (p2 &&& (2147483647 : Int32)) (29 : Int32)))])) _
    refine XS.istore X33.here hx rfl (hb hby at_197) rfl (l' := #[.val (.int p1), .val (.int p2), .val (.int p3), .val (.ref b4), .val (.int (remI (p2 &&& (2147483647 : Int32)) (29 : Int32))), .unset, .unset, .unset]) rfl ?_
    show Steps p.tables e below (T33.setTop (mkF m 199 #[.val (.int p1), .val (.int p2), .val (.int p3), .val (.ref b4), .val (.int (remI (p2 &&& (2147483647 : Int32)) (29 : Int32))), .unset, .unset, .unset] [])) _
    refine XS.aloadN X33.here hx rfl (hb hby at_199) rfl rfl ?_
    show Steps p.tables e below (T33.setTop (mkF m 200 #[.val (.int p1), .val (.int p2), .val (.int p3), .val (.ref b4), .val (.int (remI (p2 &&& (2147483647 : Int32)) (29 : Int32))), .unset, .unset, .unset] [(.ref b4)])) _
    refine XS.iload X33.here hx rfl (hb hby at_200) rfl ?_
    show Steps p.tables e below (T33.setTop (mkF m 202 #[.val (.int p1), .val (.int p2), .val (.int p3), .val (.ref b4), .val (.int (remI (p2 &&& (2147483647 : Int32)) (29 : Int32))), .unset, .unset, .unset] [(.int (remI (p2 &&& (2147483647 : Int32)) (29 : Int32))), (.ref b4)])) _
    refine X33.iaload hx (j := (remI (p2 &&& (2147483647 : Int32)) (29 : Int32))) (v := (.int w34)) (by rw [e33]; exact Ar_b4.1) (State.isArrayOf_alike hZ.alike Ar_b4.2.1) Ar_b4.2.2 hin202 hat202 (g := (mkF m 202 #[.val (.int p1), .val (.int p2), .val (.int p3), .val (.ref b4), .val (.int (remI (p2 &&& (2147483647 : Int32)) (29 : Int32))), .unset, .unset, .unset] [(.int (remI (p2 &&& (2147483647 : Int32)) (29 : Int32))), (.ref b4)])) rfl rfl (hb hby at_202) _ ?_
    show Steps p.tables e below (T33.setTop (mkF m 203 #[.val (.int p1), .val (.int p2), .val (.int p3), .val (.ref b4), .val (.int (remI (p2 &&& (2147483647 : Int32)) (29 : Int32))), .unset, .unset, .unset] [(.int w34)])) _
    refine XS.iloadN X33.here hx rfl (hb hby at_203) rfl ?_
    show Steps p.tables e below (T33.setTop (mkF m 204 #[.val (.int p1), .val (.int p2), .val (.int p3), .val (.ref b4), .val (.int (remI (p2 &&& (2147483647 : Int32)) (29 : Int32))), .unset, .unset, .unset] [(.int p3), (.int w34)])) _
    refine X33.ldcInt hx hown (mvT hZ (hw _ (List.mem_of_getElem? (i := 8) rfl))) (g := (mkF m 204 #[.val (.int p1), .val (.int p2), .val (.int p3), .val (.ref b4), .val (.int (remI (p2 &&& (2147483647 : Int32)) (29 : Int32))), .unset, .unset, .unset] [(.int p3), (.int w34)])) rfl (hb hby at_204) _ ?_
    show Steps p.tables e below (T33.setTop (mkF m 206 #[.val (.int p1), .val (.int p2), .val (.int p3), .val (.ref b4), .val (.int (remI (p2 &&& (2147483647 : Int32)) (29 : Int32))), .unset, .unset, .unset] [(.int (2147483647 : Int32)), (.int p3), (.int w34)])) _
    refine XS.iand X33.here hx rfl (hb hby at_206) rfl ?_
    show Steps p.tables e below (T33.setTop (mkF m 207 #[.val (.int p1), .val (.int p2), .val (.int p3), .val (.ref b4), .val (.int (remI (p2 &&& (2147483647 : Int32)) (29 : Int32))), .unset, .unset, .unset] [(.int (p3 &&& (2147483647 : Int32))), (.int w34)])) _
    refine XS.iconst X33.here hx rfl (hb hby at_207) ?_
    show Steps p.tables e below (T33.setTop (mkF m 208 #[.val (.int p1), .val (.int p2), .val (.int p3), .val (.ref b4), .val (.int (remI (p2 &&& (2147483647 : Int32)) (29 : Int32))), .unset, .unset, .unset] [(.int (3 : Int32)), (.int (p3 &&& (2147483647 : Int32))), (.int w34)])) _
    refine XS.irem X33.here hx rfl (hb hby at_208) rfl hnz208 ?_
    show Steps p.tables e below (T33.setTop (mkF m 209 #[.val (.int p1), .val (.int p2), .val (.int p3), .val (.ref b4), .val (.int (remI (p2 &&& (2147483647 : Int32)) (29 : Int32))), .unset, .unset, .unset] [(.int (remI (p3 &&& (2147483647 : Int32)) (3 : Int32))), (.int w34)])) _
    refine XS.iadd X33.here hx rfl (hb hby at_209) rfl ?_
    show Steps p.tables e below (T33.setTop (mkF m 210 #[.val (.int p1), .val (.int p2), .val (.int p3), .val (.ref b4), .val (.int (remI (p2 &&& (2147483647 : Int32)) (29 : Int32))), .unset, .unset, .unset] [(.int (w34 + (remI (p3 &&& (2147483647 : Int32)) (3 : Int32))))])) _
    refine XS.iconst X33.here hx rfl (hb hby at_210) ?_
    show Steps p.tables e below (T33.setTop (mkF m 211 #[.val (.int p1), .val (.int p2), .val (.int p3), .val (.ref b4), .val (.int (remI (p2 &&& (2147483647 : Int32)) (29 : Int32))), .unset, .unset, .unset] [(.int (1 : Int32)), (.int (w34 + (remI (p3 &&& (2147483647 : Int32)) (3 : Int32))))])) _
    refine XS.isub X33.here hx rfl (hb hby at_211) rfl ?_
    show Steps p.tables e below (T33.setTop (mkF m 212 #[.val (.int p1), .val (.int p2), .val (.int p3), .val (.ref b4), .val (.int (remI (p2 &&& (2147483647 : Int32)) (29 : Int32))), .unset, .unset, .unset] [(.int ((w34 + (remI (p3 &&& (2147483647 : Int32)) (3 : Int32))) - (1 : Int32)))])) _
    refine XS.istore X33.here hx rfl (hb hby at_212) rfl (l' := #[.val (.int p1), .val (.int p2), .val (.int p3), .val (.ref b4), .val (.int (remI (p2 &&& (2147483647 : Int32)) (29 : Int32))), .val (.int ((w34 + (remI (p3 &&& (2147483647 : Int32)) (3 : Int32))) - (1 : Int32))), .unset, .unset]) rfl ?_
    show Steps p.tables e below (T33.setTop (mkF m 214 #[.val (.int p1), .val (.int p2), .val (.int p3), .val (.ref b4), .val (.int (remI (p2 &&& (2147483647 : Int32)) (29 : Int32))), .val (.int ((w34 + (remI (p3 &&& (2147483647 : Int32)) (3 : Int32))) - (1 : Int32))), .unset, .unset] [])) _
    refine XS.iloadN X33.here hx rfl (hb hby at_214) rfl ?_
    show Steps p.tables e below (T33.setTop (mkF m 215 #[.val (.int p1), .val (.int p2), .val (.int p3), .val (.ref b4), .val (.int (remI (p2 &&& (2147483647 : Int32)) (29 : Int32))), .val (.int ((w34 + (remI (p3 &&& (2147483647 : Int32)) (3 : Int32))) - (1 : Int32))), .unset, .unset] [(.int p1)])) _
    refine st35 _ ?_
    show Steps p.tables e below (T35.setTop (mkF m 218 #[.val (.int p1), .val (.int p2), .val (.int p3), .val (.ref b4), .val (.int (remI (p2 &&& (2147483647 : Int32)) (29 : Int32))), .val (.int ((w34 + (remI (p3 &&& (2147483647 : Int32)) (3 : Int32))) - (1 : Int32))), .unset, .unset] [(.int (ncF p1))])) _
    refine XS.iloadN X35.here hx rfl (hb hby at_218) rfl ?_
    show Steps p.tables e below (T35.setTop (mkF m 219 #[.val (.int p1), .val (.int p2), .val (.int p3), .val (.ref b4), .val (.int (remI (p2 &&& (2147483647 : Int32)) (29 : Int32))), .val (.int ((w34 + (remI (p3 &&& (2147483647 : Int32)) (3 : Int32))) - (1 : Int32))), .unset, .unset] [(.int p1), (.int (ncF p1))])) _
    refine st36 _ ?_
    show Steps p.tables e below (T36.setTop (mkF m 222 #[.val (.int p1), .val (.int p2), .val (.int p3), .val (.ref b4), .val (.int (remI (p2 &&& (2147483647 : Int32)) (29 : Int32))), .val (.int ((w34 + (remI (p3 &&& (2147483647 : Int32)) (3 : Int32))) - (1 : Int32))), .unset, .unset] [(.int (rcF p1)), (.int (ncF p1))])) _
    refine XS.icmpNo X36.here hx rfl (hb hby at_222) rfl (teq (own_same p1 : (ncF p1) = (rcF p1))).2 ?_
    show Steps p.tables e below (T36.setTop (mkF m 225 #[.val (.int p1), .val (.int p2), .val (.int p3), .val (.ref b4), .val (.int (remI (p2 &&& (2147483647 : Int32)) (29 : Int32))), .val (.int ((w34 + (remI (p3 &&& (2147483647 : Int32)) (3 : Int32))) - (1 : Int32))), .unset, .unset] [])) _
    refine XS.iconst X36.here hx rfl (hb hby at_225) ?_
    show Steps p.tables e below (T36.setTop (mkF m 226 #[.val (.int p1), .val (.int p2), .val (.int p3), .val (.ref b4), .val (.int (remI (p2 &&& (2147483647 : Int32)) (29 : Int32))), .val (.int ((w34 + (remI (p3 &&& (2147483647 : Int32)) (3 : Int32))) - (1 : Int32))), .unset, .unset] [(.int (1 : Int32))])) _
    refine XS.goto X36.here hx rfl (pc0 := 226) (pc' := 230) rfl (hb hby at_226) (by decide) (by decide) ?_
    show Steps p.tables e below (T36.setTop (mkF m 230 #[.val (.int p1), .val (.int p2), .val (.int p3), .val (.ref b4), .val (.int (remI (p2 &&& (2147483647 : Int32)) (29 : Int32))), .val (.int ((w34 + (remI (p3 &&& (2147483647 : Int32)) (3 : Int32))) - (1 : Int32))), .unset, .unset] [(.int (1 : Int32))])) _
    refine XS.istore X36.here hx rfl (hb hby at_230) rfl (l' := #[.val (.int p1), .val (.int p2), .val (.int p3), .val (.ref b4), .val (.int (remI (p2 &&& (2147483647 : Int32)) (29 : Int32))), .val (.int ((w34 + (remI (p3 &&& (2147483647 : Int32)) (3 : Int32))) - (1 : Int32))), .val (.int (1 : Int32)), .unset]) rfl ?_
    show Steps p.tables e below (T36.setTop (mkF m 232 #[.val (.int p1), .val (.int p2), .val (.int p3), .val (.ref b4), .val (.int (remI (p2 &&& (2147483647 : Int32)) (29 : Int32))), .val (.int ((w34 + (remI (p3 &&& (2147483647 : Int32)) (3 : Int32))) - (1 : Int32))), .val (.int (1 : Int32)), .unset] [])) _
    refine XS.iload X36.here hx rfl (hb hby at_232) rfl ?_
    show Steps p.tables e below (T36.setTop (mkF m 234 #[.val (.int p1), .val (.int p2), .val (.int p3), .val (.ref b4), .val (.int (remI (p2 &&& (2147483647 : Int32)) (29 : Int32))), .val (.int ((w34 + (remI (p3 &&& (2147483647 : Int32)) (3 : Int32))) - (1 : Int32))), .val (.int (1 : Int32)), .unset] [(.int ((w34 + (remI (p3 &&& (2147483647 : Int32)) (3 : Int32))) - (1 : Int32)))])) _
    refine st37 _ ?_
    show Steps p.tables e below (T37.setTop (mkF m 237 #[.val (.int p1), .val (.int p2), .val (.int p3), .val (.ref b4), .val (.int (remI (p2 &&& (2147483647 : Int32)) (29 : Int32))), .val (.int ((w34 + (remI (p3 &&& (2147483647 : Int32)) (3 : Int32))) - (1 : Int32))), .val (.int (1 : Int32)), .unset] [(.int (ncF ((w34 + (remI (p3 &&& (2147483647 : Int32)) (3 : Int32))) - (1 : Int32))))])) _
    refine XS.iload X37.here hx rfl (hb hby at_237) rfl ?_
    show Steps p.tables e below (T37.setTop (mkF m 239 #[.val (.int p1), .val (.int p2), .val (.int p3), .val (.ref b4), .val (.int (remI (p2 &&& (2147483647 : Int32)) (29 : Int32))), .val (.int ((w34 + (remI (p3 &&& (2147483647 : Int32)) (3 : Int32))) - (1 : Int32))), .val (.int (1 : Int32)), .unset] [(.int ((w34 + (remI (p3 &&& (2147483647 : Int32)) (3 : Int32))) - (1 : Int32))), (.int (ncF ((w34 + (remI (p3 &&& (2147483647 : Int32)) (3 : Int32))) - (1 : Int32))))])) _
    refine st38 _ ?_
    show Steps p.tables e below (T38.setTop (mkF m 242 #[.val (.int p1), .val (.int p2), .val (.int p3), .val (.ref b4), .val (.int (remI (p2 &&& (2147483647 : Int32)) (29 : Int32))), .val (.int ((w34 + (remI (p3 &&& (2147483647 : Int32)) (3 : Int32))) - (1 : Int32))), .val (.int (1 : Int32)), .unset] [(.int (rcF ((w34 + (remI (p3 &&& (2147483647 : Int32)) (3 : Int32))) - (1 : Int32)))), (.int (ncF ((w34 + (remI (p3 &&& (2147483647 : Int32)) (3 : Int32))) - (1 : Int32))))])) _
    refine XS.icmpNo X38.here hx rfl (hb hby at_242) rfl (teq (own_same _ : (ncF ((w34 + (remI (p3 &&& (2147483647 : Int32)) (3 : Int32))) - (1 : Int32))) = (rcF ((w34 + (remI (p3 &&& (2147483647 : Int32)) (3 : Int32))) - (1 : Int32))))).2 ?_
    show Steps p.tables e below (T38.setTop (mkF m 245 #[.val (.int p1), .val (.int p2), .val (.int p3), .val (.ref b4), .val (.int (remI (p2 &&& (2147483647 : Int32)) (29 : Int32))), .val (.int ((w34 + (remI (p3 &&& (2147483647 : Int32)) (3 : Int32))) - (1 : Int32))), .val (.int (1 : Int32)), .unset] [])) _
    refine XS.iconst X38.here hx rfl (hb hby at_245) ?_
    show Steps p.tables e below (T38.setTop (mkF m 246 #[.val (.int p1), .val (.int p2), .val (.int p3), .val (.ref b4), .val (.int (remI (p2 &&& (2147483647 : Int32)) (29 : Int32))), .val (.int ((w34 + (remI (p3 &&& (2147483647 : Int32)) (3 : Int32))) - (1 : Int32))), .val (.int (1 : Int32)), .unset] [(.int (1 : Int32))])) _
    refine XS.goto X38.here hx rfl (pc0 := 246) (pc' := 250) rfl (hb hby at_246) (by decide) (by decide) ?_
    show Steps p.tables e below (T38.setTop (mkF m 250 #[.val (.int p1), .val (.int p2), .val (.int p3), .val (.ref b4), .val (.int (remI (p2 &&& (2147483647 : Int32)) (29 : Int32))), .val (.int ((w34 + (remI (p3 &&& (2147483647 : Int32)) (3 : Int32))) - (1 : Int32))), .val (.int (1 : Int32)), .unset] [(.int (1 : Int32))])) _
    refine XS.istore X38.here hx rfl (hb hby at_250) rfl (l' := #[.val (.int p1), .val (.int p2), .val (.int p3), .val (.ref b4), .val (.int (remI (p2 &&& (2147483647 : Int32)) (29 : Int32))), .val (.int ((w34 + (remI (p3 &&& (2147483647 : Int32)) (3 : Int32))) - (1 : Int32))), .val (.int (1 : Int32)), .val (.int (1 : Int32))]) rfl ?_
    show Steps p.tables e below (T38.setTop (mkF m 252 #[.val (.int p1), .val (.int p2), .val (.int p3), .val (.ref b4), .val (.int (remI (p2 &&& (2147483647 : Int32)) (29 : Int32))), .val (.int ((w34 + (remI (p3 &&& (2147483647 : Int32)) (3 : Int32))) - (1 : Int32))), .val (.int (1 : Int32)), .val (.int (1 : Int32))] [])) _
    refine XS.iload X38.here hx rfl (hb hby at_252) rfl ?_
    show Steps p.tables e below (T38.setTop (mkF m 254 #[.val (.int p1), .val (.int p2), .val (.int p3), .val (.ref b4), .val (.int (remI (p2 &&& (2147483647 : Int32)) (29 : Int32))), .val (.int ((w34 + (remI (p3 &&& (2147483647 : Int32)) (3 : Int32))) - (1 : Int32))), .val (.int (1 : Int32)), .val (.int (1 : Int32))] [(.int (1 : Int32))])) _
    refine XS.ifNo X38.here hx rfl (hb hby at_254) rfl ((if0 _ _).trans (feq hc254).1) ?_
    show Steps p.tables e below (T38.setTop (mkF m 257 #[.val (.int p1), .val (.int p2), .val (.int p3), .val (.ref b4), .val (.int (remI (p2 &&& (2147483647 : Int32)) (29 : Int32))), .val (.int ((w34 + (remI (p3 &&& (2147483647 : Int32)) (3 : Int32))) - (1 : Int32))), .val (.int (1 : Int32)), .val (.int (1 : Int32))] [])) _
    refine XS.iload X38.here hx rfl (hb hby at_257) rfl ?_
    show Steps p.tables e below (T38.setTop (mkF m 259 #[.val (.int p1), .val (.int p2), .val (.int p3), .val (.ref b4), .val (.int (remI (p2 &&& (2147483647 : Int32)) (29 : Int32))), .val (.int ((w34 + (remI (p3 &&& (2147483647 : Int32)) (3 : Int32))) - (1 : Int32))), .val (.int (1 : Int32)), .val (.int (1 : Int32))] [(.int (1 : Int32))])) _
    refine XS.ifNo X38.here hx rfl (hb hby at_259) rfl ((if0 _ _).trans (feq hc259).1) ?_
    show Steps p.tables e below (T38.setTop (mkF m 262 #[.val (.int p1), .val (.int p2), .val (.int p3), .val (.ref b4), .val (.int (remI (p2 &&& (2147483647 : Int32)) (29 : Int32))), .val (.int ((w34 + (remI (p3 &&& (2147483647 : Int32)) (3 : Int32))) - (1 : Int32))), .val (.int (1 : Int32)), .val (.int (1 : Int32))] [])) _
    refine XS.iconst X38.here hx rfl (hb hby at_262) ?_
    show Steps p.tables e below (T38.setTop (mkF m 263 #[.val (.int p1), .val (.int p2), .val (.int p3), .val (.ref b4), .val (.int (remI (p2 &&& (2147483647 : Int32)) (29 : Int32))), .val (.int ((w34 + (remI (p3 &&& (2147483647 : Int32)) (3 : Int32))) - (1 : Int32))), .val (.int (1 : Int32)), .val (.int (1 : Int32))] [(.int (1 : Int32))])) _
    refine XS.goto X38.here hx rfl (pc0 := 263) (pc' := 267) rfl (hb hby at_263) (by decide) (by decide) ?_
    show Steps p.tables e below (T38.setTop (mkF m 267 #[.val (.int p1), .val (.int p2), .val (.int p3), .val (.ref b4), .val (.int (remI (p2 &&& (2147483647 : Int32)) (29 : Int32))), .val (.int ((w34 + (remI (p3 &&& (2147483647 : Int32)) (3 : Int32))) - (1 : Int32))), .val (.int (1 : Int32)), .val (.int (1 : Int32))] [(.int (1 : Int32))])) _
    exact retN X38 hx (t := .boolean) Bd.returns (by simp) (hb hby at_267) hr
  · show Q0 Z p1 p2 p3 h0 n0 _ T38.heap _
    exact ⟨rfl, N38⟩
set_option maxRecDepth 65536 in
set_option maxHeartbeats 40000000 in
theorem comes_1 {Post : Tables → Env → Array Value → State → Outcome → State → Prop} (hpost : ∀ tb e args s v u, (limb_1_1.after args s (.returned v) u = true ∧ limb_1_2.after args s (.returned v) u = true ∧ True) → FrameEnd s (.returned v) u (Jvm.fieldLocs frame_1_writes args s ++ Jvm.arrayLocs frame_1_arrays args s ++ Jvm.staticLocs frame_1_statics s) 16 128 → Post tb e args s (.returned v) u) :
    ArmFor flags0 classFile x code maxLocals ret World_1 tables_1 room_1 Calls_1 rest_1 Pre_1 Post := by
  intro l hfl _ _ p e ha hc hk s m args below hf hA hF happ hP
  obtain ⟨hcalls, hrest, hpre⟩ := hP
  obtain ⟨-, -, -, hnamed, -, -, -, hat⟩ := (Spec.applies_iff hf).mp happ
  obtain ⟨hg, hn⟩ := and_e (Cond.before_iff.mp (show (Jvm.Cond.and given_1 narrow_1).before args s = true from hpre))
  obtain ⟨g39, g40⟩ := and_e hg
  obtain ⟨g41, g42⟩ := and_e g40
  obtain ⟨g43, g44⟩ := and_e g42
  obtain ⟨w0, w1, w2, rfl⟩ : ∃ w0 w1 w2 : Value, args = #[w0, w1, w2] := by
    have hs : args.size = 3 := by simpa [Cond.value, given_1] using g39
    obtain ⟨L⟩ := args
    match L, hs with
    | [w0, w1, w2], _ => exact ⟨w0, w1, w2, rfl⟩
  have hw := fun d (hd : d ∈ tables_1) => atoms_spec (ws := Jvm.Cond.code x code maxLocals ret :: tables_1) hat d (List.mem_cons_of_mem _ hd)
  have hfit : Fit s := fun {y c} hc i hi => by
    obtain ⟨ha, rfl⟩ := Array.getElem?_eq_some_iff.mp hc
    have q := List.all_eq_true.mp ((Array.all_eq_true_iff_forall_mem.mp hF) _ (Array.getElem_mem ha)) i (List.mem_range.mpr hi)
    simpa [Array.getElem?_eq_getElem hi] using q
  obtain ⟨i0, ei0⟩ := is_v g41
  obtain rfl : w0 = (.int i0) := Option.some.inj ei0
  obtain ⟨i1, ei1⟩ := is_v g43
  obtain rfl : w1 = (.int i1) := Option.some.inj ei1
  obtain ⟨i2, ei2⟩ := is_v g44
  obtain rfl : w2 = (.int i2) := Option.some.inj ei2
  obtain ⟨n, o, h1, h2, h3, _, L, rfl, ⟨rfl, N⟩, hq⟩ := rm0 l s _ hw tables_1 i0 i1 i2 s.heap s.heap.size (Nat.le_refl _)  p e ha hc hk s m _ below hf ((Spec.applies_iff_loose hf).mp happ).1 ⟨rfl, State.Warmed39.refl s, rfl⟩ trivial
  refine ⟨n, _, h1, h2, h3, hpost _ _ _ _ _ _ ⟨Cond.after_iff.mpr rfl, Cond.after_iff.mpr (eq_i res_at (Term.int_eval (1)) rfl), trivial⟩ ⟨hq.1, hq.2.1, (hq.2.2.sift fun y hy => Or.inr (N y hy)).mono (by decide) (by decide)⟩⟩
theorem main_1_1 : Claimed_1_1 := comes_1 fun _ _ _ _ _ _ h hF => ⟨h.1, hF⟩
theorem main_1_2 : Claimed_1_2 := comes_1 fun _ _ _ _ _ _ h hF => ⟨h.2.1, hF⟩
end Jvm.Pilot.@@N@@
namespace Jvm.Pilot.@@N@@
open Jvm Jvm.ClassFile Sem Op Lib Jvm.Free Jvm.Stand Jvm.Pilot.@@N@@.Jvm.D
/-! MADE BY PROGRAM (witnessworld.py) out of the Statement's table words and the real class files: 9 classes; the members and pool entries that the words name. The judged class is class 1, her method 3. -/
namespace start1
open Jvm.ClassFile
def u (s : String) : CpInfo := .utf8 (stringToUtf16 s)
/-- a pool by its gaps: so many unusable entries, then the entry; so many at the end -/
def gap : Nat → List CpInfo → List CpInfo
  | 0, r => r
  | n + 1, r => .unusable :: gap n r
def poolList (es : List (Nat × CpInfo)) (last : Nat) : List CpInfo := es.foldr (fun e r => gap e.1 (e.2 :: r)) (gap last [])
def pool (es : List (Nat × CpInfo)) (last : Nat) : Array CpInfo := ⟨poolList es last⟩
def fileOf (pool : Array CpInfo) (this : Nat) (attrs : Array Attribute := #[]) (ms : Array MethodInfo := #[]) (fl : Nat := 33) (sup : Nat := 0) (ifs : Array Nat := #[]) (fds : Array FieldInfo := #[]) : ClassFile where
  minorVersion := 0
  majorVersion := 65
  constantPool := pool
  accessFlags := fl
  thisClass := this
  superClass := sup
  interfaces := ifs
  fields := fds
  methods := ms
  attributes := attrs
def plain (name : String) (sup : Option ClassId) : Class where
  name := name
  kind := .ordinary
  loader := none
  accessFlags := 33
  super := sup
  interfaces := #[]
  cf := none
  fields := #[]
  methods := #[]
  instanceTypes := #[]
  staticTypes := #[]
  resolved := #[]
  callSites := []
  init := .initialized
  statics := none
  mirror := none

def pool0 : Array CpInfo := pool [(5, u "<init>"), (0, u "()V"), (1, .class_ 10), (1, u "java/lang/Object")] 113

def k0m0 : Method := { name := "<init>", desc := "()V", sig := { parameters := [], returnType := none }, accessFlags := 1, code := none }
/-- java/lang/Object -/
def k0 : Class := { plain "java/lang/Object" none with
  accessFlags := 33
  interfaces := #[]
  cf := some (fileOf pool0 8 #[] #[{ accessFlags := 1, nameIndex := 5, descriptorIndex := 6, attributes := #[] }] 33 0 #[] #[])
  fields := #[]
  methods := #[k0m0]
  instanceTypes := #[]
  staticTypes := #[]
  resolved := Array.replicate 124 none
  statics := none }

def pool1 : Array CpInfo := pool [(2, .class_ 4), (1, u "java/lang/Object"), (0, u "<init>"), (0, u "()V"), (0, .integer 983039), (0, .methodref 9 10), (0, .class_ 11), (0, .nameAndType 12 13), (0, u "com/example/narrow_tree/narrowtree/document/XmlSyntaxIsNcNameStartCharacterPinLaw"), (0, u "in"), (0, u "(III)Z"), (0, .integer 55296), (0, .integer 63743), (0, .integer 64976), (0, .integer 65007), (0, .integer 65534), (0, .integer 65535), (0, .integer 55295), (0, .integer 63744), (0, .integer 64975), (0, .integer 65008), (0, .integer 65533), (0, .integer 65536), (0, .integer 2147483647), (0, .methodref 28 29), (0, .class_ 30), (0, .nameAndType 31 32), (0, u "com/example/narrow_tree/narrowtree/document/XmlSyntax"), (0, u "isNcNameStartCharacter"), (0, u "(I)Z"), (0, .methodref 9 34), (0, .nameAndType 35 32), (0, u "ref"), (3, u "law")] 4

def k1m0 : Method := { name := "<init>", desc := "()V", sig := { parameters := [], returnType := none }, accessFlags := 2, code := none }
def k1c1 : Code := { maxStack := 2, maxLocals := 3, code := method_2_code, exceptionTable := #[], attributes := #[] }
def k1m1 : Method := { name := "in", desc := "(III)Z", sig := { parameters := [.int, .int, .int], returnType := some .boolean }, accessFlags := 10, code := some k1c1 }
def k1c2 : Code := { maxStack := 3, maxLocals := 2, code := method_3_code, exceptionTable := #[], attributes := #[] }
def k1m2 : Method := { name := "ref", desc := "(I)Z", sig := { parameters := [.int], returnType := some .boolean }, accessFlags := 10, code := some k1c2 }
def k1c3 : Code := { maxStack := 4, maxLocals := 8, code := code, exceptionTable := #[], attributes := #[] }
def k1m3 : Method := { name := "law", desc := "(III)Z", sig := { parameters := [.int, .int, .int], returnType := some .boolean }, accessFlags := 9, code := some k1c3 }
/-- com/example/narrow_tree/narrowtree/document/XmlSyntaxIsNcNameStartCharacterPinLaw -/
def k1 : Class := { plain "com/example/narrow_tree/narrowtree/document/XmlSyntaxIsNcNameStartCharacterPinLaw" (some 0) with
  accessFlags := 49
  interfaces := #[]
  cf := some (fileOf pool1 9 #[] #[{ accessFlags := 2, nameIndex := 5, descriptorIndex := 6, attributes := #[] }, { accessFlags := 10, nameIndex := 12, descriptorIndex := 13, attributes := #[] }, { accessFlags := 10, nameIndex := 35, descriptorIndex := 32, attributes := #[] }, { accessFlags := 9, nameIndex := 39, descriptorIndex := 13, attributes := #[] }] 49 2 #[] #[])
  fields := #[]
  methods := #[k1m0, k1m1, k1m2, k1m3]
  instanceTypes := #[]
  staticTypes := #[]
  resolved := Array.replicate 44 none
  statics := none }

def pool2 : Array CpInfo := pool [(2, .class_ 4), (1, u "java/lang/Object"), (0, u "<init>"), (0, u "()V"), (23, .class_ 32), (1, u "com/example/narrow_tree/narrowtree/document/XmlSyntax"), (0, u "isNcNameStartCharacter"), (0, u "(I)Z"), (53, .integer 55295), (0, .integer 63744), (0, .integer 64975), (0, .integer 65008), (0, .integer 65533), (0, .integer 65536), (0, .integer 983039)] 29

def k2m0 : Method := { name := "<init>", desc := "()V", sig := { parameters := [], returnType := none }, accessFlags := 2, code := none }
def k2c1 : Code := { maxStack := 2, maxLocals := 1, code := prog_52_method_9_code, exceptionTable := #[], attributes := #[] }
def k2m1 : Method := { name := "isNcNameStartCharacter", desc := "(I)Z", sig := { parameters := [.int], returnType := some .boolean }, accessFlags := 9, code := some k2c1 }
/-- com/example/narrow_tree/narrowtree/document/XmlSyntax -/
def k2 : Class := { plain "com/example/narrow_tree/narrowtree/document/XmlSyntax" (some 0) with
  accessFlags := 49
  interfaces := #[]
  cf := some (fileOf pool2 30 #[] #[{ accessFlags := 2, nameIndex := 5, descriptorIndex := 6, attributes := #[] }, { accessFlags := 9, nameIndex := 33, descriptorIndex := 34, attributes := #[] }] 49 2 #[] #[])
  fields := #[]
  methods := #[k2m0, k2m1]
  instanceTypes := #[]
  staticTypes := #[]
  resolved := Array.replicate 124 none
  statics := none }

def pool3 : Array CpInfo := pool [(1, u "java/lang/Cloneable"), (0, .class_ 1), (0, u "java/lang/Object"), (0, .class_ 3)] 3

/-- java/lang/Cloneable -/
def k3 : Class := { plain "java/lang/Cloneable" (some 0) with
  accessFlags := 1537
  interfaces := #[]
  cf := some (fileOf pool3 2 #[] #[] 1537 4 #[] #[])
  fields := #[]
  methods := #[]
  instanceTypes := #[]
  staticTypes := #[]
  resolved := Array.replicate 8 none
  statics := none }

def pool4 : Array CpInfo := pool [(1, u "java/io/Serializable"), (0, .class_ 1), (0, u "java/lang/Object"), (0, .class_ 3)] 3

/-- java/io/Serializable -/
def k4 : Class := { plain "java/io/Serializable" (some 0) with
  accessFlags := 1537
  interfaces := #[]
  cf := some (fileOf pool4 2 #[] #[] 1537 4 #[] #[])
  fields := #[]
  methods := #[]
  instanceTypes := #[]
  staticTypes := #[]
  resolved := Array.replicate 8 none
  statics := none }

/-- the primitive byte -/
def k5 : Class := { plain "byte" none with kind := .primitive 'B', accessFlags := 0x411 }
/-- [B -/
def k6 : Class := { plain "[B" (some 0) with kind := .array 5 .byte, interfaces := #[3, 4], accessFlags := 1041 }

/-- the primitive int -/
def k7 : Class := { plain "int" none with kind := .primitive 'I', accessFlags := 0x411 }
/-- [I -/
def k8 : Class := { plain "[I" (some 0) with kind := .array 7 .int, interfaces := #[3, 4], accessFlags := 1041 }

def heap : Heap := #[]
def classes : Array Class := #[k0, k1, k2, k3, k4, k5, k6, k7, k8]
def interned : List (Array UInt16 × Addr) := []
def slotsUsed : Nat := 0
def theMethod : MethodId := ⟨1, 3⟩
def args0 : Array Value := #[.int 5, .int 7, .int 1]
def aboutOver (below : List Frame) : State where
  vm := { classes := classes, interned := interned.toArray }
  heap := heap
  slotsUsed := slotsUsed
  threads := #[{ frames := .invoking theMethod args0 :: below }]
def below0 : List Frame := [.native { method := ⟨0, 0⟩, args := #[] }]
def about1 : State := aboutOver below0
def p0 : Program := .bare "" "" ""
def e0 : Env := launch0.env 0 0 0
theorem w_frames : about1.frames = Frame.invoking theMethod args0 :: below0 := rfl
set_option maxRecDepth 65536 in
theorem w_args : argsFit about1.vm theMethod args0 = true := by decide +kernel
set_option maxRecDepth 65536 in
theorem w_heap : heapFits about1 = true := by decide +kernel
set_option maxRecDepth 65536 in
theorem w_runnable : about1.curStatus? = some .runnable := by decide +kernel
set_option maxRecDepth 65536 in
theorem w_alone : about1.alone = true := by decide +kernel
set_option maxRecDepth 65536 in
theorem w_named : about1.methodNamed? x = some theMethod := by decide +kernel
set_option maxRecDepth 65536 in
theorem w_hears : about1.hears theMethod below0 = true := by decide +kernel
set_option maxRecDepth 65536 in
theorem w_ripe : about1.ripe theMethod args0 below0 = true := by decide +kernel
theorem w_running : about1.status = .running := rfl
set_option maxRecDepth 65536 in
theorem w_room : about1.hasRoom e0.platform room_1 = true :=
  launch0.hasRoom_least _ room_1 (by decide +kernel) (by decide +kernel) (by decide +kernel) (by decide +kernel) (by decide +kernel) (by decide +kernel)
theorem allAtoms_all (ts : List Jvm.Cond) (a : Array Jvm.Value) (st : Jvm.State) : (allAtoms ts).before a st = ts.all (fun c => c.before a st) := by
  induction ts with
  | nil => rfl
  | cons c t ih =>
    show (Jvm.Cond.and c (allAtoms t)).before a st = _
    rw [Jvm.Cond.before_and, ih, List.all_cons]
def words1 : List Jvm.Cond := Jvm.Cond.code x code maxLocals ret :: tables_1
/-- a 'code' word, met by the world's own term for the bytes: nothing is compared byte by byte -/
theorem code_word {y : MethodName} {bytes : ByteArray} {mx : Nat} {rt : Option FieldType} {a : Array Value} {s : State} {m : MethodId} {meth : Method} {c : Code} (h1 : s.methodNamed? y = some m) (h2 : s.vm.method? m = some meth) (h3 : meth.code = some c) (h4 : c.code = bytes)
    (h5 : (c.maxLocals == mx && c.exceptionTable.isEmpty && decide (c.maxStack ≤ mostOperands) && decide (meth.sig.returnType = rt) && !meth.locks && decide (parseMethodDescriptor y.desc = some meth.sig)) = true) : (Jvm.Cond.code y bytes mx rt).before a s = true := by
  simp only [Bool.and_eq_true, beq_iff_eq, Bool.not_eq_true', decide_eq_true_eq] at h5
  obtain ⟨⟨⟨⟨⟨g1, g2⟩, g3⟩, g4⟩, g5⟩, g6⟩ := h5
  simp [Cond.before, Cond.holds, Cond.value, h1, h2, h3, h4, g1, g2, g3, g4, g5, g6]
def isCode : Jvm.Cond → Bool
  | .code _ _ _ _ => true
  | _ => false
theorem all_split {L : List Jvm.Cond} {P : Jvm.Cond → Bool} (h1 : L.all (fun c => isCode c || P c) = true) (h2 : ∀ c ∈ L.filter isCode, P c = true) : L.all P = true := by
  refine List.all_eq_true.mpr fun c hc => ?_
  have h := List.all_eq_true.mp h1 c hc
  rcases Bool.eq_false_or_eq_true (isCode c) with hi | hi
  · exact h2 c (List.mem_filter.mpr ⟨hc, hi⟩)
  · simpa [hi] using h
set_option maxRecDepth 65536 in
theorem w_c0 : (Jvm.Cond.code x code maxLocals ret).before args0 about1 = true := code_word (m := ⟨1, 3⟩) (meth := k1m3) (c := k1c3) (by decide +kernel) rfl rfl rfl (by decide +kernel)
set_option maxRecDepth 65536 in
theorem w_c1 : (Jvm.Cond.code ({ cls := "com/example/narrow_tree/narrowtree/document/XmlSyntax", name := "isNcNameStartCharacter", desc := "(I)Z" } : Jvm.MethodName) prog_52_method_9_code (1 : Nat) (Option.some Jvm.ClassFile.FieldType.boolean)).before args0 about1 = true := code_word (m := ⟨2, 1⟩) (meth := k2m1) (c := k2c1) (by decide +kernel) rfl rfl rfl (by decide +kernel)
set_option maxRecDepth 65536 in
theorem w_c2 : (Jvm.Cond.code ({ cls := "com/example/narrow_tree/narrowtree/document/XmlSyntaxIsNcNameStartCharacterPinLaw", name := "ref", desc := "(I)Z" } : Jvm.MethodName) method_3_code (2 : Nat) (Option.some Jvm.ClassFile.FieldType.boolean)).before args0 about1 = true := code_word (m := ⟨1, 2⟩) (meth := k1m2) (c := k1c2) (by decide +kernel) rfl rfl rfl (by decide +kernel)
set_option maxRecDepth 65536 in
theorem w_c3 : (Jvm.Cond.code ({ cls := "com/example/narrow_tree/narrowtree/document/XmlSyntaxIsNcNameStartCharacterPinLaw", name := "in", desc := "(III)Z" } : Jvm.MethodName) method_2_code (3 : Nat) (Option.some Jvm.ClassFile.FieldType.boolean)).before args0 about1 = true := code_word (m := ⟨1, 1⟩) (meth := k1m1) (c := k1c1) (by decide +kernel) rfl rfl rfl (by decide +kernel)
def codes1 : List Jvm.Cond := [Jvm.Cond.code x code maxLocals ret, Jvm.Cond.code ({ cls := "com/example/narrow_tree/narrowtree/document/XmlSyntax", name := "isNcNameStartCharacter", desc := "(I)Z" } : Jvm.MethodName) prog_52_method_9_code (1 : Nat) (Option.some Jvm.ClassFile.FieldType.boolean), Jvm.Cond.code ({ cls := "com/example/narrow_tree/narrowtree/document/XmlSyntaxIsNcNameStartCharacterPinLaw", name := "ref", desc := "(I)Z" } : Jvm.MethodName) method_3_code (2 : Nat) (Option.some Jvm.ClassFile.FieldType.boolean), Jvm.Cond.code ({ cls := "com/example/narrow_tree/narrowtree/document/XmlSyntaxIsNcNameStartCharacterPinLaw", name := "in", desc := "(III)Z" } : Jvm.MethodName) method_2_code (3 : Nat) (Option.some Jvm.ClassFile.FieldType.boolean)]
set_option maxRecDepth 65536 in
theorem codes_eq : words1.filter isCode = codes1 := rfl
theorem w_codes : ∀ c ∈ words1.filter isCode, c.before args0 about1 = true := by
  rw [codes_eq]
  intro c hc
  simp only [codes1, List.mem_cons, List.not_mem_nil, or_false] at hc
  rcases hc with rfl | rfl | rfl | rfl
  · exact w_c0
  · exact w_c1
  · exact w_c2
  · exact w_c3
set_option maxRecDepth 65536 in
theorem w_t1 : (words1.take 24).all (fun c => isCode c || c.before args0 about1) = true := by decide +kernel
set_option maxRecDepth 65536 in
theorem w_t2 : (words1.drop 24).all (fun c => isCode c || c.before args0 about1) = true := by decide +kernel
theorem w_tables : (allAtoms (Jvm.Cond.code x code maxLocals ret :: tables_1)).before args0 about1 = true := by
  rw [allAtoms_all]
  show words1.all (fun c => c.before args0 about1) = true
  refine all_split ?_ w_codes
  rw [← List.take_append_drop 24 words1, List.all_append, w_t1, w_t2]
  rfl
set_option maxRecDepth 65536 in
theorem w_case : (Jvm.Cond.and given_1 narrow_1).before args0 about1 = true := by decide +kernel
theorem w_applies : (headSpec (Jvm.Cond.code x code maxLocals ret :: tables_1) room_1).applies x e0.platform about1 = true :=
  (Spec.applies_iff w_frames).mpr ⟨w_running, w_runnable, w_alone, w_named, w_hears, w_ripe, w_room, w_tables⟩
theorem atStart : AtStart classFile x code maxLocals ret World_1 tables_1 room_1 Calls_1 rest_1 Pre_1 launch0 p0 e0 about1 theMethod args0 below0 :=
  ⟨lists_1, trivial, launch0.admits_env _ _ _, launch0.least_env, fairChoices_fair.cas, fairChoices_fair.clock, w_frames, w_args, w_heap, w_applies, trivial, trivial, w_case⟩
end start1
theorem witness_1 : WitnessClaimed_1 := ⟨start1.p0, start1.e0, start1.about1, start1.theMethod, start1.args0, start1.below0, start1.atStart⟩
end Jvm.Pilot.@@N@@
