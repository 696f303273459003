import JvmDerived
import JvmDerived.Pilot.@@N@@Statement
import JvmDerived.Pilot.@@N@@Code
set_option linter.unusedVariables false
set_option linter.unusedSimpArgs false
namespace Jvm.RoadKit
open Sem ClassFile Op Lib Jvm.Stand Jvm.Free Jvm.LawKit
section New
variable {p : Program} {l : Launch} {e : Env} {R : Room} {s : State} {m : MethodId} {args : Array Value} {below : List Frame} {meth : Method} {c : Code} {T : State} {locs : List Loc} {cells slots : Nat}
theorem retI (X : Stand p l e R s m args below meth c T locs cells slots) (hx : p.tables.exec = Jvm.exec) {pc : Nat} {Ls : Array Slot} {z : Int32} {rest : List Value} (hret : meth.sig.returnType = some .int) (hd : decode c.code pc = .ok (.ireturn, 1)) {fs : List Frame}
    (hl : ∀ (f : JFrame) (acts : List Action), f.method = m → f.locked = none → f.entered = [] → (doReturn e (T.setTop f) acts (some (.int z))).1 = T.setFrames fs) : Steps p.tables e below (T.setTop (mkF m pc Ls (.int z :: rest))) (T.setFrames fs) := by
  have hm' : T.vm.method? m = some meth := X.method'
  have hn : narrow .int (.int z) = .int z := rfl
  show Steps p.tables e below (T.setTop { method := m, pc := pc, locals := Ls, stack := _ :: rest, locked := none }) _
  jvm_step X.here [X.here.top, hx, hd, hm', hret, hn]
  first | (intro acts; rw [hl _ acts rfl rfl rfl]) | rw [hl _ _ rfl rfl rfl]
  exact Steps.refl _
end New
end Jvm.RoadKit
namespace Jvm.Pilot.@@N@@
open Jvm Jvm.ClassFile Sem Op Lib Jvm.Free Jvm.Stand Jvm.LawKit Jvm.RoadKit Bundle Jvm.Pilot.@@N@@.Jvm.D
def own_bs : List (Int32 × Int32) → Int32 → Int32
  | [], _ => 0
  | (lo, hi) :: r, c => if c < lo then own_bs r c else if hi < c then own_bs r c else 1
theorem own_bs_lt {lo hi : Int32} {r : List (Int32 × Int32)} {c : Int32} (h : c < lo) : own_bs ((lo, hi) :: r) c = own_bs r c := if_pos h
theorem own_bs_gt {lo hi : Int32} {r : List (Int32 × Int32)} {c : Int32} (h : ¬ c < lo) (h2 : hi < c) : own_bs ((lo, hi) :: r) c = own_bs r c := (if_neg h).trans (if_pos h2)
theorem own_bs_in {lo hi : Int32} {r : List (Int32 × Int32)} {c : Int32} (h : ¬ c < lo) (h2 : ¬ hi < c) : own_bs ((lo, hi) :: r) c = 1 := (if_neg h).trans (if_neg h2)
theorem own_bs_zero {c : Int32} : ∀ (L : List (Int32 × Int32)), (∀ p ∈ L, c.toInt < p.1.toInt ∨ p.2.toInt < c.toInt) → own_bs L c = 0
  | [], _ => rfl
  | (lo, hi) :: r, h => by
    have ih := own_bs_zero r (fun p hp => h p (List.mem_cons_of_mem _ hp))
    by_cases h1 : c < lo
    · rw [own_bs_lt h1, ih]
    · rw [own_bs_gt h1 ((h _ (List.mem_cons_self ..)).elim (fun q => absurd (Int32.lt_iff_toInt_lt.mpr q) h1) (fun q => Int32.lt_iff_toInt_lt.mpr q)), ih]
theorem own_bs_one {c : Int32} : ∀ (L : List (Int32 × Int32)) (p : Int32 × Int32), p ∈ L → p.1.toInt ≤ c.toInt → c.toInt ≤ p.2.toInt → own_bs L c = 1
  | (lo, hi) :: r, p, hp, h1, h2 => by
    by_cases a1 : c < lo
    · rcases List.mem_cons.mp hp with rfl | hp
      · exact absurd (Int32.lt_iff_toInt_lt.mp a1) (Int.not_lt.mpr h1)
      · rw [own_bs_lt a1]; exact own_bs_one r p hp h1 h2
    · by_cases a2 : hi < c
      · rcases List.mem_cons.mp hp with rfl | hp
        · exact absurd (Int32.lt_iff_toInt_lt.mp a2) (Int.not_lt.mpr h2)
        · rw [own_bs_gt a1 a2]; exact own_bs_one r p hp h1 h2
      · exact own_bs_in a1 a2
def own_L : List (Int32 × Int32) := [((65 : Int32), (90 : Int32)), ((97 : Int32), (122 : Int32)), ((192 : Int32), (214 : Int32)), ((216 : Int32), (246 : Int32)), ((248 : Int32), (767 : Int32)), ((880 : Int32), (893 : Int32)), ((895 : Int32), (8191 : Int32)), ((8204 : Int32), (8205 : Int32)), ((8304 : Int32), (8591 : Int32)), ((11264 : Int32), (12271 : Int32)), ((12289 : Int32), (55295 : Int32)), ((63744 : Int32), (64975 : Int32)), ((65008 : Int32), (65533 : Int32)), ((65536 : Int32), (983039 : Int32))]
def own_in (c a b : Int32) : Int32 := if c < a then 0 else if b < c then 0 else 1
theorem own_in_yes {c a b : Int32} (h : ¬ own_in c a b = 0) : a.toInt ≤ c.toInt ∧ c.toInt ≤ b.toInt := by
  unfold own_in at h
  by_cases h1 : c < a
  · rw [if_pos h1] at h; exact absurd rfl h
  · rw [if_neg h1] at h
    by_cases h2 : b < c
    · rw [if_pos h2] at h; exact absurd rfl h
    · rw [Int32.lt_iff_toInt_lt] at h1 h2; omega
theorem own_in_no {c a b : Int32} (h : own_in c a b = 0) : c.toInt < a.toInt ∨ b.toInt < c.toInt := by
  unfold own_in at h
  by_cases h1 : c < a
  · exact Or.inl (Int32.lt_iff_toInt_lt.mp h1)
  · rw [if_neg h1] at h
    by_cases h2 : b < c
    · exact Or.inr (Int32.lt_iff_toInt_lt.mp h2)
    · rw [if_neg h2] at h; exact absurd h (by decide)
theorem own_gap (c : Int32) (a b : Int) (h1 : a ≤ c.toInt) (h2 : c.toInt ≤ b) (h : ∀ p ∈ own_L, b < p.1.toInt ∨ p.2.toInt < a) : own_bs own_L c = 0 :=
  own_bs_zero own_L fun p hp => (h p hp).elim (fun q => Or.inl (by omega)) (fun q => Or.inr (by omega))
theorem own_low (c : Int32) (h : c < (65 : Int32)) : own_bs own_L c = 0 := by
  have h' := Int32.lt_iff_toInt_lt.mp h
  have e : (65 : Int32).toInt = 65 := by decide
  exact own_gap c c.toInt 64 (Int.le_refl _) (by omega) (fun p hp => Or.inl ((by decide : ∀ p ∈ own_L, (64 : Int) < p.1.toInt) p hp))
theorem own_high (c : Int32) (h : (983039 : Int32) < c) : own_bs own_L c = 0 := by
  have h' := Int32.lt_iff_toInt_lt.mp h
  have e : (983039 : Int32).toInt = 983039 := by decide
  exact own_gap c 983040 c.toInt (by omega) (Int.le_refl _) (fun p hp => Or.inr ((by decide : ∀ p ∈ own_L, p.2.toInt < (983040 : Int)) p hp))
theorem own_g0 (c : Int32) (h : ¬ own_in c (91 : Int32) (96 : Int32) = 0) : own_bs own_L c = 0 := by
  have h' := own_in_yes h
  have e1 : (91 : Int32).toInt = 91 := by decide
  have e2 : (96 : Int32).toInt = 96 := by decide
  exact own_gap c 91 96 (by omega) (by omega) (by decide)
theorem own_g1 (c : Int32) (h : ¬ own_in c (123 : Int32) (191 : Int32) = 0) : own_bs own_L c = 0 := by
  have h' := own_in_yes h
  have e1 : (123 : Int32).toInt = 123 := by decide
  have e2 : (191 : Int32).toInt = 191 := by decide
  exact own_gap c 123 191 (by omega) (by omega) (by decide)
theorem own_g2 (c : Int32) (h : c = (215 : Int32)) : own_bs own_L c = 0 := by rw [h]; decide
theorem own_g3 (c : Int32) (h : c = (247 : Int32)) : own_bs own_L c = 0 := by rw [h]; decide
theorem own_g4 (c : Int32) (h : ¬ own_in c (768 : Int32) (879 : Int32) = 0) : own_bs own_L c = 0 := by
  have h' := own_in_yes h
  have e1 : (768 : Int32).toInt = 768 := by decide
  have e2 : (879 : Int32).toInt = 879 := by decide
  exact own_gap c 768 879 (by omega) (by omega) (by decide)
theorem own_g5 (c : Int32) (h : c = (894 : Int32)) : own_bs own_L c = 0 := by rw [h]; decide
theorem own_g6 (c : Int32) (h : ¬ own_in c (8192 : Int32) (8203 : Int32) = 0) : own_bs own_L c = 0 := by
  have h' := own_in_yes h
  have e1 : (8192 : Int32).toInt = 8192 := by decide
  have e2 : (8203 : Int32).toInt = 8203 := by decide
  exact own_gap c 8192 8203 (by omega) (by omega) (by decide)
theorem own_g7 (c : Int32) (h : ¬ own_in c (8206 : Int32) (8303 : Int32) = 0) : own_bs own_L c = 0 := by
  have h' := own_in_yes h
  have e1 : (8206 : Int32).toInt = 8206 := by decide
  have e2 : (8303 : Int32).toInt = 8303 := by decide
  exact own_gap c 8206 8303 (by omega) (by omega) (by decide)
theorem own_g8 (c : Int32) (h : ¬ own_in c (8592 : Int32) (11263 : Int32) = 0) : own_bs own_L c = 0 := by
  have h' := own_in_yes h
  have e1 : (8592 : Int32).toInt = 8592 := by decide
  have e2 : (11263 : Int32).toInt = 11263 := by decide
  exact own_gap c 8592 11263 (by omega) (by omega) (by decide)
theorem own_g9 (c : Int32) (h : ¬ own_in c (12272 : Int32) (12288 : Int32) = 0) : own_bs own_L c = 0 := by
  have h' := own_in_yes h
  have e1 : (12272 : Int32).toInt = 12272 := by decide
  have e2 : (12288 : Int32).toInt = 12288 := by decide
  exact own_gap c 12272 12288 (by omega) (by omega) (by decide)
theorem own_g10 (c : Int32) (h : ¬ own_in c (55296 : Int32) (63743 : Int32) = 0) : own_bs own_L c = 0 := by
  have h' := own_in_yes h
  have e1 : (55296 : Int32).toInt = 55296 := by decide
  have e2 : (63743 : Int32).toInt = 63743 := by decide
  exact own_gap c 55296 63743 (by omega) (by omega) (by decide)
theorem own_g11 (c : Int32) (h : ¬ own_in c (64976 : Int32) (65007 : Int32) = 0) : own_bs own_L c = 0 := by
  have h' := own_in_yes h
  have e1 : (64976 : Int32).toInt = 64976 := by decide
  have e2 : (65007 : Int32).toInt = 65007 := by decide
  exact own_gap c 64976 65007 (by omega) (by omega) (by decide)
theorem own_g12 (c : Int32) (h : ¬ own_in c (65534 : Int32) (65535 : Int32) = 0) : own_bs own_L c = 0 := by
  have h' := own_in_yes h
  have e1 : (65534 : Int32).toInt = 65534 := by decide
  have e2 : (65535 : Int32).toInt = 65535 := by decide
  exact own_gap c 65534 65535 (by omega) (by omega) (by decide)
theorem own_none (c : Int32) (h0 : ¬ c < (65 : Int32)) (h1 : ¬ (983039 : Int32) < c) (g0 : own_in c (91 : Int32) (96 : Int32) = 0) (g1 : own_in c (123 : Int32) (191 : Int32) = 0) (g2 : ¬ c = (215 : Int32)) (g3 : ¬ c = (247 : Int32)) (g4 : own_in c (768 : Int32) (879 : Int32) = 0) (g5 : ¬ c = (894 : Int32)) (g6 : own_in c (8192 : Int32) (8203 : Int32) = 0) (g7 : own_in c (8206 : Int32) (8303 : Int32) = 0) (g8 : own_in c (8592 : Int32) (11263 : Int32) = 0) (g9 : own_in c (12272 : Int32) (12288 : Int32) = 0) (g10 : own_in c (55296 : Int32) (63743 : Int32) = 0) (g11 : own_in c (64976 : Int32) (65007 : Int32) = 0) (g12 : own_in c (65534 : Int32) (65535 : Int32) = 0) : own_bs own_L c = 1 := by
  have k0 : 65 ≤ c.toInt := by rw [Int32.lt_iff_toInt_lt, (by decide : (65 : Int32).toInt = 65)] at h0; omega
  have kz : c.toInt ≤ 983039 := by rw [Int32.lt_iff_toInt_lt, (by decide : (983039 : Int32).toInt = 983039)] at h1; omega
  have j0 : c.toInt < 91 ∨ 96 < c.toInt := by have q := own_in_no g0; rw [(by decide : (91 : Int32).toInt = 91), (by decide : (96 : Int32).toInt = 96)] at q; exact q
  have j1 : c.toInt < 123 ∨ 191 < c.toInt := by have q := own_in_no g1; rw [(by decide : (123 : Int32).toInt = 123), (by decide : (191 : Int32).toInt = 191)] at q; exact q
  have j2 : c.toInt < 215 ∨ 215 < c.toInt := by rw [← Int32.toInt_inj, (by decide : (215 : Int32).toInt = 215)] at g2; exact Int.lt_or_gt_of_ne g2
  have j3 : c.toInt < 247 ∨ 247 < c.toInt := by rw [← Int32.toInt_inj, (by decide : (247 : Int32).toInt = 247)] at g3; exact Int.lt_or_gt_of_ne g3
  have j4 : c.toInt < 768 ∨ 879 < c.toInt := by have q := own_in_no g4; rw [(by decide : (768 : Int32).toInt = 768), (by decide : (879 : Int32).toInt = 879)] at q; exact q
  have j5 : c.toInt < 894 ∨ 894 < c.toInt := by rw [← Int32.toInt_inj, (by decide : (894 : Int32).toInt = 894)] at g5; exact Int.lt_or_gt_of_ne g5
  have j6 : c.toInt < 8192 ∨ 8203 < c.toInt := by have q := own_in_no g6; rw [(by decide : (8192 : Int32).toInt = 8192), (by decide : (8203 : Int32).toInt = 8203)] at q; exact q
  have j7 : c.toInt < 8206 ∨ 8303 < c.toInt := by have q := own_in_no g7; rw [(by decide : (8206 : Int32).toInt = 8206), (by decide : (8303 : Int32).toInt = 8303)] at q; exact q
  have j8 : c.toInt < 8592 ∨ 11263 < c.toInt := by have q := own_in_no g8; rw [(by decide : (8592 : Int32).toInt = 8592), (by decide : (11263 : Int32).toInt = 11263)] at q; exact q
  have j9 : c.toInt < 12272 ∨ 12288 < c.toInt := by have q := own_in_no g9; rw [(by decide : (12272 : Int32).toInt = 12272), (by decide : (12288 : Int32).toInt = 12288)] at q; exact q
  have j10 : c.toInt < 55296 ∨ 63743 < c.toInt := by have q := own_in_no g10; rw [(by decide : (55296 : Int32).toInt = 55296), (by decide : (63743 : Int32).toInt = 63743)] at q; exact q
  have j11 : c.toInt < 64976 ∨ 65007 < c.toInt := by have q := own_in_no g11; rw [(by decide : (64976 : Int32).toInt = 64976), (by decide : (65007 : Int32).toInt = 65007)] at q; exact q
  have j12 : c.toInt < 65534 ∨ 65535 < c.toInt := by have q := own_in_no g12; rw [(by decide : (65534 : Int32).toInt = 65534), (by decide : (65535 : Int32).toInt = 65535)] at q; exact q
  clear h0 h1 g0 g1 g2 g3 g4 g5 g6 g7 g8 g9 g10 g11 g12
  by_cases b0 : c.toInt ≤ 90
  · exact own_bs_one own_L ((65 : Int32), (90 : Int32)) (by decide) (by rw [(by decide : (65 : Int32).toInt = 65)]; exact k0) (by rw [(by decide : (90 : Int32).toInt = 90)]; exact b0)
  have m0 : 96 < c.toInt := j0.resolve_left (Int.not_lt.mpr (Int.add_one_le_of_lt (Int.not_le.mp b0)))
  have k1 : 97 ≤ c.toInt := m0
  by_cases b1 : c.toInt ≤ 122
  · exact own_bs_one own_L ((97 : Int32), (122 : Int32)) (by decide) (by rw [(by decide : (97 : Int32).toInt = 97)]; exact k1) (by rw [(by decide : (122 : Int32).toInt = 122)]; exact b1)
  have m1 : 191 < c.toInt := j1.resolve_left (Int.not_lt.mpr (Int.add_one_le_of_lt (Int.not_le.mp b1)))
  have k2 : 192 ≤ c.toInt := m1
  by_cases b2 : c.toInt ≤ 214
  · exact own_bs_one own_L ((192 : Int32), (214 : Int32)) (by decide) (by rw [(by decide : (192 : Int32).toInt = 192)]; exact k2) (by rw [(by decide : (214 : Int32).toInt = 214)]; exact b2)
  have m2 : 215 < c.toInt := j2.resolve_left (Int.not_lt.mpr (Int.add_one_le_of_lt (Int.not_le.mp b2)))
  have k3 : 216 ≤ c.toInt := m2
  by_cases b3 : c.toInt ≤ 246
  · exact own_bs_one own_L ((216 : Int32), (246 : Int32)) (by decide) (by rw [(by decide : (216 : Int32).toInt = 216)]; exact k3) (by rw [(by decide : (246 : Int32).toInt = 246)]; exact b3)
  have m3 : 247 < c.toInt := j3.resolve_left (Int.not_lt.mpr (Int.add_one_le_of_lt (Int.not_le.mp b3)))
  have k4 : 248 ≤ c.toInt := m3
  by_cases b4 : c.toInt ≤ 767
  · exact own_bs_one own_L ((248 : Int32), (767 : Int32)) (by decide) (by rw [(by decide : (248 : Int32).toInt = 248)]; exact k4) (by rw [(by decide : (767 : Int32).toInt = 767)]; exact b4)
  have m4 : 879 < c.toInt := j4.resolve_left (Int.not_lt.mpr (Int.add_one_le_of_lt (Int.not_le.mp b4)))
  have k5 : 880 ≤ c.toInt := m4
  by_cases b5 : c.toInt ≤ 893
  · exact own_bs_one own_L ((880 : Int32), (893 : Int32)) (by decide) (by rw [(by decide : (880 : Int32).toInt = 880)]; exact k5) (by rw [(by decide : (893 : Int32).toInt = 893)]; exact b5)
  have m5 : 894 < c.toInt := j5.resolve_left (Int.not_lt.mpr (Int.add_one_le_of_lt (Int.not_le.mp b5)))
  have k6 : 895 ≤ c.toInt := m5
  by_cases b6 : c.toInt ≤ 8191
  · exact own_bs_one own_L ((895 : Int32), (8191 : Int32)) (by decide) (by rw [(by decide : (895 : Int32).toInt = 895)]; exact k6) (by rw [(by decide : (8191 : Int32).toInt = 8191)]; exact b6)
  have m6 : 8203 < c.toInt := j6.resolve_left (Int.not_lt.mpr (Int.add_one_le_of_lt (Int.not_le.mp b6)))
  have k7 : 8204 ≤ c.toInt := m6
  by_cases b7 : c.toInt ≤ 8205
  · exact own_bs_one own_L ((8204 : Int32), (8205 : Int32)) (by decide) (by rw [(by decide : (8204 : Int32).toInt = 8204)]; exact k7) (by rw [(by decide : (8205 : Int32).toInt = 8205)]; exact b7)
  have m7 : 8303 < c.toInt := j7.resolve_left (Int.not_lt.mpr (Int.add_one_le_of_lt (Int.not_le.mp b7)))
  have k8 : 8304 ≤ c.toInt := m7
  by_cases b8 : c.toInt ≤ 8591
  · exact own_bs_one own_L ((8304 : Int32), (8591 : Int32)) (by decide) (by rw [(by decide : (8304 : Int32).toInt = 8304)]; exact k8) (by rw [(by decide : (8591 : Int32).toInt = 8591)]; exact b8)
  have m8 : 11263 < c.toInt := j8.resolve_left (Int.not_lt.mpr (Int.add_one_le_of_lt (Int.not_le.mp b8)))
  have k9 : 11264 ≤ c.toInt := m8
  by_cases b9 : c.toInt ≤ 12271
  · exact own_bs_one own_L ((11264 : Int32), (12271 : Int32)) (by decide) (by rw [(by decide : (11264 : Int32).toInt = 11264)]; exact k9) (by rw [(by decide : (12271 : Int32).toInt = 12271)]; exact b9)
  have m9 : 12288 < c.toInt := j9.resolve_left (Int.not_lt.mpr (Int.add_one_le_of_lt (Int.not_le.mp b9)))
  have k10 : 12289 ≤ c.toInt := m9
  by_cases b10 : c.toInt ≤ 55295
  · exact own_bs_one own_L ((12289 : Int32), (55295 : Int32)) (by decide) (by rw [(by decide : (12289 : Int32).toInt = 12289)]; exact k10) (by rw [(by decide : (55295 : Int32).toInt = 55295)]; exact b10)
  have m10 : 63743 < c.toInt := j10.resolve_left (Int.not_lt.mpr (Int.add_one_le_of_lt (Int.not_le.mp b10)))
  have k11 : 63744 ≤ c.toInt := m10
  by_cases b11 : c.toInt ≤ 64975
  · exact own_bs_one own_L ((63744 : Int32), (64975 : Int32)) (by decide) (by rw [(by decide : (63744 : Int32).toInt = 63744)]; exact k11) (by rw [(by decide : (64975 : Int32).toInt = 64975)]; exact b11)
  have m11 : 65007 < c.toInt := j11.resolve_left (Int.not_lt.mpr (Int.add_one_le_of_lt (Int.not_le.mp b11)))
  have k12 : 65008 ≤ c.toInt := m11
  by_cases b12 : c.toInt ≤ 65533
  · exact own_bs_one own_L ((65008 : Int32), (65533 : Int32)) (by decide) (by rw [(by decide : (65008 : Int32).toInt = 65008)]; exact k12) (by rw [(by decide : (65533 : Int32).toInt = 65533)]; exact b12)
  have m12 : 65535 < c.toInt := j12.resolve_left (Int.not_lt.mpr (Int.add_one_le_of_lt (Int.not_le.mp b12)))
  have k13 : 65536 ≤ c.toInt := m12
  have b13 : c.toInt ≤ 983039 := kz
  exact own_bs_one own_L ((65536 : Int32), (983039 : Int32)) (by decide) (by rw [(by decide : (65536 : Int32).toInt = 65536)]; exact k13) (by rw [(by decide : (983039 : Int32).toInt = 983039)]; exact b13)
theorem own_mod (p : Int32) : ¬ ((p &&& (2147483647 : Int32)) % (28 : Int32)) < 0 ∧ ((p &&& (2147483647 : Int32)) % (28 : Int32)) < (28 : Int32) := by
  have h : (p &&& (2147483647 : Int32)).toBitVec.msb = false := by
    rw [Int32.toBitVec_and, BitVec.msb_and]
    have : (2147483647 : Int32).toBitVec.msb = false := by decide
    rw [this, Bool.and_false]
  rw [BitVec.msb_eq_toInt, decide_eq_false_iff_not] at h
  have h' : 0 ≤ (p &&& (2147483647 : Int32)).toInt := Int.not_lt.mp h
  have e0 : (0 : Int32).toInt = 0 := by decide
  have e28 : (28 : Int32).toInt = 28 := by decide
  rw [Int32.lt_iff_toInt_lt, Int32.lt_iff_toInt_lt, Int32.toInt_mod, e28, e0, Int.tmod_eq_emod_of_nonneg h']
  omega

theorem own_store {Z : State} {h h' : Heap} {a : Addr} {k : ClassId} {z j : Int32} {vs : List Value} {dv v : Value} {c : Cell} (A : Arr Z h a c .int) (q1 : c.cls = k) (S : c.slots.size = z.toNatClampNeg) (q3 : ¬ z < 0) (H : Has c vs dv) (G : ∀ i, i < c.slots.size → fits .int (vs.getD i dv) = true) (hv : fits .int v = true) (W : Wr h h' a j.toNatClampNeg v) (i : Nat) (hj : j.toNatClampNeg = i) (hl : vs.length = 28) (hi : i < 28) : ∃ vs' : List Value, vs'.length = 28 ∧ Arv Z h' a k .int z vs' dv :=
  ⟨vs.set i v, by rw [List.length_set]; exact hl, Arv.set A q1 S q3 H G hv W i hj (by rw [hl]; exact hi)⟩
theorem own_slot {x : Option Value} {v : Value} (h : x = some v) (f : fits .int v = true) : ∃ w : Int32, x = some (.int w) := by
  cases v <;> first | exact ⟨_, h⟩ | exact absurd f Bool.false_ne_true
theorem d1_0 : decode prog_45_method_2_code 0 = .ok (.iload_n 0, 1) := by decide +kernel
theorem d1_1 : decode prog_45_method_2_code 1 = .ok (.bipush 65, 2) := by decide +kernel
theorem d1_3 : decode prog_45_method_2_code 3 = .ok (.if_icmp .lt 9, 3) := by decide +kernel
theorem d1_6 : decode prog_45_method_2_code 6 = .ok (.iload_n 0, 1) := by decide +kernel
theorem d1_7 : decode prog_45_method_2_code 7 = .ok (.bipush 90, 2) := by decide +kernel
theorem d1_9 : decode prog_45_method_2_code 9 = .ok (.if_icmp .le 176, 3) := by decide +kernel
theorem d1_12 : decode prog_45_method_2_code 12 = .ok (.iload_n 0, 1) := by decide +kernel
theorem d1_13 : decode prog_45_method_2_code 13 = .ok (.bipush 97, 2) := by decide +kernel
theorem d1_15 : decode prog_45_method_2_code 15 = .ok (.if_icmp .lt 9, 3) := by decide +kernel
theorem d1_18 : decode prog_45_method_2_code 18 = .ok (.iload_n 0, 1) := by decide +kernel
theorem d1_19 : decode prog_45_method_2_code 19 = .ok (.bipush 122, 2) := by decide +kernel
theorem d1_21 : decode prog_45_method_2_code 21 = .ok (.if_icmp .le 164, 3) := by decide +kernel
theorem d1_24 : decode prog_45_method_2_code 24 = .ok (.iload_n 0, 1) := by decide +kernel
theorem d1_25 : decode prog_45_method_2_code 25 = .ok (.sipush 192, 3) := by decide +kernel
theorem d1_28 : decode prog_45_method_2_code 28 = .ok (.if_icmp .lt 10, 3) := by decide +kernel
theorem d1_31 : decode prog_45_method_2_code 31 = .ok (.iload_n 0, 1) := by decide +kernel
theorem d1_32 : decode prog_45_method_2_code 32 = .ok (.sipush 214, 3) := by decide +kernel
theorem d1_35 : decode prog_45_method_2_code 35 = .ok (.if_icmp .le 150, 3) := by decide +kernel
theorem d1_38 : decode prog_45_method_2_code 38 = .ok (.iload_n 0, 1) := by decide +kernel
theorem d1_39 : decode prog_45_method_2_code 39 = .ok (.sipush 216, 3) := by decide +kernel
theorem d1_42 : decode prog_45_method_2_code 42 = .ok (.if_icmp .lt 10, 3) := by decide +kernel
theorem d1_45 : decode prog_45_method_2_code 45 = .ok (.iload_n 0, 1) := by decide +kernel
theorem d1_46 : decode prog_45_method_2_code 46 = .ok (.sipush 246, 3) := by decide +kernel
theorem d1_49 : decode prog_45_method_2_code 49 = .ok (.if_icmp .le 136, 3) := by decide +kernel
theorem d1_52 : decode prog_45_method_2_code 52 = .ok (.iload_n 0, 1) := by decide +kernel
theorem d1_53 : decode prog_45_method_2_code 53 = .ok (.sipush 248, 3) := by decide +kernel
theorem d1_56 : decode prog_45_method_2_code 56 = .ok (.if_icmp .lt 10, 3) := by decide +kernel
theorem d1_59 : decode prog_45_method_2_code 59 = .ok (.iload_n 0, 1) := by decide +kernel
theorem d1_60 : decode prog_45_method_2_code 60 = .ok (.sipush 767, 3) := by decide +kernel
theorem d1_63 : decode prog_45_method_2_code 63 = .ok (.if_icmp .le 122, 3) := by decide +kernel
theorem d1_66 : decode prog_45_method_2_code 66 = .ok (.iload_n 0, 1) := by decide +kernel
theorem d1_67 : decode prog_45_method_2_code 67 = .ok (.sipush 880, 3) := by decide +kernel
theorem d1_70 : decode prog_45_method_2_code 70 = .ok (.if_icmp .lt 10, 3) := by decide +kernel
theorem d1_73 : decode prog_45_method_2_code 73 = .ok (.iload_n 0, 1) := by decide +kernel
theorem d1_74 : decode prog_45_method_2_code 74 = .ok (.sipush 893, 3) := by decide +kernel
theorem d1_77 : decode prog_45_method_2_code 77 = .ok (.if_icmp .le 108, 3) := by decide +kernel
theorem d1_80 : decode prog_45_method_2_code 80 = .ok (.iload_n 0, 1) := by decide +kernel
theorem d1_81 : decode prog_45_method_2_code 81 = .ok (.sipush 895, 3) := by decide +kernel
theorem d1_84 : decode prog_45_method_2_code 84 = .ok (.if_icmp .lt 10, 3) := by decide +kernel
theorem d1_87 : decode prog_45_method_2_code 87 = .ok (.iload_n 0, 1) := by decide +kernel
theorem d1_88 : decode prog_45_method_2_code 88 = .ok (.sipush 8191, 3) := by decide +kernel
theorem d1_91 : decode prog_45_method_2_code 91 = .ok (.if_icmp .le 94, 3) := by decide +kernel
theorem d1_94 : decode prog_45_method_2_code 94 = .ok (.iload_n 0, 1) := by decide +kernel
theorem d1_95 : decode prog_45_method_2_code 95 = .ok (.sipush 8204, 3) := by decide +kernel
theorem d1_98 : decode prog_45_method_2_code 98 = .ok (.if_icmp .lt 10, 3) := by decide +kernel
theorem d1_101 : decode prog_45_method_2_code 101 = .ok (.iload_n 0, 1) := by decide +kernel
theorem d1_102 : decode prog_45_method_2_code 102 = .ok (.sipush 8205, 3) := by decide +kernel
theorem d1_105 : decode prog_45_method_2_code 105 = .ok (.if_icmp .le 80, 3) := by decide +kernel
theorem d1_108 : decode prog_45_method_2_code 108 = .ok (.iload_n 0, 1) := by decide +kernel
theorem d1_109 : decode prog_45_method_2_code 109 = .ok (.sipush 8304, 3) := by decide +kernel
theorem d1_112 : decode prog_45_method_2_code 112 = .ok (.if_icmp .lt 10, 3) := by decide +kernel
theorem d1_115 : decode prog_45_method_2_code 115 = .ok (.iload_n 0, 1) := by decide +kernel
theorem d1_116 : decode prog_45_method_2_code 116 = .ok (.sipush 8591, 3) := by decide +kernel
theorem d1_119 : decode prog_45_method_2_code 119 = .ok (.if_icmp .le 66, 3) := by decide +kernel
theorem d1_122 : decode prog_45_method_2_code 122 = .ok (.iload_n 0, 1) := by decide +kernel
theorem d1_123 : decode prog_45_method_2_code 123 = .ok (.sipush 11264, 3) := by decide +kernel
theorem d1_126 : decode prog_45_method_2_code 126 = .ok (.if_icmp .lt 10, 3) := by decide +kernel
theorem d1_129 : decode prog_45_method_2_code 129 = .ok (.iload_n 0, 1) := by decide +kernel
theorem d1_130 : decode prog_45_method_2_code 130 = .ok (.sipush 12271, 3) := by decide +kernel
theorem d1_133 : decode prog_45_method_2_code 133 = .ok (.if_icmp .le 52, 3) := by decide +kernel
theorem d1_136 : decode prog_45_method_2_code 136 = .ok (.iload_n 0, 1) := by decide +kernel
theorem d1_137 : decode prog_45_method_2_code 137 = .ok (.sipush 12289, 3) := by decide +kernel
theorem d1_140 : decode prog_45_method_2_code 140 = .ok (.if_icmp .lt 9, 3) := by decide +kernel
theorem d1_143 : decode prog_45_method_2_code 143 = .ok (.iload_n 0, 1) := by decide +kernel
theorem d1_144 : decode prog_45_method_2_code 144 = .ok (.ldc 7, 2) := by decide +kernel
theorem d1_146 : decode prog_45_method_2_code 146 = .ok (.if_icmp .le 39, 3) := by decide +kernel
theorem d1_149 : decode prog_45_method_2_code 149 = .ok (.iload_n 0, 1) := by decide +kernel
theorem d1_150 : decode prog_45_method_2_code 150 = .ok (.ldc 8, 2) := by decide +kernel
theorem d1_152 : decode prog_45_method_2_code 152 = .ok (.if_icmp .lt 9, 3) := by decide +kernel
theorem d1_155 : decode prog_45_method_2_code 155 = .ok (.iload_n 0, 1) := by decide +kernel
theorem d1_156 : decode prog_45_method_2_code 156 = .ok (.ldc 9, 2) := by decide +kernel
theorem d1_158 : decode prog_45_method_2_code 158 = .ok (.if_icmp .le 27, 3) := by decide +kernel
theorem d1_161 : decode prog_45_method_2_code 161 = .ok (.iload_n 0, 1) := by decide +kernel
theorem d1_162 : decode prog_45_method_2_code 162 = .ok (.ldc 10, 2) := by decide +kernel
theorem d1_164 : decode prog_45_method_2_code 164 = .ok (.if_icmp .lt 9, 3) := by decide +kernel
theorem d1_167 : decode prog_45_method_2_code 167 = .ok (.iload_n 0, 1) := by decide +kernel
theorem d1_168 : decode prog_45_method_2_code 168 = .ok (.ldc 11, 2) := by decide +kernel
theorem d1_170 : decode prog_45_method_2_code 170 = .ok (.if_icmp .le 15, 3) := by decide +kernel
theorem d1_173 : decode prog_45_method_2_code 173 = .ok (.iload_n 0, 1) := by decide +kernel
theorem d1_174 : decode prog_45_method_2_code 174 = .ok (.ldc 12, 2) := by decide +kernel
theorem d1_176 : decode prog_45_method_2_code 176 = .ok (.if_icmp .lt 13, 3) := by decide +kernel
theorem d1_179 : decode prog_45_method_2_code 179 = .ok (.iload_n 0, 1) := by decide +kernel
theorem d1_180 : decode prog_45_method_2_code 180 = .ok (.ldc 13, 2) := by decide +kernel
theorem d1_182 : decode prog_45_method_2_code 182 = .ok (.if_icmp .gt 7, 3) := by decide +kernel
theorem d1_189 : decode prog_45_method_2_code 189 = .ok (.iconst 0, 1) := by decide +kernel
theorem d1_190 : decode prog_45_method_2_code 190 = .ok (.ireturn, 1) := by decide +kernel
theorem pn_1 : plainName "com/example/text_with_triples/textwithtriples/model/NameChars" = true := by first | (simp [plainName, overriddenIn]; done) | decide +kernel
theorem ef_1 (m : MethodId) (x0 : Int32) : entryFrame m #[(.int x0)] 1 = mkF m 0 #[.val (.int x0)] [] := by first | (simp [entryFrame, mkF, argsToLocals, Value.category]; done) | rfl
theorem d1_185 : decode prog_45_method_2_code 185 = .ok (.iconst 1, 1) := by decide +kernel
theorem d1_186 : decode prog_45_method_2_code 186 = .ok (.goto 4, 3) := by decide +kernel
def Q1 (Z : State) (p1 : Int32) (h0 : Heap) (n0 : Nat) (v : Option Value) (h : Heap) (L : List Loc) : Prop := v = some (.int (own_bs own_L p1)) ∧ Fr n0 L ∧ h = h0
set_option maxRecDepth 65536 in
set_option maxHeartbeats 40000000 in
theorem rm1 (l : Launch) (Z : State) (a0 : Array Value) (hw : ∀ d ∈ tables_1, d.before a0 Z = true) (ws : List Jvm.Cond) (p1 : Int32) (h0 : Heap) (n0 : Nat) (Z0 : n0 ≤ h0.size) :
    MetFree l (⟨"com/example/text_with_triples/textwithtriples/model/NameChars", "isBase", "(I)Z"⟩ : MethodName) (head1 (Jvm.Cond.code (⟨"com/example/text_with_triples/textwithtriples/model/NameChars", "isBase", "(I)Z"⟩ : MethodName) prog_45_method_2_code 1 (some .boolean) :: ws) ({ frames := 0, cells := 0, slots := 0, locals := 0 } : Room)) (fun a U => a = #[(.int p1)] ∧ Z.Warmed39 U.vm ∧ U.heap = h0) (fun _ _ _ _ _ => True) (fun _ U o U' => ∃ v L, o = .returned v ∧ Q1 Z p1 h0 n0 v U'.heap L ∧ FrameEnd U o U' L ({ frames := 0, cells := 0, slots := 0, locals := 0 } : Room).cells ({ frames := 0, cells := 0, slots := 0, locals := 0 } : Room).slots) := by
  refine MetFree.of_bodySF (plainFor_of_name pn_1) hisR ?_
  intro p e s m args below meth c s₁ Bd hml0 hP hK
  obtain ⟨rfl, hZ, hh⟩ := hP
  have hx := Bd.exec
  have hby := Bd.bytes
  have hml : c.maxLocals = 1 := hml0
  have hown : s.vm.findClass "com/example/text_with_triples/textwithtriples/model/NameChars" = some m.cls := findClass_of_methodNamed Bd.named
  have hnm := (name_of_methodNamed Bd.named Bd.method).1
  have X0 : Stand p l e ({ frames := 0, cells := 0, slots := 0, locals := 0 } : Room) s m #[(.int p1)] below meth c s₁ [] 0 0 := Stand.of_body Bd
  have e0 : s₁.heap = h0 := by rw [← hh, Bd.state]; rfl
  have N0 := Fr.nil n0
  have pre0 : ∀ t, Steps p.tables e below (s₁.setTop (mkF m 0 #[.val (.int p1)] [])) t → Steps p.tables e below (s₁.setTop (entryFrame m #[(.int p1)] 1)) t := fun t k => castTop (ef_1 m p1) k

  obtain ⟨fs, hr, hrun, hended, hW, hsame⟩ := X0.leave (v := some (.int (own_bs own_L p1))) (fun h => by rw [Bd.returns] at h; cases h)
  refine ⟨_, _, pre0 _ ?_, hrun, hended, _, _, rfl, ?_, ⟨_, rfl⟩, hW, hsame.mono (by decide) (by decide)⟩
  · have k185 : own_bs own_L p1 = 1 → Steps p.tables e below (s₁.setTop (mkF m 185 #[.val (.int p1)] [])) (s₁.setFrames fs) := by
      intro hz
      rw [hz] at hr
      show Steps p.tables e below (s₁.setTop (mkF m 185 #[.val (.int p1)] [])) _
      refine XS.iconst X0.here hx rfl (hb hby d1_185) ?_
      show Steps p.tables e below (s₁.setTop (mkF m 186 #[.val (.int p1)] [(.int (1 : Int32))])) _
      refine XS.goto X0.here hx rfl (pc0 := 186) (pc' := 190) rfl (hb hby d1_186) (by decide) (by decide) ?_
      show Steps p.tables e below (s₁.setTop (mkF m 190 #[.val (.int p1)] [(.int (1 : Int32))])) _
      exact retN X0 hx (t := .boolean) Bd.returns (by simp) (hb hby d1_190) hr
    have k189 : own_bs own_L p1 = 0 → Steps p.tables e below (s₁.setTop (mkF m 189 #[.val (.int p1)] [])) (s₁.setFrames fs) := by
      intro hz
      rw [hz] at hr
      show Steps p.tables e below (s₁.setTop (mkF m 189 #[.val (.int p1)] [])) _
      refine XS.iconst X0.here hx rfl (hb hby d1_189) ?_
      show Steps p.tables e below (s₁.setTop (mkF m 190 #[.val (.int p1)] [(.int (0 : Int32))])) _
      exact retN X0 hx (t := .boolean) Bd.returns (by simp) (hb hby d1_190) hr
    have k173 : own_bs own_L p1 = own_bs [((65536 : Int32), (983039 : Int32))] p1 → Steps p.tables e below (s₁.setTop (mkF m 173 #[.val (.int p1)] [])) (s₁.setFrames fs) := by
      intro hz
      show Steps p.tables e below (s₁.setTop (mkF m 173 #[.val (.int p1)] [])) _
      refine XS.iloadN X0.here hx rfl (hb hby d1_173) rfl ?_
      show Steps p.tables e below (s₁.setTop (mkF m 174 #[.val (.int p1)] [(.int p1)])) _
      refine X0.ldcInt hx hown (mvT hZ (hw _ (List.mem_of_getElem? (i := 15) rfl))) (g := (mkF m 174 #[.val (.int p1)] [(.int p1)])) rfl (hb hby d1_174) _ ?_
      show Steps p.tables e below (s₁.setTop (mkF m 176 #[.val (.int p1)] [(.int (65536 : Int32)), (.int p1)])) _
      by_cases a1 : p1 < (65536 : Int32)
      · refine XS.icmpYes X0.here hx rfl (pc0 := 176) (pc' := 189) rfl (hb hby d1_176) rfl (tlt a1).1 (by decide) (by decide) ?_
        exact k189 (hz.trans (own_bs_lt a1))
      · refine XS.icmpNo X0.here hx rfl (hb hby d1_176) rfl (flt a1).1 ?_
        show Steps p.tables e below (s₁.setTop (mkF m 179 #[.val (.int p1)] [])) _
        refine XS.iloadN X0.here hx rfl (hb hby d1_179) rfl ?_
        show Steps p.tables e below (s₁.setTop (mkF m 180 #[.val (.int p1)] [(.int p1)])) _
        refine X0.ldcInt hx hown (mvT hZ (hw _ (List.mem_of_getElem? (i := 32) rfl))) (g := (mkF m 180 #[.val (.int p1)] [(.int p1)])) rfl (hb hby d1_180) _ ?_
        show Steps p.tables e below (s₁.setTop (mkF m 182 #[.val (.int p1)] [(.int (983039 : Int32)), (.int p1)])) _
        by_cases a2 : (983039 : Int32) < p1
        · refine XS.icmpYes X0.here hx rfl (pc0 := 182) (pc' := 189) rfl (hb hby d1_182) rfl (tlt a2).2.2.1 (by decide) (by decide) ?_
          exact k189 (hz.trans (own_bs_gt a1 a2))
        · refine XS.icmpNo X0.here hx rfl (hb hby d1_182) rfl (flt a2).2.2.1 ?_
          exact k185 (hz.trans (own_bs_in a1 a2))
    have k161 : own_bs own_L p1 = own_bs [((65008 : Int32), (65533 : Int32)), ((65536 : Int32), (983039 : Int32))] p1 → Steps p.tables e below (s₁.setTop (mkF m 161 #[.val (.int p1)] [])) (s₁.setFrames fs) := by
      intro hz
      show Steps p.tables e below (s₁.setTop (mkF m 161 #[.val (.int p1)] [])) _
      refine XS.iloadN X0.here hx rfl (hb hby d1_161) rfl ?_
      show Steps p.tables e below (s₁.setTop (mkF m 162 #[.val (.int p1)] [(.int p1)])) _
      refine X0.ldcInt hx hown (mvT hZ (hw _ (List.mem_of_getElem? (i := 14) rfl))) (g := (mkF m 162 #[.val (.int p1)] [(.int p1)])) rfl (hb hby d1_162) _ ?_
      show Steps p.tables e below (s₁.setTop (mkF m 164 #[.val (.int p1)] [(.int (65008 : Int32)), (.int p1)])) _
      by_cases a1 : p1 < (65008 : Int32)
      · refine XS.icmpYes X0.here hx rfl (pc0 := 164) (pc' := 173) rfl (hb hby d1_164) rfl (tlt a1).1 (by decide) (by decide) ?_
        exact k173 (hz.trans (own_bs_lt a1))
      · refine XS.icmpNo X0.here hx rfl (hb hby d1_164) rfl (flt a1).1 ?_
        show Steps p.tables e below (s₁.setTop (mkF m 167 #[.val (.int p1)] [])) _
        refine XS.iloadN X0.here hx rfl (hb hby d1_167) rfl ?_
        show Steps p.tables e below (s₁.setTop (mkF m 168 #[.val (.int p1)] [(.int p1)])) _
        refine X0.ldcInt hx hown (mvT hZ (hw _ (List.mem_of_getElem? (i := 31) rfl))) (g := (mkF m 168 #[.val (.int p1)] [(.int p1)])) rfl (hb hby d1_168) _ ?_
        show Steps p.tables e below (s₁.setTop (mkF m 170 #[.val (.int p1)] [(.int (65533 : Int32)), (.int p1)])) _
        by_cases a2 : (65533 : Int32) < p1
        · refine XS.icmpNo X0.here hx rfl (hb hby d1_170) rfl (tlt a2).2.2.2 ?_
          exact k173 (hz.trans (own_bs_gt a1 a2))
        · refine XS.icmpYes X0.here hx rfl (pc0 := 170) (pc' := 185) rfl (hb hby d1_170) rfl (flt a2).2.2.2 (by decide) (by decide) ?_
          exact k185 (hz.trans (own_bs_in a1 a2))
    have k149 : own_bs own_L p1 = own_bs [((63744 : Int32), (64975 : Int32)), ((65008 : Int32), (65533 : Int32)), ((65536 : Int32), (983039 : Int32))] p1 → Steps p.tables e below (s₁.setTop (mkF m 149 #[.val (.int p1)] [])) (s₁.setFrames fs) := by
      intro hz
      show Steps p.tables e below (s₁.setTop (mkF m 149 #[.val (.int p1)] [])) _
      refine XS.iloadN X0.here hx rfl (hb hby d1_149) rfl ?_
      show Steps p.tables e below (s₁.setTop (mkF m 150 #[.val (.int p1)] [(.int p1)])) _
      refine X0.ldcInt hx hown (mvT hZ (hw _ (List.mem_of_getElem? (i := 13) rfl))) (g := (mkF m 150 #[.val (.int p1)] [(.int p1)])) rfl (hb hby d1_150) _ ?_
      show Steps p.tables e below (s₁.setTop (mkF m 152 #[.val (.int p1)] [(.int (63744 : Int32)), (.int p1)])) _
      by_cases a1 : p1 < (63744 : Int32)
      · refine XS.icmpYes X0.here hx rfl (pc0 := 152) (pc' := 161) rfl (hb hby d1_152) rfl (tlt a1).1 (by decide) (by decide) ?_
        exact k161 (hz.trans (own_bs_lt a1))
      · refine XS.icmpNo X0.here hx rfl (hb hby d1_152) rfl (flt a1).1 ?_
        show Steps p.tables e below (s₁.setTop (mkF m 155 #[.val (.int p1)] [])) _
        refine XS.iloadN X0.here hx rfl (hb hby d1_155) rfl ?_
        show Steps p.tables e below (s₁.setTop (mkF m 156 #[.val (.int p1)] [(.int p1)])) _
        refine X0.ldcInt hx hown (mvT hZ (hw _ (List.mem_of_getElem? (i := 30) rfl))) (g := (mkF m 156 #[.val (.int p1)] [(.int p1)])) rfl (hb hby d1_156) _ ?_
        show Steps p.tables e below (s₁.setTop (mkF m 158 #[.val (.int p1)] [(.int (64975 : Int32)), (.int p1)])) _
        by_cases a2 : (64975 : Int32) < p1
        · refine XS.icmpNo X0.here hx rfl (hb hby d1_158) rfl (tlt a2).2.2.2 ?_
          exact k161 (hz.trans (own_bs_gt a1 a2))
        · refine XS.icmpYes X0.here hx rfl (pc0 := 158) (pc' := 185) rfl (hb hby d1_158) rfl (flt a2).2.2.2 (by decide) (by decide) ?_
          exact k185 (hz.trans (own_bs_in a1 a2))
    have k136 : own_bs own_L p1 = own_bs [((12289 : Int32), (55295 : Int32)), ((63744 : Int32), (64975 : Int32)), ((65008 : Int32), (65533 : Int32)), ((65536 : Int32), (983039 : Int32))] p1 → Steps p.tables e below (s₁.setTop (mkF m 136 #[.val (.int p1)] [])) (s₁.setFrames fs) := by
      intro hz
      show Steps p.tables e below (s₁.setTop (mkF m 136 #[.val (.int p1)] [])) _
      refine XS.iloadN X0.here hx rfl (hb hby d1_136) rfl ?_
      show Steps p.tables e below (s₁.setTop (mkF m 137 #[.val (.int p1)] [(.int p1)])) _
      refine XS.sipush X0.here hx rfl (hb hby d1_137) ?_
      show Steps p.tables e below (s₁.setTop (mkF m 140 #[.val (.int p1)] [(.int (12289 : Int32)), (.int p1)])) _
      by_cases a1 : p1 < (12289 : Int32)
      · refine XS.icmpYes X0.here hx rfl (pc0 := 140) (pc' := 149) rfl (hb hby d1_140) rfl (tlt a1).1 (by decide) (by decide) ?_
        exact k149 (hz.trans (own_bs_lt a1))
      · refine XS.icmpNo X0.here hx rfl (hb hby d1_140) rfl (flt a1).1 ?_
        show Steps p.tables e below (s₁.setTop (mkF m 143 #[.val (.int p1)] [])) _
        refine XS.iloadN X0.here hx rfl (hb hby d1_143) rfl ?_
        show Steps p.tables e below (s₁.setTop (mkF m 144 #[.val (.int p1)] [(.int p1)])) _
        refine X0.ldcInt hx hown (mvT hZ (hw _ (List.mem_of_getElem? (i := 29) rfl))) (g := (mkF m 144 #[.val (.int p1)] [(.int p1)])) rfl (hb hby d1_144) _ ?_
        show Steps p.tables e below (s₁.setTop (mkF m 146 #[.val (.int p1)] [(.int (55295 : Int32)), (.int p1)])) _
        by_cases a2 : (55295 : Int32) < p1
        · refine XS.icmpNo X0.here hx rfl (hb hby d1_146) rfl (tlt a2).2.2.2 ?_
          exact k149 (hz.trans (own_bs_gt a1 a2))
        · refine XS.icmpYes X0.here hx rfl (pc0 := 146) (pc' := 185) rfl (hb hby d1_146) rfl (flt a2).2.2.2 (by decide) (by decide) ?_
          exact k185 (hz.trans (own_bs_in a1 a2))
    have k122 : own_bs own_L p1 = own_bs [((11264 : Int32), (12271 : Int32)), ((12289 : Int32), (55295 : Int32)), ((63744 : Int32), (64975 : Int32)), ((65008 : Int32), (65533 : Int32)), ((65536 : Int32), (983039 : Int32))] p1 → Steps p.tables e below (s₁.setTop (mkF m 122 #[.val (.int p1)] [])) (s₁.setFrames fs) := by
      intro hz
      show Steps p.tables e below (s₁.setTop (mkF m 122 #[.val (.int p1)] [])) _
      refine XS.iloadN X0.here hx rfl (hb hby d1_122) rfl ?_
      show Steps p.tables e below (s₁.setTop (mkF m 123 #[.val (.int p1)] [(.int p1)])) _
      refine XS.sipush X0.here hx rfl (hb hby d1_123) ?_
      show Steps p.tables e below (s₁.setTop (mkF m 126 #[.val (.int p1)] [(.int (11264 : Int32)), (.int p1)])) _
      by_cases a1 : p1 < (11264 : Int32)
      · refine XS.icmpYes X0.here hx rfl (pc0 := 126) (pc' := 136) rfl (hb hby d1_126) rfl (tlt a1).1 (by decide) (by decide) ?_
        exact k136 (hz.trans (own_bs_lt a1))
      · refine XS.icmpNo X0.here hx rfl (hb hby d1_126) rfl (flt a1).1 ?_
        show Steps p.tables e below (s₁.setTop (mkF m 129 #[.val (.int p1)] [])) _
        refine XS.iloadN X0.here hx rfl (hb hby d1_129) rfl ?_
        show Steps p.tables e below (s₁.setTop (mkF m 130 #[.val (.int p1)] [(.int p1)])) _
        refine XS.sipush X0.here hx rfl (hb hby d1_130) ?_
        show Steps p.tables e below (s₁.setTop (mkF m 133 #[.val (.int p1)] [(.int (12271 : Int32)), (.int p1)])) _
        by_cases a2 : (12271 : Int32) < p1
        · refine XS.icmpNo X0.here hx rfl (hb hby d1_133) rfl (tlt a2).2.2.2 ?_
          exact k136 (hz.trans (own_bs_gt a1 a2))
        · refine XS.icmpYes X0.here hx rfl (pc0 := 133) (pc' := 185) rfl (hb hby d1_133) rfl (flt a2).2.2.2 (by decide) (by decide) ?_
          exact k185 (hz.trans (own_bs_in a1 a2))
    have k108 : own_bs own_L p1 = own_bs [((8304 : Int32), (8591 : Int32)), ((11264 : Int32), (12271 : Int32)), ((12289 : Int32), (55295 : Int32)), ((63744 : Int32), (64975 : Int32)), ((65008 : Int32), (65533 : Int32)), ((65536 : Int32), (983039 : Int32))] p1 → Steps p.tables e below (s₁.setTop (mkF m 108 #[.val (.int p1)] [])) (s₁.setFrames fs) := by
      intro hz
      show Steps p.tables e below (s₁.setTop (mkF m 108 #[.val (.int p1)] [])) _
      refine XS.iloadN X0.here hx rfl (hb hby d1_108) rfl ?_
      show Steps p.tables e below (s₁.setTop (mkF m 109 #[.val (.int p1)] [(.int p1)])) _
      refine XS.sipush X0.here hx rfl (hb hby d1_109) ?_
      show Steps p.tables e below (s₁.setTop (mkF m 112 #[.val (.int p1)] [(.int (8304 : Int32)), (.int p1)])) _
      by_cases a1 : p1 < (8304 : Int32)
      · refine XS.icmpYes X0.here hx rfl (pc0 := 112) (pc' := 122) rfl (hb hby d1_112) rfl (tlt a1).1 (by decide) (by decide) ?_
        exact k122 (hz.trans (own_bs_lt a1))
      · refine XS.icmpNo X0.here hx rfl (hb hby d1_112) rfl (flt a1).1 ?_
        show Steps p.tables e below (s₁.setTop (mkF m 115 #[.val (.int p1)] [])) _
        refine XS.iloadN X0.here hx rfl (hb hby d1_115) rfl ?_
        show Steps p.tables e below (s₁.setTop (mkF m 116 #[.val (.int p1)] [(.int p1)])) _
        refine XS.sipush X0.here hx rfl (hb hby d1_116) ?_
        show Steps p.tables e below (s₁.setTop (mkF m 119 #[.val (.int p1)] [(.int (8591 : Int32)), (.int p1)])) _
        by_cases a2 : (8591 : Int32) < p1
        · refine XS.icmpNo X0.here hx rfl (hb hby d1_119) rfl (tlt a2).2.2.2 ?_
          exact k122 (hz.trans (own_bs_gt a1 a2))
        · refine XS.icmpYes X0.here hx rfl (pc0 := 119) (pc' := 185) rfl (hb hby d1_119) rfl (flt a2).2.2.2 (by decide) (by decide) ?_
          exact k185 (hz.trans (own_bs_in a1 a2))
    have k94 : own_bs own_L p1 = own_bs [((8204 : Int32), (8205 : Int32)), ((8304 : Int32), (8591 : Int32)), ((11264 : Int32), (12271 : Int32)), ((12289 : Int32), (55295 : Int32)), ((63744 : Int32), (64975 : Int32)), ((65008 : Int32), (65533 : Int32)), ((65536 : Int32), (983039 : Int32))] p1 → Steps p.tables e below (s₁.setTop (mkF m 94 #[.val (.int p1)] [])) (s₁.setFrames fs) := by
      intro hz
      show Steps p.tables e below (s₁.setTop (mkF m 94 #[.val (.int p1)] [])) _
      refine XS.iloadN X0.here hx rfl (hb hby d1_94) rfl ?_
      show Steps p.tables e below (s₁.setTop (mkF m 95 #[.val (.int p1)] [(.int p1)])) _
      refine XS.sipush X0.here hx rfl (hb hby d1_95) ?_
      show Steps p.tables e below (s₁.setTop (mkF m 98 #[.val (.int p1)] [(.int (8204 : Int32)), (.int p1)])) _
      by_cases a1 : p1 < (8204 : Int32)
      · refine XS.icmpYes X0.here hx rfl (pc0 := 98) (pc' := 108) rfl (hb hby d1_98) rfl (tlt a1).1 (by decide) (by decide) ?_
        exact k108 (hz.trans (own_bs_lt a1))
      · refine XS.icmpNo X0.here hx rfl (hb hby d1_98) rfl (flt a1).1 ?_
        show Steps p.tables e below (s₁.setTop (mkF m 101 #[.val (.int p1)] [])) _
        refine XS.iloadN X0.here hx rfl (hb hby d1_101) rfl ?_
        show Steps p.tables e below (s₁.setTop (mkF m 102 #[.val (.int p1)] [(.int p1)])) _
        refine XS.sipush X0.here hx rfl (hb hby d1_102) ?_
        show Steps p.tables e below (s₁.setTop (mkF m 105 #[.val (.int p1)] [(.int (8205 : Int32)), (.int p1)])) _
        by_cases a2 : (8205 : Int32) < p1
        · refine XS.icmpNo X0.here hx rfl (hb hby d1_105) rfl (tlt a2).2.2.2 ?_
          exact k108 (hz.trans (own_bs_gt a1 a2))
        · refine XS.icmpYes X0.here hx rfl (pc0 := 105) (pc' := 185) rfl (hb hby d1_105) rfl (flt a2).2.2.2 (by decide) (by decide) ?_
          exact k185 (hz.trans (own_bs_in a1 a2))
    have k80 : own_bs own_L p1 = own_bs [((895 : Int32), (8191 : Int32)), ((8204 : Int32), (8205 : Int32)), ((8304 : Int32), (8591 : Int32)), ((11264 : Int32), (12271 : Int32)), ((12289 : Int32), (55295 : Int32)), ((63744 : Int32), (64975 : Int32)), ((65008 : Int32), (65533 : Int32)), ((65536 : Int32), (983039 : Int32))] p1 → Steps p.tables e below (s₁.setTop (mkF m 80 #[.val (.int p1)] [])) (s₁.setFrames fs) := by
      intro hz
      show Steps p.tables e below (s₁.setTop (mkF m 80 #[.val (.int p1)] [])) _
      refine XS.iloadN X0.here hx rfl (hb hby d1_80) rfl ?_
      show Steps p.tables e below (s₁.setTop (mkF m 81 #[.val (.int p1)] [(.int p1)])) _
      refine XS.sipush X0.here hx rfl (hb hby d1_81) ?_
      show Steps p.tables e below (s₁.setTop (mkF m 84 #[.val (.int p1)] [(.int (895 : Int32)), (.int p1)])) _
      by_cases a1 : p1 < (895 : Int32)
      · refine XS.icmpYes X0.here hx rfl (pc0 := 84) (pc' := 94) rfl (hb hby d1_84) rfl (tlt a1).1 (by decide) (by decide) ?_
        exact k94 (hz.trans (own_bs_lt a1))
      · refine XS.icmpNo X0.here hx rfl (hb hby d1_84) rfl (flt a1).1 ?_
        show Steps p.tables e below (s₁.setTop (mkF m 87 #[.val (.int p1)] [])) _
        refine XS.iloadN X0.here hx rfl (hb hby d1_87) rfl ?_
        show Steps p.tables e below (s₁.setTop (mkF m 88 #[.val (.int p1)] [(.int p1)])) _
        refine XS.sipush X0.here hx rfl (hb hby d1_88) ?_
        show Steps p.tables e below (s₁.setTop (mkF m 91 #[.val (.int p1)] [(.int (8191 : Int32)), (.int p1)])) _
        by_cases a2 : (8191 : Int32) < p1
        · refine XS.icmpNo X0.here hx rfl (hb hby d1_91) rfl (tlt a2).2.2.2 ?_
          exact k94 (hz.trans (own_bs_gt a1 a2))
        · refine XS.icmpYes X0.here hx rfl (pc0 := 91) (pc' := 185) rfl (hb hby d1_91) rfl (flt a2).2.2.2 (by decide) (by decide) ?_
          exact k185 (hz.trans (own_bs_in a1 a2))
    have k66 : own_bs own_L p1 = own_bs [((880 : Int32), (893 : Int32)), ((895 : Int32), (8191 : Int32)), ((8204 : Int32), (8205 : Int32)), ((8304 : Int32), (8591 : Int32)), ((11264 : Int32), (12271 : Int32)), ((12289 : Int32), (55295 : Int32)), ((63744 : Int32), (64975 : Int32)), ((65008 : Int32), (65533 : Int32)), ((65536 : Int32), (983039 : Int32))] p1 → Steps p.tables e below (s₁.setTop (mkF m 66 #[.val (.int p1)] [])) (s₁.setFrames fs) := by
      intro hz
      show Steps p.tables e below (s₁.setTop (mkF m 66 #[.val (.int p1)] [])) _
      refine XS.iloadN X0.here hx rfl (hb hby d1_66) rfl ?_
      show Steps p.tables e below (s₁.setTop (mkF m 67 #[.val (.int p1)] [(.int p1)])) _
      refine XS.sipush X0.here hx rfl (hb hby d1_67) ?_
      show Steps p.tables e below (s₁.setTop (mkF m 70 #[.val (.int p1)] [(.int (880 : Int32)), (.int p1)])) _
      by_cases a1 : p1 < (880 : Int32)
      · refine XS.icmpYes X0.here hx rfl (pc0 := 70) (pc' := 80) rfl (hb hby d1_70) rfl (tlt a1).1 (by decide) (by decide) ?_
        exact k80 (hz.trans (own_bs_lt a1))
      · refine XS.icmpNo X0.here hx rfl (hb hby d1_70) rfl (flt a1).1 ?_
        show Steps p.tables e below (s₁.setTop (mkF m 73 #[.val (.int p1)] [])) _
        refine XS.iloadN X0.here hx rfl (hb hby d1_73) rfl ?_
        show Steps p.tables e below (s₁.setTop (mkF m 74 #[.val (.int p1)] [(.int p1)])) _
        refine XS.sipush X0.here hx rfl (hb hby d1_74) ?_
        show Steps p.tables e below (s₁.setTop (mkF m 77 #[.val (.int p1)] [(.int (893 : Int32)), (.int p1)])) _
        by_cases a2 : (893 : Int32) < p1
        · refine XS.icmpNo X0.here hx rfl (hb hby d1_77) rfl (tlt a2).2.2.2 ?_
          exact k80 (hz.trans (own_bs_gt a1 a2))
        · refine XS.icmpYes X0.here hx rfl (pc0 := 77) (pc' := 185) rfl (hb hby d1_77) rfl (flt a2).2.2.2 (by decide) (by decide) ?_
          exact k185 (hz.trans (own_bs_in a1 a2))
    have k52 : own_bs own_L p1 = own_bs [((248 : Int32), (767 : Int32)), ((880 : Int32), (893 : Int32)), ((895 : Int32), (8191 : Int32)), ((8204 : Int32), (8205 : Int32)), ((8304 : Int32), (8591 : Int32)), ((11264 : Int32), (12271 : Int32)), ((12289 : Int32), (55295 : Int32)), ((63744 : Int32), (64975 : Int32)), ((65008 : Int32), (65533 : Int32)), ((65536 : Int32), (983039 : Int32))] p1 → Steps p.tables e below (s₁.setTop (mkF m 52 #[.val (.int p1)] [])) (s₁.setFrames fs) := by
      intro hz
      show Steps p.tables e below (s₁.setTop (mkF m 52 #[.val (.int p1)] [])) _
      refine XS.iloadN X0.here hx rfl (hb hby d1_52) rfl ?_
      show Steps p.tables e below (s₁.setTop (mkF m 53 #[.val (.int p1)] [(.int p1)])) _
      refine XS.sipush X0.here hx rfl (hb hby d1_53) ?_
      show Steps p.tables e below (s₁.setTop (mkF m 56 #[.val (.int p1)] [(.int (248 : Int32)), (.int p1)])) _
      by_cases a1 : p1 < (248 : Int32)
      · refine XS.icmpYes X0.here hx rfl (pc0 := 56) (pc' := 66) rfl (hb hby d1_56) rfl (tlt a1).1 (by decide) (by decide) ?_
        exact k66 (hz.trans (own_bs_lt a1))
      · refine XS.icmpNo X0.here hx rfl (hb hby d1_56) rfl (flt a1).1 ?_
        show Steps p.tables e below (s₁.setTop (mkF m 59 #[.val (.int p1)] [])) _
        refine XS.iloadN X0.here hx rfl (hb hby d1_59) rfl ?_
        show Steps p.tables e below (s₁.setTop (mkF m 60 #[.val (.int p1)] [(.int p1)])) _
        refine XS.sipush X0.here hx rfl (hb hby d1_60) ?_
        show Steps p.tables e below (s₁.setTop (mkF m 63 #[.val (.int p1)] [(.int (767 : Int32)), (.int p1)])) _
        by_cases a2 : (767 : Int32) < p1
        · refine XS.icmpNo X0.here hx rfl (hb hby d1_63) rfl (tlt a2).2.2.2 ?_
          exact k66 (hz.trans (own_bs_gt a1 a2))
        · refine XS.icmpYes X0.here hx rfl (pc0 := 63) (pc' := 185) rfl (hb hby d1_63) rfl (flt a2).2.2.2 (by decide) (by decide) ?_
          exact k185 (hz.trans (own_bs_in a1 a2))
    have k38 : own_bs own_L p1 = own_bs [((216 : Int32), (246 : Int32)), ((248 : Int32), (767 : Int32)), ((880 : Int32), (893 : Int32)), ((895 : Int32), (8191 : Int32)), ((8204 : Int32), (8205 : Int32)), ((8304 : Int32), (8591 : Int32)), ((11264 : Int32), (12271 : Int32)), ((12289 : Int32), (55295 : Int32)), ((63744 : Int32), (64975 : Int32)), ((65008 : Int32), (65533 : Int32)), ((65536 : Int32), (983039 : Int32))] p1 → Steps p.tables e below (s₁.setTop (mkF m 38 #[.val (.int p1)] [])) (s₁.setFrames fs) := by
      intro hz
      show Steps p.tables e below (s₁.setTop (mkF m 38 #[.val (.int p1)] [])) _
      refine XS.iloadN X0.here hx rfl (hb hby d1_38) rfl ?_
      show Steps p.tables e below (s₁.setTop (mkF m 39 #[.val (.int p1)] [(.int p1)])) _
      refine XS.sipush X0.here hx rfl (hb hby d1_39) ?_
      show Steps p.tables e below (s₁.setTop (mkF m 42 #[.val (.int p1)] [(.int (216 : Int32)), (.int p1)])) _
      by_cases a1 : p1 < (216 : Int32)
      · refine XS.icmpYes X0.here hx rfl (pc0 := 42) (pc' := 52) rfl (hb hby d1_42) rfl (tlt a1).1 (by decide) (by decide) ?_
        exact k52 (hz.trans (own_bs_lt a1))
      · refine XS.icmpNo X0.here hx rfl (hb hby d1_42) rfl (flt a1).1 ?_
        show Steps p.tables e below (s₁.setTop (mkF m 45 #[.val (.int p1)] [])) _
        refine XS.iloadN X0.here hx rfl (hb hby d1_45) rfl ?_
        show Steps p.tables e below (s₁.setTop (mkF m 46 #[.val (.int p1)] [(.int p1)])) _
        refine XS.sipush X0.here hx rfl (hb hby d1_46) ?_
        show Steps p.tables e below (s₁.setTop (mkF m 49 #[.val (.int p1)] [(.int (246 : Int32)), (.int p1)])) _
        by_cases a2 : (246 : Int32) < p1
        · refine XS.icmpNo X0.here hx rfl (hb hby d1_49) rfl (tlt a2).2.2.2 ?_
          exact k52 (hz.trans (own_bs_gt a1 a2))
        · refine XS.icmpYes X0.here hx rfl (pc0 := 49) (pc' := 185) rfl (hb hby d1_49) rfl (flt a2).2.2.2 (by decide) (by decide) ?_
          exact k185 (hz.trans (own_bs_in a1 a2))
    have k24 : own_bs own_L p1 = own_bs [((192 : Int32), (214 : Int32)), ((216 : Int32), (246 : Int32)), ((248 : Int32), (767 : Int32)), ((880 : Int32), (893 : Int32)), ((895 : Int32), (8191 : Int32)), ((8204 : Int32), (8205 : Int32)), ((8304 : Int32), (8591 : Int32)), ((11264 : Int32), (12271 : Int32)), ((12289 : Int32), (55295 : Int32)), ((63744 : Int32), (64975 : Int32)), ((65008 : Int32), (65533 : Int32)), ((65536 : Int32), (983039 : Int32))] p1 → Steps p.tables e below (s₁.setTop (mkF m 24 #[.val (.int p1)] [])) (s₁.setFrames fs) := by
      intro hz
      show Steps p.tables e below (s₁.setTop (mkF m 24 #[.val (.int p1)] [])) _
      refine XS.iloadN X0.here hx rfl (hb hby d1_24) rfl ?_
      show Steps p.tables e below (s₁.setTop (mkF m 25 #[.val (.int p1)] [(.int p1)])) _
      refine XS.sipush X0.here hx rfl (hb hby d1_25) ?_
      show Steps p.tables e below (s₁.setTop (mkF m 28 #[.val (.int p1)] [(.int (192 : Int32)), (.int p1)])) _
      by_cases a1 : p1 < (192 : Int32)
      · refine XS.icmpYes X0.here hx rfl (pc0 := 28) (pc' := 38) rfl (hb hby d1_28) rfl (tlt a1).1 (by decide) (by decide) ?_
        exact k38 (hz.trans (own_bs_lt a1))
      · refine XS.icmpNo X0.here hx rfl (hb hby d1_28) rfl (flt a1).1 ?_
        show Steps p.tables e below (s₁.setTop (mkF m 31 #[.val (.int p1)] [])) _
        refine XS.iloadN X0.here hx rfl (hb hby d1_31) rfl ?_
        show Steps p.tables e below (s₁.setTop (mkF m 32 #[.val (.int p1)] [(.int p1)])) _
        refine XS.sipush X0.here hx rfl (hb hby d1_32) ?_
        show Steps p.tables e below (s₁.setTop (mkF m 35 #[.val (.int p1)] [(.int (214 : Int32)), (.int p1)])) _
        by_cases a2 : (214 : Int32) < p1
        · refine XS.icmpNo X0.here hx rfl (hb hby d1_35) rfl (tlt a2).2.2.2 ?_
          exact k38 (hz.trans (own_bs_gt a1 a2))
        · refine XS.icmpYes X0.here hx rfl (pc0 := 35) (pc' := 185) rfl (hb hby d1_35) rfl (flt a2).2.2.2 (by decide) (by decide) ?_
          exact k185 (hz.trans (own_bs_in a1 a2))
    have k12 : own_bs own_L p1 = own_bs [((97 : Int32), (122 : Int32)), ((192 : Int32), (214 : Int32)), ((216 : Int32), (246 : Int32)), ((248 : Int32), (767 : Int32)), ((880 : Int32), (893 : Int32)), ((895 : Int32), (8191 : Int32)), ((8204 : Int32), (8205 : Int32)), ((8304 : Int32), (8591 : Int32)), ((11264 : Int32), (12271 : Int32)), ((12289 : Int32), (55295 : Int32)), ((63744 : Int32), (64975 : Int32)), ((65008 : Int32), (65533 : Int32)), ((65536 : Int32), (983039 : Int32))] p1 → Steps p.tables e below (s₁.setTop (mkF m 12 #[.val (.int p1)] [])) (s₁.setFrames fs) := by
      intro hz
      show Steps p.tables e below (s₁.setTop (mkF m 12 #[.val (.int p1)] [])) _
      refine XS.iloadN X0.here hx rfl (hb hby d1_12) rfl ?_
      show Steps p.tables e below (s₁.setTop (mkF m 13 #[.val (.int p1)] [(.int p1)])) _
      refine XS.bipush X0.here hx rfl (hb hby d1_13) ?_
      show Steps p.tables e below (s₁.setTop (mkF m 15 #[.val (.int p1)] [(.int (97 : Int32)), (.int p1)])) _
      by_cases a1 : p1 < (97 : Int32)
      · refine XS.icmpYes X0.here hx rfl (pc0 := 15) (pc' := 24) rfl (hb hby d1_15) rfl (tlt a1).1 (by decide) (by decide) ?_
        exact k24 (hz.trans (own_bs_lt a1))
      · refine XS.icmpNo X0.here hx rfl (hb hby d1_15) rfl (flt a1).1 ?_
        show Steps p.tables e below (s₁.setTop (mkF m 18 #[.val (.int p1)] [])) _
        refine XS.iloadN X0.here hx rfl (hb hby d1_18) rfl ?_
        show Steps p.tables e below (s₁.setTop (mkF m 19 #[.val (.int p1)] [(.int p1)])) _
        refine XS.bipush X0.here hx rfl (hb hby d1_19) ?_
        show Steps p.tables e below (s₁.setTop (mkF m 21 #[.val (.int p1)] [(.int (122 : Int32)), (.int p1)])) _
        by_cases a2 : (122 : Int32) < p1
        · refine XS.icmpNo X0.here hx rfl (hb hby d1_21) rfl (tlt a2).2.2.2 ?_
          exact k24 (hz.trans (own_bs_gt a1 a2))
        · refine XS.icmpYes X0.here hx rfl (pc0 := 21) (pc' := 185) rfl (hb hby d1_21) rfl (flt a2).2.2.2 (by decide) (by decide) ?_
          exact k185 (hz.trans (own_bs_in a1 a2))
    have k0 : own_bs own_L p1 = own_bs [((65 : Int32), (90 : Int32)), ((97 : Int32), (122 : Int32)), ((192 : Int32), (214 : Int32)), ((216 : Int32), (246 : Int32)), ((248 : Int32), (767 : Int32)), ((880 : Int32), (893 : Int32)), ((895 : Int32), (8191 : Int32)), ((8204 : Int32), (8205 : Int32)), ((8304 : Int32), (8591 : Int32)), ((11264 : Int32), (12271 : Int32)), ((12289 : Int32), (55295 : Int32)), ((63744 : Int32), (64975 : Int32)), ((65008 : Int32), (65533 : Int32)), ((65536 : Int32), (983039 : Int32))] p1 → Steps p.tables e below (s₁.setTop (mkF m 0 #[.val (.int p1)] [])) (s₁.setFrames fs) := by
      intro hz
      show Steps p.tables e below (s₁.setTop (mkF m 0 #[.val (.int p1)] [])) _
      refine XS.iloadN X0.here hx rfl (hb hby d1_0) rfl ?_
      show Steps p.tables e below (s₁.setTop (mkF m 1 #[.val (.int p1)] [(.int p1)])) _
      refine XS.bipush X0.here hx rfl (hb hby d1_1) ?_
      show Steps p.tables e below (s₁.setTop (mkF m 3 #[.val (.int p1)] [(.int (65 : Int32)), (.int p1)])) _
      by_cases a1 : p1 < (65 : Int32)
      · refine XS.icmpYes X0.here hx rfl (pc0 := 3) (pc' := 12) rfl (hb hby d1_3) rfl (tlt a1).1 (by decide) (by decide) ?_
        exact k12 (hz.trans (own_bs_lt a1))
      · refine XS.icmpNo X0.here hx rfl (hb hby d1_3) rfl (flt a1).1 ?_
        show Steps p.tables e below (s₁.setTop (mkF m 6 #[.val (.int p1)] [])) _
        refine XS.iloadN X0.here hx rfl (hb hby d1_6) rfl ?_
        show Steps p.tables e below (s₁.setTop (mkF m 7 #[.val (.int p1)] [(.int p1)])) _
        refine XS.bipush X0.here hx rfl (hb hby d1_7) ?_
        show Steps p.tables e below (s₁.setTop (mkF m 9 #[.val (.int p1)] [(.int (90 : Int32)), (.int p1)])) _
        by_cases a2 : (90 : Int32) < p1
        · refine XS.icmpNo X0.here hx rfl (hb hby d1_9) rfl (tlt a2).2.2.2 ?_
          exact k12 (hz.trans (own_bs_gt a1 a2))
        · refine XS.icmpYes X0.here hx rfl (pc0 := 9) (pc' := 185) rfl (hb hby d1_9) rfl (flt a2).2.2.2 (by decide) (by decide) ?_
          exact k185 (hz.trans (own_bs_in a1 a2))
    exact k0 rfl
  · show Q1 Z p1 h0 n0 _ s₁.heap _
    rw [e0]
    exact ⟨rfl, N0, rfl⟩
theorem d3_0 : decode method_2_code 0 = .ok (.iload_n 0, 1) := by decide +kernel
theorem d3_1 : decode method_2_code 1 = .ok (.iload_n 1, 1) := by decide +kernel
theorem d3_2 : decode method_2_code 2 = .ok (.if_icmp .lt 12, 3) := by decide +kernel
theorem d3_14 : decode method_2_code 14 = .ok (.iconst 0, 1) := by decide +kernel
theorem d3_15 : decode method_2_code 15 = .ok (.ireturn, 1) := by decide +kernel
theorem pn_3 : plainName "com/example/text_with_triples/textwithtriples/model/NameCharsIsBasePinLaw" = true := by first | (simp [plainName, overriddenIn]; done) | decide +kernel
theorem ef_3 (m : MethodId) (x0 : Int32) (x1 : Int32) (x2 : Int32) : entryFrame m #[(.int x0), (.int x1), (.int x2)] 3 = mkF m 0 #[.val (.int x0), .val (.int x1), .val (.int x2)] [] := by first | (simp [entryFrame, mkF, argsToLocals, Value.category]; done) | rfl
def Q3 (Z : State) (p1 : Int32) (p2 : Int32) (p3 : Int32) (h0 : Heap) (n0 : Nat) (v : Option Value) (h : Heap) (L : List Loc) : Prop := v = some (.int (own_in p1 p2 p3)) ∧ Fr n0 L ∧ h = h0
set_option maxRecDepth 65536 in
set_option maxHeartbeats 40000000 in
theorem rm3_t (l : Launch) (Z : State) (a0 : Array Value) (hw : ∀ d ∈ tables_1, d.before a0 Z = true) (ws : List Jvm.Cond) (p1 : Int32) (p2 : Int32) (p3 : Int32) (h0 : Heap) (n0 : Nat) (Z0 : n0 ≤ h0.size) (hc2 : p1 < p2) :
    MetFree l (⟨"com/example/text_with_triples/textwithtriples/model/NameCharsIsBasePinLaw", "in", "(III)Z"⟩ : MethodName) (head1 (Jvm.Cond.code (⟨"com/example/text_with_triples/textwithtriples/model/NameCharsIsBasePinLaw", "in", "(III)Z"⟩ : MethodName) method_2_code 3 (some .boolean) :: ws) ({ frames := 0, cells := 0, slots := 0, locals := 0 } : Room)) (fun a U => a = #[(.int p1), (.int p2), (.int p3)] ∧ Z.Warmed39 U.vm ∧ U.heap = h0) (fun _ _ _ _ _ => True) (fun _ U o U' => ∃ v L, o = .returned v ∧ Q3 Z p1 p2 p3 h0 n0 v U'.heap L ∧ FrameEnd U o U' L ({ frames := 0, cells := 0, slots := 0, locals := 0 } : Room).cells ({ frames := 0, cells := 0, slots := 0, locals := 0 } : Room).slots) := by
  refine MetFree.of_bodySF (plainFor_of_name pn_3) hisR ?_
  intro p e s m args below meth c s₁ Bd hml0 hP hK
  obtain ⟨rfl, hZ, hh⟩ := hP
  have hx := Bd.exec
  have hby := Bd.bytes
  have hml : c.maxLocals = 3 := hml0
  have hown : s.vm.findClass "com/example/text_with_triples/textwithtriples/model/NameCharsIsBasePinLaw" = some m.cls := findClass_of_methodNamed Bd.named
  have hnm := (name_of_methodNamed Bd.named Bd.method).1
  have X0 : Stand p l e ({ frames := 0, cells := 0, slots := 0, locals := 0 } : Room) s m #[(.int p1), (.int p2), (.int p3)] below meth c s₁ [] 0 0 := Stand.of_body Bd
  have e0 : s₁.heap = h0 := by rw [← hh, Bd.state]; rfl
  have N0 := Fr.nil n0
  have pre0 : ∀ t, Steps p.tables e below (s₁.setTop (mkF m 0 #[.val (.int p1), .val (.int p2), .val (.int p3)] [])) t → Steps p.tables e below (s₁.setTop (entryFrame m #[(.int p1), (.int p2), (.int p3)] 3)) t := fun t k => castTop (ef_3 m p1 p2 p3) k

  obtain ⟨fs, hr, hrun, hended, hW, hsame⟩ := X0.leave (v := some (.int (0 : Int32))) (fun h => by rw [Bd.returns] at h; cases h)
  refine ⟨_, _, pre0 _ ?_, hrun, hended, _, _, rfl, ?_, ⟨_, rfl⟩, hW, hsame.mono (by decide) (by decide)⟩
  · show Steps p.tables e below (s₁.setTop (mkF m 0 #[.val (.int p1), .val (.int p2), .val (.int p3)] [])) _
    refine XS.iloadN X0.here hx rfl (hb hby d3_0) rfl ?_
    show Steps p.tables e below (s₁.setTop (mkF m 1 #[.val (.int p1), .val (.int p2), .val (.int p3)] [(.int p1)])) _
    refine XS.iloadN X0.here hx rfl (hb hby d3_1) rfl ?_
    show Steps p.tables e below (s₁.setTop (mkF m 2 #[.val (.int p1), .val (.int p2), .val (.int p3)] [(.int p2), (.int p1)])) _
    refine XS.icmpYes X0.here hx rfl (pc0 := 2) (pc' := 14) rfl (hb hby d3_2) rfl (tlt hc2).1 (by decide) (by decide) ?_
    show Steps p.tables e below (s₁.setTop (mkF m 14 #[.val (.int p1), .val (.int p2), .val (.int p3)] [])) _
    refine XS.iconst X0.here hx rfl (hb hby d3_14) ?_
    show Steps p.tables e below (s₁.setTop (mkF m 15 #[.val (.int p1), .val (.int p2), .val (.int p3)] [(.int (0 : Int32))])) _
    exact retN X0 hx (t := .boolean) Bd.returns (by simp) (hb hby d3_15) hr
  · show Q3 Z p1 p2 p3 h0 n0 _ s₁.heap _
    rw [e0]
    exact ⟨by rw [own_in, if_pos hc2], N0, rfl⟩
theorem d3_5 : decode method_2_code 5 = .ok (.iload_n 0, 1) := by decide +kernel
theorem d3_6 : decode method_2_code 6 = .ok (.iload_n 2, 1) := by decide +kernel
theorem d3_7 : decode method_2_code 7 = .ok (.if_icmp .gt 7, 3) := by decide +kernel
set_option maxRecDepth 65536 in
set_option maxHeartbeats 40000000 in
theorem rm3_ft (l : Launch) (Z : State) (a0 : Array Value) (hw : ∀ d ∈ tables_1, d.before a0 Z = true) (ws : List Jvm.Cond) (p1 : Int32) (p2 : Int32) (p3 : Int32) (h0 : Heap) (n0 : Nat) (Z0 : n0 ≤ h0.size) (hc2 : ¬ (p1 < p2)) (hc7 : p3 < p1) :
    MetFree l (⟨"com/example/text_with_triples/textwithtriples/model/NameCharsIsBasePinLaw", "in", "(III)Z"⟩ : MethodName) (head1 (Jvm.Cond.code (⟨"com/example/text_with_triples/textwithtriples/model/NameCharsIsBasePinLaw", "in", "(III)Z"⟩ : MethodName) method_2_code 3 (some .boolean) :: ws) ({ frames := 0, cells := 0, slots := 0, locals := 0 } : Room)) (fun a U => a = #[(.int p1), (.int p2), (.int p3)] ∧ Z.Warmed39 U.vm ∧ U.heap = h0) (fun _ _ _ _ _ => True) (fun _ U o U' => ∃ v L, o = .returned v ∧ Q3 Z p1 p2 p3 h0 n0 v U'.heap L ∧ FrameEnd U o U' L ({ frames := 0, cells := 0, slots := 0, locals := 0 } : Room).cells ({ frames := 0, cells := 0, slots := 0, locals := 0 } : Room).slots) := by
  refine MetFree.of_bodySF (plainFor_of_name pn_3) hisR ?_
  intro p e s m args below meth c s₁ Bd hml0 hP hK
  obtain ⟨rfl, hZ, hh⟩ := hP
  have hx := Bd.exec
  have hby := Bd.bytes
  have hml : c.maxLocals = 3 := hml0
  have hown : s.vm.findClass "com/example/text_with_triples/textwithtriples/model/NameCharsIsBasePinLaw" = some m.cls := findClass_of_methodNamed Bd.named
  have hnm := (name_of_methodNamed Bd.named Bd.method).1
  have X0 : Stand p l e ({ frames := 0, cells := 0, slots := 0, locals := 0 } : Room) s m #[(.int p1), (.int p2), (.int p3)] below meth c s₁ [] 0 0 := Stand.of_body Bd
  have e0 : s₁.heap = h0 := by rw [← hh, Bd.state]; rfl
  have N0 := Fr.nil n0
  have pre0 : ∀ t, Steps p.tables e below (s₁.setTop (mkF m 0 #[.val (.int p1), .val (.int p2), .val (.int p3)] [])) t → Steps p.tables e below (s₁.setTop (entryFrame m #[(.int p1), (.int p2), (.int p3)] 3)) t := fun t k => castTop (ef_3 m p1 p2 p3) k

  obtain ⟨fs, hr, hrun, hended, hW, hsame⟩ := X0.leave (v := some (.int (0 : Int32))) (fun h => by rw [Bd.returns] at h; cases h)
  refine ⟨_, _, pre0 _ ?_, hrun, hended, _, _, rfl, ?_, ⟨_, rfl⟩, hW, hsame.mono (by decide) (by decide)⟩
  · show Steps p.tables e below (s₁.setTop (mkF m 0 #[.val (.int p1), .val (.int p2), .val (.int p3)] [])) _
    refine XS.iloadN X0.here hx rfl (hb hby d3_0) rfl ?_
    show Steps p.tables e below (s₁.setTop (mkF m 1 #[.val (.int p1), .val (.int p2), .val (.int p3)] [(.int p1)])) _
    refine XS.iloadN X0.here hx rfl (hb hby d3_1) rfl ?_
    show Steps p.tables e below (s₁.setTop (mkF m 2 #[.val (.int p1), .val (.int p2), .val (.int p3)] [(.int p2), (.int p1)])) _
    refine XS.icmpNo X0.here hx rfl (hb hby d3_2) rfl (flt hc2).1 ?_
    show Steps p.tables e below (s₁.setTop (mkF m 5 #[.val (.int p1), .val (.int p2), .val (.int p3)] [])) _
    refine XS.iloadN X0.here hx rfl (hb hby d3_5) rfl ?_
    show Steps p.tables e below (s₁.setTop (mkF m 6 #[.val (.int p1), .val (.int p2), .val (.int p3)] [(.int p1)])) _
    refine XS.iloadN X0.here hx rfl (hb hby d3_6) rfl ?_
    show Steps p.tables e below (s₁.setTop (mkF m 7 #[.val (.int p1), .val (.int p2), .val (.int p3)] [(.int p3), (.int p1)])) _
    refine XS.icmpYes X0.here hx rfl (pc0 := 7) (pc' := 14) rfl (hb hby d3_7) rfl (tlt hc7).2.2.1 (by decide) (by decide) ?_
    show Steps p.tables e below (s₁.setTop (mkF m 14 #[.val (.int p1), .val (.int p2), .val (.int p3)] [])) _
    refine XS.iconst X0.here hx rfl (hb hby d3_14) ?_
    show Steps p.tables e below (s₁.setTop (mkF m 15 #[.val (.int p1), .val (.int p2), .val (.int p3)] [(.int (0 : Int32))])) _
    exact retN X0 hx (t := .boolean) Bd.returns (by simp) (hb hby d3_15) hr
  · show Q3 Z p1 p2 p3 h0 n0 _ s₁.heap _
    rw [e0]
    exact ⟨by rw [own_in, if_neg hc2, if_pos hc7], N0, rfl⟩
theorem d3_10 : decode method_2_code 10 = .ok (.iconst 1, 1) := by decide +kernel
theorem d3_11 : decode method_2_code 11 = .ok (.goto 4, 3) := by decide +kernel
set_option maxRecDepth 65536 in
set_option maxHeartbeats 40000000 in
theorem rm3_ff (l : Launch) (Z : State) (a0 : Array Value) (hw : ∀ d ∈ tables_1, d.before a0 Z = true) (ws : List Jvm.Cond) (p1 : Int32) (p2 : Int32) (p3 : Int32) (h0 : Heap) (n0 : Nat) (Z0 : n0 ≤ h0.size) (hc2 : ¬ (p1 < p2)) (hc7 : ¬ (p3 < p1)) :
    MetFree l (⟨"com/example/text_with_triples/textwithtriples/model/NameCharsIsBasePinLaw", "in", "(III)Z"⟩ : MethodName) (head1 (Jvm.Cond.code (⟨"com/example/text_with_triples/textwithtriples/model/NameCharsIsBasePinLaw", "in", "(III)Z"⟩ : MethodName) method_2_code 3 (some .boolean) :: ws) ({ frames := 0, cells := 0, slots := 0, locals := 0 } : Room)) (fun a U => a = #[(.int p1), (.int p2), (.int p3)] ∧ Z.Warmed39 U.vm ∧ U.heap = h0) (fun _ _ _ _ _ => True) (fun _ U o U' => ∃ v L, o = .returned v ∧ Q3 Z p1 p2 p3 h0 n0 v U'.heap L ∧ FrameEnd U o U' L ({ frames := 0, cells := 0, slots := 0, locals := 0 } : Room).cells ({ frames := 0, cells := 0, slots := 0, locals := 0 } : Room).slots) := by
  refine MetFree.of_bodySF (plainFor_of_name pn_3) hisR ?_
  intro p e s m args below meth c s₁ Bd hml0 hP hK
  obtain ⟨rfl, hZ, hh⟩ := hP
  have hx := Bd.exec
  have hby := Bd.bytes
  have hml : c.maxLocals = 3 := hml0
  have hown : s.vm.findClass "com/example/text_with_triples/textwithtriples/model/NameCharsIsBasePinLaw" = some m.cls := findClass_of_methodNamed Bd.named
  have hnm := (name_of_methodNamed Bd.named Bd.method).1
  have X0 : Stand p l e ({ frames := 0, cells := 0, slots := 0, locals := 0 } : Room) s m #[(.int p1), (.int p2), (.int p3)] below meth c s₁ [] 0 0 := Stand.of_body Bd
  have e0 : s₁.heap = h0 := by rw [← hh, Bd.state]; rfl
  have N0 := Fr.nil n0
  have pre0 : ∀ t, Steps p.tables e below (s₁.setTop (mkF m 0 #[.val (.int p1), .val (.int p2), .val (.int p3)] [])) t → Steps p.tables e below (s₁.setTop (entryFrame m #[(.int p1), (.int p2), (.int p3)] 3)) t := fun t k => castTop (ef_3 m p1 p2 p3) k

  obtain ⟨fs, hr, hrun, hended, hW, hsame⟩ := X0.leave (v := some (.int (1 : Int32))) (fun h => by rw [Bd.returns] at h; cases h)
  refine ⟨_, _, pre0 _ ?_, hrun, hended, _, _, rfl, ?_, ⟨_, rfl⟩, hW, hsame.mono (by decide) (by decide)⟩
  · show Steps p.tables e below (s₁.setTop (mkF m 0 #[.val (.int p1), .val (.int p2), .val (.int p3)] [])) _
    refine XS.iloadN X0.here hx rfl (hb hby d3_0) rfl ?_
    show Steps p.tables e below (s₁.setTop (mkF m 1 #[.val (.int p1), .val (.int p2), .val (.int p3)] [(.int p1)])) _
    refine XS.iloadN X0.here hx rfl (hb hby d3_1) rfl ?_
    show Steps p.tables e below (s₁.setTop (mkF m 2 #[.val (.int p1), .val (.int p2), .val (.int p3)] [(.int p2), (.int p1)])) _
    refine XS.icmpNo X0.here hx rfl (hb hby d3_2) rfl (flt hc2).1 ?_
    show Steps p.tables e below (s₁.setTop (mkF m 5 #[.val (.int p1), .val (.int p2), .val (.int p3)] [])) _
    refine XS.iloadN X0.here hx rfl (hb hby d3_5) rfl ?_
    show Steps p.tables e below (s₁.setTop (mkF m 6 #[.val (.int p1), .val (.int p2), .val (.int p3)] [(.int p1)])) _
    refine XS.iloadN X0.here hx rfl (hb hby d3_6) rfl ?_
    show Steps p.tables e below (s₁.setTop (mkF m 7 #[.val (.int p1), .val (.int p2), .val (.int p3)] [(.int p3), (.int p1)])) _
    refine XS.icmpNo X0.here hx rfl (hb hby d3_7) rfl (flt hc7).2.2.1 ?_
    show Steps p.tables e below (s₁.setTop (mkF m 10 #[.val (.int p1), .val (.int p2), .val (.int p3)] [])) _
    refine XS.iconst X0.here hx rfl (hb hby d3_10) ?_
    show Steps p.tables e below (s₁.setTop (mkF m 11 #[.val (.int p1), .val (.int p2), .val (.int p3)] [(.int (1 : Int32))])) _
    refine XS.goto X0.here hx rfl (pc0 := 11) (pc' := 15) rfl (hb hby d3_11) (by decide) (by decide) ?_
    show Steps p.tables e below (s₁.setTop (mkF m 15 #[.val (.int p1), .val (.int p2), .val (.int p3)] [(.int (1 : Int32))])) _
    exact retN X0 hx (t := .boolean) Bd.returns (by simp) (hb hby d3_15) hr
  · show Q3 Z p1 p2 p3 h0 n0 _ s₁.heap _
    rw [e0]
    exact ⟨by rw [own_in, if_neg hc2, if_neg hc7], N0, rfl⟩
set_option maxRecDepth 65536 in
set_option maxHeartbeats 40000000 in
theorem rm3 (l : Launch) (Z : State) (a0 : Array Value) (hw : ∀ d ∈ tables_1, d.before a0 Z = true) (ws : List Jvm.Cond) (p1 : Int32) (p2 : Int32) (p3 : Int32) (h0 : Heap) (n0 : Nat) (Z0 : n0 ≤ h0.size) :
    MetFree l (⟨"com/example/text_with_triples/textwithtriples/model/NameCharsIsBasePinLaw", "in", "(III)Z"⟩ : MethodName) (head1 (Jvm.Cond.code (⟨"com/example/text_with_triples/textwithtriples/model/NameCharsIsBasePinLaw", "in", "(III)Z"⟩ : MethodName) method_2_code 3 (some .boolean) :: ws) ({ frames := 0, cells := 0, slots := 0, locals := 0 } : Room)) (fun a U => a = #[(.int p1), (.int p2), (.int p3)] ∧ Z.Warmed39 U.vm ∧ U.heap = h0) (fun _ _ _ _ _ => True) (fun _ U o U' => ∃ v L, o = .returned v ∧ Q3 Z p1 p2 p3 h0 n0 v U'.heap L ∧ FrameEnd U o U' L ({ frames := 0, cells := 0, slots := 0, locals := 0 } : Room).cells ({ frames := 0, cells := 0, slots := 0, locals := 0 } : Room).slots) := by
  by_cases h2 : p1 < p2
  · exact rm3_t l Z a0 hw ws p1 p2 p3 h0 n0 Z0 h2
  · by_cases h7 : p3 < p1
    · exact rm3_ft l Z a0 hw ws p1 p2 p3 h0 n0 Z0 h2 h7
    · exact rm3_ff l Z a0 hw ws p1 p2 p3 h0 n0 Z0 h2 h7
theorem d2_0 : decode method_3_code 0 = .ok (.iload_n 0, 1) := by decide +kernel
theorem d2_1 : decode method_3_code 1 = .ok (.bipush 65, 2) := by decide +kernel
theorem d2_3 : decode method_3_code 3 = .ok (.if_icmp .lt 9, 3) := by decide +kernel
theorem d2_12 : decode method_3_code 12 = .ok (.iconst 0, 1) := by decide +kernel
theorem d2_13 : decode method_3_code 13 = .ok (.ireturn, 1) := by decide +kernel
theorem pn_2 : plainName "com/example/text_with_triples/textwithtriples/model/NameCharsIsBasePinLaw" = true := by first | (simp [plainName, overriddenIn]; done) | decide +kernel
theorem ef_2 (m : MethodId) (x0 : Int32) : entryFrame m #[(.int x0)] 2 = mkF m 0 #[.val (.int x0), .unset] [] := by first | (simp [entryFrame, mkF, argsToLocals, Value.category]; done) | rfl
def Q2 (Z : State) (p1 : Int32) (h0 : Heap) (n0 : Nat) (v : Option Value) (h : Heap) (L : List Loc) : Prop := v = some (.int (own_bs own_L p1)) ∧ Fr n0 L ∧ h = h0
set_option maxRecDepth 65536 in
set_option maxHeartbeats 40000000 in
theorem rm2_lo (l : Launch) (Z : State) (a0 : Array Value) (hw : ∀ d ∈ tables_1, d.before a0 Z = true) (ws : List Jvm.Cond) (p1 : Int32) (h0 : Heap) (n0 : Nat) (Z0 : n0 ≤ h0.size) (hc3 : p1 < (65 : Int32)) :
    MetFree l (⟨"com/example/text_with_triples/textwithtriples/model/NameCharsIsBasePinLaw", "ref", "(I)Z"⟩ : MethodName) (head1 (Jvm.Cond.code (⟨"com/example/text_with_triples/textwithtriples/model/NameCharsIsBasePinLaw", "ref", "(I)Z"⟩ : MethodName) method_3_code 2 (some .boolean) :: ws) ({ frames := 1, cells := 0, slots := 0, locals := 14 } : Room)) (fun a U => a = #[(.int p1)] ∧ Z.Warmed39 U.vm ∧ U.heap = h0) (fun _ _ _ _ _ => True) (fun _ U o U' => ∃ v L, o = .returned v ∧ Q2 Z p1 h0 n0 v U'.heap L ∧ FrameEnd U o U' L ({ frames := 1, cells := 0, slots := 0, locals := 14 } : Room).cells ({ frames := 1, cells := 0, slots := 0, locals := 14 } : Room).slots) := by
  refine MetFree.of_bodySF (plainFor_of_name pn_2) hisR ?_
  intro p e s m args below meth c s₁ Bd hml0 hP hK
  obtain ⟨rfl, hZ, hh⟩ := hP
  have hx := Bd.exec
  have hby := Bd.bytes
  have hml : c.maxLocals = 2 := hml0
  have hown : s.vm.findClass "com/example/text_with_triples/textwithtriples/model/NameCharsIsBasePinLaw" = some m.cls := findClass_of_methodNamed Bd.named
  have hnm := (name_of_methodNamed Bd.named Bd.method).1
  have X0 : Stand p l e ({ frames := 1, cells := 0, slots := 0, locals := 14 } : Room) s m #[(.int p1)] below meth c s₁ [] 0 0 := Stand.of_body Bd
  have e0 : s₁.heap = h0 := by rw [← hh, Bd.state]; rfl
  have N0 := Fr.nil n0
  have pre0 : ∀ t, Steps p.tables e below (s₁.setTop (mkF m 0 #[.val (.int p1), .unset] [])) t → Steps p.tables e below (s₁.setTop (entryFrame m #[(.int p1)] 2)) t := fun t k => castTop (ef_2 m p1) k

  obtain ⟨fs, hr, hrun, hended, hW, hsame⟩ := X0.leave (v := some (.int (0 : Int32))) (fun h => by rw [Bd.returns] at h; cases h)
  refine ⟨_, _, pre0 _ ?_, hrun, hended, _, _, rfl, ?_, ⟨_, rfl⟩, hW, hsame.mono (by decide) (by decide)⟩
  · show Steps p.tables e below (s₁.setTop (mkF m 0 #[.val (.int p1), .unset] [])) _
    refine XS.iloadN X0.here hx rfl (hb hby d2_0) rfl ?_
    show Steps p.tables e below (s₁.setTop (mkF m 1 #[.val (.int p1), .unset] [(.int p1)])) _
    refine XS.bipush X0.here hx rfl (hb hby d2_1) ?_
    show Steps p.tables e below (s₁.setTop (mkF m 3 #[.val (.int p1), .unset] [(.int (65 : Int32)), (.int p1)])) _
    refine XS.icmpYes X0.here hx rfl (pc0 := 3) (pc' := 12) rfl (hb hby d2_3) rfl (tlt hc3).1 (by decide) (by decide) ?_
    show Steps p.tables e below (s₁.setTop (mkF m 12 #[.val (.int p1), .unset] [])) _
    refine XS.iconst X0.here hx rfl (hb hby d2_12) ?_
    show Steps p.tables e below (s₁.setTop (mkF m 13 #[.val (.int p1), .unset] [(.int (0 : Int32))])) _
    exact retN X0 hx (t := .boolean) Bd.returns (by simp) (hb hby d2_13) hr
  · show Q2 Z p1 h0 n0 _ s₁.heap _
    rw [e0]
    exact ⟨by rw [own_low p1 hc3], N0, rfl⟩
theorem d2_6 : decode method_3_code 6 = .ok (.iload_n 0, 1) := by decide +kernel
theorem d2_7 : decode method_3_code 7 = .ok (.ldc 7, 2) := by decide +kernel
theorem d2_9 : decode method_3_code 9 = .ok (.if_icmp .le 5, 3) := by decide +kernel
set_option maxRecDepth 65536 in
set_option maxHeartbeats 40000000 in
theorem rm2_hi (l : Launch) (Z : State) (a0 : Array Value) (hw : ∀ d ∈ tables_1, d.before a0 Z = true) (ws : List Jvm.Cond) (p1 : Int32) (h0 : Heap) (n0 : Nat) (Z0 : n0 ≤ h0.size) (hc3 : ¬ (p1 < (65 : Int32))) (hc9 : (983039 : Int32) < p1) :
    MetFree l (⟨"com/example/text_with_triples/textwithtriples/model/NameCharsIsBasePinLaw", "ref", "(I)Z"⟩ : MethodName) (head1 (Jvm.Cond.code (⟨"com/example/text_with_triples/textwithtriples/model/NameCharsIsBasePinLaw", "ref", "(I)Z"⟩ : MethodName) method_3_code 2 (some .boolean) :: ws) ({ frames := 1, cells := 0, slots := 0, locals := 14 } : Room)) (fun a U => a = #[(.int p1)] ∧ Z.Warmed39 U.vm ∧ U.heap = h0) (fun _ _ _ _ _ => True) (fun _ U o U' => ∃ v L, o = .returned v ∧ Q2 Z p1 h0 n0 v U'.heap L ∧ FrameEnd U o U' L ({ frames := 1, cells := 0, slots := 0, locals := 14 } : Room).cells ({ frames := 1, cells := 0, slots := 0, locals := 14 } : Room).slots) := by
  refine MetFree.of_bodySF (plainFor_of_name pn_2) hisR ?_
  intro p e s m args below meth c s₁ Bd hml0 hP hK
  obtain ⟨rfl, hZ, hh⟩ := hP
  have hx := Bd.exec
  have hby := Bd.bytes
  have hml : c.maxLocals = 2 := hml0
  have hown : s.vm.findClass "com/example/text_with_triples/textwithtriples/model/NameCharsIsBasePinLaw" = some m.cls := findClass_of_methodNamed Bd.named
  have hnm := (name_of_methodNamed Bd.named Bd.method).1
  have X0 : Stand p l e ({ frames := 1, cells := 0, slots := 0, locals := 14 } : Room) s m #[(.int p1)] below meth c s₁ [] 0 0 := Stand.of_body Bd
  have e0 : s₁.heap = h0 := by rw [← hh, Bd.state]; rfl
  have N0 := Fr.nil n0
  have pre0 : ∀ t, Steps p.tables e below (s₁.setTop (mkF m 0 #[.val (.int p1), .unset] [])) t → Steps p.tables e below (s₁.setTop (entryFrame m #[(.int p1)] 2)) t := fun t k => castTop (ef_2 m p1) k

  obtain ⟨fs, hr, hrun, hended, hW, hsame⟩ := X0.leave (v := some (.int (0 : Int32))) (fun h => by rw [Bd.returns] at h; cases h)
  refine ⟨_, _, pre0 _ ?_, hrun, hended, _, _, rfl, ?_, ⟨_, rfl⟩, hW, hsame.mono (by decide) (by decide)⟩
  · show Steps p.tables e below (s₁.setTop (mkF m 0 #[.val (.int p1), .unset] [])) _
    refine XS.iloadN X0.here hx rfl (hb hby d2_0) rfl ?_
    show Steps p.tables e below (s₁.setTop (mkF m 1 #[.val (.int p1), .unset] [(.int p1)])) _
    refine XS.bipush X0.here hx rfl (hb hby d2_1) ?_
    show Steps p.tables e below (s₁.setTop (mkF m 3 #[.val (.int p1), .unset] [(.int (65 : Int32)), (.int p1)])) _
    refine XS.icmpNo X0.here hx rfl (hb hby d2_3) rfl (flt hc3).1 ?_
    show Steps p.tables e below (s₁.setTop (mkF m 6 #[.val (.int p1), .unset] [])) _
    refine XS.iloadN X0.here hx rfl (hb hby d2_6) rfl ?_
    show Steps p.tables e below (s₁.setTop (mkF m 7 #[.val (.int p1), .unset] [(.int p1)])) _
    refine X0.ldcInt hx hown (mvT hZ (hw _ (List.mem_of_getElem? (i := 7) rfl))) (g := (mkF m 7 #[.val (.int p1), .unset] [(.int p1)])) rfl (hb hby d2_7) _ ?_
    show Steps p.tables e below (s₁.setTop (mkF m 9 #[.val (.int p1), .unset] [(.int (983039 : Int32)), (.int p1)])) _
    refine XS.icmpNo X0.here hx rfl (hb hby d2_9) rfl (tlt hc9).2.2.2 ?_
    show Steps p.tables e below (s₁.setTop (mkF m 12 #[.val (.int p1), .unset] [])) _
    refine XS.iconst X0.here hx rfl (hb hby d2_12) ?_
    show Steps p.tables e below (s₁.setTop (mkF m 13 #[.val (.int p1), .unset] [(.int (0 : Int32))])) _
    exact retN X0 hx (t := .boolean) Bd.returns (by simp) (hb hby d2_13) hr
  · show Q2 Z p1 h0 n0 _ s₁.heap _
    rw [e0]
    exact ⟨by rw [own_high p1 hc9], N0, rfl⟩
theorem d2_14 : decode method_3_code 14 = .ok (.iload_n 0, 1) := by decide +kernel
theorem d2_15 : decode method_3_code 15 = .ok (.bipush 91, 2) := by decide +kernel
theorem d2_17 : decode method_3_code 17 = .ok (.bipush 96, 2) := by decide +kernel
theorem d2_19 : decode method_3_code 19 = .ok (.invokestatic 8, 3) := by decide +kernel
theorem d2_22 : decode method_3_code 22 = .ok (.ifCond .ne 134, 3) := by decide +kernel
theorem d2_156 : decode method_3_code 156 = .ok (.iconst 1, 1) := by decide +kernel
theorem d2_157 : decode method_3_code 157 = .ok (.goto 4, 3) := by decide +kernel
theorem d2_161 : decode method_3_code 161 = .ok (.istore_n 1, 1) := by decide +kernel
theorem d2_162 : decode method_3_code 162 = .ok (.iload_n 1, 1) := by decide +kernel
theorem d2_163 : decode method_3_code 163 = .ok (.ifCond .ne 7, 3) := by decide +kernel
theorem d2_170 : decode method_3_code 170 = .ok (.iconst 0, 1) := by decide +kernel
theorem d2_171 : decode method_3_code 171 = .ok (.ireturn, 1) := by decide +kernel
theorem pd_2_1 : parseMethodDescriptor "(III)Z" = some ⟨[.int, .int, .int], some .boolean⟩ := by decide +kernel
set_option maxRecDepth 65536 in
set_option maxHeartbeats 40000000 in
theorem rm2_0 (l : Launch) (Z : State) (a0 : Array Value) (hw : ∀ d ∈ tables_1, d.before a0 Z = true) (ws : List Jvm.Cond) (p1 : Int32) (h0 : Heap) (n0 : Nat) (Z0 : n0 ≤ h0.size) (g0 : ¬ (own_in p1 (91 : Int32) (96 : Int32) = (0 : Int32))) (hc3 : ¬ (p1 < (65 : Int32))) (hc9 : ¬ ((983039 : Int32) < p1)) (hc163 : ¬ ((1 : Int32) = (0 : Int32))) :
    MetFree l (⟨"com/example/text_with_triples/textwithtriples/model/NameCharsIsBasePinLaw", "ref", "(I)Z"⟩ : MethodName) (head1 (Jvm.Cond.code (⟨"com/example/text_with_triples/textwithtriples/model/NameCharsIsBasePinLaw", "ref", "(I)Z"⟩ : MethodName) method_3_code 2 (some .boolean) :: ws) ({ frames := 1, cells := 0, slots := 0, locals := 14 } : Room)) (fun a U => a = #[(.int p1)] ∧ Z.Warmed39 U.vm ∧ U.heap = h0) (fun _ _ _ _ _ => True) (fun _ U o U' => ∃ v L, o = .returned v ∧ Q2 Z p1 h0 n0 v U'.heap L ∧ FrameEnd U o U' L ({ frames := 1, cells := 0, slots := 0, locals := 14 } : Room).cells ({ frames := 1, cells := 0, slots := 0, locals := 14 } : Room).slots) := by
  refine MetFree.of_bodySF (plainFor_of_name pn_2) hisR ?_
  intro p e s m args below meth c s₁ Bd hml0 hP hK
  obtain ⟨rfl, hZ, hh⟩ := hP
  have hx := Bd.exec
  have hby := Bd.bytes
  have hml : c.maxLocals = 2 := hml0
  have hown : s.vm.findClass "com/example/text_with_triples/textwithtriples/model/NameCharsIsBasePinLaw" = some m.cls := findClass_of_methodNamed Bd.named
  have hnm := (name_of_methodNamed Bd.named Bd.method).1
  have X0 : Stand p l e ({ frames := 1, cells := 0, slots := 0, locals := 14 } : Room) s m #[(.int p1)] below meth c s₁ [] 0 0 := Stand.of_body Bd
  have e0 : s₁.heap = h0 := by rw [← hh, Bd.state]; rfl
  have N0 := Fr.nil n0
  have pre0 : ∀ t, Steps p.tables e below (s₁.setTop (mkF m 0 #[.val (.int p1), .unset] [])) t → Steps p.tables e below (s₁.setTop (entryFrame m #[(.int p1)] 2)) t := fun t k => castTop (ef_2 m p1) k
  obtain ⟨_, _, ⟨T2, L2, k2, n2⟩, -, X2, ⟨Lc2, hQ2, l2, y2, z2⟩, st2⟩ := Jvm.LawKit.callS X0 hx (y := (⟨"com/example/text_with_triples/textwithtriples/model/NameCharsIsBasePinLaw", "in", "(III)Z"⟩ : MethodName)) hown (mvT hZ (hw _ (List.mem_of_getElem? (i := 20) rfl))) (mvT hZ (hw _ (List.mem_of_getElem? (i := 21) rfl))) (mvT hZ (hw _ (List.mem_of_getElem? (i := 18) rfl))) (mvT hZ (hw _ (List.mem_of_getElem? (i := 22) rfl))) (by decide) (backOf (W := 0) (rm3 l Z a0 hw [] p1 (91 : Int32) (96 : Int32) h0 n0 Z0) hZ (hw _ (List.mem_of_getElem? (i := 22) rfl)) (hw _ (List.mem_of_getElem? (i := 18) rfl)) (by decide) (by decide)) (g := (mkF m 19 #[.val (.int p1), .unset] [(.int (96 : Int32)), (.int (91 : Int32)), (.int p1)])) rfl (by rw [hml]; rfl) (argsL := [(.int p1), (.int (91 : Int32)), (.int (96 : Int32))]) (rest := []) (lenOf pd_2_1 rfl) rfl (by show 2 * 0 + _ ≤ _; exact Nat.le_of_eq rfl) (hb hby d2_19) (fun _ _ => ⟨rfl, e0, (by decide : 0 + 0 ≤ _), (by decide : 0 + 0 ≤ _)⟩)
  dsimp only [Pt.U, Pt.locs, Pt.cells, Pt.slots] at X2 l2 y2 z2 st2 hQ2
  subst l2 y2 z2
  obtain ⟨rfl, N2q, eh2⟩ := hQ2
  have N2 := Fr.app N0 N2q
  obtain ⟨fs, hr, hrun, hended, hW, hsame⟩ := X2.leave (v := some (.int (0 : Int32))) (fun h => by rw [Bd.returns] at h; cases h)
  refine ⟨_, _, pre0 _ ?_, hrun, hended, _, _, rfl, ?_, ⟨_, rfl⟩, hW, hsame.mono (by decide) (by decide)⟩
  · show Steps p.tables e below (s₁.setTop (mkF m 0 #[.val (.int p1), .unset] [])) _
    refine XS.iloadN X0.here hx rfl (hb hby d2_0) rfl ?_
    show Steps p.tables e below (s₁.setTop (mkF m 1 #[.val (.int p1), .unset] [(.int p1)])) _
    refine XS.bipush X0.here hx rfl (hb hby d2_1) ?_
    show Steps p.tables e below (s₁.setTop (mkF m 3 #[.val (.int p1), .unset] [(.int (65 : Int32)), (.int p1)])) _
    refine XS.icmpNo X0.here hx rfl (hb hby d2_3) rfl (flt hc3).1 ?_
    show Steps p.tables e below (s₁.setTop (mkF m 6 #[.val (.int p1), .unset] [])) _
    refine XS.iloadN X0.here hx rfl (hb hby d2_6) rfl ?_
    show Steps p.tables e below (s₁.setTop (mkF m 7 #[.val (.int p1), .unset] [(.int p1)])) _
    refine X0.ldcInt hx hown (mvT hZ (hw _ (List.mem_of_getElem? (i := 7) rfl))) (g := (mkF m 7 #[.val (.int p1), .unset] [(.int p1)])) rfl (hb hby d2_7) _ ?_
    show Steps p.tables e below (s₁.setTop (mkF m 9 #[.val (.int p1), .unset] [(.int (983039 : Int32)), (.int p1)])) _
    refine XS.icmpYes X0.here hx rfl (pc0 := 9) (pc' := 14) rfl (hb hby d2_9) rfl (flt hc9).2.2.2 (by decide) (by decide) ?_
    show Steps p.tables e below (s₁.setTop (mkF m 14 #[.val (.int p1), .unset] [])) _
    refine XS.iloadN X0.here hx rfl (hb hby d2_14) rfl ?_
    show Steps p.tables e below (s₁.setTop (mkF m 15 #[.val (.int p1), .unset] [(.int p1)])) _
    refine XS.bipush X0.here hx rfl (hb hby d2_15) ?_
    show Steps p.tables e below (s₁.setTop (mkF m 17 #[.val (.int p1), .unset] [(.int (91 : Int32)), (.int p1)])) _
    refine XS.bipush X0.here hx rfl (hb hby d2_17) ?_
    show Steps p.tables e below (s₁.setTop (mkF m 19 #[.val (.int p1), .unset] [(.int (96 : Int32)), (.int (91 : Int32)), (.int p1)])) _
    refine st2 _ ?_
    show Steps p.tables e below (T2.setTop (mkF m 22 #[.val (.int p1), .unset] [(.int (own_in p1 (91 : Int32) (96 : Int32)))])) _
    refine XS.ifYes X2.here hx rfl (pc0 := 22) (pc' := 156) rfl (hb hby d2_22) rfl ((if0 _ _).trans (feq (g0 : ¬ ((own_in p1 (91 : Int32) (96 : Int32)) = (0 : Int32)))).2) (by decide) (by decide) ?_
    show Steps p.tables e below (T2.setTop (mkF m 156 #[.val (.int p1), .unset] [])) _
    refine XS.iconst X2.here hx rfl (hb hby d2_156) ?_
    show Steps p.tables e below (T2.setTop (mkF m 157 #[.val (.int p1), .unset] [(.int (1 : Int32))])) _
    refine XS.goto X2.here hx rfl (pc0 := 157) (pc' := 161) rfl (hb hby d2_157) (by decide) (by decide) ?_
    show Steps p.tables e below (T2.setTop (mkF m 161 #[.val (.int p1), .unset] [(.int (1 : Int32))])) _
    refine XS.istoreN X2.here hx rfl (hb hby d2_161) rfl (l' := #[.val (.int p1), .val (.int (1 : Int32))]) rfl ?_
    show Steps p.tables e below (T2.setTop (mkF m 162 #[.val (.int p1), .val (.int (1 : Int32))] [])) _
    refine XS.iloadN X2.here hx rfl (hb hby d2_162) rfl ?_
    show Steps p.tables e below (T2.setTop (mkF m 163 #[.val (.int p1), .val (.int (1 : Int32))] [(.int (1 : Int32))])) _
    refine XS.ifYes X2.here hx rfl (pc0 := 163) (pc' := 170) rfl (hb hby d2_163) rfl ((if0 _ _).trans (feq hc163).2) (by decide) (by decide) ?_
    show Steps p.tables e below (T2.setTop (mkF m 170 #[.val (.int p1), .val (.int (1 : Int32))] [])) _
    refine XS.iconst X2.here hx rfl (hb hby d2_170) ?_
    show Steps p.tables e below (T2.setTop (mkF m 171 #[.val (.int p1), .val (.int (1 : Int32))] [(.int (0 : Int32))])) _
    exact retN X2 hx (t := .boolean) Bd.returns (by simp) (hb hby d2_171) hr
  · show Q2 Z p1 h0 n0 _ T2.heap _
    exact ⟨by rw [own_g0 p1 g0], N2, eh2⟩
theorem d2_25 : decode method_3_code 25 = .ok (.iload_n 0, 1) := by decide +kernel
theorem d2_26 : decode method_3_code 26 = .ok (.bipush 123, 2) := by decide +kernel
theorem d2_28 : decode method_3_code 28 = .ok (.sipush 191, 3) := by decide +kernel
theorem d2_31 : decode method_3_code 31 = .ok (.invokestatic 8, 3) := by decide +kernel
theorem d2_34 : decode method_3_code 34 = .ok (.ifCond .ne 122, 3) := by decide +kernel
set_option maxRecDepth 65536 in
set_option maxHeartbeats 40000000 in
theorem rm2_1 (l : Launch) (Z : State) (a0 : Array Value) (hw : ∀ d ∈ tables_1, d.before a0 Z = true) (ws : List Jvm.Cond) (p1 : Int32) (h0 : Heap) (n0 : Nat) (Z0 : n0 ≤ h0.size) (g0 : own_in p1 (91 : Int32) (96 : Int32) = (0 : Int32)) (g1 : ¬ (own_in p1 (123 : Int32) (191 : Int32) = (0 : Int32))) (hc3 : ¬ (p1 < (65 : Int32))) (hc9 : ¬ ((983039 : Int32) < p1)) (hc163 : ¬ ((1 : Int32) = (0 : Int32))) :
    MetFree l (⟨"com/example/text_with_triples/textwithtriples/model/NameCharsIsBasePinLaw", "ref", "(I)Z"⟩ : MethodName) (head1 (Jvm.Cond.code (⟨"com/example/text_with_triples/textwithtriples/model/NameCharsIsBasePinLaw", "ref", "(I)Z"⟩ : MethodName) method_3_code 2 (some .boolean) :: ws) ({ frames := 1, cells := 0, slots := 0, locals := 14 } : Room)) (fun a U => a = #[(.int p1)] ∧ Z.Warmed39 U.vm ∧ U.heap = h0) (fun _ _ _ _ _ => True) (fun _ U o U' => ∃ v L, o = .returned v ∧ Q2 Z p1 h0 n0 v U'.heap L ∧ FrameEnd U o U' L ({ frames := 1, cells := 0, slots := 0, locals := 14 } : Room).cells ({ frames := 1, cells := 0, slots := 0, locals := 14 } : Room).slots) := by
  refine MetFree.of_bodySF (plainFor_of_name pn_2) hisR ?_
  intro p e s m args below meth c s₁ Bd hml0 hP hK
  obtain ⟨rfl, hZ, hh⟩ := hP
  have hx := Bd.exec
  have hby := Bd.bytes
  have hml : c.maxLocals = 2 := hml0
  have hown : s.vm.findClass "com/example/text_with_triples/textwithtriples/model/NameCharsIsBasePinLaw" = some m.cls := findClass_of_methodNamed Bd.named
  have hnm := (name_of_methodNamed Bd.named Bd.method).1
  have X0 : Stand p l e ({ frames := 1, cells := 0, slots := 0, locals := 14 } : Room) s m #[(.int p1)] below meth c s₁ [] 0 0 := Stand.of_body Bd
  have e0 : s₁.heap = h0 := by rw [← hh, Bd.state]; rfl
  have N0 := Fr.nil n0
  have pre0 : ∀ t, Steps p.tables e below (s₁.setTop (mkF m 0 #[.val (.int p1), .unset] [])) t → Steps p.tables e below (s₁.setTop (entryFrame m #[(.int p1)] 2)) t := fun t k => castTop (ef_2 m p1) k
  obtain ⟨_, _, ⟨T2, L2, k2, n2⟩, -, X2, ⟨Lc2, hQ2, l2, y2, z2⟩, st2⟩ := Jvm.LawKit.callS X0 hx (y := (⟨"com/example/text_with_triples/textwithtriples/model/NameCharsIsBasePinLaw", "in", "(III)Z"⟩ : MethodName)) hown (mvT hZ (hw _ (List.mem_of_getElem? (i := 20) rfl))) (mvT hZ (hw _ (List.mem_of_getElem? (i := 21) rfl))) (mvT hZ (hw _ (List.mem_of_getElem? (i := 18) rfl))) (mvT hZ (hw _ (List.mem_of_getElem? (i := 22) rfl))) (by decide) (backOf (W := 0) (rm3 l Z a0 hw [] p1 (91 : Int32) (96 : Int32) h0 n0 Z0) hZ (hw _ (List.mem_of_getElem? (i := 22) rfl)) (hw _ (List.mem_of_getElem? (i := 18) rfl)) (by decide) (by decide)) (g := (mkF m 19 #[.val (.int p1), .unset] [(.int (96 : Int32)), (.int (91 : Int32)), (.int p1)])) rfl (by rw [hml]; rfl) (argsL := [(.int p1), (.int (91 : Int32)), (.int (96 : Int32))]) (rest := []) (lenOf pd_2_1 rfl) rfl (by show 2 * 0 + _ ≤ _; exact Nat.le_of_eq rfl) (hb hby d2_19) (fun _ _ => ⟨rfl, e0, (by decide : 0 + 0 ≤ _), (by decide : 0 + 0 ≤ _)⟩)
  dsimp only [Pt.U, Pt.locs, Pt.cells, Pt.slots] at X2 l2 y2 z2 st2 hQ2
  subst l2 y2 z2
  obtain ⟨rfl, N2q, eh2⟩ := hQ2
  have N2 := Fr.app N0 N2q
  obtain ⟨_, _, ⟨T3, L3, k3, n3⟩, -, X3, ⟨Lc3, hQ3, l3, y3, z3⟩, st3⟩ := Jvm.LawKit.callS X2 hx (y := (⟨"com/example/text_with_triples/textwithtriples/model/NameCharsIsBasePinLaw", "in", "(III)Z"⟩ : MethodName)) hown (mvT hZ (hw _ (List.mem_of_getElem? (i := 20) rfl))) (mvT hZ (hw _ (List.mem_of_getElem? (i := 21) rfl))) (mvT hZ (hw _ (List.mem_of_getElem? (i := 18) rfl))) (mvT hZ (hw _ (List.mem_of_getElem? (i := 22) rfl))) (by decide) (backOf (W := 0) (rm3 l Z a0 hw [] p1 (123 : Int32) (191 : Int32) T2.heap n0 (by rw [eh2]; exact Z0)) hZ (hw _ (List.mem_of_getElem? (i := 22) rfl)) (hw _ (List.mem_of_getElem? (i := 18) rfl)) (by decide) (by decide)) (g := (mkF m 31 #[.val (.int p1), .unset] [(.int (191 : Int32)), (.int (123 : Int32)), (.int p1)])) rfl (by rw [hml]; rfl) (argsL := [(.int p1), (.int (123 : Int32)), (.int (191 : Int32))]) (rest := []) (lenOf pd_2_1 rfl) rfl (by show 2 * 0 + _ ≤ _; exact Nat.le_of_eq rfl) (hb hby d2_31) (fun _ _ => ⟨rfl, rfl, (by decide : 0 + 0 ≤ _), (by decide : 0 + 0 ≤ _)⟩)
  dsimp only [Pt.U, Pt.locs, Pt.cells, Pt.slots] at X3 l3 y3 z3 st3 hQ3
  subst l3 y3 z3
  obtain ⟨rfl, N3q, eh3⟩ := hQ3
  have N3 := Fr.app N2 N3q
  obtain ⟨fs, hr, hrun, hended, hW, hsame⟩ := X3.leave (v := some (.int (0 : Int32))) (fun h => by rw [Bd.returns] at h; cases h)
  refine ⟨_, _, pre0 _ ?_, hrun, hended, _, _, rfl, ?_, ⟨_, rfl⟩, hW, hsame.mono (by decide) (by decide)⟩
  · show Steps p.tables e below (s₁.setTop (mkF m 0 #[.val (.int p1), .unset] [])) _
    refine XS.iloadN X0.here hx rfl (hb hby d2_0) rfl ?_
    show Steps p.tables e below (s₁.setTop (mkF m 1 #[.val (.int p1), .unset] [(.int p1)])) _
    refine XS.bipush X0.here hx rfl (hb hby d2_1) ?_
    show Steps p.tables e below (s₁.setTop (mkF m 3 #[.val (.int p1), .unset] [(.int (65 : Int32)), (.int p1)])) _
    refine XS.icmpNo X0.here hx rfl (hb hby d2_3) rfl (flt hc3).1 ?_
    show Steps p.tables e below (s₁.setTop (mkF m 6 #[.val (.int p1), .unset] [])) _
    refine XS.iloadN X0.here hx rfl (hb hby d2_6) rfl ?_
    show Steps p.tables e below (s₁.setTop (mkF m 7 #[.val (.int p1), .unset] [(.int p1)])) _
    refine X0.ldcInt hx hown (mvT hZ (hw _ (List.mem_of_getElem? (i := 7) rfl))) (g := (mkF m 7 #[.val (.int p1), .unset] [(.int p1)])) rfl (hb hby d2_7) _ ?_
    show Steps p.tables e below (s₁.setTop (mkF m 9 #[.val (.int p1), .unset] [(.int (983039 : Int32)), (.int p1)])) _
    refine XS.icmpYes X0.here hx rfl (pc0 := 9) (pc' := 14) rfl (hb hby d2_9) rfl (flt hc9).2.2.2 (by decide) (by decide) ?_
    show Steps p.tables e below (s₁.setTop (mkF m 14 #[.val (.int p1), .unset] [])) _
    refine XS.iloadN X0.here hx rfl (hb hby d2_14) rfl ?_
    show Steps p.tables e below (s₁.setTop (mkF m 15 #[.val (.int p1), .unset] [(.int p1)])) _
    refine XS.bipush X0.here hx rfl (hb hby d2_15) ?_
    show Steps p.tables e below (s₁.setTop (mkF m 17 #[.val (.int p1), .unset] [(.int (91 : Int32)), (.int p1)])) _
    refine XS.bipush X0.here hx rfl (hb hby d2_17) ?_
    show Steps p.tables e below (s₁.setTop (mkF m 19 #[.val (.int p1), .unset] [(.int (96 : Int32)), (.int (91 : Int32)), (.int p1)])) _
    refine st2 _ ?_
    show Steps p.tables e below (T2.setTop (mkF m 22 #[.val (.int p1), .unset] [(.int (own_in p1 (91 : Int32) (96 : Int32)))])) _
    refine XS.ifNo X2.here hx rfl (hb hby d2_22) rfl ((if0 _ _).trans (teq (g0 : (own_in p1 (91 : Int32) (96 : Int32)) = (0 : Int32))).2) ?_
    show Steps p.tables e below (T2.setTop (mkF m 25 #[.val (.int p1), .unset] [])) _
    refine XS.iloadN X2.here hx rfl (hb hby d2_25) rfl ?_
    show Steps p.tables e below (T2.setTop (mkF m 26 #[.val (.int p1), .unset] [(.int p1)])) _
    refine XS.bipush X2.here hx rfl (hb hby d2_26) ?_
    show Steps p.tables e below (T2.setTop (mkF m 28 #[.val (.int p1), .unset] [(.int (123 : Int32)), (.int p1)])) _
    refine XS.sipush X2.here hx rfl (hb hby d2_28) ?_
    show Steps p.tables e below (T2.setTop (mkF m 31 #[.val (.int p1), .unset] [(.int (191 : Int32)), (.int (123 : Int32)), (.int p1)])) _
    refine st3 _ ?_
    show Steps p.tables e below (T3.setTop (mkF m 34 #[.val (.int p1), .unset] [(.int (own_in p1 (123 : Int32) (191 : Int32)))])) _
    refine XS.ifYes X3.here hx rfl (pc0 := 34) (pc' := 156) rfl (hb hby d2_34) rfl ((if0 _ _).trans (feq (g1 : ¬ ((own_in p1 (123 : Int32) (191 : Int32)) = (0 : Int32)))).2) (by decide) (by decide) ?_
    show Steps p.tables e below (T3.setTop (mkF m 156 #[.val (.int p1), .unset] [])) _
    refine XS.iconst X3.here hx rfl (hb hby d2_156) ?_
    show Steps p.tables e below (T3.setTop (mkF m 157 #[.val (.int p1), .unset] [(.int (1 : Int32))])) _
    refine XS.goto X3.here hx rfl (pc0 := 157) (pc' := 161) rfl (hb hby d2_157) (by decide) (by decide) ?_
    show Steps p.tables e below (T3.setTop (mkF m 161 #[.val (.int p1), .unset] [(.int (1 : Int32))])) _
    refine XS.istoreN X3.here hx rfl (hb hby d2_161) rfl (l' := #[.val (.int p1), .val (.int (1 : Int32))]) rfl ?_
    show Steps p.tables e below (T3.setTop (mkF m 162 #[.val (.int p1), .val (.int (1 : Int32))] [])) _
    refine XS.iloadN X3.here hx rfl (hb hby d2_162) rfl ?_
    show Steps p.tables e below (T3.setTop (mkF m 163 #[.val (.int p1), .val (.int (1 : Int32))] [(.int (1 : Int32))])) _
    refine XS.ifYes X3.here hx rfl (pc0 := 163) (pc' := 170) rfl (hb hby d2_163) rfl ((if0 _ _).trans (feq hc163).2) (by decide) (by decide) ?_
    show Steps p.tables e below (T3.setTop (mkF m 170 #[.val (.int p1), .val (.int (1 : Int32))] [])) _
    refine XS.iconst X3.here hx rfl (hb hby d2_170) ?_
    show Steps p.tables e below (T3.setTop (mkF m 171 #[.val (.int p1), .val (.int (1 : Int32))] [(.int (0 : Int32))])) _
    exact retN X3 hx (t := .boolean) Bd.returns (by simp) (hb hby d2_171) hr
  · show Q2 Z p1 h0 n0 _ T3.heap _
    exact ⟨by rw [own_g1 p1 g1], N3, eh3.trans eh2⟩
theorem d2_37 : decode method_3_code 37 = .ok (.iload_n 0, 1) := by decide +kernel
theorem d2_38 : decode method_3_code 38 = .ok (.sipush 215, 3) := by decide +kernel
theorem d2_41 : decode method_3_code 41 = .ok (.if_icmp .eq 115, 3) := by decide +kernel
set_option maxRecDepth 65536 in
set_option maxHeartbeats 40000000 in
theorem rm2_2 (l : Launch) (Z : State) (a0 : Array Value) (hw : ∀ d ∈ tables_1, d.before a0 Z = true) (ws : List Jvm.Cond) (p1 : Int32) (h0 : Heap) (n0 : Nat) (Z0 : n0 ≤ h0.size) (g0 : own_in p1 (91 : Int32) (96 : Int32) = (0 : Int32)) (g1 : own_in p1 (123 : Int32) (191 : Int32) = (0 : Int32)) (hc3 : ¬ (p1 < (65 : Int32))) (hc9 : ¬ ((983039 : Int32) < p1)) (hc41 : p1 = (215 : Int32)) (hc163 : ¬ ((1 : Int32) = (0 : Int32))) :
    MetFree l (⟨"com/example/text_with_triples/textwithtriples/model/NameCharsIsBasePinLaw", "ref", "(I)Z"⟩ : MethodName) (head1 (Jvm.Cond.code (⟨"com/example/text_with_triples/textwithtriples/model/NameCharsIsBasePinLaw", "ref", "(I)Z"⟩ : MethodName) method_3_code 2 (some .boolean) :: ws) ({ frames := 1, cells := 0, slots := 0, locals := 14 } : Room)) (fun a U => a = #[(.int p1)] ∧ Z.Warmed39 U.vm ∧ U.heap = h0) (fun _ _ _ _ _ => True) (fun _ U o U' => ∃ v L, o = .returned v ∧ Q2 Z p1 h0 n0 v U'.heap L ∧ FrameEnd U o U' L ({ frames := 1, cells := 0, slots := 0, locals := 14 } : Room).cells ({ frames := 1, cells := 0, slots := 0, locals := 14 } : Room).slots) := by
  refine MetFree.of_bodySF (plainFor_of_name pn_2) hisR ?_
  intro p e s m args below meth c s₁ Bd hml0 hP hK
  obtain ⟨rfl, hZ, hh⟩ := hP
  have hx := Bd.exec
  have hby := Bd.bytes
  have hml : c.maxLocals = 2 := hml0
  have hown : s.vm.findClass "com/example/text_with_triples/textwithtriples/model/NameCharsIsBasePinLaw" = some m.cls := findClass_of_methodNamed Bd.named
  have hnm := (name_of_methodNamed Bd.named Bd.method).1
  have X0 : Stand p l e ({ frames := 1, cells := 0, slots := 0, locals := 14 } : Room) s m #[(.int p1)] below meth c s₁ [] 0 0 := Stand.of_body Bd
  have e0 : s₁.heap = h0 := by rw [← hh, Bd.state]; rfl
  have N0 := Fr.nil n0
  have pre0 : ∀ t, Steps p.tables e below (s₁.setTop (mkF m 0 #[.val (.int p1), .unset] [])) t → Steps p.tables e below (s₁.setTop (entryFrame m #[(.int p1)] 2)) t := fun t k => castTop (ef_2 m p1) k
  obtain ⟨_, _, ⟨T2, L2, k2, n2⟩, -, X2, ⟨Lc2, hQ2, l2, y2, z2⟩, st2⟩ := Jvm.LawKit.callS X0 hx (y := (⟨"com/example/text_with_triples/textwithtriples/model/NameCharsIsBasePinLaw", "in", "(III)Z"⟩ : MethodName)) hown (mvT hZ (hw _ (List.mem_of_getElem? (i := 20) rfl))) (mvT hZ (hw _ (List.mem_of_getElem? (i := 21) rfl))) (mvT hZ (hw _ (List.mem_of_getElem? (i := 18) rfl))) (mvT hZ (hw _ (List.mem_of_getElem? (i := 22) rfl))) (by decide) (backOf (W := 0) (rm3 l Z a0 hw [] p1 (91 : Int32) (96 : Int32) h0 n0 Z0) hZ (hw _ (List.mem_of_getElem? (i := 22) rfl)) (hw _ (List.mem_of_getElem? (i := 18) rfl)) (by decide) (by decide)) (g := (mkF m 19 #[.val (.int p1), .unset] [(.int (96 : Int32)), (.int (91 : Int32)), (.int p1)])) rfl (by rw [hml]; rfl) (argsL := [(.int p1), (.int (91 : Int32)), (.int (96 : Int32))]) (rest := []) (lenOf pd_2_1 rfl) rfl (by show 2 * 0 + _ ≤ _; exact Nat.le_of_eq rfl) (hb hby d2_19) (fun _ _ => ⟨rfl, e0, (by decide : 0 + 0 ≤ _), (by decide : 0 + 0 ≤ _)⟩)
  dsimp only [Pt.U, Pt.locs, Pt.cells, Pt.slots] at X2 l2 y2 z2 st2 hQ2
  subst l2 y2 z2
  obtain ⟨rfl, N2q, eh2⟩ := hQ2
  have N2 := Fr.app N0 N2q
  obtain ⟨_, _, ⟨T3, L3, k3, n3⟩, -, X3, ⟨Lc3, hQ3, l3, y3, z3⟩, st3⟩ := Jvm.LawKit.callS X2 hx (y := (⟨"com/example/text_with_triples/textwithtriples/model/NameCharsIsBasePinLaw", "in", "(III)Z"⟩ : MethodName)) hown (mvT hZ (hw _ (List.mem_of_getElem? (i := 20) rfl))) (mvT hZ (hw _ (List.mem_of_getElem? (i := 21) rfl))) (mvT hZ (hw _ (List.mem_of_getElem? (i := 18) rfl))) (mvT hZ (hw _ (List.mem_of_getElem? (i := 22) rfl))) (by decide) (backOf (W := 0) (rm3 l Z a0 hw [] p1 (123 : Int32) (191 : Int32) T2.heap n0 (by rw [eh2]; exact Z0)) hZ (hw _ (List.mem_of_getElem? (i := 22) rfl)) (hw _ (List.mem_of_getElem? (i := 18) rfl)) (by decide) (by decide)) (g := (mkF m 31 #[.val (.int p1), .unset] [(.int (191 : Int32)), (.int (123 : Int32)), (.int p1)])) rfl (by rw [hml]; rfl) (argsL := [(.int p1), (.int (123 : Int32)), (.int (191 : Int32))]) (rest := []) (lenOf pd_2_1 rfl) rfl (by show 2 * 0 + _ ≤ _; exact Nat.le_of_eq rfl) (hb hby d2_31) (fun _ _ => ⟨rfl, rfl, (by decide : 0 + 0 ≤ _), (by decide : 0 + 0 ≤ _)⟩)
  dsimp only [Pt.U, Pt.locs, Pt.cells, Pt.slots] at X3 l3 y3 z3 st3 hQ3
  subst l3 y3 z3
  obtain ⟨rfl, N3q, eh3⟩ := hQ3
  have N3 := Fr.app N2 N3q
  obtain ⟨fs, hr, hrun, hended, hW, hsame⟩ := X3.leave (v := some (.int (0 : Int32))) (fun h => by rw [Bd.returns] at h; cases h)
  refine ⟨_, _, pre0 _ ?_, hrun, hended, _, _, rfl, ?_, ⟨_, rfl⟩, hW, hsame.mono (by decide) (by decide)⟩
  · show Steps p.tables e below (s₁.setTop (mkF m 0 #[.val (.int p1), .unset] [])) _
    refine XS.iloadN X0.here hx rfl (hb hby d2_0) rfl ?_
    show Steps p.tables e below (s₁.setTop (mkF m 1 #[.val (.int p1), .unset] [(.int p1)])) _
    refine XS.bipush X0.here hx rfl (hb hby d2_1) ?_
    show Steps p.tables e below (s₁.setTop (mkF m 3 #[.val (.int p1), .unset] [(.int (65 : Int32)), (.int p1)])) _
    refine XS.icmpNo X0.here hx rfl (hb hby d2_3) rfl (flt hc3).1 ?_
    show Steps p.tables e below (s₁.setTop (mkF m 6 #[.val (.int p1), .unset] [])) _
    refine XS.iloadN X0.here hx rfl (hb hby d2_6) rfl ?_
    show Steps p.tables e below (s₁.setTop (mkF m 7 #[.val (.int p1), .unset] [(.int p1)])) _
    refine X0.ldcInt hx hown (mvT hZ (hw _ (List.mem_of_getElem? (i := 7) rfl))) (g := (mkF m 7 #[.val (.int p1), .unset] [(.int p1)])) rfl (hb hby d2_7) _ ?_
    show Steps p.tables e below (s₁.setTop (mkF m 9 #[.val (.int p1), .unset] [(.int (983039 : Int32)), (.int p1)])) _
    refine XS.icmpYes X0.here hx rfl (pc0 := 9) (pc' := 14) rfl (hb hby d2_9) rfl (flt hc9).2.2.2 (by decide) (by decide) ?_
    show Steps p.tables e below (s₁.setTop (mkF m 14 #[.val (.int p1), .unset] [])) _
    refine XS.iloadN X0.here hx rfl (hb hby d2_14) rfl ?_
    show Steps p.tables e below (s₁.setTop (mkF m 15 #[.val (.int p1), .unset] [(.int p1)])) _
    refine XS.bipush X0.here hx rfl (hb hby d2_15) ?_
    show Steps p.tables e below (s₁.setTop (mkF m 17 #[.val (.int p1), .unset] [(.int (91 : Int32)), (.int p1)])) _
    refine XS.bipush X0.here hx rfl (hb hby d2_17) ?_
    show Steps p.tables e below (s₁.setTop (mkF m 19 #[.val (.int p1), .unset] [(.int (96 : Int32)), (.int (91 : Int32)), (.int p1)])) _
    refine st2 _ ?_
    show Steps p.tables e below (T2.setTop (mkF m 22 #[.val (.int p1), .unset] [(.int (own_in p1 (91 : Int32) (96 : Int32)))])) _
    refine XS.ifNo X2.here hx rfl (hb hby d2_22) rfl ((if0 _ _).trans (teq (g0 : (own_in p1 (91 : Int32) (96 : Int32)) = (0 : Int32))).2) ?_
    show Steps p.tables e below (T2.setTop (mkF m 25 #[.val (.int p1), .unset] [])) _
    refine XS.iloadN X2.here hx rfl (hb hby d2_25) rfl ?_
    show Steps p.tables e below (T2.setTop (mkF m 26 #[.val (.int p1), .unset] [(.int p1)])) _
    refine XS.bipush X2.here hx rfl (hb hby d2_26) ?_
    show Steps p.tables e below (T2.setTop (mkF m 28 #[.val (.int p1), .unset] [(.int (123 : Int32)), (.int p1)])) _
    refine XS.sipush X2.here hx rfl (hb hby d2_28) ?_
    show Steps p.tables e below (T2.setTop (mkF m 31 #[.val (.int p1), .unset] [(.int (191 : Int32)), (.int (123 : Int32)), (.int p1)])) _
    refine st3 _ ?_
    show Steps p.tables e below (T3.setTop (mkF m 34 #[.val (.int p1), .unset] [(.int (own_in p1 (123 : Int32) (191 : Int32)))])) _
    refine XS.ifNo X3.here hx rfl (hb hby d2_34) rfl ((if0 _ _).trans (teq (g1 : (own_in p1 (123 : Int32) (191 : Int32)) = (0 : Int32))).2) ?_
    show Steps p.tables e below (T3.setTop (mkF m 37 #[.val (.int p1), .unset] [])) _
    refine XS.iloadN X3.here hx rfl (hb hby d2_37) rfl ?_
    show Steps p.tables e below (T3.setTop (mkF m 38 #[.val (.int p1), .unset] [(.int p1)])) _
    refine XS.sipush X3.here hx rfl (hb hby d2_38) ?_
    show Steps p.tables e below (T3.setTop (mkF m 41 #[.val (.int p1), .unset] [(.int (215 : Int32)), (.int p1)])) _
    refine XS.icmpYes X3.here hx rfl (pc0 := 41) (pc' := 156) rfl (hb hby d2_41) rfl (teq hc41).1 (by decide) (by decide) ?_
    show Steps p.tables e below (T3.setTop (mkF m 156 #[.val (.int p1), .unset] [])) _
    refine XS.iconst X3.here hx rfl (hb hby d2_156) ?_
    show Steps p.tables e below (T3.setTop (mkF m 157 #[.val (.int p1), .unset] [(.int (1 : Int32))])) _
    refine XS.goto X3.here hx rfl (pc0 := 157) (pc' := 161) rfl (hb hby d2_157) (by decide) (by decide) ?_
    show Steps p.tables e below (T3.setTop (mkF m 161 #[.val (.int p1), .unset] [(.int (1 : Int32))])) _
    refine XS.istoreN X3.here hx rfl (hb hby d2_161) rfl (l' := #[.val (.int p1), .val (.int (1 : Int32))]) rfl ?_
    show Steps p.tables e below (T3.setTop (mkF m 162 #[.val (.int p1), .val (.int (1 : Int32))] [])) _
    refine XS.iloadN X3.here hx rfl (hb hby d2_162) rfl ?_
    show Steps p.tables e below (T3.setTop (mkF m 163 #[.val (.int p1), .val (.int (1 : Int32))] [(.int (1 : Int32))])) _
    refine XS.ifYes X3.here hx rfl (pc0 := 163) (pc' := 170) rfl (hb hby d2_163) rfl ((if0 _ _).trans (feq hc163).2) (by decide) (by decide) ?_
    show Steps p.tables e below (T3.setTop (mkF m 170 #[.val (.int p1), .val (.int (1 : Int32))] [])) _
    refine XS.iconst X3.here hx rfl (hb hby d2_170) ?_
    show Steps p.tables e below (T3.setTop (mkF m 171 #[.val (.int p1), .val (.int (1 : Int32))] [(.int (0 : Int32))])) _
    exact retN X3 hx (t := .boolean) Bd.returns (by simp) (hb hby d2_171) hr
  · show Q2 Z p1 h0 n0 _ T3.heap _
    exact ⟨by rw [own_g2 p1 hc41], N3, eh3.trans eh2⟩
theorem d2_44 : decode method_3_code 44 = .ok (.iload_n 0, 1) := by decide +kernel
theorem d2_45 : decode method_3_code 45 = .ok (.sipush 247, 3) := by decide +kernel
theorem d2_48 : decode method_3_code 48 = .ok (.if_icmp .eq 108, 3) := by decide +kernel
set_option maxRecDepth 65536 in
set_option maxHeartbeats 40000000 in
theorem rm2_3 (l : Launch) (Z : State) (a0 : Array Value) (hw : ∀ d ∈ tables_1, d.before a0 Z = true) (ws : List Jvm.Cond) (p1 : Int32) (h0 : Heap) (n0 : Nat) (Z0 : n0 ≤ h0.size) (g0 : own_in p1 (91 : Int32) (96 : Int32) = (0 : Int32)) (g1 : own_in p1 (123 : Int32) (191 : Int32) = (0 : Int32)) (hc3 : ¬ (p1 < (65 : Int32))) (hc9 : ¬ ((983039 : Int32) < p1)) (hc41 : ¬ (p1 = (215 : Int32))) (hc48 : p1 = (247 : Int32)) (hc163 : ¬ ((1 : Int32) = (0 : Int32))) :
    MetFree l (⟨"com/example/text_with_triples/textwithtriples/model/NameCharsIsBasePinLaw", "ref", "(I)Z"⟩ : MethodName) (head1 (Jvm.Cond.code (⟨"com/example/text_with_triples/textwithtriples/model/NameCharsIsBasePinLaw", "ref", "(I)Z"⟩ : MethodName) method_3_code 2 (some .boolean) :: ws) ({ frames := 1, cells := 0, slots := 0, locals := 14 } : Room)) (fun a U => a = #[(.int p1)] ∧ Z.Warmed39 U.vm ∧ U.heap = h0) (fun _ _ _ _ _ => True) (fun _ U o U' => ∃ v L, o = .returned v ∧ Q2 Z p1 h0 n0 v U'.heap L ∧ FrameEnd U o U' L ({ frames := 1, cells := 0, slots := 0, locals := 14 } : Room).cells ({ frames := 1, cells := 0, slots := 0, locals := 14 } : Room).slots) := by
  refine MetFree.of_bodySF (plainFor_of_name pn_2) hisR ?_
  intro p e s m args below meth c s₁ Bd hml0 hP hK
  obtain ⟨rfl, hZ, hh⟩ := hP
  have hx := Bd.exec
  have hby := Bd.bytes
  have hml : c.maxLocals = 2 := hml0
  have hown : s.vm.findClass "com/example/text_with_triples/textwithtriples/model/NameCharsIsBasePinLaw" = some m.cls := findClass_of_methodNamed Bd.named
  have hnm := (name_of_methodNamed Bd.named Bd.method).1
  have X0 : Stand p l e ({ frames := 1, cells := 0, slots := 0, locals := 14 } : Room) s m #[(.int p1)] below meth c s₁ [] 0 0 := Stand.of_body Bd
  have e0 : s₁.heap = h0 := by rw [← hh, Bd.state]; rfl
  have N0 := Fr.nil n0
  have pre0 : ∀ t, Steps p.tables e below (s₁.setTop (mkF m 0 #[.val (.int p1), .unset] [])) t → Steps p.tables e below (s₁.setTop (entryFrame m #[(.int p1)] 2)) t := fun t k => castTop (ef_2 m p1) k
  obtain ⟨_, _, ⟨T2, L2, k2, n2⟩, -, X2, ⟨Lc2, hQ2, l2, y2, z2⟩, st2⟩ := Jvm.LawKit.callS X0 hx (y := (⟨"com/example/text_with_triples/textwithtriples/model/NameCharsIsBasePinLaw", "in", "(III)Z"⟩ : MethodName)) hown (mvT hZ (hw _ (List.mem_of_getElem? (i := 20) rfl))) (mvT hZ (hw _ (List.mem_of_getElem? (i := 21) rfl))) (mvT hZ (hw _ (List.mem_of_getElem? (i := 18) rfl))) (mvT hZ (hw _ (List.mem_of_getElem? (i := 22) rfl))) (by decide) (backOf (W := 0) (rm3 l Z a0 hw [] p1 (91 : Int32) (96 : Int32) h0 n0 Z0) hZ (hw _ (List.mem_of_getElem? (i := 22) rfl)) (hw _ (List.mem_of_getElem? (i := 18) rfl)) (by decide) (by decide)) (g := (mkF m 19 #[.val (.int p1), .unset] [(.int (96 : Int32)), (.int (91 : Int32)), (.int p1)])) rfl (by rw [hml]; rfl) (argsL := [(.int p1), (.int (91 : Int32)), (.int (96 : Int32))]) (rest := []) (lenOf pd_2_1 rfl) rfl (by show 2 * 0 + _ ≤ _; exact Nat.le_of_eq rfl) (hb hby d2_19) (fun _ _ => ⟨rfl, e0, (by decide : 0 + 0 ≤ _), (by decide : 0 + 0 ≤ _)⟩)
  dsimp only [Pt.U, Pt.locs, Pt.cells, Pt.slots] at X2 l2 y2 z2 st2 hQ2
  subst l2 y2 z2
  obtain ⟨rfl, N2q, eh2⟩ := hQ2
  have N2 := Fr.app N0 N2q
  obtain ⟨_, _, ⟨T3, L3, k3, n3⟩, -, X3, ⟨Lc3, hQ3, l3, y3, z3⟩, st3⟩ := Jvm.LawKit.callS X2 hx (y := (⟨"com/example/text_with_triples/textwithtriples/model/NameCharsIsBasePinLaw", "in", "(III)Z"⟩ : MethodName)) hown (mvT hZ (hw _ (List.mem_of_getElem? (i := 20) rfl))) (mvT hZ (hw _ (List.mem_of_getElem? (i := 21) rfl))) (mvT hZ (hw _ (List.mem_of_getElem? (i := 18) rfl))) (mvT hZ (hw _ (List.mem_of_getElem? (i := 22) rfl))) (by decide) (backOf (W := 0) (rm3 l Z a0 hw [] p1 (123 : Int32) (191 : Int32) T2.heap n0 (by rw [eh2]; exact Z0)) hZ (hw _ (List.mem_of_getElem? (i := 22) rfl)) (hw _ (List.mem_of_getElem? (i := 18) rfl)) (by decide) (by decide)) (g := (mkF m 31 #[.val (.int p1), .unset] [(.int (191 : Int32)), (.int (123 : Int32)), (.int p1)])) rfl (by rw [hml]; rfl) (argsL := [(.int p1), (.int (123 : Int32)), (.int (191 : Int32))]) (rest := []) (lenOf pd_2_1 rfl) rfl (by show 2 * 0 + _ ≤ _; exact Nat.le_of_eq rfl) (hb hby d2_31) (fun _ _ => ⟨rfl, rfl, (by decide : 0 + 0 ≤ _), (by decide : 0 + 0 ≤ _)⟩)
  dsimp only [Pt.U, Pt.locs, Pt.cells, Pt.slots] at X3 l3 y3 z3 st3 hQ3
  subst l3 y3 z3
  obtain ⟨rfl, N3q, eh3⟩ := hQ3
  have N3 := Fr.app N2 N3q
  obtain ⟨fs, hr, hrun, hended, hW, hsame⟩ := X3.leave (v := some (.int (0 : Int32))) (fun h => by rw [Bd.returns] at h; cases h)
  refine ⟨_, _, pre0 _ ?_, hrun, hended, _, _, rfl, ?_, ⟨_, rfl⟩, hW, hsame.mono (by decide) (by decide)⟩
  · show Steps p.tables e below (s₁.setTop (mkF m 0 #[.val (.int p1), .unset] [])) _
    refine XS.iloadN X0.here hx rfl (hb hby d2_0) rfl ?_
    show Steps p.tables e below (s₁.setTop (mkF m 1 #[.val (.int p1), .unset] [(.int p1)])) _
    refine XS.bipush X0.here hx rfl (hb hby d2_1) ?_
    show Steps p.tables e below (s₁.setTop (mkF m 3 #[.val (.int p1), .unset] [(.int (65 : Int32)), (.int p1)])) _
    refine XS.icmpNo X0.here hx rfl (hb hby d2_3) rfl (flt hc3).1 ?_
    show Steps p.tables e below (s₁.setTop (mkF m 6 #[.val (.int p1), .unset] [])) _
    refine XS.iloadN X0.here hx rfl (hb hby d2_6) rfl ?_
    show Steps p.tables e below (s₁.setTop (mkF m 7 #[.val (.int p1), .unset] [(.int p1)])) _
    refine X0.ldcInt hx hown (mvT hZ (hw _ (List.mem_of_getElem? (i := 7) rfl))) (g := (mkF m 7 #[.val (.int p1), .unset] [(.int p1)])) rfl (hb hby d2_7) _ ?_
    show Steps p.tables e below (s₁.setTop (mkF m 9 #[.val (.int p1), .unset] [(.int (983039 : Int32)), (.int p1)])) _
    refine XS.icmpYes X0.here hx rfl (pc0 := 9) (pc' := 14) rfl (hb hby d2_9) rfl (flt hc9).2.2.2 (by decide) (by decide) ?_
    show Steps p.tables e below (s₁.setTop (mkF m 14 #[.val (.int p1), .unset] [])) _
    refine XS.iloadN X0.here hx rfl (hb hby d2_14) rfl ?_
    show Steps p.tables e below (s₁.setTop (mkF m 15 #[.val (.int p1), .unset] [(.int p1)])) _
    refine XS.bipush X0.here hx rfl (hb hby d2_15) ?_
    show Steps p.tables e below (s₁.setTop (mkF m 17 #[.val (.int p1), .unset] [(.int (91 : Int32)), (.int p1)])) _
    refine XS.bipush X0.here hx rfl (hb hby d2_17) ?_
    show Steps p.tables e below (s₁.setTop (mkF m 19 #[.val (.int p1), .unset] [(.int (96 : Int32)), (.int (91 : Int32)), (.int p1)])) _
    refine st2 _ ?_
    show Steps p.tables e below (T2.setTop (mkF m 22 #[.val (.int p1), .unset] [(.int (own_in p1 (91 : Int32) (96 : Int32)))])) _
    refine XS.ifNo X2.here hx rfl (hb hby d2_22) rfl ((if0 _ _).trans (teq (g0 : (own_in p1 (91 : Int32) (96 : Int32)) = (0 : Int32))).2) ?_
    show Steps p.tables e below (T2.setTop (mkF m 25 #[.val (.int p1), .unset] [])) _
    refine XS.iloadN X2.here hx rfl (hb hby d2_25) rfl ?_
    show Steps p.tables e below (T2.setTop (mkF m 26 #[.val (.int p1), .unset] [(.int p1)])) _
    refine XS.bipush X2.here hx rfl (hb hby d2_26) ?_
    show Steps p.tables e below (T2.setTop (mkF m 28 #[.val (.int p1), .unset] [(.int (123 : Int32)), (.int p1)])) _
    refine XS.sipush X2.here hx rfl (hb hby d2_28) ?_
    show Steps p.tables e below (T2.setTop (mkF m 31 #[.val (.int p1), .unset] [(.int (191 : Int32)), (.int (123 : Int32)), (.int p1)])) _
    refine st3 _ ?_
    show Steps p.tables e below (T3.setTop (mkF m 34 #[.val (.int p1), .unset] [(.int (own_in p1 (123 : Int32) (191 : Int32)))])) _
    refine XS.ifNo X3.here hx rfl (hb hby d2_34) rfl ((if0 _ _).trans (teq (g1 : (own_in p1 (123 : Int32) (191 : Int32)) = (0 : Int32))).2) ?_
    show Steps p.tables e below (T3.setTop (mkF m 37 #[.val (.int p1), .unset] [])) _
    refine XS.iloadN X3.here hx rfl (hb hby d2_37) rfl ?_
    show Steps p.tables e below (T3.setTop (mkF m 38 #[.val (.int p1), .unset] [(.int p1)])) _
    refine XS.sipush X3.here hx rfl (hb hby d2_38) ?_
    show Steps p.tables e below (T3.setTop (mkF m 41 #[.val (.int p1), .unset] [(.int (215 : Int32)), (.int p1)])) _
    refine XS.icmpNo X3.here hx rfl (hb hby d2_41) rfl (feq hc41).1 ?_
    show Steps p.tables e below (T3.setTop (mkF m 44 #[.val (.int p1), .unset] [])) _
    refine XS.iloadN X3.here hx rfl (hb hby d2_44) rfl ?_
    show Steps p.tables e below (T3.setTop (mkF m 45 #[.val (.int p1), .unset] [(.int p1)])) _
    refine XS.sipush X3.here hx rfl (hb hby d2_45) ?_
    show Steps p.tables e below (T3.setTop (mkF m 48 #[.val (.int p1), .unset] [(.int (247 : Int32)), (.int p1)])) _
    refine XS.icmpYes X3.here hx rfl (pc0 := 48) (pc' := 156) rfl (hb hby d2_48) rfl (teq hc48).1 (by decide) (by decide) ?_
    show Steps p.tables e below (T3.setTop (mkF m 156 #[.val (.int p1), .unset] [])) _
    refine XS.iconst X3.here hx rfl (hb hby d2_156) ?_
    show Steps p.tables e below (T3.setTop (mkF m 157 #[.val (.int p1), .unset] [(.int (1 : Int32))])) _
    refine XS.goto X3.here hx rfl (pc0 := 157) (pc' := 161) rfl (hb hby d2_157) (by decide) (by decide) ?_
    show Steps p.tables e below (T3.setTop (mkF m 161 #[.val (.int p1), .unset] [(.int (1 : Int32))])) _
    refine XS.istoreN X3.here hx rfl (hb hby d2_161) rfl (l' := #[.val (.int p1), .val (.int (1 : Int32))]) rfl ?_
    show Steps p.tables e below (T3.setTop (mkF m 162 #[.val (.int p1), .val (.int (1 : Int32))] [])) _
    refine XS.iloadN X3.here hx rfl (hb hby d2_162) rfl ?_
    show Steps p.tables e below (T3.setTop (mkF m 163 #[.val (.int p1), .val (.int (1 : Int32))] [(.int (1 : Int32))])) _
    refine XS.ifYes X3.here hx rfl (pc0 := 163) (pc' := 170) rfl (hb hby d2_163) rfl ((if0 _ _).trans (feq hc163).2) (by decide) (by decide) ?_
    show Steps p.tables e below (T3.setTop (mkF m 170 #[.val (.int p1), .val (.int (1 : Int32))] [])) _
    refine XS.iconst X3.here hx rfl (hb hby d2_170) ?_
    show Steps p.tables e below (T3.setTop (mkF m 171 #[.val (.int p1), .val (.int (1 : Int32))] [(.int (0 : Int32))])) _
    exact retN X3 hx (t := .boolean) Bd.returns (by simp) (hb hby d2_171) hr
  · show Q2 Z p1 h0 n0 _ T3.heap _
    exact ⟨by rw [own_g3 p1 hc48], N3, eh3.trans eh2⟩
theorem d2_51 : decode method_3_code 51 = .ok (.iload_n 0, 1) := by decide +kernel
theorem d2_52 : decode method_3_code 52 = .ok (.sipush 768, 3) := by decide +kernel
theorem d2_55 : decode method_3_code 55 = .ok (.sipush 879, 3) := by decide +kernel
theorem d2_58 : decode method_3_code 58 = .ok (.invokestatic 8, 3) := by decide +kernel
theorem d2_61 : decode method_3_code 61 = .ok (.ifCond .ne 95, 3) := by decide +kernel
set_option maxRecDepth 65536 in
set_option maxHeartbeats 40000000 in
theorem rm2_4 (l : Launch) (Z : State) (a0 : Array Value) (hw : ∀ d ∈ tables_1, d.before a0 Z = true) (ws : List Jvm.Cond) (p1 : Int32) (h0 : Heap) (n0 : Nat) (Z0 : n0 ≤ h0.size) (g0 : own_in p1 (91 : Int32) (96 : Int32) = (0 : Int32)) (g1 : own_in p1 (123 : Int32) (191 : Int32) = (0 : Int32)) (g4 : ¬ (own_in p1 (768 : Int32) (879 : Int32) = (0 : Int32))) (hc3 : ¬ (p1 < (65 : Int32))) (hc9 : ¬ ((983039 : Int32) < p1)) (hc41 : ¬ (p1 = (215 : Int32))) (hc48 : ¬ (p1 = (247 : Int32))) (hc163 : ¬ ((1 : Int32) = (0 : Int32))) :
    MetFree l (⟨"com/example/text_with_triples/textwithtriples/model/NameCharsIsBasePinLaw", "ref", "(I)Z"⟩ : MethodName) (head1 (Jvm.Cond.code (⟨"com/example/text_with_triples/textwithtriples/model/NameCharsIsBasePinLaw", "ref", "(I)Z"⟩ : MethodName) method_3_code 2 (some .boolean) :: ws) ({ frames := 1, cells := 0, slots := 0, locals := 14 } : Room)) (fun a U => a = #[(.int p1)] ∧ Z.Warmed39 U.vm ∧ U.heap = h0) (fun _ _ _ _ _ => True) (fun _ U o U' => ∃ v L, o = .returned v ∧ Q2 Z p1 h0 n0 v U'.heap L ∧ FrameEnd U o U' L ({ frames := 1, cells := 0, slots := 0, locals := 14 } : Room).cells ({ frames := 1, cells := 0, slots := 0, locals := 14 } : Room).slots) := by
  refine MetFree.of_bodySF (plainFor_of_name pn_2) hisR ?_
  intro p e s m args below meth c s₁ Bd hml0 hP hK
  obtain ⟨rfl, hZ, hh⟩ := hP
  have hx := Bd.exec
  have hby := Bd.bytes
  have hml : c.maxLocals = 2 := hml0
  have hown : s.vm.findClass "com/example/text_with_triples/textwithtriples/model/NameCharsIsBasePinLaw" = some m.cls := findClass_of_methodNamed Bd.named
  have hnm := (name_of_methodNamed Bd.named Bd.method).1
  have X0 : Stand p l e ({ frames := 1, cells := 0, slots := 0, locals := 14 } : Room) s m #[(.int p1)] below meth c s₁ [] 0 0 := Stand.of_body Bd
  have e0 : s₁.heap = h0 := by rw [← hh, Bd.state]; rfl
  have N0 := Fr.nil n0
  have pre0 : ∀ t, Steps p.tables e below (s₁.setTop (mkF m 0 #[.val (.int p1), .unset] [])) t → Steps p.tables e below (s₁.setTop (entryFrame m #[(.int p1)] 2)) t := fun t k => castTop (ef_2 m p1) k
  obtain ⟨_, _, ⟨T2, L2, k2, n2⟩, -, X2, ⟨Lc2, hQ2, l2, y2, z2⟩, st2⟩ := Jvm.LawKit.callS X0 hx (y := (⟨"com/example/text_with_triples/textwithtriples/model/NameCharsIsBasePinLaw", "in", "(III)Z"⟩ : MethodName)) hown (mvT hZ (hw _ (List.mem_of_getElem? (i := 20) rfl))) (mvT hZ (hw _ (List.mem_of_getElem? (i := 21) rfl))) (mvT hZ (hw _ (List.mem_of_getElem? (i := 18) rfl))) (mvT hZ (hw _ (List.mem_of_getElem? (i := 22) rfl))) (by decide) (backOf (W := 0) (rm3 l Z a0 hw [] p1 (91 : Int32) (96 : Int32) h0 n0 Z0) hZ (hw _ (List.mem_of_getElem? (i := 22) rfl)) (hw _ (List.mem_of_getElem? (i := 18) rfl)) (by decide) (by decide)) (g := (mkF m 19 #[.val (.int p1), .unset] [(.int (96 : Int32)), (.int (91 : Int32)), (.int p1)])) rfl (by rw [hml]; rfl) (argsL := [(.int p1), (.int (91 : Int32)), (.int (96 : Int32))]) (rest := []) (lenOf pd_2_1 rfl) rfl (by show 2 * 0 + _ ≤ _; exact Nat.le_of_eq rfl) (hb hby d2_19) (fun _ _ => ⟨rfl, e0, (by decide : 0 + 0 ≤ _), (by decide : 0 + 0 ≤ _)⟩)
  dsimp only [Pt.U, Pt.locs, Pt.cells, Pt.slots] at X2 l2 y2 z2 st2 hQ2
  subst l2 y2 z2
  obtain ⟨rfl, N2q, eh2⟩ := hQ2
  have N2 := Fr.app N0 N2q
  obtain ⟨_, _, ⟨T3, L3, k3, n3⟩, -, X3, ⟨Lc3, hQ3, l3, y3, z3⟩, st3⟩ := Jvm.LawKit.callS X2 hx (y := (⟨"com/example/text_with_triples/textwithtriples/model/NameCharsIsBasePinLaw", "in", "(III)Z"⟩ : MethodName)) hown (mvT hZ (hw _ (List.mem_of_getElem? (i := 20) rfl))) (mvT hZ (hw _ (List.mem_of_getElem? (i := 21) rfl))) (mvT hZ (hw _ (List.mem_of_getElem? (i := 18) rfl))) (mvT hZ (hw _ (List.mem_of_getElem? (i := 22) rfl))) (by decide) (backOf (W := 0) (rm3 l Z a0 hw [] p1 (123 : Int32) (191 : Int32) T2.heap n0 (by rw [eh2]; exact Z0)) hZ (hw _ (List.mem_of_getElem? (i := 22) rfl)) (hw _ (List.mem_of_getElem? (i := 18) rfl)) (by decide) (by decide)) (g := (mkF m 31 #[.val (.int p1), .unset] [(.int (191 : Int32)), (.int (123 : Int32)), (.int p1)])) rfl (by rw [hml]; rfl) (argsL := [(.int p1), (.int (123 : Int32)), (.int (191 : Int32))]) (rest := []) (lenOf pd_2_1 rfl) rfl (by show 2 * 0 + _ ≤ _; exact Nat.le_of_eq rfl) (hb hby d2_31) (fun _ _ => ⟨rfl, rfl, (by decide : 0 + 0 ≤ _), (by decide : 0 + 0 ≤ _)⟩)
  dsimp only [Pt.U, Pt.locs, Pt.cells, Pt.slots] at X3 l3 y3 z3 st3 hQ3
  subst l3 y3 z3
  obtain ⟨rfl, N3q, eh3⟩ := hQ3
  have N3 := Fr.app N2 N3q
  obtain ⟨_, _, ⟨T4, L4, k4, n4⟩, -, X4, ⟨Lc4, hQ4, l4, y4, z4⟩, st4⟩ := Jvm.LawKit.callS X3 hx (y := (⟨"com/example/text_with_triples/textwithtriples/model/NameCharsIsBasePinLaw", "in", "(III)Z"⟩ : MethodName)) hown (mvT hZ (hw _ (List.mem_of_getElem? (i := 20) rfl))) (mvT hZ (hw _ (List.mem_of_getElem? (i := 21) rfl))) (mvT hZ (hw _ (List.mem_of_getElem? (i := 18) rfl))) (mvT hZ (hw _ (List.mem_of_getElem? (i := 22) rfl))) (by decide) (backOf (W := 0) (rm3 l Z a0 hw [] p1 (768 : Int32) (879 : Int32) T3.heap n0 (by rw [eh3, eh2]; exact Z0)) hZ (hw _ (List.mem_of_getElem? (i := 22) rfl)) (hw _ (List.mem_of_getElem? (i := 18) rfl)) (by decide) (by decide)) (g := (mkF m 58 #[.val (.int p1), .unset] [(.int (879 : Int32)), (.int (768 : Int32)), (.int p1)])) rfl (by rw [hml]; rfl) (argsL := [(.int p1), (.int (768 : Int32)), (.int (879 : Int32))]) (rest := []) (lenOf pd_2_1 rfl) rfl (by show 2 * 0 + _ ≤ _; exact Nat.le_of_eq rfl) (hb hby d2_58) (fun _ _ => ⟨rfl, rfl, (by decide : 0 + 0 ≤ _), (by decide : 0 + 0 ≤ _)⟩)
  dsimp only [Pt.U, Pt.locs, Pt.cells, Pt.slots] at X4 l4 y4 z4 st4 hQ4
  subst l4 y4 z4
  obtain ⟨rfl, N4q, eh4⟩ := hQ4
  have N4 := Fr.app N3 N4q
  obtain ⟨fs, hr, hrun, hended, hW, hsame⟩ := X4.leave (v := some (.int (0 : Int32))) (fun h => by rw [Bd.returns] at h; cases h)
  refine ⟨_, _, pre0 _ ?_, hrun, hended, _, _, rfl, ?_, ⟨_, rfl⟩, hW, hsame.mono (by decide) (by decide)⟩
  · show Steps p.tables e below (s₁.setTop (mkF m 0 #[.val (.int p1), .unset] [])) _
    refine XS.iloadN X0.here hx rfl (hb hby d2_0) rfl ?_
    show Steps p.tables e below (s₁.setTop (mkF m 1 #[.val (.int p1), .unset] [(.int p1)])) _
    refine XS.bipush X0.here hx rfl (hb hby d2_1) ?_
    show Steps p.tables e below (s₁.setTop (mkF m 3 #[.val (.int p1), .unset] [(.int (65 : Int32)), (.int p1)])) _
    refine XS.icmpNo X0.here hx rfl (hb hby d2_3) rfl (flt hc3).1 ?_
    show Steps p.tables e below (s₁.setTop (mkF m 6 #[.val (.int p1), .unset] [])) _
    refine XS.iloadN X0.here hx rfl (hb hby d2_6) rfl ?_
    show Steps p.tables e below (s₁.setTop (mkF m 7 #[.val (.int p1), .unset] [(.int p1)])) _
    refine X0.ldcInt hx hown (mvT hZ (hw _ (List.mem_of_getElem? (i := 7) rfl))) (g := (mkF m 7 #[.val (.int p1), .unset] [(.int p1)])) rfl (hb hby d2_7) _ ?_
    show Steps p.tables e below (s₁.setTop (mkF m 9 #[.val (.int p1), .unset] [(.int (983039 : Int32)), (.int p1)])) _
    refine XS.icmpYes X0.here hx rfl (pc0 := 9) (pc' := 14) rfl (hb hby d2_9) rfl (flt hc9).2.2.2 (by decide) (by decide) ?_
    show Steps p.tables e below (s₁.setTop (mkF m 14 #[.val (.int p1), .unset] [])) _
    refine XS.iloadN X0.here hx rfl (hb hby d2_14) rfl ?_
    show Steps p.tables e below (s₁.setTop (mkF m 15 #[.val (.int p1), .unset] [(.int p1)])) _
    refine XS.bipush X0.here hx rfl (hb hby d2_15) ?_
    show Steps p.tables e below (s₁.setTop (mkF m 17 #[.val (.int p1), .unset] [(.int (91 : Int32)), (.int p1)])) _
    refine XS.bipush X0.here hx rfl (hb hby d2_17) ?_
    show Steps p.tables e below (s₁.setTop (mkF m 19 #[.val (.int p1), .unset] [(.int (96 : Int32)), (.int (91 : Int32)), (.int p1)])) _
    refine st2 _ ?_
    show Steps p.tables e below (T2.setTop (mkF m 22 #[.val (.int p1), .unset] [(.int (own_in p1 (91 : Int32) (96 : Int32)))])) _
    refine XS.ifNo X2.here hx rfl (hb hby d2_22) rfl ((if0 _ _).trans (teq (g0 : (own_in p1 (91 : Int32) (96 : Int32)) = (0 : Int32))).2) ?_
    show Steps p.tables e below (T2.setTop (mkF m 25 #[.val (.int p1), .unset] [])) _
    refine XS.iloadN X2.here hx rfl (hb hby d2_25) rfl ?_
    show Steps p.tables e below (T2.setTop (mkF m 26 #[.val (.int p1), .unset] [(.int p1)])) _
    refine XS.bipush X2.here hx rfl (hb hby d2_26) ?_
    show Steps p.tables e below (T2.setTop (mkF m 28 #[.val (.int p1), .unset] [(.int (123 : Int32)), (.int p1)])) _
    refine XS.sipush X2.here hx rfl (hb hby d2_28) ?_
    show Steps p.tables e below (T2.setTop (mkF m 31 #[.val (.int p1), .unset] [(.int (191 : Int32)), (.int (123 : Int32)), (.int p1)])) _
    refine st3 _ ?_
    show Steps p.tables e below (T3.setTop (mkF m 34 #[.val (.int p1), .unset] [(.int (own_in p1 (123 : Int32) (191 : Int32)))])) _
    refine XS.ifNo X3.here hx rfl (hb hby d2_34) rfl ((if0 _ _).trans (teq (g1 : (own_in p1 (123 : Int32) (191 : Int32)) = (0 : Int32))).2) ?_
    show Steps p.tables e below (T3.setTop (mkF m 37 #[.val (.int p1), .unset] [])) _
    refine XS.iloadN X3.here hx rfl (hb hby d2_37) rfl ?_
    show Steps p.tables e below (T3.setTop (mkF m 38 #[.val (.int p1), .unset] [(.int p1)])) _
    refine XS.sipush X3.here hx rfl (hb hby d2_38) ?_
    show Steps p.tables e below (T3.setTop (mkF m 41 #[.val (.int p1), .unset] [(.int (215 : Int32)), (.int p1)])) _
    refine XS.icmpNo X3.here hx rfl (hb hby d2_41) rfl (feq hc41).1 ?_
    show Steps p.tables e below (T3.setTop (mkF m 44 #[.val (.int p1), .unset] [])) _
    refine XS.iloadN X3.here hx rfl (hb hby d2_44) rfl ?_
    show Steps p.tables e below (T3.setTop (mkF m 45 #[.val (.int p1), .unset] [(.int p1)])) _
    refine XS.sipush X3.here hx rfl (hb hby d2_45) ?_
    show Steps p.tables e below (T3.setTop (mkF m 48 #[.val (.int p1), .unset] [(.int (247 : Int32)), (.int p1)])) _
    refine XS.icmpNo X3.here hx rfl (hb hby d2_48) rfl (feq hc48).1 ?_
    show Steps p.tables e below (T3.setTop (mkF m 51 #[.val (.int p1), .unset] [])) _
    refine XS.iloadN X3.here hx rfl (hb hby d2_51) rfl ?_
    show Steps p.tables e below (T3.setTop (mkF m 52 #[.val (.int p1), .unset] [(.int p1)])) _
    refine XS.sipush X3.here hx rfl (hb hby d2_52) ?_
    show Steps p.tables e below (T3.setTop (mkF m 55 #[.val (.int p1), .unset] [(.int (768 : Int32)), (.int p1)])) _
    refine XS.sipush X3.here hx rfl (hb hby d2_55) ?_
    show Steps p.tables e below (T3.setTop (mkF m 58 #[.val (.int p1), .unset] [(.int (879 : Int32)), (.int (768 : Int32)), (.int p1)])) _
    refine st4 _ ?_
    show Steps p.tables e below (T4.setTop (mkF m 61 #[.val (.int p1), .unset] [(.int (own_in p1 (768 : Int32) (879 : Int32)))])) _
    refine XS.ifYes X4.here hx rfl (pc0 := 61) (pc' := 156) rfl (hb hby d2_61) rfl ((if0 _ _).trans (feq (g4 : ¬ ((own_in p1 (768 : Int32) (879 : Int32)) = (0 : Int32)))).2) (by decide) (by decide) ?_
    show Steps p.tables e below (T4.setTop (mkF m 156 #[.val (.int p1), .unset] [])) _
    refine XS.iconst X4.here hx rfl (hb hby d2_156) ?_
    show Steps p.tables e below (T4.setTop (mkF m 157 #[.val (.int p1), .unset] [(.int (1 : Int32))])) _
    refine XS.goto X4.here hx rfl (pc0 := 157) (pc' := 161) rfl (hb hby d2_157) (by decide) (by decide) ?_
    show Steps p.tables e below (T4.setTop (mkF m 161 #[.val (.int p1), .unset] [(.int (1 : Int32))])) _
    refine XS.istoreN X4.here hx rfl (hb hby d2_161) rfl (l' := #[.val (.int p1), .val (.int (1 : Int32))]) rfl ?_
    show Steps p.tables e below (T4.setTop (mkF m 162 #[.val (.int p1), .val (.int (1 : Int32))] [])) _
    refine XS.iloadN X4.here hx rfl (hb hby d2_162) rfl ?_
    show Steps p.tables e below (T4.setTop (mkF m 163 #[.val (.int p1), .val (.int (1 : Int32))] [(.int (1 : Int32))])) _
    refine XS.ifYes X4.here hx rfl (pc0 := 163) (pc' := 170) rfl (hb hby d2_163) rfl ((if0 _ _).trans (feq hc163).2) (by decide) (by decide) ?_
    show Steps p.tables e below (T4.setTop (mkF m 170 #[.val (.int p1), .val (.int (1 : Int32))] [])) _
    refine XS.iconst X4.here hx rfl (hb hby d2_170) ?_
    show Steps p.tables e below (T4.setTop (mkF m 171 #[.val (.int p1), .val (.int (1 : Int32))] [(.int (0 : Int32))])) _
    exact retN X4 hx (t := .boolean) Bd.returns (by simp) (hb hby d2_171) hr
  · show Q2 Z p1 h0 n0 _ T4.heap _
    exact ⟨by rw [own_g4 p1 g4], N4, (eh4.trans eh3).trans eh2⟩
theorem d2_64 : decode method_3_code 64 = .ok (.iload_n 0, 1) := by decide +kernel
theorem d2_65 : decode method_3_code 65 = .ok (.sipush 894, 3) := by decide +kernel
theorem d2_68 : decode method_3_code 68 = .ok (.if_icmp .eq 88, 3) := by decide +kernel
set_option maxRecDepth 65536 in
set_option maxHeartbeats 40000000 in
theorem rm2_5 (l : Launch) (Z : State) (a0 : Array Value) (hw : ∀ d ∈ tables_1, d.before a0 Z = true) (ws : List Jvm.Cond) (p1 : Int32) (h0 : Heap) (n0 : Nat) (Z0 : n0 ≤ h0.size) (g0 : own_in p1 (91 : Int32) (96 : Int32) = (0 : Int32)) (g1 : own_in p1 (123 : Int32) (191 : Int32) = (0 : Int32)) (g4 : own_in p1 (768 : Int32) (879 : Int32) = (0 : Int32)) (hc3 : ¬ (p1 < (65 : Int32))) (hc9 : ¬ ((983039 : Int32) < p1)) (hc41 : ¬ (p1 = (215 : Int32))) (hc48 : ¬ (p1 = (247 : Int32))) (hc68 : p1 = (894 : Int32)) (hc163 : ¬ ((1 : Int32) = (0 : Int32))) :
    MetFree l (⟨"com/example/text_with_triples/textwithtriples/model/NameCharsIsBasePinLaw", "ref", "(I)Z"⟩ : MethodName) (head1 (Jvm.Cond.code (⟨"com/example/text_with_triples/textwithtriples/model/NameCharsIsBasePinLaw", "ref", "(I)Z"⟩ : MethodName) method_3_code 2 (some .boolean) :: ws) ({ frames := 1, cells := 0, slots := 0, locals := 14 } : Room)) (fun a U => a = #[(.int p1)] ∧ Z.Warmed39 U.vm ∧ U.heap = h0) (fun _ _ _ _ _ => True) (fun _ U o U' => ∃ v L, o = .returned v ∧ Q2 Z p1 h0 n0 v U'.heap L ∧ FrameEnd U o U' L ({ frames := 1, cells := 0, slots := 0, locals := 14 } : Room).cells ({ frames := 1, cells := 0, slots := 0, locals := 14 } : Room).slots) := by
  refine MetFree.of_bodySF (plainFor_of_name pn_2) hisR ?_
  intro p e s m args below meth c s₁ Bd hml0 hP hK
  obtain ⟨rfl, hZ, hh⟩ := hP
  have hx := Bd.exec
  have hby := Bd.bytes
  have hml : c.maxLocals = 2 := hml0
  have hown : s.vm.findClass "com/example/text_with_triples/textwithtriples/model/NameCharsIsBasePinLaw" = some m.cls := findClass_of_methodNamed Bd.named
  have hnm := (name_of_methodNamed Bd.named Bd.method).1
  have X0 : Stand p l e ({ frames := 1, cells := 0, slots := 0, locals := 14 } : Room) s m #[(.int p1)] below meth c s₁ [] 0 0 := Stand.of_body Bd
  have e0 : s₁.heap = h0 := by rw [← hh, Bd.state]; rfl
  have N0 := Fr.nil n0
  have pre0 : ∀ t, Steps p.tables e below (s₁.setTop (mkF m 0 #[.val (.int p1), .unset] [])) t → Steps p.tables e below (s₁.setTop (entryFrame m #[(.int p1)] 2)) t := fun t k => castTop (ef_2 m p1) k
  obtain ⟨_, _, ⟨T2, L2, k2, n2⟩, -, X2, ⟨Lc2, hQ2, l2, y2, z2⟩, st2⟩ := Jvm.LawKit.callS X0 hx (y := (⟨"com/example/text_with_triples/textwithtriples/model/NameCharsIsBasePinLaw", "in", "(III)Z"⟩ : MethodName)) hown (mvT hZ (hw _ (List.mem_of_getElem? (i := 20) rfl))) (mvT hZ (hw _ (List.mem_of_getElem? (i := 21) rfl))) (mvT hZ (hw _ (List.mem_of_getElem? (i := 18) rfl))) (mvT hZ (hw _ (List.mem_of_getElem? (i := 22) rfl))) (by decide) (backOf (W := 0) (rm3 l Z a0 hw [] p1 (91 : Int32) (96 : Int32) h0 n0 Z0) hZ (hw _ (List.mem_of_getElem? (i := 22) rfl)) (hw _ (List.mem_of_getElem? (i := 18) rfl)) (by decide) (by decide)) (g := (mkF m 19 #[.val (.int p1), .unset] [(.int (96 : Int32)), (.int (91 : Int32)), (.int p1)])) rfl (by rw [hml]; rfl) (argsL := [(.int p1), (.int (91 : Int32)), (.int (96 : Int32))]) (rest := []) (lenOf pd_2_1 rfl) rfl (by show 2 * 0 + _ ≤ _; exact Nat.le_of_eq rfl) (hb hby d2_19) (fun _ _ => ⟨rfl, e0, (by decide : 0 + 0 ≤ _), (by decide : 0 + 0 ≤ _)⟩)
  dsimp only [Pt.U, Pt.locs, Pt.cells, Pt.slots] at X2 l2 y2 z2 st2 hQ2
  subst l2 y2 z2
  obtain ⟨rfl, N2q, eh2⟩ := hQ2
  have N2 := Fr.app N0 N2q
  obtain ⟨_, _, ⟨T3, L3, k3, n3⟩, -, X3, ⟨Lc3, hQ3, l3, y3, z3⟩, st3⟩ := Jvm.LawKit.callS X2 hx (y := (⟨"com/example/text_with_triples/textwithtriples/model/NameCharsIsBasePinLaw", "in", "(III)Z"⟩ : MethodName)) hown (mvT hZ (hw _ (List.mem_of_getElem? (i := 20) rfl))) (mvT hZ (hw _ (List.mem_of_getElem? (i := 21) rfl))) (mvT hZ (hw _ (List.mem_of_getElem? (i := 18) rfl))) (mvT hZ (hw _ (List.mem_of_getElem? (i := 22) rfl))) (by decide) (backOf (W := 0) (rm3 l Z a0 hw [] p1 (123 : Int32) (191 : Int32) T2.heap n0 (by rw [eh2]; exact Z0)) hZ (hw _ (List.mem_of_getElem? (i := 22) rfl)) (hw _ (List.mem_of_getElem? (i := 18) rfl)) (by decide) (by decide)) (g := (mkF m 31 #[.val (.int p1), .unset] [(.int (191 : Int32)), (.int (123 : Int32)), (.int p1)])) rfl (by rw [hml]; rfl) (argsL := [(.int p1), (.int (123 : Int32)), (.int (191 : Int32))]) (rest := []) (lenOf pd_2_1 rfl) rfl (by show 2 * 0 + _ ≤ _; exact Nat.le_of_eq rfl) (hb hby d2_31) (fun _ _ => ⟨rfl, rfl, (by decide : 0 + 0 ≤ _), (by decide : 0 + 0 ≤ _)⟩)
  dsimp only [Pt.U, Pt.locs, Pt.cells, Pt.slots] at X3 l3 y3 z3 st3 hQ3
  subst l3 y3 z3
  obtain ⟨rfl, N3q, eh3⟩ := hQ3
  have N3 := Fr.app N2 N3q
  obtain ⟨_, _, ⟨T4, L4, k4, n4⟩, -, X4, ⟨Lc4, hQ4, l4, y4, z4⟩, st4⟩ := Jvm.LawKit.callS X3 hx (y := (⟨"com/example/text_with_triples/textwithtriples/model/NameCharsIsBasePinLaw", "in", "(III)Z"⟩ : MethodName)) hown (mvT hZ (hw _ (List.mem_of_getElem? (i := 20) rfl))) (mvT hZ (hw _ (List.mem_of_getElem? (i := 21) rfl))) (mvT hZ (hw _ (List.mem_of_getElem? (i := 18) rfl))) (mvT hZ (hw _ (List.mem_of_getElem? (i := 22) rfl))) (by decide) (backOf (W := 0) (rm3 l Z a0 hw [] p1 (768 : Int32) (879 : Int32) T3.heap n0 (by rw [eh3, eh2]; exact Z0)) hZ (hw _ (List.mem_of_getElem? (i := 22) rfl)) (hw _ (List.mem_of_getElem? (i := 18) rfl)) (by decide) (by decide)) (g := (mkF m 58 #[.val (.int p1), .unset] [(.int (879 : Int32)), (.int (768 : Int32)), (.int p1)])) rfl (by rw [hml]; rfl) (argsL := [(.int p1), (.int (768 : Int32)), (.int (879 : Int32))]) (rest := []) (lenOf pd_2_1 rfl) rfl (by show 2 * 0 + _ ≤ _; exact Nat.le_of_eq rfl) (hb hby d2_58) (fun _ _ => ⟨rfl, rfl, (by decide : 0 + 0 ≤ _), (by decide : 0 + 0 ≤ _)⟩)
  dsimp only [Pt.U, Pt.locs, Pt.cells, Pt.slots] at X4 l4 y4 z4 st4 hQ4
  subst l4 y4 z4
  obtain ⟨rfl, N4q, eh4⟩ := hQ4
  have N4 := Fr.app N3 N4q
  obtain ⟨fs, hr, hrun, hended, hW, hsame⟩ := X4.leave (v := some (.int (0 : Int32))) (fun h => by rw [Bd.returns] at h; cases h)
  refine ⟨_, _, pre0 _ ?_, hrun, hended, _, _, rfl, ?_, ⟨_, rfl⟩, hW, hsame.mono (by decide) (by decide)⟩
  · show Steps p.tables e below (s₁.setTop (mkF m 0 #[.val (.int p1), .unset] [])) _
    refine XS.iloadN X0.here hx rfl (hb hby d2_0) rfl ?_
    show Steps p.tables e below (s₁.setTop (mkF m 1 #[.val (.int p1), .unset] [(.int p1)])) _
    refine XS.bipush X0.here hx rfl (hb hby d2_1) ?_
    show Steps p.tables e below (s₁.setTop (mkF m 3 #[.val (.int p1), .unset] [(.int (65 : Int32)), (.int p1)])) _
    refine XS.icmpNo X0.here hx rfl (hb hby d2_3) rfl (flt hc3).1 ?_
    show Steps p.tables e below (s₁.setTop (mkF m 6 #[.val (.int p1), .unset] [])) _
    refine XS.iloadN X0.here hx rfl (hb hby d2_6) rfl ?_
    show Steps p.tables e below (s₁.setTop (mkF m 7 #[.val (.int p1), .unset] [(.int p1)])) _
    refine X0.ldcInt hx hown (mvT hZ (hw _ (List.mem_of_getElem? (i := 7) rfl))) (g := (mkF m 7 #[.val (.int p1), .unset] [(.int p1)])) rfl (hb hby d2_7) _ ?_
    show Steps p.tables e below (s₁.setTop (mkF m 9 #[.val (.int p1), .unset] [(.int (983039 : Int32)), (.int p1)])) _
    refine XS.icmpYes X0.here hx rfl (pc0 := 9) (pc' := 14) rfl (hb hby d2_9) rfl (flt hc9).2.2.2 (by decide) (by decide) ?_
    show Steps p.tables e below (s₁.setTop (mkF m 14 #[.val (.int p1), .unset] [])) _
    refine XS.iloadN X0.here hx rfl (hb hby d2_14) rfl ?_
    show Steps p.tables e below (s₁.setTop (mkF m 15 #[.val (.int p1), .unset] [(.int p1)])) _
    refine XS.bipush X0.here hx rfl (hb hby d2_15) ?_
    show Steps p.tables e below (s₁.setTop (mkF m 17 #[.val (.int p1), .unset] [(.int (91 : Int32)), (.int p1)])) _
    refine XS.bipush X0.here hx rfl (hb hby d2_17) ?_
    show Steps p.tables e below (s₁.setTop (mkF m 19 #[.val (.int p1), .unset] [(.int (96 : Int32)), (.int (91 : Int32)), (.int p1)])) _
    refine st2 _ ?_
    show Steps p.tables e below (T2.setTop (mkF m 22 #[.val (.int p1), .unset] [(.int (own_in p1 (91 : Int32) (96 : Int32)))])) _
    refine XS.ifNo X2.here hx rfl (hb hby d2_22) rfl ((if0 _ _).trans (teq (g0 : (own_in p1 (91 : Int32) (96 : Int32)) = (0 : Int32))).2) ?_
    show Steps p.tables e below (T2.setTop (mkF m 25 #[.val (.int p1), .unset] [])) _
    refine XS.iloadN X2.here hx rfl (hb hby d2_25) rfl ?_
    show Steps p.tables e below (T2.setTop (mkF m 26 #[.val (.int p1), .unset] [(.int p1)])) _
    refine XS.bipush X2.here hx rfl (hb hby d2_26) ?_
    show Steps p.tables e below (T2.setTop (mkF m 28 #[.val (.int p1), .unset] [(.int (123 : Int32)), (.int p1)])) _
    refine XS.sipush X2.here hx rfl (hb hby d2_28) ?_
    show Steps p.tables e below (T2.setTop (mkF m 31 #[.val (.int p1), .unset] [(.int (191 : Int32)), (.int (123 : Int32)), (.int p1)])) _
    refine st3 _ ?_
    show Steps p.tables e below (T3.setTop (mkF m 34 #[.val (.int p1), .unset] [(.int (own_in p1 (123 : Int32) (191 : Int32)))])) _
    refine XS.ifNo X3.here hx rfl (hb hby d2_34) rfl ((if0 _ _).trans (teq (g1 : (own_in p1 (123 : Int32) (191 : Int32)) = (0 : Int32))).2) ?_
    show Steps p.tables e below (T3.setTop (mkF m 37 #[.val (.int p1), .unset] [])) _
    refine XS.iloadN X3.here hx rfl (hb hby d2_37) rfl ?_
    show Steps p.tables e below (T3.setTop (mkF m 38 #[.val (.int p1), .unset] [(.int p1)])) _
    refine XS.sipush X3.here hx rfl (hb hby d2_38) ?_
    show Steps p.tables e below (T3.setTop (mkF m 41 #[.val (.int p1), .unset] [(.int (215 : Int32)), (.int p1)])) _
    refine XS.icmpNo X3.here hx rfl (hb hby d2_41) rfl (feq hc41).1 ?_
    show Steps p.tables e below (T3.setTop (mkF m 44 #[.val (.int p1), .unset] [])) _
    refine XS.iloadN X3.here hx rfl (hb hby d2_44) rfl ?_
    show Steps p.tables e below (T3.setTop (mkF m 45 #[.val (.int p1), .unset] [(.int p1)])) _
    refine XS.sipush X3.here hx rfl (hb hby d2_45) ?_
    show Steps p.tables e below (T3.setTop (mkF m 48 #[.val (.int p1), .unset] [(.int (247 : Int32)), (.int p1)])) _
    refine XS.icmpNo X3.here hx rfl (hb hby d2_48) rfl (feq hc48).1 ?_
    show Steps p.tables e below (T3.setTop (mkF m 51 #[.val (.int p1), .unset] [])) _
    refine XS.iloadN X3.here hx rfl (hb hby d2_51) rfl ?_
    show Steps p.tables e below (T3.setTop (mkF m 52 #[.val (.int p1), .unset] [(.int p1)])) _
    refine XS.sipush X3.here hx rfl (hb hby d2_52) ?_
    show Steps p.tables e below (T3.setTop (mkF m 55 #[.val (.int p1), .unset] [(.int (768 : Int32)), (.int p1)])) _
    refine XS.sipush X3.here hx rfl (hb hby d2_55) ?_
    show Steps p.tables e below (T3.setTop (mkF m 58 #[.val (.int p1), .unset] [(.int (879 : Int32)), (.int (768 : Int32)), (.int p1)])) _
    refine st4 _ ?_
    show Steps p.tables e below (T4.setTop (mkF m 61 #[.val (.int p1), .unset] [(.int (own_in p1 (768 : Int32) (879 : Int32)))])) _
    refine XS.ifNo X4.here hx rfl (hb hby d2_61) rfl ((if0 _ _).trans (teq (g4 : (own_in p1 (768 : Int32) (879 : Int32)) = (0 : Int32))).2) ?_
    show Steps p.tables e below (T4.setTop (mkF m 64 #[.val (.int p1), .unset] [])) _
    refine XS.iloadN X4.here hx rfl (hb hby d2_64) rfl ?_
    show Steps p.tables e below (T4.setTop (mkF m 65 #[.val (.int p1), .unset] [(.int p1)])) _
    refine XS.sipush X4.here hx rfl (hb hby d2_65) ?_
    show Steps p.tables e below (T4.setTop (mkF m 68 #[.val (.int p1), .unset] [(.int (894 : Int32)), (.int p1)])) _
    refine XS.icmpYes X4.here hx rfl (pc0 := 68) (pc' := 156) rfl (hb hby d2_68) rfl (teq hc68).1 (by decide) (by decide) ?_
    show Steps p.tables e below (T4.setTop (mkF m 156 #[.val (.int p1), .unset] [])) _
    refine XS.iconst X4.here hx rfl (hb hby d2_156) ?_
    show Steps p.tables e below (T4.setTop (mkF m 157 #[.val (.int p1), .unset] [(.int (1 : Int32))])) _
    refine XS.goto X4.here hx rfl (pc0 := 157) (pc' := 161) rfl (hb hby d2_157) (by decide) (by decide) ?_
    show Steps p.tables e below (T4.setTop (mkF m 161 #[.val (.int p1), .unset] [(.int (1 : Int32))])) _
    refine XS.istoreN X4.here hx rfl (hb hby d2_161) rfl (l' := #[.val (.int p1), .val (.int (1 : Int32))]) rfl ?_
    show Steps p.tables e below (T4.setTop (mkF m 162 #[.val (.int p1), .val (.int (1 : Int32))] [])) _
    refine XS.iloadN X4.here hx rfl (hb hby d2_162) rfl ?_
    show Steps p.tables e below (T4.setTop (mkF m 163 #[.val (.int p1), .val (.int (1 : Int32))] [(.int (1 : Int32))])) _
    refine XS.ifYes X4.here hx rfl (pc0 := 163) (pc' := 170) rfl (hb hby d2_163) rfl ((if0 _ _).trans (feq hc163).2) (by decide) (by decide) ?_
    show Steps p.tables e below (T4.setTop (mkF m 170 #[.val (.int p1), .val (.int (1 : Int32))] [])) _
    refine XS.iconst X4.here hx rfl (hb hby d2_170) ?_
    show Steps p.tables e below (T4.setTop (mkF m 171 #[.val (.int p1), .val (.int (1 : Int32))] [(.int (0 : Int32))])) _
    exact retN X4 hx (t := .boolean) Bd.returns (by simp) (hb hby d2_171) hr
  · show Q2 Z p1 h0 n0 _ T4.heap _
    exact ⟨by rw [own_g5 p1 hc68], N4, (eh4.trans eh3).trans eh2⟩
theorem d2_71 : decode method_3_code 71 = .ok (.iload_n 0, 1) := by decide +kernel
theorem d2_72 : decode method_3_code 72 = .ok (.sipush 8192, 3) := by decide +kernel
theorem d2_75 : decode method_3_code 75 = .ok (.sipush 8203, 3) := by decide +kernel
theorem d2_78 : decode method_3_code 78 = .ok (.invokestatic 8, 3) := by decide +kernel
theorem d2_81 : decode method_3_code 81 = .ok (.ifCond .ne 75, 3) := by decide +kernel
set_option maxRecDepth 65536 in
set_option maxHeartbeats 40000000 in
theorem rm2_6 (l : Launch) (Z : State) (a0 : Array Value) (hw : ∀ d ∈ tables_1, d.before a0 Z = true) (ws : List Jvm.Cond) (p1 : Int32) (h0 : Heap) (n0 : Nat) (Z0 : n0 ≤ h0.size) (g0 : own_in p1 (91 : Int32) (96 : Int32) = (0 : Int32)) (g1 : own_in p1 (123 : Int32) (191 : Int32) = (0 : Int32)) (g4 : own_in p1 (768 : Int32) (879 : Int32) = (0 : Int32)) (g6 : ¬ (own_in p1 (8192 : Int32) (8203 : Int32) = (0 : Int32))) (hc3 : ¬ (p1 < (65 : Int32))) (hc9 : ¬ ((983039 : Int32) < p1)) (hc41 : ¬ (p1 = (215 : Int32))) (hc48 : ¬ (p1 = (247 : Int32))) (hc68 : ¬ (p1 = (894 : Int32))) (hc163 : ¬ ((1 : Int32) = (0 : Int32))) :
    MetFree l (⟨"com/example/text_with_triples/textwithtriples/model/NameCharsIsBasePinLaw", "ref", "(I)Z"⟩ : MethodName) (head1 (Jvm.Cond.code (⟨"com/example/text_with_triples/textwithtriples/model/NameCharsIsBasePinLaw", "ref", "(I)Z"⟩ : MethodName) method_3_code 2 (some .boolean) :: ws) ({ frames := 1, cells := 0, slots := 0, locals := 14 } : Room)) (fun a U => a = #[(.int p1)] ∧ Z.Warmed39 U.vm ∧ U.heap = h0) (fun _ _ _ _ _ => True) (fun _ U o U' => ∃ v L, o = .returned v ∧ Q2 Z p1 h0 n0 v U'.heap L ∧ FrameEnd U o U' L ({ frames := 1, cells := 0, slots := 0, locals := 14 } : Room).cells ({ frames := 1, cells := 0, slots := 0, locals := 14 } : Room).slots) := by
  refine MetFree.of_bodySF (plainFor_of_name pn_2) hisR ?_
  intro p e s m args below meth c s₁ Bd hml0 hP hK
  obtain ⟨rfl, hZ, hh⟩ := hP
  have hx := Bd.exec
  have hby := Bd.bytes
  have hml : c.maxLocals = 2 := hml0
  have hown : s.vm.findClass "com/example/text_with_triples/textwithtriples/model/NameCharsIsBasePinLaw" = some m.cls := findClass_of_methodNamed Bd.named
  have hnm := (name_of_methodNamed Bd.named Bd.method).1
  have X0 : Stand p l e ({ frames := 1, cells := 0, slots := 0, locals := 14 } : Room) s m #[(.int p1)] below meth c s₁ [] 0 0 := Stand.of_body Bd
  have e0 : s₁.heap = h0 := by rw [← hh, Bd.state]; rfl
  have N0 := Fr.nil n0
  have pre0 : ∀ t, Steps p.tables e below (s₁.setTop (mkF m 0 #[.val (.int p1), .unset] [])) t → Steps p.tables e below (s₁.setTop (entryFrame m #[(.int p1)] 2)) t := fun t k => castTop (ef_2 m p1) k
  obtain ⟨_, _, ⟨T2, L2, k2, n2⟩, -, X2, ⟨Lc2, hQ2, l2, y2, z2⟩, st2⟩ := Jvm.LawKit.callS X0 hx (y := (⟨"com/example/text_with_triples/textwithtriples/model/NameCharsIsBasePinLaw", "in", "(III)Z"⟩ : MethodName)) hown (mvT hZ (hw _ (List.mem_of_getElem? (i := 20) rfl))) (mvT hZ (hw _ (List.mem_of_getElem? (i := 21) rfl))) (mvT hZ (hw _ (List.mem_of_getElem? (i := 18) rfl))) (mvT hZ (hw _ (List.mem_of_getElem? (i := 22) rfl))) (by decide) (backOf (W := 0) (rm3 l Z a0 hw [] p1 (91 : Int32) (96 : Int32) h0 n0 Z0) hZ (hw _ (List.mem_of_getElem? (i := 22) rfl)) (hw _ (List.mem_of_getElem? (i := 18) rfl)) (by decide) (by decide)) (g := (mkF m 19 #[.val (.int p1), .unset] [(.int (96 : Int32)), (.int (91 : Int32)), (.int p1)])) rfl (by rw [hml]; rfl) (argsL := [(.int p1), (.int (91 : Int32)), (.int (96 : Int32))]) (rest := []) (lenOf pd_2_1 rfl) rfl (by show 2 * 0 + _ ≤ _; exact Nat.le_of_eq rfl) (hb hby d2_19) (fun _ _ => ⟨rfl, e0, (by decide : 0 + 0 ≤ _), (by decide : 0 + 0 ≤ _)⟩)
  dsimp only [Pt.U, Pt.locs, Pt.cells, Pt.slots] at X2 l2 y2 z2 st2 hQ2
  subst l2 y2 z2
  obtain ⟨rfl, N2q, eh2⟩ := hQ2
  have N2 := Fr.app N0 N2q
  obtain ⟨_, _, ⟨T3, L3, k3, n3⟩, -, X3, ⟨Lc3, hQ3, l3, y3, z3⟩, st3⟩ := Jvm.LawKit.callS X2 hx (y := (⟨"com/example/text_with_triples/textwithtriples/model/NameCharsIsBasePinLaw", "in", "(III)Z"⟩ : MethodName)) hown (mvT hZ (hw _ (List.mem_of_getElem? (i := 20) rfl))) (mvT hZ (hw _ (List.mem_of_getElem? (i := 21) rfl))) (mvT hZ (hw _ (List.mem_of_getElem? (i := 18) rfl))) (mvT hZ (hw _ (List.mem_of_getElem? (i := 22) rfl))) (by decide) (backOf (W := 0) (rm3 l Z a0 hw [] p1 (123 : Int32) (191 : Int32) T2.heap n0 (by rw [eh2]; exact Z0)) hZ (hw _ (List.mem_of_getElem? (i := 22) rfl)) (hw _ (List.mem_of_getElem? (i := 18) rfl)) (by decide) (by decide)) (g := (mkF m 31 #[.val (.int p1), .unset] [(.int (191 : Int32)), (.int (123 : Int32)), (.int p1)])) rfl (by rw [hml]; rfl) (argsL := [(.int p1), (.int (123 : Int32)), (.int (191 : Int32))]) (rest := []) (lenOf pd_2_1 rfl) rfl (by show 2 * 0 + _ ≤ _; exact Nat.le_of_eq rfl) (hb hby d2_31) (fun _ _ => ⟨rfl, rfl, (by decide : 0 + 0 ≤ _), (by decide : 0 + 0 ≤ _)⟩)
  dsimp only [Pt.U, Pt.locs, Pt.cells, Pt.slots] at X3 l3 y3 z3 st3 hQ3
  subst l3 y3 z3
  obtain ⟨rfl, N3q, eh3⟩ := hQ3
  have N3 := Fr.app N2 N3q
  obtain ⟨_, _, ⟨T4, L4, k4, n4⟩, -, X4, ⟨Lc4, hQ4, l4, y4, z4⟩, st4⟩ := Jvm.LawKit.callS X3 hx (y := (⟨"com/example/text_with_triples/textwithtriples/model/NameCharsIsBasePinLaw", "in", "(III)Z"⟩ : MethodName)) hown (mvT hZ (hw _ (List.mem_of_getElem? (i := 20) rfl))) (mvT hZ (hw _ (List.mem_of_getElem? (i := 21) rfl))) (mvT hZ (hw _ (List.mem_of_getElem? (i := 18) rfl))) (mvT hZ (hw _ (List.mem_of_getElem? (i := 22) rfl))) (by decide) (backOf (W := 0) (rm3 l Z a0 hw [] p1 (768 : Int32) (879 : Int32) T3.heap n0 (by rw [eh3, eh2]; exact Z0)) hZ (hw _ (List.mem_of_getElem? (i := 22) rfl)) (hw _ (List.mem_of_getElem? (i := 18) rfl)) (by decide) (by decide)) (g := (mkF m 58 #[.val (.int p1), .unset] [(.int (879 : Int32)), (.int (768 : Int32)), (.int p1)])) rfl (by rw [hml]; rfl) (argsL := [(.int p1), (.int (768 : Int32)), (.int (879 : Int32))]) (rest := []) (lenOf pd_2_1 rfl) rfl (by show 2 * 0 + _ ≤ _; exact Nat.le_of_eq rfl) (hb hby d2_58) (fun _ _ => ⟨rfl, rfl, (by decide : 0 + 0 ≤ _), (by decide : 0 + 0 ≤ _)⟩)
  dsimp only [Pt.U, Pt.locs, Pt.cells, Pt.slots] at X4 l4 y4 z4 st4 hQ4
  subst l4 y4 z4
  obtain ⟨rfl, N4q, eh4⟩ := hQ4
  have N4 := Fr.app N3 N4q
  obtain ⟨_, _, ⟨T5, L5, k5, n5⟩, -, X5, ⟨Lc5, hQ5, l5, y5, z5⟩, st5⟩ := Jvm.LawKit.callS X4 hx (y := (⟨"com/example/text_with_triples/textwithtriples/model/NameCharsIsBasePinLaw", "in", "(III)Z"⟩ : MethodName)) hown (mvT hZ (hw _ (List.mem_of_getElem? (i := 20) rfl))) (mvT hZ (hw _ (List.mem_of_getElem? (i := 21) rfl))) (mvT hZ (hw _ (List.mem_of_getElem? (i := 18) rfl))) (mvT hZ (hw _ (List.mem_of_getElem? (i := 22) rfl))) (by decide) (backOf (W := 0) (rm3 l Z a0 hw [] p1 (8192 : Int32) (8203 : Int32) T4.heap n0 (by rw [eh4, eh3, eh2]; exact Z0)) hZ (hw _ (List.mem_of_getElem? (i := 22) rfl)) (hw _ (List.mem_of_getElem? (i := 18) rfl)) (by decide) (by decide)) (g := (mkF m 78 #[.val (.int p1), .unset] [(.int (8203 : Int32)), (.int (8192 : Int32)), (.int p1)])) rfl (by rw [hml]; rfl) (argsL := [(.int p1), (.int (8192 : Int32)), (.int (8203 : Int32))]) (rest := []) (lenOf pd_2_1 rfl) rfl (by show 2 * 0 + _ ≤ _; exact Nat.le_of_eq rfl) (hb hby d2_78) (fun _ _ => ⟨rfl, rfl, (by decide : 0 + 0 ≤ _), (by decide : 0 + 0 ≤ _)⟩)
  dsimp only [Pt.U, Pt.locs, Pt.cells, Pt.slots] at X5 l5 y5 z5 st5 hQ5
  subst l5 y5 z5
  obtain ⟨rfl, N5q, eh5⟩ := hQ5
  have N5 := Fr.app N4 N5q
  obtain ⟨fs, hr, hrun, hended, hW, hsame⟩ := X5.leave (v := some (.int (0 : Int32))) (fun h => by rw [Bd.returns] at h; cases h)
  refine ⟨_, _, pre0 _ ?_, hrun, hended, _, _, rfl, ?_, ⟨_, rfl⟩, hW, hsame.mono (by decide) (by decide)⟩
  · show Steps p.tables e below (s₁.setTop (mkF m 0 #[.val (.int p1), .unset] [])) _
    refine XS.iloadN X0.here hx rfl (hb hby d2_0) rfl ?_
    show Steps p.tables e below (s₁.setTop (mkF m 1 #[.val (.int p1), .unset] [(.int p1)])) _
    refine XS.bipush X0.here hx rfl (hb hby d2_1) ?_
    show Steps p.tables e below (s₁.setTop (mkF m 3 #[.val (.int p1), .unset] [(.int (65 : Int32)), (.int p1)])) _
    refine XS.icmpNo X0.here hx rfl (hb hby d2_3) rfl (flt hc3).1 ?_
    show Steps p.tables e below (s₁.setTop (mkF m 6 #[.val (.int p1), .unset] [])) _
    refine XS.iloadN X0.here hx rfl (hb hby d2_6) rfl ?_
    show Steps p.tables e below (s₁.setTop (mkF m 7 #[.val (.int p1), .unset] [(.int p1)])) _
    refine X0.ldcInt hx hown (mvT hZ (hw _ (List.mem_of_getElem? (i := 7) rfl))) (g := (mkF m 7 #[.val (.int p1), .unset] [(.int p1)])) rfl (hb hby d2_7) _ ?_
    show Steps p.tables e below (s₁.setTop (mkF m 9 #[.val (.int p1), .unset] [(.int (983039 : Int32)), (.int p1)])) _
    refine XS.icmpYes X0.here hx rfl (pc0 := 9) (pc' := 14) rfl (hb hby d2_9) rfl (flt hc9).2.2.2 (by decide) (by decide) ?_
    show Steps p.tables e below (s₁.setTop (mkF m 14 #[.val (.int p1), .unset] [])) _
    refine XS.iloadN X0.here hx rfl (hb hby d2_14) rfl ?_
    show Steps p.tables e below (s₁.setTop (mkF m 15 #[.val (.int p1), .unset] [(.int p1)])) _
    refine XS.bipush X0.here hx rfl (hb hby d2_15) ?_
    show Steps p.tables e below (s₁.setTop (mkF m 17 #[.val (.int p1), .unset] [(.int (91 : Int32)), (.int p1)])) _
    refine XS.bipush X0.here hx rfl (hb hby d2_17) ?_
    show Steps p.tables e below (s₁.setTop (mkF m 19 #[.val (.int p1), .unset] [(.int (96 : Int32)), (.int (91 : Int32)), (.int p1)])) _
    refine st2 _ ?_
    show Steps p.tables e below (T2.setTop (mkF m 22 #[.val (.int p1), .unset] [(.int (own_in p1 (91 : Int32) (96 : Int32)))])) _
    refine XS.ifNo X2.here hx rfl (hb hby d2_22) rfl ((if0 _ _).trans (teq (g0 : (own_in p1 (91 : Int32) (96 : Int32)) = (0 : Int32))).2) ?_
    show Steps p.tables e below (T2.setTop (mkF m 25 #[.val (.int p1), .unset] [])) _
    refine XS.iloadN X2.here hx rfl (hb hby d2_25) rfl ?_
    show Steps p.tables e below (T2.setTop (mkF m 26 #[.val (.int p1), .unset] [(.int p1)])) _
    refine XS.bipush X2.here hx rfl (hb hby d2_26) ?_
    show Steps p.tables e below (T2.setTop (mkF m 28 #[.val (.int p1), .unset] [(.int (123 : Int32)), (.int p1)])) _
    refine XS.sipush X2.here hx rfl (hb hby d2_28) ?_
    show Steps p.tables e below (T2.setTop (mkF m 31 #[.val (.int p1), .unset] [(.int (191 : Int32)), (.int (123 : Int32)), (.int p1)])) _
    refine st3 _ ?_
    show Steps p.tables e below (T3.setTop (mkF m 34 #[.val (.int p1), .unset] [(.int (own_in p1 (123 : Int32) (191 : Int32)))])) _
    refine XS.ifNo X3.here hx rfl (hb hby d2_34) rfl ((if0 _ _).trans (teq (g1 : (own_in p1 (123 : Int32) (191 : Int32)) = (0 : Int32))).2) ?_
    show Steps p.tables e below (T3.setTop (mkF m 37 #[.val (.int p1), .unset] [])) _
    refine XS.iloadN X3.here hx rfl (hb hby d2_37) rfl ?_
    show Steps p.tables e below (T3.setTop (mkF m 38 #[.val (.int p1), .unset] [(.int p1)])) _
    refine XS.sipush X3.here hx rfl (hb hby d2_38) ?_
    show Steps p.tables e below (T3.setTop (mkF m 41 #[.val (.int p1), .unset] [(.int (215 : Int32)), (.int p1)])) _
    refine XS.icmpNo X3.here hx rfl (hb hby d2_41) rfl (feq hc41).1 ?_
    show Steps p.tables e below (T3.setTop (mkF m 44 #[.val (.int p1), .unset] [])) _
    refine XS.iloadN X3.here hx rfl (hb hby d2_44) rfl ?_
    show Steps p.tables e below (T3.setTop (mkF m 45 #[.val (.int p1), .unset] [(.int p1)])) _
    refine XS.sipush X3.here hx rfl (hb hby d2_45) ?_
    show Steps p.tables e below (T3.setTop (mkF m 48 #[.val (.int p1), .unset] [(.int (247 : Int32)), (.int p1)])) _
    refine XS.icmpNo X3.here hx rfl (hb hby d2_48) rfl (feq hc48).1 ?_
    show Steps p.tables e below (T3.setTop (mkF m 51 #[.val (.int p1), .unset] [])) _
    refine XS.iloadN X3.here hx rfl (hb hby d2_51) rfl ?_
    show Steps p.tables e below (T3.setTop (mkF m 52 #[.val (.int p1), .unset] [(.int p1)])) _
    refine XS.sipush X3.here hx rfl (hb hby d2_52) ?_
    show Steps p.tables e below (T3.setTop (mkF m 55 #[.val (.int p1), .unset] [(.int (768 : Int32)), (.int p1)])) _
    refine XS.sipush X3.here hx rfl (hb hby d2_55) ?_
    show Steps p.tables e below (T3.setTop (mkF m 58 #[.val (.int p1), .unset] [(.int (879 : Int32)), (.int (768 : Int32)), (.int p1)])) _
    refine st4 _ ?_
    show Steps p.tables e below (T4.setTop (mkF m 61 #[.val (.int p1), .unset] [(.int (own_in p1 (768 : Int32) (879 : Int32)))])) _
    refine XS.ifNo X4.here hx rfl (hb hby d2_61) rfl ((if0 _ _).trans (teq (g4 : (own_in p1 (768 : Int32) (879 : Int32)) = (0 : Int32))).2) ?_
    show Steps p.tables e below (T4.setTop (mkF m 64 #[.val (.int p1), .unset] [])) _
    refine XS.iloadN X4.here hx rfl (hb hby d2_64) rfl ?_
    show Steps p.tables e below (T4.setTop (mkF m 65 #[.val (.int p1), .unset] [(.int p1)])) _
    refine XS.sipush X4.here hx rfl (hb hby d2_65) ?_
    show Steps p.tables e below (T4.setTop (mkF m 68 #[.val (.int p1), .unset] [(.int (894 : Int32)), (.int p1)])) _
    refine XS.icmpNo X4.here hx rfl (hb hby d2_68) rfl (feq hc68).1 ?_
    show Steps p.tables e below (T4.setTop (mkF m 71 #[.val (.int p1), .unset] [])) _
    refine XS.iloadN X4.here hx rfl (hb hby d2_71) rfl ?_
    show Steps p.tables e below (T4.setTop (mkF m 72 #[.val (.int p1), .unset] [(.int p1)])) _
    refine XS.sipush X4.here hx rfl (hb hby d2_72) ?_
    show Steps p.tables e below (T4.setTop (mkF m 75 #[.val (.int p1), .unset] [(.int (8192 : Int32)), (.int p1)])) _
    refine XS.sipush X4.here hx rfl (hb hby d2_75) ?_
    show Steps p.tables e below (T4.setTop (mkF m 78 #[.val (.int p1), .unset] [(.int (8203 : Int32)), (.int (8192 : Int32)), (.int p1)])) _
    refine st5 _ ?_
    show Steps p.tables e below (T5.setTop (mkF m 81 #[.val (.int p1), .unset] [(.int (own_in p1 (8192 : Int32) (8203 : Int32)))])) _
    refine XS.ifYes X5.here hx rfl (pc0 := 81) (pc' := 156) rfl (hb hby d2_81) rfl ((if0 _ _).trans (feq (g6 : ¬ ((own_in p1 (8192 : Int32) (8203 : Int32)) = (0 : Int32)))).2) (by decide) (by decide) ?_
    show Steps p.tables e below (T5.setTop (mkF m 156 #[.val (.int p1), .unset] [])) _
    refine XS.iconst X5.here hx rfl (hb hby d2_156) ?_
    show Steps p.tables e below (T5.setTop (mkF m 157 #[.val (.int p1), .unset] [(.int (1 : Int32))])) _
    refine XS.goto X5.here hx rfl (pc0 := 157) (pc' := 161) rfl (hb hby d2_157) (by decide) (by decide) ?_
    show Steps p.tables e below (T5.setTop (mkF m 161 #[.val (.int p1), .unset] [(.int (1 : Int32))])) _
    refine XS.istoreN X5.here hx rfl (hb hby d2_161) rfl (l' := #[.val (.int p1), .val (.int (1 : Int32))]) rfl ?_
    show Steps p.tables e below (T5.setTop (mkF m 162 #[.val (.int p1), .val (.int (1 : Int32))] [])) _
    refine XS.iloadN X5.here hx rfl (hb hby d2_162) rfl ?_
    show Steps p.tables e below (T5.setTop (mkF m 163 #[.val (.int p1), .val (.int (1 : Int32))] [(.int (1 : Int32))])) _
    refine XS.ifYes X5.here hx rfl (pc0 := 163) (pc' := 170) rfl (hb hby d2_163) rfl ((if0 _ _).trans (feq hc163).2) (by decide) (by decide) ?_
    show Steps p.tables e below (T5.setTop (mkF m 170 #[.val (.int p1), .val (.int (1 : Int32))] [])) _
    refine XS.iconst X5.here hx rfl (hb hby d2_170) ?_
    show Steps p.tables e below (T5.setTop (mkF m 171 #[.val (.int p1), .val (.int (1 : Int32))] [(.int (0 : Int32))])) _
    exact retN X5 hx (t := .boolean) Bd.returns (by simp) (hb hby d2_171) hr
  · show Q2 Z p1 h0 n0 _ T5.heap _
    exact ⟨by rw [own_g6 p1 g6], N5, ((eh5.trans eh4).trans eh3).trans eh2⟩
theorem d2_84 : decode method_3_code 84 = .ok (.iload_n 0, 1) := by decide +kernel
theorem d2_85 : decode method_3_code 85 = .ok (.sipush 8206, 3) := by decide +kernel
theorem d2_88 : decode method_3_code 88 = .ok (.sipush 8303, 3) := by decide +kernel
theorem d2_91 : decode method_3_code 91 = .ok (.invokestatic 8, 3) := by decide +kernel
theorem d2_94 : decode method_3_code 94 = .ok (.ifCond .ne 62, 3) := by decide +kernel
set_option maxRecDepth 65536 in
set_option maxHeartbeats 40000000 in
theorem rm2_7 (l : Launch) (Z : State) (a0 : Array Value) (hw : ∀ d ∈ tables_1, d.before a0 Z = true) (ws : List Jvm.Cond) (p1 : Int32) (h0 : Heap) (n0 : Nat) (Z0 : n0 ≤ h0.size) (g0 : own_in p1 (91 : Int32) (96 : Int32) = (0 : Int32)) (g1 : own_in p1 (123 : Int32) (191 : Int32) = (0 : Int32)) (g4 : own_in p1 (768 : Int32) (879 : Int32) = (0 : Int32)) (g6 : own_in p1 (8192 : Int32) (8203 : Int32) = (0 : Int32)) (g7 : ¬ (own_in p1 (8206 : Int32) (8303 : Int32) = (0 : Int32))) (hc3 : ¬ (p1 < (65 : Int32))) (hc9 : ¬ ((983039 : Int32) < p1)) (hc41 : ¬ (p1 = (215 : Int32))) (hc48 : ¬ (p1 = (247 : Int32))) (hc68 : ¬ (p1 = (894 : Int32))) (hc163 : ¬ ((1 : Int32) = (0 : Int32))) :
    MetFree l (⟨"com/example/text_with_triples/textwithtriples/model/NameCharsIsBasePinLaw", "ref", "(I)Z"⟩ : MethodName) (head1 (Jvm.Cond.code (⟨"com/example/text_with_triples/textwithtriples/model/NameCharsIsBasePinLaw", "ref", "(I)Z"⟩ : MethodName) method_3_code 2 (some .boolean) :: ws) ({ frames := 1, cells := 0, slots := 0, locals := 14 } : Room)) (fun a U => a = #[(.int p1)] ∧ Z.Warmed39 U.vm ∧ U.heap = h0) (fun _ _ _ _ _ => True) (fun _ U o U' => ∃ v L, o = .returned v ∧ Q2 Z p1 h0 n0 v U'.heap L ∧ FrameEnd U o U' L ({ frames := 1, cells := 0, slots := 0, locals := 14 } : Room).cells ({ frames := 1, cells := 0, slots := 0, locals := 14 } : Room).slots) := by
  refine MetFree.of_bodySF (plainFor_of_name pn_2) hisR ?_
  intro p e s m args below meth c s₁ Bd hml0 hP hK
  obtain ⟨rfl, hZ, hh⟩ := hP
  have hx := Bd.exec
  have hby := Bd.bytes
  have hml : c.maxLocals = 2 := hml0
  have hown : s.vm.findClass "com/example/text_with_triples/textwithtriples/model/NameCharsIsBasePinLaw" = some m.cls := findClass_of_methodNamed Bd.named
  have hnm := (name_of_methodNamed Bd.named Bd.method).1
  have X0 : Stand p l e ({ frames := 1, cells := 0, slots := 0, locals := 14 } : Room) s m #[(.int p1)] below meth c s₁ [] 0 0 := Stand.of_body Bd
  have e0 : s₁.heap = h0 := by rw [← hh, Bd.state]; rfl
  have N0 := Fr.nil n0
  have pre0 : ∀ t, Steps p.tables e below (s₁.setTop (mkF m 0 #[.val (.int p1), .unset] [])) t → Steps p.tables e below (s₁.setTop (entryFrame m #[(.int p1)] 2)) t := fun t k => castTop (ef_2 m p1) k
  obtain ⟨_, _, ⟨T2, L2, k2, n2⟩, -, X2, ⟨Lc2, hQ2, l2, y2, z2⟩, st2⟩ := Jvm.LawKit.callS X0 hx (y := (⟨"com/example/text_with_triples/textwithtriples/model/NameCharsIsBasePinLaw", "in", "(III)Z"⟩ : MethodName)) hown (mvT hZ (hw _ (List.mem_of_getElem? (i := 20) rfl))) (mvT hZ (hw _ (List.mem_of_getElem? (i := 21) rfl))) (mvT hZ (hw _ (List.mem_of_getElem? (i := 18) rfl))) (mvT hZ (hw _ (List.mem_of_getElem? (i := 22) rfl))) (by decide) (backOf (W := 0) (rm3 l Z a0 hw [] p1 (91 : Int32) (96 : Int32) h0 n0 Z0) hZ (hw _ (List.mem_of_getElem? (i := 22) rfl)) (hw _ (List.mem_of_getElem? (i := 18) rfl)) (by decide) (by decide)) (g := (mkF m 19 #[.val (.int p1), .unset] [(.int (96 : Int32)), (.int (91 : Int32)), (.int p1)])) rfl (by rw [hml]; rfl) (argsL := [(.int p1), (.int (91 : Int32)), (.int (96 : Int32))]) (rest := []) (lenOf pd_2_1 rfl) rfl (by show 2 * 0 + _ ≤ _; exact Nat.le_of_eq rfl) (hb hby d2_19) (fun _ _ => ⟨rfl, e0, (by decide : 0 + 0 ≤ _), (by decide : 0 + 0 ≤ _)⟩)
  dsimp only [Pt.U, Pt.locs, Pt.cells, Pt.slots] at X2 l2 y2 z2 st2 hQ2
  subst l2 y2 z2
  obtain ⟨rfl, N2q, eh2⟩ := hQ2
  have N2 := Fr.app N0 N2q
  obtain ⟨_, _, ⟨T3, L3, k3, n3⟩, -, X3, ⟨Lc3, hQ3, l3, y3, z3⟩, st3⟩ := Jvm.LawKit.callS X2 hx (y := (⟨"com/example/text_with_triples/textwithtriples/model/NameCharsIsBasePinLaw", "in", "(III)Z"⟩ : MethodName)) hown (mvT hZ (hw _ (List.mem_of_getElem? (i := 20) rfl))) (mvT hZ (hw _ (List.mem_of_getElem? (i := 21) rfl))) (mvT hZ (hw _ (List.mem_of_getElem? (i := 18) rfl))) (mvT hZ (hw _ (List.mem_of_getElem? (i := 22) rfl))) (by decide) (backOf (W := 0) (rm3 l Z a0 hw [] p1 (123 : Int32) (191 : Int32) T2.heap n0 (by rw [eh2]; exact Z0)) hZ (hw _ (List.mem_of_getElem? (i := 22) rfl)) (hw _ (List.mem_of_getElem? (i := 18) rfl)) (by decide) (by decide)) (g := (mkF m 31 #[.val (.int p1), .unset] [(.int (191 : Int32)), (.int (123 : Int32)), (.int p1)])) rfl (by rw [hml]; rfl) (argsL := [(.int p1), (.int (123 : Int32)), (.int (191 : Int32))]) (rest := []) (lenOf pd_2_1 rfl) rfl (by show 2 * 0 + _ ≤ _; exact Nat.le_of_eq rfl) (hb hby d2_31) (fun _ _ => ⟨rfl, rfl, (by decide : 0 + 0 ≤ _), (by decide : 0 + 0 ≤ _)⟩)
  dsimp only [Pt.U, Pt.locs, Pt.cells, Pt.slots] at X3 l3 y3 z3 st3 hQ3
  subst l3 y3 z3
  obtain ⟨rfl, N3q, eh3⟩ := hQ3
  have N3 := Fr.app N2 N3q
  obtain ⟨_, _, ⟨T4, L4, k4, n4⟩, -, X4, ⟨Lc4, hQ4, l4, y4, z4⟩, st4⟩ := Jvm.LawKit.callS X3 hx (y := (⟨"com/example/text_with_triples/textwithtriples/model/NameCharsIsBasePinLaw", "in", "(III)Z"⟩ : MethodName)) hown (mvT hZ (hw _ (List.mem_of_getElem? (i := 20) rfl))) (mvT hZ (hw _ (List.mem_of_getElem? (i := 21) rfl))) (mvT hZ (hw _ (List.mem_of_getElem? (i := 18) rfl))) (mvT hZ (hw _ (List.mem_of_getElem? (i := 22) rfl))) (by decide) (backOf (W := 0) (rm3 l Z a0 hw [] p1 (768 : Int32) (879 : Int32) T3.heap n0 (by rw [eh3, eh2]; exact Z0)) hZ (hw _ (List.mem_of_getElem? (i := 22) rfl)) (hw _ (List.mem_of_getElem? (i := 18) rfl)) (by decide) (by decide)) (g := (mkF m 58 #[.val (.int p1), .unset] [(.int (879 : Int32)), (.int (768 : Int32)), (.int p1)])) rfl (by rw [hml]; rfl) (argsL := [(.int p1), (.int (768 : Int32)), (.int (879 : Int32))]) (rest := []) (lenOf pd_2_1 rfl) rfl (by show 2 * 0 + _ ≤ _; exact Nat.le_of_eq rfl) (hb hby d2_58) (fun _ _ => ⟨rfl, rfl, (by decide : 0 + 0 ≤ _), (by decide : 0 + 0 ≤ _)⟩)
  dsimp only [Pt.U, Pt.locs, Pt.cells, Pt.slots] at X4 l4 y4 z4 st4 hQ4
  subst l4 y4 z4
  obtain ⟨rfl, N4q, eh4⟩ := hQ4
  have N4 := Fr.app N3 N4q
  obtain ⟨_, _, ⟨T5, L5, k5, n5⟩, -, X5, ⟨Lc5, hQ5, l5, y5, z5⟩, st5⟩ := Jvm.LawKit.callS X4 hx (y := (⟨"com/example/text_with_triples/textwithtriples/model/NameCharsIsBasePinLaw", "in", "(III)Z"⟩ : MethodName)) hown (mvT hZ (hw _ (List.mem_of_getElem? (i := 20) rfl))) (mvT hZ (hw _ (List.mem_of_getElem? (i := 21) rfl))) (mvT hZ (hw _ (List.mem_of_getElem? (i := 18) rfl))) (mvT hZ (hw _ (List.mem_of_getElem? (i := 22) rfl))) (by decide) (backOf (W := 0) (rm3 l Z a0 hw [] p1 (8192 : Int32) (8203 : Int32) T4.heap n0 (by rw [eh4, eh3, eh2]; exact Z0)) hZ (hw _ (List.mem_of_getElem? (i := 22) rfl)) (hw _ (List.mem_of_getElem? (i := 18) rfl)) (by decide) (by decide)) (g := (mkF m 78 #[.val (.int p1), .unset] [(.int (8203 : Int32)), (.int (8192 : Int32)), (.int p1)])) rfl (by rw [hml]; rfl) (argsL := [(.int p1), (.int (8192 : Int32)), (.int (8203 : Int32))]) (rest := []) (lenOf pd_2_1 rfl) rfl (by show 2 * 0 + _ ≤ _; exact Nat.le_of_eq rfl) (hb hby d2_78) (fun _ _ => ⟨rfl, rfl, (by decide : 0 + 0 ≤ _), (by decide : 0 + 0 ≤ _)⟩)
  dsimp only [Pt.U, Pt.locs, Pt.cells, Pt.slots] at X5 l5 y5 z5 st5 hQ5
  subst l5 y5 z5
  obtain ⟨rfl, N5q, eh5⟩ := hQ5
  have N5 := Fr.app N4 N5q
  obtain ⟨_, _, ⟨T6, L6, k6, n6⟩, -, X6, ⟨Lc6, hQ6, l6, y6, z6⟩, st6⟩ := Jvm.LawKit.callS X5 hx (y := (⟨"com/example/text_with_triples/textwithtriples/model/NameCharsIsBasePinLaw", "in", "(III)Z"⟩ : MethodName)) hown (mvT hZ (hw _ (List.mem_of_getElem? (i := 20) rfl))) (mvT hZ (hw _ (List.mem_of_getElem? (i := 21) rfl))) (mvT hZ (hw _ (List.mem_of_getElem? (i := 18) rfl))) (mvT hZ (hw _ (List.mem_of_getElem? (i := 22) rfl))) (by decide) (backOf (W := 0) (rm3 l Z a0 hw [] p1 (8206 : Int32) (8303 : Int32) T5.heap n0 (by rw [eh5, eh4, eh3, eh2]; exact Z0)) hZ (hw _ (List.mem_of_getElem? (i := 22) rfl)) (hw _ (List.mem_of_getElem? (i := 18) rfl)) (by decide) (by decide)) (g := (mkF m 91 #[.val (.int p1), .unset] [(.int (8303 : Int32)), (.int (8206 : Int32)), (.int p1)])) rfl (by rw [hml]; rfl) (argsL := [(.int p1), (.int (8206 : Int32)), (.int (8303 : Int32))]) (rest := []) (lenOf pd_2_1 rfl) rfl (by show 2 * 0 + _ ≤ _; exact Nat.le_of_eq rfl) (hb hby d2_91) (fun _ _ => ⟨rfl, rfl, (by decide : 0 + 0 ≤ _), (by decide : 0 + 0 ≤ _)⟩)
  dsimp only [Pt.U, Pt.locs, Pt.cells, Pt.slots] at X6 l6 y6 z6 st6 hQ6
  subst l6 y6 z6
  obtain ⟨rfl, N6q, eh6⟩ := hQ6
  have N6 := Fr.app N5 N6q
  obtain ⟨fs, hr, hrun, hended, hW, hsame⟩ := X6.leave (v := some (.int (0 : Int32))) (fun h => by rw [Bd.returns] at h; cases h)
  refine ⟨_, _, pre0 _ ?_, hrun, hended, _, _, rfl, ?_, ⟨_, rfl⟩, hW, hsame.mono (by decide) (by decide)⟩
  · show Steps p.tables e below (s₁.setTop (mkF m 0 #[.val (.int p1), .unset] [])) _
    refine XS.iloadN X0.here hx rfl (hb hby d2_0) rfl ?_
    show Steps p.tables e below (s₁.setTop (mkF m 1 #[.val (.int p1), .unset] [(.int p1)])) _
    refine XS.bipush X0.here hx rfl (hb hby d2_1) ?_
    show Steps p.tables e below (s₁.setTop (mkF m 3 #[.val (.int p1), .unset] [(.int (65 : Int32)), (.int p1)])) _
    refine XS.icmpNo X0.here hx rfl (hb hby d2_3) rfl (flt hc3).1 ?_
    show Steps p.tables e below (s₁.setTop (mkF m 6 #[.val (.int p1), .unset] [])) _
    refine XS.iloadN X0.here hx rfl (hb hby d2_6) rfl ?_
    show Steps p.tables e below (s₁.setTop (mkF m 7 #[.val (.int p1), .unset] [(.int p1)])) _
    refine X0.ldcInt hx hown (mvT hZ (hw _ (List.mem_of_getElem? (i := 7) rfl))) (g := (mkF m 7 #[.val (.int p1), .unset] [(.int p1)])) rfl (hb hby d2_7) _ ?_
    show Steps p.tables e below (s₁.setTop (mkF m 9 #[.val (.int p1), .unset] [(.int (983039 : Int32)), (.int p1)])) _
    refine XS.icmpYes X0.here hx rfl (pc0 := 9) (pc' := 14) rfl (hb hby d2_9) rfl (flt hc9).2.2.2 (by decide) (by decide) ?_
    show Steps p.tables e below (s₁.setTop (mkF m 14 #[.val (.int p1), .unset] [])) _
    refine XS.iloadN X0.here hx rfl (hb hby d2_14) rfl ?_
    show Steps p.tables e below (s₁.setTop (mkF m 15 #[.val (.int p1), .unset] [(.int p1)])) _
    refine XS.bipush X0.here hx rfl (hb hby d2_15) ?_
    show Steps p.tables e below (s₁.setTop (mkF m 17 #[.val (.int p1), .unset] [(.int (91 : Int32)), (.int p1)])) _
    refine XS.bipush X0.here hx rfl (hb hby d2_17) ?_
    show Steps p.tables e below (s₁.setTop (mkF m 19 #[.val (.int p1), .unset] [(.int (96 : Int32)), (.int (91 : Int32)), (.int p1)])) _
    refine st2 _ ?_
    show Steps p.tables e below (T2.setTop (mkF m 22 #[.val (.int p1), .unset] [(.int (own_in p1 (91 : Int32) (96 : Int32)))])) _
    refine XS.ifNo X2.here hx rfl (hb hby d2_22) rfl ((if0 _ _).trans (teq (g0 : (own_in p1 (91 : Int32) (96 : Int32)) = (0 : Int32))).2) ?_
    show Steps p.tables e below (T2.setTop (mkF m 25 #[.val (.int p1), .unset] [])) _
    refine XS.iloadN X2.here hx rfl (hb hby d2_25) rfl ?_
    show Steps p.tables e below (T2.setTop (mkF m 26 #[.val (.int p1), .unset] [(.int p1)])) _
    refine XS.bipush X2.here hx rfl (hb hby d2_26) ?_
    show Steps p.tables e below (T2.setTop (mkF m 28 #[.val (.int p1), .unset] [(.int (123 : Int32)), (.int p1)])) _
    refine XS.sipush X2.here hx rfl (hb hby d2_28) ?_
    show Steps p.tables e below (T2.setTop (mkF m 31 #[.val (.int p1), .unset] [(.int (191 : Int32)), (.int (123 : Int32)), (.int p1)])) _
    refine st3 _ ?_
    show Steps p.tables e below (T3.setTop (mkF m 34 #[.val (.int p1), .unset] [(.int (own_in p1 (123 : Int32) (191 : Int32)))])) _
    refine XS.ifNo X3.here hx rfl (hb hby d2_34) rfl ((if0 _ _).trans (teq (g1 : (own_in p1 (123 : Int32) (191 : Int32)) = (0 : Int32))).2) ?_
    show Steps p.tables e below (T3.setTop (mkF m 37 #[.val (.int p1), .unset] [])) _
    refine XS.iloadN X3.here hx rfl (hb hby d2_37) rfl ?_
    show Steps p.tables e below (T3.setTop (mkF m 38 #[.val (.int p1), .unset] [(.int p1)])) _
    refine XS.sipush X3.here hx rfl (hb hby d2_38) ?_
    show Steps p.tables e below (T3.setTop (mkF m 41 #[.val (.int p1), .unset] [(.int (215 : Int32)), (.int p1)])) _
    refine XS.icmpNo X3.here hx rfl (hb hby d2_41) rfl (feq hc41).1 ?_
    show Steps p.tables e below (T3.setTop (mkF m 44 #[.val (.int p1), .unset] [])) _
    refine XS.iloadN X3.here hx rfl (hb hby d2_44) rfl ?_
    show Steps p.tables e below (T3.setTop (mkF m 45 #[.val (.int p1), .unset] [(.int p1)])) _
    refine XS.sipush X3.here hx rfl (hb hby d2_45) ?_
    show Steps p.tables e below (T3.setTop (mkF m 48 #[.val (.int p1), .unset] [(.int (247 : Int32)), (.int p1)])) _
    refine XS.icmpNo X3.here hx rfl (hb hby d2_48) rfl (feq hc48).1 ?_
    show Steps p.tables e below (T3.setTop (mkF m 51 #[.val (.int p1), .unset] [])) _
    refine XS.iloadN X3.here hx rfl (hb hby d2_51) rfl ?_
    show Steps p.tables e below (T3.setTop (mkF m 52 #[.val (.int p1), .unset] [(.int p1)])) _
    refine XS.sipush X3.here hx rfl (hb hby d2_52) ?_
    show Steps p.tables e below (T3.setTop (mkF m 55 #[.val (.int p1), .unset] [(.int (768 : Int32)), (.int p1)])) _
    refine XS.sipush X3.here hx rfl (hb hby d2_55) ?_
    show Steps p.tables e below (T3.setTop (mkF m 58 #[.val (.int p1), .unset] [(.int (879 : Int32)), (.int (768 : Int32)), (.int p1)])) _
    refine st4 _ ?_
    show Steps p.tables e below (T4.setTop (mkF m 61 #[.val (.int p1), .unset] [(.int (own_in p1 (768 : Int32) (879 : Int32)))])) _
    refine XS.ifNo X4.here hx rfl (hb hby d2_61) rfl ((if0 _ _).trans (teq (g4 : (own_in p1 (768 : Int32) (879 : Int32)) = (0 : Int32))).2) ?_
    show Steps p.tables e below (T4.setTop (mkF m 64 #[.val (.int p1), .unset] [])) _
    refine XS.iloadN X4.here hx rfl (hb hby d2_64) rfl ?_
    show Steps p.tables e below (T4.setTop (mkF m 65 #[.val (.int p1), .unset] [(.int p1)])) _
    refine XS.sipush X4.here hx rfl (hb hby d2_65) ?_
    show Steps p.tables e below (T4.setTop (mkF m 68 #[.val (.int p1), .unset] [(.int (894 : Int32)), (.int p1)])) _
    refine XS.icmpNo X4.here hx rfl (hb hby d2_68) rfl (feq hc68).1 ?_
    show Steps p.tables e below (T4.setTop (mkF m 71 #[.val (.int p1), .unset] [])) _
    refine XS.iloadN X4.here hx rfl (hb hby d2_71) rfl ?_
    show Steps p.tables e below (T4.setTop (mkF m 72 #[.val (.int p1), .unset] [(.int p1)])) _
    refine XS.sipush X4.here hx rfl (hb hby d2_72) ?_
    show Steps p.tables e below (T4.setTop (mkF m 75 #[.val (.int p1), .unset] [(.int (8192 : Int32)), (.int p1)])) _
    refine XS.sipush X4.here hx rfl (hb hby d2_75) ?_
    show Steps p.tables e below (T4.setTop (mkF m 78 #[.val (.int p1), .unset] [(.int (8203 : Int32)), (.int (8192 : Int32)), (.int p1)])) _
    refine st5 _ ?_
    show Steps p.tables e below (T5.setTop (mkF m 81 #[.val (.int p1), .unset] [(.int (own_in p1 (8192 : Int32) (8203 : Int32)))])) _
    refine XS.ifNo X5.here hx rfl (hb hby d2_81) rfl ((if0 _ _).trans (teq (g6 : (own_in p1 (8192 : Int32) (8203 : Int32)) = (0 : Int32))).2) ?_
    show Steps p.tables e below (T5.setTop (mkF m 84 #[.val (.int p1), .unset] [])) _
    refine XS.iloadN X5.here hx rfl (hb hby d2_84) rfl ?_
    show Steps p.tables e below (T5.setTop (mkF m 85 #[.val (.int p1), .unset] [(.int p1)])) _
    refine XS.sipush X5.here hx rfl (hb hby d2_85) ?_
    show Steps p.tables e below (T5.setTop (mkF m 88 #[.val (.int p1), .unset] [(.int (8206 : Int32)), (.int p1)])) _
    refine XS.sipush X5.here hx rfl (hb hby d2_88) ?_
    show Steps p.tables e below (T5.setTop (mkF m 91 #[.val (.int p1), .unset] [(.int (8303 : Int32)), (.int (8206 : Int32)), (.int p1)])) _
    refine st6 _ ?_
    show Steps p.tables e below (T6.setTop (mkF m 94 #[.val (.int p1), .unset] [(.int (own_in p1 (8206 : Int32) (8303 : Int32)))])) _
    refine XS.ifYes X6.here hx rfl (pc0 := 94) (pc' := 156) rfl (hb hby d2_94) rfl ((if0 _ _).trans (feq (g7 : ¬ ((own_in p1 (8206 : Int32) (8303 : Int32)) = (0 : Int32)))).2) (by decide) (by decide) ?_
    show Steps p.tables e below (T6.setTop (mkF m 156 #[.val (.int p1), .unset] [])) _
    refine XS.iconst X6.here hx rfl (hb hby d2_156) ?_
    show Steps p.tables e below (T6.setTop (mkF m 157 #[.val (.int p1), .unset] [(.int (1 : Int32))])) _
    refine XS.goto X6.here hx rfl (pc0 := 157) (pc' := 161) rfl (hb hby d2_157) (by decide) (by decide) ?_
    show Steps p.tables e below (T6.setTop (mkF m 161 #[.val (.int p1), .unset] [(.int (1 : Int32))])) _
    refine XS.istoreN X6.here hx rfl (hb hby d2_161) rfl (l' := #[.val (.int p1), .val (.int (1 : Int32))]) rfl ?_
    show Steps p.tables e below (T6.setTop (mkF m 162 #[.val (.int p1), .val (.int (1 : Int32))] [])) _
    refine XS.iloadN X6.here hx rfl (hb hby d2_162) rfl ?_
    show Steps p.tables e below (T6.setTop (mkF m 163 #[.val (.int p1), .val (.int (1 : Int32))] [(.int (1 : Int32))])) _
    refine XS.ifYes X6.here hx rfl (pc0 := 163) (pc' := 170) rfl (hb hby d2_163) rfl ((if0 _ _).trans (feq hc163).2) (by decide) (by decide) ?_
    show Steps p.tables e below (T6.setTop (mkF m 170 #[.val (.int p1), .val (.int (1 : Int32))] [])) _
    refine XS.iconst X6.here hx rfl (hb hby d2_170) ?_
    show Steps p.tables e below (T6.setTop (mkF m 171 #[.val (.int p1), .val (.int (1 : Int32))] [(.int (0 : Int32))])) _
    exact retN X6 hx (t := .boolean) Bd.returns (by simp) (hb hby d2_171) hr
  · show Q2 Z p1 h0 n0 _ T6.heap _
    exact ⟨by rw [own_g7 p1 g7], N6, (((eh6.trans eh5).trans eh4).trans eh3).trans eh2⟩
theorem d2_97 : decode method_3_code 97 = .ok (.iload_n 0, 1) := by decide +kernel
theorem d2_98 : decode method_3_code 98 = .ok (.sipush 8592, 3) := by decide +kernel
theorem d2_101 : decode method_3_code 101 = .ok (.sipush 11263, 3) := by decide +kernel
theorem d2_104 : decode method_3_code 104 = .ok (.invokestatic 8, 3) := by decide +kernel
theorem d2_107 : decode method_3_code 107 = .ok (.ifCond .ne 49, 3) := by decide +kernel
set_option maxRecDepth 65536 in
set_option maxHeartbeats 40000000 in
theorem rm2_8 (l : Launch) (Z : State) (a0 : Array Value) (hw : ∀ d ∈ tables_1, d.before a0 Z = true) (ws : List Jvm.Cond) (p1 : Int32) (h0 : Heap) (n0 : Nat) (Z0 : n0 ≤ h0.size) (g0 : own_in p1 (91 : Int32) (96 : Int32) = (0 : Int32)) (g1 : own_in p1 (123 : Int32) (191 : Int32) = (0 : Int32)) (g4 : own_in p1 (768 : Int32) (879 : Int32) = (0 : Int32)) (g6 : own_in p1 (8192 : Int32) (8203 : Int32) = (0 : Int32)) (g7 : own_in p1 (8206 : Int32) (8303 : Int32) = (0 : Int32)) (g8 : ¬ (own_in p1 (8592 : Int32) (11263 : Int32) = (0 : Int32))) (hc3 : ¬ (p1 < (65 : Int32))) (hc9 : ¬ ((983039 : Int32) < p1)) (hc41 : ¬ (p1 = (215 : Int32))) (hc48 : ¬ (p1 = (247 : Int32))) (hc68 : ¬ (p1 = (894 : Int32))) (hc163 : ¬ ((1 : Int32) = (0 : Int32))) :
    MetFree l (⟨"com/example/text_with_triples/textwithtriples/model/NameCharsIsBasePinLaw", "ref", "(I)Z"⟩ : MethodName) (head1 (Jvm.Cond.code (⟨"com/example/text_with_triples/textwithtriples/model/NameCharsIsBasePinLaw", "ref", "(I)Z"⟩ : MethodName) method_3_code 2 (some .boolean) :: ws) ({ frames := 1, cells := 0, slots := 0, locals := 14 } : Room)) (fun a U => a = #[(.int p1)] ∧ Z.Warmed39 U.vm ∧ U.heap = h0) (fun _ _ _ _ _ => True) (fun _ U o U' => ∃ v L, o = .returned v ∧ Q2 Z p1 h0 n0 v U'.heap L ∧ FrameEnd U o U' L ({ frames := 1, cells := 0, slots := 0, locals := 14 } : Room).cells ({ frames := 1, cells := 0, slots := 0, locals := 14 } : Room).slots) := by
  refine MetFree.of_bodySF (plainFor_of_name pn_2) hisR ?_
  intro p e s m args below meth c s₁ Bd hml0 hP hK
  obtain ⟨rfl, hZ, hh⟩ := hP
  have hx := Bd.exec
  have hby := Bd.bytes
  have hml : c.maxLocals = 2 := hml0
  have hown : s.vm.findClass "com/example/text_with_triples/textwithtriples/model/NameCharsIsBasePinLaw" = some m.cls := findClass_of_methodNamed Bd.named
  have hnm := (name_of_methodNamed Bd.named Bd.method).1
  have X0 : Stand p l e ({ frames := 1, cells := 0, slots := 0, locals := 14 } : Room) s m #[(.int p1)] below meth c s₁ [] 0 0 := Stand.of_body Bd
  have e0 : s₁.heap = h0 := by rw [← hh, Bd.state]; rfl
  have N0 := Fr.nil n0
  have pre0 : ∀ t, Steps p.tables e below (s₁.setTop (mkF m 0 #[.val (.int p1), .unset] [])) t → Steps p.tables e below (s₁.setTop (entryFrame m #[(.int p1)] 2)) t := fun t k => castTop (ef_2 m p1) k
  obtain ⟨_, _, ⟨T2, L2, k2, n2⟩, -, X2, ⟨Lc2, hQ2, l2, y2, z2⟩, st2⟩ := Jvm.LawKit.callS X0 hx (y := (⟨"com/example/text_with_triples/textwithtriples/model/NameCharsIsBasePinLaw", "in", "(III)Z"⟩ : MethodName)) hown (mvT hZ (hw _ (List.mem_of_getElem? (i := 20) rfl))) (mvT hZ (hw _ (List.mem_of_getElem? (i := 21) rfl))) (mvT hZ (hw _ (List.mem_of_getElem? (i := 18) rfl))) (mvT hZ (hw _ (List.mem_of_getElem? (i := 22) rfl))) (by decide) (backOf (W := 0) (rm3 l Z a0 hw [] p1 (91 : Int32) (96 : Int32) h0 n0 Z0) hZ (hw _ (List.mem_of_getElem? (i := 22) rfl)) (hw _ (List.mem_of_getElem? (i := 18) rfl)) (by decide) (by decide)) (g := (mkF m 19 #[.val (.int p1), .unset] [(.int (96 : Int32)), (.int (91 : Int32)), (.int p1)])) rfl (by rw [hml]; rfl) (argsL := [(.int p1), (.int (91 : Int32)), (.int (96 : Int32))]) (rest := []) (lenOf pd_2_1 rfl) rfl (by show 2 * 0 + _ ≤ _; exact Nat.le_of_eq rfl) (hb hby d2_19) (fun _ _ => ⟨rfl, e0, (by decide : 0 + 0 ≤ _), (by decide : 0 + 0 ≤ _)⟩)
  dsimp only [Pt.U, Pt.locs, Pt.cells, Pt.slots] at X2 l2 y2 z2 st2 hQ2
  subst l2 y2 z2
  obtain ⟨rfl, N2q, eh2⟩ := hQ2
  have N2 := Fr.app N0 N2q
  obtain ⟨_, _, ⟨T3, L3, k3, n3⟩, -, X3, ⟨Lc3, hQ3, l3, y3, z3⟩, st3⟩ := Jvm.LawKit.callS X2 hx (y := (⟨"com/example/text_with_triples/textwithtriples/model/NameCharsIsBasePinLaw", "in", "(III)Z"⟩ : MethodName)) hown (mvT hZ (hw _ (List.mem_of_getElem? (i := 20) rfl))) (mvT hZ (hw _ (List.mem_of_getElem? (i := 21) rfl))) (mvT hZ (hw _ (List.mem_of_getElem? (i := 18) rfl))) (mvT hZ (hw _ (List.mem_of_getElem? (i := 22) rfl))) (by decide) (backOf (W := 0) (rm3 l Z a0 hw [] p1 (123 : Int32) (191 : Int32) T2.heap n0 (by rw [eh2]; exact Z0)) hZ (hw _ (List.mem_of_getElem? (i := 22) rfl)) (hw _ (List.mem_of_getElem? (i := 18) rfl)) (by decide) (by decide)) (g := (mkF m 31 #[.val (.int p1), .unset] [(.int (191 : Int32)), (.int (123 : Int32)), (.int p1)])) rfl (by rw [hml]; rfl) (argsL := [(.int p1), (.int (123 : Int32)), (.int (191 : Int32))]) (rest := []) (lenOf pd_2_1 rfl) rfl (by show 2 * 0 + _ ≤ _; exact Nat.le_of_eq rfl) (hb hby d2_31) (fun _ _ => ⟨rfl, rfl, (by decide : 0 + 0 ≤ _), (by decide : 0 + 0 ≤ _)⟩)
  dsimp only [Pt.U, Pt.locs, Pt.cells, Pt.slots] at X3 l3 y3 z3 st3 hQ3
  subst l3 y3 z3
  obtain ⟨rfl, N3q, eh3⟩ := hQ3
  have N3 := Fr.app N2 N3q
  obtain ⟨_, _, ⟨T4, L4, k4, n4⟩, -, X4, ⟨Lc4, hQ4, l4, y4, z4⟩, st4⟩ := Jvm.LawKit.callS X3 hx (y := (⟨"com/example/text_with_triples/textwithtriples/model/NameCharsIsBasePinLaw", "in", "(III)Z"⟩ : MethodName)) hown (mvT hZ (hw _ (List.mem_of_getElem? (i := 20) rfl))) (mvT hZ (hw _ (List.mem_of_getElem? (i := 21) rfl))) (mvT hZ (hw _ (List.mem_of_getElem? (i := 18) rfl))) (mvT hZ (hw _ (List.mem_of_getElem? (i := 22) rfl))) (by decide) (backOf (W := 0) (rm3 l Z a0 hw [] p1 (768 : Int32) (879 : Int32) T3.heap n0 (by rw [eh3, eh2]; exact Z0)) hZ (hw _ (List.mem_of_getElem? (i := 22) rfl)) (hw _ (List.mem_of_getElem? (i := 18) rfl)) (by decide) (by decide)) (g := (mkF m 58 #[.val (.int p1), .unset] [(.int (879 : Int32)), (.int (768 : Int32)), (.int p1)])) rfl (by rw [hml]; rfl) (argsL := [(.int p1), (.int (768 : Int32)), (.int (879 : Int32))]) (rest := []) (lenOf pd_2_1 rfl) rfl (by show 2 * 0 + _ ≤ _; exact Nat.le_of_eq rfl) (hb hby d2_58) (fun _ _ => ⟨rfl, rfl, (by decide : 0 + 0 ≤ _), (by decide : 0 + 0 ≤ _)⟩)
  dsimp only [Pt.U, Pt.locs, Pt.cells, Pt.slots] at X4 l4 y4 z4 st4 hQ4
  subst l4 y4 z4
  obtain ⟨rfl, N4q, eh4⟩ := hQ4
  have N4 := Fr.app N3 N4q
  obtain ⟨_, _, ⟨T5, L5, k5, n5⟩, -, X5, ⟨Lc5, hQ5, l5, y5, z5⟩, st5⟩ := Jvm.LawKit.callS X4 hx (y := (⟨"com/example/text_with_triples/textwithtriples/model/NameCharsIsBasePinLaw", "in", "(III)Z"⟩ : MethodName)) hown (mvT hZ (hw _ (List.mem_of_getElem? (i := 20) rfl))) (mvT hZ (hw _ (List.mem_of_getElem? (i := 21) rfl))) (mvT hZ (hw _ (List.mem_of_getElem? (i := 18) rfl))) (mvT hZ (hw _ (List.mem_of_getElem? (i := 22) rfl))) (by decide) (backOf (W := 0) (rm3 l Z a0 hw [] p1 (8192 : Int32) (8203 : Int32) T4.heap n0 (by rw [eh4, eh3, eh2]; exact Z0)) hZ (hw _ (List.mem_of_getElem? (i := 22) rfl)) (hw _ (List.mem_of_getElem? (i := 18) rfl)) (by decide) (by decide)) (g := (mkF m 78 #[.val (.int p1), .unset] [(.int (8203 : Int32)), (.int (8192 : Int32)), (.int p1)])) rfl (by rw [hml]; rfl) (argsL := [(.int p1), (.int (8192 : Int32)), (.int (8203 : Int32))]) (rest := []) (lenOf pd_2_1 rfl) rfl (by show 2 * 0 + _ ≤ _; exact Nat.le_of_eq rfl) (hb hby d2_78) (fun _ _ => ⟨rfl, rfl, (by decide : 0 + 0 ≤ _), (by decide : 0 + 0 ≤ _)⟩)
  dsimp only [Pt.U, Pt.locs, Pt.cells, Pt.slots] at X5 l5 y5 z5 st5 hQ5
  subst l5 y5 z5
  obtain ⟨rfl, N5q, eh5⟩ := hQ5
  have N5 := Fr.app N4 N5q
  obtain ⟨_, _, ⟨T6, L6, k6, n6⟩, -, X6, ⟨Lc6, hQ6, l6, y6, z6⟩, st6⟩ := Jvm.LawKit.callS X5 hx (y := (⟨"com/example/text_with_triples/textwithtriples/model/NameCharsIsBasePinLaw", "in", "(III)Z"⟩ : MethodName)) hown (mvT hZ (hw _ (List.mem_of_getElem? (i := 20) rfl))) (mvT hZ (hw _ (List.mem_of_getElem? (i := 21) rfl))) (mvT hZ (hw _ (List.mem_of_getElem? (i := 18) rfl))) (mvT hZ (hw _ (List.mem_of_getElem? (i := 22) rfl))) (by decide) (backOf (W := 0) (rm3 l Z a0 hw [] p1 (8206 : Int32) (8303 : Int32) T5.heap n0 (by rw [eh5, eh4, eh3, eh2]; exact Z0)) hZ (hw _ (List.mem_of_getElem? (i := 22) rfl)) (hw _ (List.mem_of_getElem? (i := 18) rfl)) (by decide) (by decide)) (g := (mkF m 91 #[.val (.int p1), .unset] [(.int (8303 : Int32)), (.int (8206 : Int32)), (.int p1)])) rfl (by rw [hml]; rfl) (argsL := [(.int p1), (.int (8206 : Int32)), (.int (8303 : Int32))]) (rest := []) (lenOf pd_2_1 rfl) rfl (by show 2 * 0 + _ ≤ _; exact Nat.le_of_eq rfl) (hb hby d2_91) (fun _ _ => ⟨rfl, rfl, (by decide : 0 + 0 ≤ _), (by decide : 0 + 0 ≤ _)⟩)
  dsimp only [Pt.U, Pt.locs, Pt.cells, Pt.slots] at X6 l6 y6 z6 st6 hQ6
  subst l6 y6 z6
  obtain ⟨rfl, N6q, eh6⟩ := hQ6
  have N6 := Fr.app N5 N6q
  obtain ⟨_, _, ⟨T7, L7, k7, n7⟩, -, X7, ⟨Lc7, hQ7, l7, y7, z7⟩, st7⟩ := Jvm.LawKit.callS X6 hx (y := (⟨"com/example/text_with_triples/textwithtriples/model/NameCharsIsBasePinLaw", "in", "(III)Z"⟩ : MethodName)) hown (mvT hZ (hw _ (List.mem_of_getElem? (i := 20) rfl))) (mvT hZ (hw _ (List.mem_of_getElem? (i := 21) rfl))) (mvT hZ (hw _ (List.mem_of_getElem? (i := 18) rfl))) (mvT hZ (hw _ (List.mem_of_getElem? (i := 22) rfl))) (by decide) (backOf (W := 0) (rm3 l Z a0 hw [] p1 (8592 : Int32) (11263 : Int32) T6.heap n0 (by rw [eh6, eh5, eh4, eh3, eh2]; exact Z0)) hZ (hw _ (List.mem_of_getElem? (i := 22) rfl)) (hw _ (List.mem_of_getElem? (i := 18) rfl)) (by decide) (by decide)) (g := (mkF m 104 #[.val (.int p1), .unset] [(.int (11263 : Int32)), (.int (8592 : Int32)), (.int p1)])) rfl (by rw [hml]; rfl) (argsL := [(.int p1), (.int (8592 : Int32)), (.int (11263 : Int32))]) (rest := []) (lenOf pd_2_1 rfl) rfl (by show 2 * 0 + _ ≤ _; exact Nat.le_of_eq rfl) (hb hby d2_104) (fun _ _ => ⟨rfl, rfl, (by decide : 0 + 0 ≤ _), (by decide : 0 + 0 ≤ _)⟩)
  dsimp only [Pt.U, Pt.locs, Pt.cells, Pt.slots] at X7 l7 y7 z7 st7 hQ7
  subst l7 y7 z7
  obtain ⟨rfl, N7q, eh7⟩ := hQ7
  have N7 := Fr.app N6 N7q
  obtain ⟨fs, hr, hrun, hended, hW, hsame⟩ := X7.leave (v := some (.int (0 : Int32))) (fun h => by rw [Bd.returns] at h; cases h)
  refine ⟨_, _, pre0 _ ?_, hrun, hended, _, _, rfl, ?_, ⟨_, rfl⟩, hW, hsame.mono (by decide) (by decide)⟩
  · show Steps p.tables e below (s₁.setTop (mkF m 0 #[.val (.int p1), .unset] [])) _
    refine XS.iloadN X0.here hx rfl (hb hby d2_0) rfl ?_
    show Steps p.tables e below (s₁.setTop (mkF m 1 #[.val (.int p1), .unset] [(.int p1)])) _
    refine XS.bipush X0.here hx rfl (hb hby d2_1) ?_
    show Steps p.tables e below (s₁.setTop (mkF m 3 #[.val (.int p1), .unset] [(.int (65 : Int32)), (.int p1)])) _
    refine XS.icmpNo X0.here hx rfl (hb hby d2_3) rfl (flt hc3).1 ?_
    show Steps p.tables e below (s₁.setTop (mkF m 6 #[.val (.int p1), .unset] [])) _
    refine XS.iloadN X0.here hx rfl (hb hby d2_6) rfl ?_
    show Steps p.tables e below (s₁.setTop (mkF m 7 #[.val (.int p1), .unset] [(.int p1)])) _
    refine X0.ldcInt hx hown (mvT hZ (hw _ (List.mem_of_getElem? (i := 7) rfl))) (g := (mkF m 7 #[.val (.int p1), .unset] [(.int p1)])) rfl (hb hby d2_7) _ ?_
    show Steps p.tables e below (s₁.setTop (mkF m 9 #[.val (.int p1), .unset] [(.int (983039 : Int32)), (.int p1)])) _
    refine XS.icmpYes X0.here hx rfl (pc0 := 9) (pc' := 14) rfl (hb hby d2_9) rfl (flt hc9).2.2.2 (by decide) (by decide) ?_
    show Steps p.tables e below (s₁.setTop (mkF m 14 #[.val (.int p1), .unset] [])) _
    refine XS.iloadN X0.here hx rfl (hb hby d2_14) rfl ?_
    show Steps p.tables e below (s₁.setTop (mkF m 15 #[.val (.int p1), .unset] [(.int p1)])) _
    refine XS.bipush X0.here hx rfl (hb hby d2_15) ?_
    show Steps p.tables e below (s₁.setTop (mkF m 17 #[.val (.int p1), .unset] [(.int (91 : Int32)), (.int p1)])) _
    refine XS.bipush X0.here hx rfl (hb hby d2_17) ?_
    show Steps p.tables e below (s₁.setTop (mkF m 19 #[.val (.int p1), .unset] [(.int (96 : Int32)), (.int (91 : Int32)), (.int p1)])) _
    refine st2 _ ?_
    show Steps p.tables e below (T2.setTop (mkF m 22 #[.val (.int p1), .unset] [(.int (own_in p1 (91 : Int32) (96 : Int32)))])) _
    refine XS.ifNo X2.here hx rfl (hb hby d2_22) rfl ((if0 _ _).trans (teq (g0 : (own_in p1 (91 : Int32) (96 : Int32)) = (0 : Int32))).2) ?_
    show Steps p.tables e below (T2.setTop (mkF m 25 #[.val (.int p1), .unset] [])) _
    refine XS.iloadN X2.here hx rfl (hb hby d2_25) rfl ?_
    show Steps p.tables e below (T2.setTop (mkF m 26 #[.val (.int p1), .unset] [(.int p1)])) _
    refine XS.bipush X2.here hx rfl (hb hby d2_26) ?_
    show Steps p.tables e below (T2.setTop (mkF m 28 #[.val (.int p1), .unset] [(.int (123 : Int32)), (.int p1)])) _
    refine XS.sipush X2.here hx rfl (hb hby d2_28) ?_
    show Steps p.tables e below (T2.setTop (mkF m 31 #[.val (.int p1), .unset] [(.int (191 : Int32)), (.int (123 : Int32)), (.int p1)])) _
    refine st3 _ ?_
    show Steps p.tables e below (T3.setTop (mkF m 34 #[.val (.int p1), .unset] [(.int (own_in p1 (123 : Int32) (191 : Int32)))])) _
    refine XS.ifNo X3.here hx rfl (hb hby d2_34) rfl ((if0 _ _).trans (teq (g1 : (own_in p1 (123 : Int32) (191 : Int32)) = (0 : Int32))).2) ?_
    show Steps p.tables e below (T3.setTop (mkF m 37 #[.val (.int p1), .unset] [])) _
    refine XS.iloadN X3.here hx rfl (hb hby d2_37) rfl ?_
    show Steps p.tables e below (T3.setTop (mkF m 38 #[.val (.int p1), .unset] [(.int p1)])) _
    refine XS.sipush X3.here hx rfl (hb hby d2_38) ?_
    show Steps p.tables e below (T3.setTop (mkF m 41 #[.val (.int p1), .unset] [(.int (215 : Int32)), (.int p1)])) _
    refine XS.icmpNo X3.here hx rfl (hb hby d2_41) rfl (feq hc41).1 ?_
    show Steps p.tables e below (T3.setTop (mkF m 44 #[.val (.int p1), .unset] [])) _
    refine XS.iloadN X3.here hx rfl (hb hby d2_44) rfl ?_
    show Steps p.tables e below (T3.setTop (mkF m 45 #[.val (.int p1), .unset] [(.int p1)])) _
    refine XS.sipush X3.here hx rfl (hb hby d2_45) ?_
    show Steps p.tables e below (T3.setTop (mkF m 48 #[.val (.int p1), .unset] [(.int (247 : Int32)), (.int p1)])) _
    refine XS.icmpNo X3.here hx rfl (hb hby d2_48) rfl (feq hc48).1 ?_
    show Steps p.tables e below (T3.setTop (mkF m 51 #[.val (.int p1), .unset] [])) _
    refine XS.iloadN X3.here hx rfl (hb hby d2_51) rfl ?_
    show Steps p.tables e below (T3.setTop (mkF m 52 #[.val (.int p1), .unset] [(.int p1)])) _
    refine XS.sipush X3.here hx rfl (hb hby d2_52) ?_
    show Steps p.tables e below (T3.setTop (mkF m 55 #[.val (.int p1), .unset] [(.int (768 : Int32)), (.int p1)])) _
    refine XS.sipush X3.here hx rfl (hb hby d2_55) ?_
    show Steps p.tables e below (T3.setTop (mkF m 58 #[.val (.int p1), .unset] [(.int (879 : Int32)), (.int (768 : Int32)), (.int p1)])) _
    refine st4 _ ?_
    show Steps p.tables e below (T4.setTop (mkF m 61 #[.val (.int p1), .unset] [(.int (own_in p1 (768 : Int32) (879 : Int32)))])) _
    refine XS.ifNo X4.here hx rfl (hb hby d2_61) rfl ((if0 _ _).trans (teq (g4 : (own_in p1 (768 : Int32) (879 : Int32)) = (0 : Int32))).2) ?_
    show Steps p.tables e below (T4.setTop (mkF m 64 #[.val (.int p1), .unset] [])) _
    refine XS.iloadN X4.here hx rfl (hb hby d2_64) rfl ?_
    show Steps p.tables e below (T4.setTop (mkF m 65 #[.val (.int p1), .unset] [(.int p1)])) _
    refine XS.sipush X4.here hx rfl (hb hby d2_65) ?_
    show Steps p.tables e below (T4.setTop (mkF m 68 #[.val (.int p1), .unset] [(.int (894 : Int32)), (.int p1)])) _
    refine XS.icmpNo X4.here hx rfl (hb hby d2_68) rfl (feq hc68).1 ?_
    show Steps p.tables e below (T4.setTop (mkF m 71 #[.val (.int p1), .unset] [])) _
    refine XS.iloadN X4.here hx rfl (hb hby d2_71) rfl ?_
    show Steps p.tables e below (T4.setTop (mkF m 72 #[.val (.int p1), .unset] [(.int p1)])) _
    refine XS.sipush X4.here hx rfl (hb hby d2_72) ?_
    show Steps p.tables e below (T4.setTop (mkF m 75 #[.val (.int p1), .unset] [(.int (8192 : Int32)), (.int p1)])) _
    refine XS.sipush X4.here hx rfl (hb hby d2_75) ?_
    show Steps p.tables e below (T4.setTop (mkF m 78 #[.val (.int p1), .unset] [(.int (8203 : Int32)), (.int (8192 : Int32)), (.int p1)])) _
    refine st5 _ ?_
    show Steps p.tables e below (T5.setTop (mkF m 81 #[.val (.int p1), .unset] [(.int (own_in p1 (8192 : Int32) (8203 : Int32)))])) _
    refine XS.ifNo X5.here hx rfl (hb hby d2_81) rfl ((if0 _ _).trans (teq (g6 : (own_in p1 (8192 : Int32) (8203 : Int32)) = (0 : Int32))).2) ?_
    show Steps p.tables e below (T5.setTop (mkF m 84 #[.val (.int p1), .unset] [])) _
    refine XS.iloadN X5.here hx rfl (hb hby d2_84) rfl ?_
    show Steps p.tables e below (T5.setTop (mkF m 85 #[.val (.int p1), .unset] [(.int p1)])) _
    refine XS.sipush X5.here hx rfl (hb hby d2_85) ?_
    show Steps p.tables e below (T5.setTop (mkF m 88 #[.val (.int p1), .unset] [(.int (8206 : Int32)), (.int p1)])) _
    refine XS.sipush X5.here hx rfl (hb hby d2_88) ?_
    show Steps p.tables e below (T5.setTop (mkF m 91 #[.val (.int p1), .unset] [(.int (8303 : Int32)), (.int (8206 : Int32)), (.int p1)])) _
    refine st6 _ ?_
    show Steps p.tables e below (T6.setTop (mkF m 94 #[.val (.int p1), .unset] [(.int (own_in p1 (8206 : Int32) (8303 : Int32)))])) _
    refine XS.ifNo X6.here hx rfl (hb hby d2_94) rfl ((if0 _ _).trans (teq (g7 : (own_in p1 (8206 : Int32) (8303 : Int32)) = (0 : Int32))).2) ?_
    show Steps p.tables e below (T6.setTop (mkF m 97 #[.val (.int p1), .unset] [])) _
    refine XS.iloadN X6.here hx rfl (hb hby d2_97) rfl ?_
    show Steps p.tables e below (T6.setTop (mkF m 98 #[.val (.int p1), .unset] [(.int p1)])) _
    refine XS.sipush X6.here hx rfl (hb hby d2_98) ?_
    show Steps p.tables e below (T6.setTop (mkF m 101 #[.val (.int p1), .unset] [(.int (8592 : Int32)), (.int p1)])) _
    refine XS.sipush X6.here hx rfl (hb hby d2_101) ?_
    show Steps p.tables e below (T6.setTop (mkF m 104 #[.val (.int p1), .unset] [(.int (11263 : Int32)), (.int (8592 : Int32)), (.int p1)])) _
    refine st7 _ ?_
    show Steps p.tables e below (T7.setTop (mkF m 107 #[.val (.int p1), .unset] [(.int (own_in p1 (8592 : Int32) (11263 : Int32)))])) _
    refine XS.ifYes X7.here hx rfl (pc0 := 107) (pc' := 156) rfl (hb hby d2_107) rfl ((if0 _ _).trans (feq (g8 : ¬ ((own_in p1 (8592 : Int32) (11263 : Int32)) = (0 : Int32)))).2) (by decide) (by decide) ?_
    show Steps p.tables e below (T7.setTop (mkF m 156 #[.val (.int p1), .unset] [])) _
    refine XS.iconst X7.here hx rfl (hb hby d2_156) ?_
    show Steps p.tables e below (T7.setTop (mkF m 157 #[.val (.int p1), .unset] [(.int (1 : Int32))])) _
    refine XS.goto X7.here hx rfl (pc0 := 157) (pc' := 161) rfl (hb hby d2_157) (by decide) (by decide) ?_
    show Steps p.tables e below (T7.setTop (mkF m 161 #[.val (.int p1), .unset] [(.int (1 : Int32))])) _
    refine XS.istoreN X7.here hx rfl (hb hby d2_161) rfl (l' := #[.val (.int p1), .val (.int (1 : Int32))]) rfl ?_
    show Steps p.tables e below (T7.setTop (mkF m 162 #[.val (.int p1), .val (.int (1 : Int32))] [])) _
    refine XS.iloadN X7.here hx rfl (hb hby d2_162) rfl ?_
    show Steps p.tables e below (T7.setTop (mkF m 163 #[.val (.int p1), .val (.int (1 : Int32))] [(.int (1 : Int32))])) _
    refine XS.ifYes X7.here hx rfl (pc0 := 163) (pc' := 170) rfl (hb hby d2_163) rfl ((if0 _ _).trans (feq hc163).2) (by decide) (by decide) ?_
    show Steps p.tables e below (T7.setTop (mkF m 170 #[.val (.int p1), .val (.int (1 : Int32))] [])) _
    refine XS.iconst X7.here hx rfl (hb hby d2_170) ?_
    show Steps p.tables e below (T7.setTop (mkF m 171 #[.val (.int p1), .val (.int (1 : Int32))] [(.int (0 : Int32))])) _
    exact retN X7 hx (t := .boolean) Bd.returns (by simp) (hb hby d2_171) hr
  · show Q2 Z p1 h0 n0 _ T7.heap _
    exact ⟨by rw [own_g8 p1 g8], N7, ((((eh7.trans eh6).trans eh5).trans eh4).trans eh3).trans eh2⟩
theorem d2_110 : decode method_3_code 110 = .ok (.iload_n 0, 1) := by decide +kernel
theorem d2_111 : decode method_3_code 111 = .ok (.sipush 12272, 3) := by decide +kernel
theorem d2_114 : decode method_3_code 114 = .ok (.sipush 12288, 3) := by decide +kernel
theorem d2_117 : decode method_3_code 117 = .ok (.invokestatic 8, 3) := by decide +kernel
theorem d2_120 : decode method_3_code 120 = .ok (.ifCond .ne 36, 3) := by decide +kernel
set_option maxRecDepth 65536 in
set_option maxHeartbeats 40000000 in
theorem rm2_9 (l : Launch) (Z : State) (a0 : Array Value) (hw : ∀ d ∈ tables_1, d.before a0 Z = true) (ws : List Jvm.Cond) (p1 : Int32) (h0 : Heap) (n0 : Nat) (Z0 : n0 ≤ h0.size) (g0 : own_in p1 (91 : Int32) (96 : Int32) = (0 : Int32)) (g1 : own_in p1 (123 : Int32) (191 : Int32) = (0 : Int32)) (g4 : own_in p1 (768 : Int32) (879 : Int32) = (0 : Int32)) (g6 : own_in p1 (8192 : Int32) (8203 : Int32) = (0 : Int32)) (g7 : own_in p1 (8206 : Int32) (8303 : Int32) = (0 : Int32)) (g8 : own_in p1 (8592 : Int32) (11263 : Int32) = (0 : Int32)) (g9 : ¬ (own_in p1 (12272 : Int32) (12288 : Int32) = (0 : Int32))) (hc3 : ¬ (p1 < (65 : Int32))) (hc9 : ¬ ((983039 : Int32) < p1)) (hc41 : ¬ (p1 = (215 : Int32))) (hc48 : ¬ (p1 = (247 : Int32))) (hc68 : ¬ (p1 = (894 : Int32))) (hc163 : ¬ ((1 : Int32) = (0 : Int32))) :
    MetFree l (⟨"com/example/text_with_triples/textwithtriples/model/NameCharsIsBasePinLaw", "ref", "(I)Z"⟩ : MethodName) (head1 (Jvm.Cond.code (⟨"com/example/text_with_triples/textwithtriples/model/NameCharsIsBasePinLaw", "ref", "(I)Z"⟩ : MethodName) method_3_code 2 (some .boolean) :: ws) ({ frames := 1, cells := 0, slots := 0, locals := 14 } : Room)) (fun a U => a = #[(.int p1)] ∧ Z.Warmed39 U.vm ∧ U.heap = h0) (fun _ _ _ _ _ => True) (fun _ U o U' => ∃ v L, o = .returned v ∧ Q2 Z p1 h0 n0 v U'.heap L ∧ FrameEnd U o U' L ({ frames := 1, cells := 0, slots := 0, locals := 14 } : Room).cells ({ frames := 1, cells := 0, slots := 0, locals := 14 } : Room).slots) := by
  refine MetFree.of_bodySF (plainFor_of_name pn_2) hisR ?_
  intro p e s m args below meth c s₁ Bd hml0 hP hK
  obtain ⟨rfl, hZ, hh⟩ := hP
  have hx := Bd.exec
  have hby := Bd.bytes
  have hml : c.maxLocals = 2 := hml0
  have hown : s.vm.findClass "com/example/text_with_triples/textwithtriples/model/NameCharsIsBasePinLaw" = some m.cls := findClass_of_methodNamed Bd.named
  have hnm := (name_of_methodNamed Bd.named Bd.method).1
  have X0 : Stand p l e ({ frames := 1, cells := 0, slots := 0, locals := 14 } : Room) s m #[(.int p1)] below meth c s₁ [] 0 0 := Stand.of_body Bd
  have e0 : s₁.heap = h0 := by rw [← hh, Bd.state]; rfl
  have N0 := Fr.nil n0
  have pre0 : ∀ t, Steps p.tables e below (s₁.setTop (mkF m 0 #[.val (.int p1), .unset] [])) t → Steps p.tables e below (s₁.setTop (entryFrame m #[(.int p1)] 2)) t := fun t k => castTop (ef_2 m p1) k
  obtain ⟨_, _, ⟨T2, L2, k2, n2⟩, -, X2, ⟨Lc2, hQ2, l2, y2, z2⟩, st2⟩ := Jvm.LawKit.callS X0 hx (y := (⟨"com/example/text_with_triples/textwithtriples/model/NameCharsIsBasePinLaw", "in", "(III)Z"⟩ : MethodName)) hown (mvT hZ (hw _ (List.mem_of_getElem? (i := 20) rfl))) (mvT hZ (hw _ (List.mem_of_getElem? (i := 21) rfl))) (mvT hZ (hw _ (List.mem_of_getElem? (i := 18) rfl))) (mvT hZ (hw _ (List.mem_of_getElem? (i := 22) rfl))) (by decide) (backOf (W := 0) (rm3 l Z a0 hw [] p1 (91 : Int32) (96 : Int32) h0 n0 Z0) hZ (hw _ (List.mem_of_getElem? (i := 22) rfl)) (hw _ (List.mem_of_getElem? (i := 18) rfl)) (by decide) (by decide)) (g := (mkF m 19 #[.val (.int p1), .unset] [(.int (96 : Int32)), (.int (91 : Int32)), (.int p1)])) rfl (by rw [hml]; rfl) (argsL := [(.int p1), (.int (91 : Int32)), (.int (96 : Int32))]) (rest := []) (lenOf pd_2_1 rfl) rfl (by show 2 * 0 + _ ≤ _; exact Nat.le_of_eq rfl) (hb hby d2_19) (fun _ _ => ⟨rfl, e0, (by decide : 0 + 0 ≤ _), (by decide : 0 + 0 ≤ _)⟩)
  dsimp only [Pt.U, Pt.locs, Pt.cells, Pt.slots] at X2 l2 y2 z2 st2 hQ2
  subst l2 y2 z2
  obtain ⟨rfl, N2q, eh2⟩ := hQ2
  have N2 := Fr.app N0 N2q
  obtain ⟨_, _, ⟨T3, L3, k3, n3⟩, -, X3, ⟨Lc3, hQ3, l3, y3, z3⟩, st3⟩ := Jvm.LawKit.callS X2 hx (y := (⟨"com/example/text_with_triples/textwithtriples/model/NameCharsIsBasePinLaw", "in", "(III)Z"⟩ : MethodName)) hown (mvT hZ (hw _ (List.mem_of_getElem? (i := 20) rfl))) (mvT hZ (hw _ (List.mem_of_getElem? (i := 21) rfl))) (mvT hZ (hw _ (List.mem_of_getElem? (i := 18) rfl))) (mvT hZ (hw _ (List.mem_of_getElem? (i := 22) rfl))) (by decide) (backOf (W := 0) (rm3 l Z a0 hw [] p1 (123 : Int32) (191 : Int32) T2.heap n0 (by rw [eh2]; exact Z0)) hZ (hw _ (List.mem_of_getElem? (i := 22) rfl)) (hw _ (List.mem_of_getElem? (i := 18) rfl)) (by decide) (by decide)) (g := (mkF m 31 #[.val (.int p1), .unset] [(.int (191 : Int32)), (.int (123 : Int32)), (.int p1)])) rfl (by rw [hml]; rfl) (argsL := [(.int p1), (.int (123 : Int32)), (.int (191 : Int32))]) (rest := []) (lenOf pd_2_1 rfl) rfl (by show 2 * 0 + _ ≤ _; exact Nat.le_of_eq rfl) (hb hby d2_31) (fun _ _ => ⟨rfl, rfl, (by decide : 0 + 0 ≤ _), (by decide : 0 + 0 ≤ _)⟩)
  dsimp only [Pt.U, Pt.locs, Pt.cells, Pt.slots] at X3 l3 y3 z3 st3 hQ3
  subst l3 y3 z3
  obtain ⟨rfl, N3q, eh3⟩ := hQ3
  have N3 := Fr.app N2 N3q
  obtain ⟨_, _, ⟨T4, L4, k4, n4⟩, -, X4, ⟨Lc4, hQ4, l4, y4, z4⟩, st4⟩ := Jvm.LawKit.callS X3 hx (y := (⟨"com/example/text_with_triples/textwithtriples/model/NameCharsIsBasePinLaw", "in", "(III)Z"⟩ : MethodName)) hown (mvT hZ (hw _ (List.mem_of_getElem? (i := 20) rfl))) (mvT hZ (hw _ (List.mem_of_getElem? (i := 21) rfl))) (mvT hZ (hw _ (List.mem_of_getElem? (i := 18) rfl))) (mvT hZ (hw _ (List.mem_of_getElem? (i := 22) rfl))) (by decide) (backOf (W := 0) (rm3 l Z a0 hw [] p1 (768 : Int32) (879 : Int32) T3.heap n0 (by rw [eh3, eh2]; exact Z0)) hZ (hw _ (List.mem_of_getElem? (i := 22) rfl)) (hw _ (List.mem_of_getElem? (i := 18) rfl)) (by decide) (by decide)) (g := (mkF m 58 #[.val (.int p1), .unset] [(.int (879 : Int32)), (.int (768 : Int32)), (.int p1)])) rfl (by rw [hml]; rfl) (argsL := [(.int p1), (.int (768 : Int32)), (.int (879 : Int32))]) (rest := []) (lenOf pd_2_1 rfl) rfl (by show 2 * 0 + _ ≤ _; exact Nat.le_of_eq rfl) (hb hby d2_58) (fun _ _ => ⟨rfl, rfl, (by decide : 0 + 0 ≤ _), (by decide : 0 + 0 ≤ _)⟩)
  dsimp only [Pt.U, Pt.locs, Pt.cells, Pt.slots] at X4 l4 y4 z4 st4 hQ4
  subst l4 y4 z4
  obtain ⟨rfl, N4q, eh4⟩ := hQ4
  have N4 := Fr.app N3 N4q
  obtain ⟨_, _, ⟨T5, L5, k5, n5⟩, -, X5, ⟨Lc5, hQ5, l5, y5, z5⟩, st5⟩ := Jvm.LawKit.callS X4 hx (y := (⟨"com/example/text_with_triples/textwithtriples/model/NameCharsIsBasePinLaw", "in", "(III)Z"⟩ : MethodName)) hown (mvT hZ (hw _ (List.mem_of_getElem? (i := 20) rfl))) (mvT hZ (hw _ (List.mem_of_getElem? (i := 21) rfl))) (mvT hZ (hw _ (List.mem_of_getElem? (i := 18) rfl))) (mvT hZ (hw _ (List.mem_of_getElem? (i := 22) rfl))) (by decide) (backOf (W := 0) (rm3 l Z a0 hw [] p1 (8192 : Int32) (8203 : Int32) T4.heap n0 (by rw [eh4, eh3, eh2]; exact Z0)) hZ (hw _ (List.mem_of_getElem? (i := 22) rfl)) (hw _ (List.mem_of_getElem? (i := 18) rfl)) (by decide) (by decide)) (g := (mkF m 78 #[.val (.int p1), .unset] [(.int (8203 : Int32)), (.int (8192 : Int32)), (.int p1)])) rfl (by rw [hml]; rfl) (argsL := [(.int p1), (.int (8192 : Int32)), (.int (8203 : Int32))]) (rest := []) (lenOf pd_2_1 rfl) rfl (by show 2 * 0 + _ ≤ _; exact Nat.le_of_eq rfl) (hb hby d2_78) (fun _ _ => ⟨rfl, rfl, (by decide : 0 + 0 ≤ _), (by decide : 0 + 0 ≤ _)⟩)
  dsimp only [Pt.U, Pt.locs, Pt.cells, Pt.slots] at X5 l5 y5 z5 st5 hQ5
  subst l5 y5 z5
  obtain ⟨rfl, N5q, eh5⟩ := hQ5
  have N5 := Fr.app N4 N5q
  obtain ⟨_, _, ⟨T6, L6, k6, n6⟩, -, X6, ⟨Lc6, hQ6, l6, y6, z6⟩, st6⟩ := Jvm.LawKit.callS X5 hx (y := (⟨"com/example/text_with_triples/textwithtriples/model/NameCharsIsBasePinLaw", "in", "(III)Z"⟩ : MethodName)) hown (mvT hZ (hw _ (List.mem_of_getElem? (i := 20) rfl))) (mvT hZ (hw _ (List.mem_of_getElem? (i := 21) rfl))) (mvT hZ (hw _ (List.mem_of_getElem? (i := 18) rfl))) (mvT hZ (hw _ (List.mem_of_getElem? (i := 22) rfl))) (by decide) (backOf (W := 0) (rm3 l Z a0 hw [] p1 (8206 : Int32) (8303 : Int32) T5.heap n0 (by rw [eh5, eh4, eh3, eh2]; exact Z0)) hZ (hw _ (List.mem_of_getElem? (i := 22) rfl)) (hw _ (List.mem_of_getElem? (i := 18) rfl)) (by decide) (by decide)) (g := (mkF m 91 #[.val (.int p1), .unset] [(.int (8303 : Int32)), (.int (8206 : Int32)), (.int p1)])) rfl (by rw [hml]; rfl) (argsL := [(.int p1), (.int (8206 : Int32)), (.int (8303 : Int32))]) (rest := []) (lenOf pd_2_1 rfl) rfl (by show 2 * 0 + _ ≤ _; exact Nat.le_of_eq rfl) (hb hby d2_91) (fun _ _ => ⟨rfl, rfl, (by decide : 0 + 0 ≤ _), (by decide : 0 + 0 ≤ _)⟩)
  dsimp only [Pt.U, Pt.locs, Pt.cells, Pt.slots] at X6 l6 y6 z6 st6 hQ6
  subst l6 y6 z6
  obtain ⟨rfl, N6q, eh6⟩ := hQ6
  have N6 := Fr.app N5 N6q
  obtain ⟨_, _, ⟨T7, L7, k7, n7⟩, -, X7, ⟨Lc7, hQ7, l7, y7, z7⟩, st7⟩ := Jvm.LawKit.callS X6 hx (y := (⟨"com/example/text_with_triples/textwithtriples/model/NameCharsIsBasePinLaw", "in", "(III)Z"⟩ : MethodName)) hown (mvT hZ (hw _ (List.mem_of_getElem? (i := 20) rfl))) (mvT hZ (hw _ (List.mem_of_getElem? (i := 21) rfl))) (mvT hZ (hw _ (List.mem_of_getElem? (i := 18) rfl))) (mvT hZ (hw _ (List.mem_of_getElem? (i := 22) rfl))) (by decide) (backOf (W := 0) (rm3 l Z a0 hw [] p1 (8592 : Int32) (11263 : Int32) T6.heap n0 (by rw [eh6, eh5, eh4, eh3, eh2]; exact Z0)) hZ (hw _ (List.mem_of_getElem? (i := 22) rfl)) (hw _ (List.mem_of_getElem? (i := 18) rfl)) (by decide) (by decide)) (g := (mkF m 104 #[.val (.int p1), .unset] [(.int (11263 : Int32)), (.int (8592 : Int32)), (.int p1)])) rfl (by rw [hml]; rfl) (argsL := [(.int p1), (.int (8592 : Int32)), (.int (11263 : Int32))]) (rest := []) (lenOf pd_2_1 rfl) rfl (by show 2 * 0 + _ ≤ _; exact Nat.le_of_eq rfl) (hb hby d2_104) (fun _ _ => ⟨rfl, rfl, (by decide : 0 + 0 ≤ _), (by decide : 0 + 0 ≤ _)⟩)
  dsimp only [Pt.U, Pt.locs, Pt.cells, Pt.slots] at X7 l7 y7 z7 st7 hQ7
  subst l7 y7 z7
  obtain ⟨rfl, N7q, eh7⟩ := hQ7
  have N7 := Fr.app N6 N7q
  obtain ⟨_, _, ⟨T8, L8, k8, n8⟩, -, X8, ⟨Lc8, hQ8, l8, y8, z8⟩, st8⟩ := Jvm.LawKit.callS X7 hx (y := (⟨"com/example/text_with_triples/textwithtriples/model/NameCharsIsBasePinLaw", "in", "(III)Z"⟩ : MethodName)) hown (mvT hZ (hw _ (List.mem_of_getElem? (i := 20) rfl))) (mvT hZ (hw _ (List.mem_of_getElem? (i := 21) rfl))) (mvT hZ (hw _ (List.mem_of_getElem? (i := 18) rfl))) (mvT hZ (hw _ (List.mem_of_getElem? (i := 22) rfl))) (by decide) (backOf (W := 0) (rm3 l Z a0 hw [] p1 (12272 : Int32) (12288 : Int32) T7.heap n0 (by rw [eh7, eh6, eh5, eh4, eh3, eh2]; exact Z0)) hZ (hw _ (List.mem_of_getElem? (i := 22) rfl)) (hw _ (List.mem_of_getElem? (i := 18) rfl)) (by decide) (by decide)) (g := (mkF m 117 #[.val (.int p1), .unset] [(.int (12288 : Int32)), (.int (12272 : Int32)), (.int p1)])) rfl (by rw [hml]; rfl) (argsL := [(.int p1), (.int (12272 : Int32)), (.int (12288 : Int32))]) (rest := []) (lenOf pd_2_1 rfl) rfl (by show 2 * 0 + _ ≤ _; exact Nat.le_of_eq rfl) (hb hby d2_117) (fun _ _ => ⟨rfl, rfl, (by decide : 0 + 0 ≤ _), (by decide : 0 + 0 ≤ _)⟩)
  dsimp only [Pt.U, Pt.locs, Pt.cells, Pt.slots] at X8 l8 y8 z8 st8 hQ8
  subst l8 y8 z8
  obtain ⟨rfl, N8q, eh8⟩ := hQ8
  have N8 := Fr.app N7 N8q
  obtain ⟨fs, hr, hrun, hended, hW, hsame⟩ := X8.leave (v := some (.int (0 : Int32))) (fun h => by rw [Bd.returns] at h; cases h)
  refine ⟨_, _, pre0 _ ?_, hrun, hended, _, _, rfl, ?_, ⟨_, rfl⟩, hW, hsame.mono (by decide) (by decide)⟩
  · show Steps p.tables e below (s₁.setTop (mkF m 0 #[.val (.int p1), .unset] [])) _
    refine XS.iloadN X0.here hx rfl (hb hby d2_0) rfl ?_
    show Steps p.tables e below (s₁.setTop (mkF m 1 #[.val (.int p1), .unset] [(.int p1)])) _
    refine XS.bipush X0.here hx rfl (hb hby d2_1) ?_
    show Steps p.tables e below (s₁.setTop (mkF m 3 #[.val (.int p1), .unset] [(.int (65 : Int32)), (.int p1)])) _
    refine XS.icmpNo X0.here hx rfl (hb hby d2_3) rfl (flt hc3).1 ?_
    show Steps p.tables e below (s₁.setTop (mkF m 6 #[.val (.int p1), .unset] [])) _
    refine XS.iloadN X0.here hx rfl (hb hby d2_6) rfl ?_
    show Steps p.tables e below (s₁.setTop (mkF m 7 #[.val (.int p1), .unset] [(.int p1)])) _
    refine X0.ldcInt hx hown (mvT hZ (hw _ (List.mem_of_getElem? (i := 7) rfl))) (g := (mkF m 7 #[.val (.int p1), .unset] [(.int p1)])) rfl (hb hby d2_7) _ ?_
    show Steps p.tables e below (s₁.setTop (mkF m 9 #[.val (.int p1), .unset] [(.int (983039 : Int32)), (.int p1)])) _
    refine XS.icmpYes X0.here hx rfl (pc0 := 9) (pc' := 14) rfl (hb hby d2_9) rfl (flt hc9).2.2.2 (by decide) (by decide) ?_
    show Steps p.tables e below (s₁.setTop (mkF m 14 #[.val (.int p1), .unset] [])) _
    refine XS.iloadN X0.here hx rfl (hb hby d2_14) rfl ?_
    show Steps p.tables e below (s₁.setTop (mkF m 15 #[.val (.int p1), .unset] [(.int p1)])) _
    refine XS.bipush X0.here hx rfl (hb hby d2_15) ?_
    show Steps p.tables e below (s₁.setTop (mkF m 17 #[.val (.int p1), .unset] [(.int (91 : Int32)), (.int p1)])) _
    refine XS.bipush X0.here hx rfl (hb hby d2_17) ?_
    show Steps p.tables e below (s₁.setTop (mkF m 19 #[.val (.int p1), .unset] [(.int (96 : Int32)), (.int (91 : Int32)), (.int p1)])) _
    refine st2 _ ?_
    show Steps p.tables e below (T2.setTop (mkF m 22 #[.val (.int p1), .unset] [(.int (own_in p1 (91 : Int32) (96 : Int32)))])) _
    refine XS.ifNo X2.here hx rfl (hb hby d2_22) rfl ((if0 _ _).trans (teq (g0 : (own_in p1 (91 : Int32) (96 : Int32)) = (0 : Int32))).2) ?_
    show Steps p.tables e below (T2.setTop (mkF m 25 #[.val (.int p1), .unset] [])) _
    refine XS.iloadN X2.here hx rfl (hb hby d2_25) rfl ?_
    show Steps p.tables e below (T2.setTop (mkF m 26 #[.val (.int p1), .unset] [(.int p1)])) _
    refine XS.bipush X2.here hx rfl (hb hby d2_26) ?_
    show Steps p.tables e below (T2.setTop (mkF m 28 #[.val (.int p1), .unset] [(.int (123 : Int32)), (.int p1)])) _
    refine XS.sipush X2.here hx rfl (hb hby d2_28) ?_
    show Steps p.tables e below (T2.setTop (mkF m 31 #[.val (.int p1), .unset] [(.int (191 : Int32)), (.int (123 : Int32)), (.int p1)])) _
    refine st3 _ ?_
    show Steps p.tables e below (T3.setTop (mkF m 34 #[.val (.int p1), .unset] [(.int (own_in p1 (123 : Int32) (191 : Int32)))])) _
    refine XS.ifNo X3.here hx rfl (hb hby d2_34) rfl ((if0 _ _).trans (teq (g1 : (own_in p1 (123 : Int32) (191 : Int32)) = (0 : Int32))).2) ?_
    show Steps p.tables e below (T3.setTop (mkF m 37 #[.val (.int p1), .unset] [])) _
    refine XS.iloadN X3.here hx rfl (hb hby d2_37) rfl ?_
    show Steps p.tables e below (T3.setTop (mkF m 38 #[.val (.int p1), .unset] [(.int p1)])) _
    refine XS.sipush X3.here hx rfl (hb hby d2_38) ?_
    show Steps p.tables e below (T3.setTop (mkF m 41 #[.val (.int p1), .unset] [(.int (215 : Int32)), (.int p1)])) _
    refine XS.icmpNo X3.here hx rfl (hb hby d2_41) rfl (feq hc41).1 ?_
    show Steps p.tables e below (T3.setTop (mkF m 44 #[.val (.int p1), .unset] [])) _
    refine XS.iloadN X3.here hx rfl (hb hby d2_44) rfl ?_
    show Steps p.tables e below (T3.setTop (mkF m 45 #[.val (.int p1), .unset] [(.int p1)])) _
    refine XS.sipush X3.here hx rfl (hb hby d2_45) ?_
    show Steps p.tables e below (T3.setTop (mkF m 48 #[.val (.int p1), .unset] [(.int (247 : Int32)), (.int p1)])) _
    refine XS.icmpNo X3.here hx rfl (hb hby d2_48) rfl (feq hc48).1 ?_
    show Steps p.tables e below (T3.setTop (mkF m 51 #[.val (.int p1), .unset] [])) _
    refine XS.iloadN X3.here hx rfl (hb hby d2_51) rfl ?_
    show Steps p.tables e below (T3.setTop (mkF m 52 #[.val (.int p1), .unset] [(.int p1)])) _
    refine XS.sipush X3.here hx rfl (hb hby d2_52) ?_
    show Steps p.tables e below (T3.setTop (mkF m 55 #[.val (.int p1), .unset] [(.int (768 : Int32)), (.int p1)])) _
    refine XS.sipush X3.here hx rfl (hb hby d2_55) ?_
    show Steps p.tables e below (T3.setTop (mkF m 58 #[.val (.int p1), .unset] [(.int (879 : Int32)), (.int (768 : Int32)), (.int p1)])) _
    refine st4 _ ?_
    show Steps p.tables e below (T4.setTop (mkF m 61 #[.val (.int p1), .unset] [(.int (own_in p1 (768 : Int32) (879 : Int32)))])) _
    refine XS.ifNo X4.here hx rfl (hb hby d2_61) rfl ((if0 _ _).trans (teq (g4 : (own_in p1 (768 : Int32) (879 : Int32)) = (0 : Int32))).2) ?_
    show Steps p.tables e below (T4.setTop (mkF m 64 #[.val (.int p1), .unset] [])) _
    refine XS.iloadN X4.here hx rfl (hb hby d2_64) rfl ?_
    show Steps p.tables e below (T4.setTop (mkF m 65 #[.val (.int p1), .unset] [(.int p1)])) _
    refine XS.sipush X4.here hx rfl (hb hby d2_65) ?_
    show Steps p.tables e below (T4.setTop (mkF m 68 #[.val (.int p1), .unset] [(.int (894 : Int32)), (.int p1)])) _
    refine XS.icmpNo X4.here hx rfl (hb hby d2_68) rfl (feq hc68).1 ?_
    show Steps p.tables e below (T4.setTop (mkF m 71 #[.val (.int p1), .unset] [])) _
    refine XS.iloadN X4.here hx rfl (hb hby d2_71) rfl ?_
    show Steps p.tables e below (T4.setTop (mkF m 72 #[.val (.int p1), .unset] [(.int p1)])) _
    refine XS.sipush X4.here hx rfl (hb hby d2_72) ?_
    show Steps p.tables e below (T4.setTop (mkF m 75 #[.val (.int p1), .unset] [(.int (8192 : Int32)), (.int p1)])) _
    refine XS.sipush X4.here hx rfl (hb hby d2_75) ?_
    show Steps p.tables e below (T4.setTop (mkF m 78 #[.val (.int p1), .unset] [(.int (8203 : Int32)), (.int (8192 : Int32)), (.int p1)])) _
    refine st5 _ ?_
    show Steps p.tables e below (T5.setTop (mkF m 81 #[.val (.int p1), .unset] [(.int (own_in p1 (8192 : Int32) (8203 : Int32)))])) _
    refine XS.ifNo X5.here hx rfl (hb hby d2_81) rfl ((if0 _ _).trans (teq (g6 : (own_in p1 (8192 : Int32) (8203 : Int32)) = (0 : Int32))).2) ?_
    show Steps p.tables e below (T5.setTop (mkF m 84 #[.val (.int p1), .unset] [])) _
    refine XS.iloadN X5.here hx rfl (hb hby d2_84) rfl ?_
    show Steps p.tables e below (T5.setTop (mkF m 85 #[.val (.int p1), .unset] [(.int p1)])) _
    refine XS.sipush X5.here hx rfl (hb hby d2_85) ?_
    show Steps p.tables e below (T5.setTop (mkF m 88 #[.val (.int p1), .unset] [(.int (8206 : Int32)), (.int p1)])) _
    refine XS.sipush X5.here hx rfl (hb hby d2_88) ?_
    show Steps p.tables e below (T5.setTop (mkF m 91 #[.val (.int p1), .unset] [(.int (8303 : Int32)), (.int (8206 : Int32)), (.int p1)])) _
    refine st6 _ ?_
    show Steps p.tables e below (T6.setTop (mkF m 94 #[.val (.int p1), .unset] [(.int (own_in p1 (8206 : Int32) (8303 : Int32)))])) _
    refine XS.ifNo X6.here hx rfl (hb hby d2_94) rfl ((if0 _ _).trans (teq (g7 : (own_in p1 (8206 : Int32) (8303 : Int32)) = (0 : Int32))).2) ?_
    show Steps p.tables e below (T6.setTop (mkF m 97 #[.val (.int p1), .unset] [])) _
    refine XS.iloadN X6.here hx rfl (hb hby d2_97) rfl ?_
    show Steps p.tables e below (T6.setTop (mkF m 98 #[.val (.int p1), .unset] [(.int p1)])) _
    refine XS.sipush X6.here hx rfl (hb hby d2_98) ?_
    show Steps p.tables e below (T6.setTop (mkF m 101 #[.val (.int p1), .unset] [(.int (8592 : Int32)), (.int p1)])) _
    refine XS.sipush X6.here hx rfl (hb hby d2_101) ?_
    show Steps p.tables e below (T6.setTop (mkF m 104 #[.val (.int p1), .unset] [(.int (11263 : Int32)), (.int (8592 : Int32)), (.int p1)])) _
    refine st7 _ ?_
    show Steps p.tables e below (T7.setTop (mkF m 107 #[.val (.int p1), .unset] [(.int (own_in p1 (8592 : Int32) (11263 : Int32)))])) _
    refine XS.ifNo X7.here hx rfl (hb hby d2_107) rfl ((if0 _ _).trans (teq (g8 : (own_in p1 (8592 : Int32) (11263 : Int32)) = (0 : Int32))).2) ?_
    show Steps p.tables e below (T7.setTop (mkF m 110 #[.val (.int p1), .unset] [])) _
    refine XS.iloadN X7.here hx rfl (hb hby d2_110) rfl ?_
    show Steps p.tables e below (T7.setTop (mkF m 111 #[.val (.int p1), .unset] [(.int p1)])) _
    refine XS.sipush X7.here hx rfl (hb hby d2_111) ?_
    show Steps p.tables e below (T7.setTop (mkF m 114 #[.val (.int p1), .unset] [(.int (12272 : Int32)), (.int p1)])) _
    refine XS.sipush X7.here hx rfl (hb hby d2_114) ?_
    show Steps p.tables e below (T7.setTop (mkF m 117 #[.val (.int p1), .unset] [(.int (12288 : Int32)), (.int (12272 : Int32)), (.int p1)])) _
    refine st8 _ ?_
    show Steps p.tables e below (T8.setTop (mkF m 120 #[.val (.int p1), .unset] [(.int (own_in p1 (12272 : Int32) (12288 : Int32)))])) _
    refine XS.ifYes X8.here hx rfl (pc0 := 120) (pc' := 156) rfl (hb hby d2_120) rfl ((if0 _ _).trans (feq (g9 : ¬ ((own_in p1 (12272 : Int32) (12288 : Int32)) = (0 : Int32)))).2) (by decide) (by decide) ?_
    show Steps p.tables e below (T8.setTop (mkF m 156 #[.val (.int p1), .unset] [])) _
    refine XS.iconst X8.here hx rfl (hb hby d2_156) ?_
    show Steps p.tables e below (T8.setTop (mkF m 157 #[.val (.int p1), .unset] [(.int (1 : Int32))])) _
    refine XS.goto X8.here hx rfl (pc0 := 157) (pc' := 161) rfl (hb hby d2_157) (by decide) (by decide) ?_
    show Steps p.tables e below (T8.setTop (mkF m 161 #[.val (.int p1), .unset] [(.int (1 : Int32))])) _
    refine XS.istoreN X8.here hx rfl (hb hby d2_161) rfl (l' := #[.val (.int p1), .val (.int (1 : Int32))]) rfl ?_
    show Steps p.tables e below (T8.setTop (mkF m 162 #[.val (.int p1), .val (.int (1 : Int32))] [])) _
    refine XS.iloadN X8.here hx rfl (hb hby d2_162) rfl ?_
    show Steps p.tables e below (T8.setTop (mkF m 163 #[.val (.int p1), .val (.int (1 : Int32))] [(.int (1 : Int32))])) _
    refine XS.ifYes X8.here hx rfl (pc0 := 163) (pc' := 170) rfl (hb hby d2_163) rfl ((if0 _ _).trans (feq hc163).2) (by decide) (by decide) ?_
    show Steps p.tables e below (T8.setTop (mkF m 170 #[.val (.int p1), .val (.int (1 : Int32))] [])) _
    refine XS.iconst X8.here hx rfl (hb hby d2_170) ?_
    show Steps p.tables e below (T8.setTop (mkF m 171 #[.val (.int p1), .val (.int (1 : Int32))] [(.int (0 : Int32))])) _
    exact retN X8 hx (t := .boolean) Bd.returns (by simp) (hb hby d2_171) hr
  · show Q2 Z p1 h0 n0 _ T8.heap _
    exact ⟨by rw [own_g9 p1 g9], N8, (((((eh8.trans eh7).trans eh6).trans eh5).trans eh4).trans eh3).trans eh2⟩
theorem d2_123 : decode method_3_code 123 = .ok (.iload_n 0, 1) := by decide +kernel
theorem d2_124 : decode method_3_code 124 = .ok (.ldc 14, 2) := by decide +kernel
theorem d2_126 : decode method_3_code 126 = .ok (.ldc 15, 2) := by decide +kernel
theorem d2_128 : decode method_3_code 128 = .ok (.invokestatic 8, 3) := by decide +kernel
theorem d2_131 : decode method_3_code 131 = .ok (.ifCond .ne 25, 3) := by decide +kernel
set_option maxRecDepth 65536 in
set_option maxHeartbeats 40000000 in
theorem rm2_10 (l : Launch) (Z : State) (a0 : Array Value) (hw : ∀ d ∈ tables_1, d.before a0 Z = true) (ws : List Jvm.Cond) (p1 : Int32) (h0 : Heap) (n0 : Nat) (Z0 : n0 ≤ h0.size) (g0 : own_in p1 (91 : Int32) (96 : Int32) = (0 : Int32)) (g1 : own_in p1 (123 : Int32) (191 : Int32) = (0 : Int32)) (g4 : own_in p1 (768 : Int32) (879 : Int32) = (0 : Int32)) (g6 : own_in p1 (8192 : Int32) (8203 : Int32) = (0 : Int32)) (g7 : own_in p1 (8206 : Int32) (8303 : Int32) = (0 : Int32)) (g8 : own_in p1 (8592 : Int32) (11263 : Int32) = (0 : Int32)) (g9 : own_in p1 (12272 : Int32) (12288 : Int32) = (0 : Int32)) (g10 : ¬ (own_in p1 (55296 : Int32) (63743 : Int32) = (0 : Int32))) (hc3 : ¬ (p1 < (65 : Int32))) (hc9 : ¬ ((983039 : Int32) < p1)) (hc41 : ¬ (p1 = (215 : Int32))) (hc48 : ¬ (p1 = (247 : Int32))) (hc68 : ¬ (p1 = (894 : Int32))) (hc163 : ¬ ((1 : Int32) = (0 : Int32))) :
    MetFree l (⟨"com/example/text_with_triples/textwithtriples/model/NameCharsIsBasePinLaw", "ref", "(I)Z"⟩ : MethodName) (head1 (Jvm.Cond.code (⟨"com/example/text_with_triples/textwithtriples/model/NameCharsIsBasePinLaw", "ref", "(I)Z"⟩ : MethodName) method_3_code 2 (some .boolean) :: ws) ({ frames := 1, cells := 0, slots := 0, locals := 14 } : Room)) (fun a U => a = #[(.int p1)] ∧ Z.Warmed39 U.vm ∧ U.heap = h0) (fun _ _ _ _ _ => True) (fun _ U o U' => ∃ v L, o = .returned v ∧ Q2 Z p1 h0 n0 v U'.heap L ∧ FrameEnd U o U' L ({ frames := 1, cells := 0, slots := 0, locals := 14 } : Room).cells ({ frames := 1, cells := 0, slots := 0, locals := 14 } : Room).slots) := by
  refine MetFree.of_bodySF (plainFor_of_name pn_2) hisR ?_
  intro p e s m args below meth c s₁ Bd hml0 hP hK
  obtain ⟨rfl, hZ, hh⟩ := hP
  have hx := Bd.exec
  have hby := Bd.bytes
  have hml : c.maxLocals = 2 := hml0
  have hown : s.vm.findClass "com/example/text_with_triples/textwithtriples/model/NameCharsIsBasePinLaw" = some m.cls := findClass_of_methodNamed Bd.named
  have hnm := (name_of_methodNamed Bd.named Bd.method).1
  have X0 : Stand p l e ({ frames := 1, cells := 0, slots := 0, locals := 14 } : Room) s m #[(.int p1)] below meth c s₁ [] 0 0 := Stand.of_body Bd
  have e0 : s₁.heap = h0 := by rw [← hh, Bd.state]; rfl
  have N0 := Fr.nil n0
  have pre0 : ∀ t, Steps p.tables e below (s₁.setTop (mkF m 0 #[.val (.int p1), .unset] [])) t → Steps p.tables e below (s₁.setTop (entryFrame m #[(.int p1)] 2)) t := fun t k => castTop (ef_2 m p1) k
  obtain ⟨_, _, ⟨T2, L2, k2, n2⟩, -, X2, ⟨Lc2, hQ2, l2, y2, z2⟩, st2⟩ := Jvm.LawKit.callS X0 hx (y := (⟨"com/example/text_with_triples/textwithtriples/model/NameCharsIsBasePinLaw", "in", "(III)Z"⟩ : MethodName)) hown (mvT hZ (hw _ (List.mem_of_getElem? (i := 20) rfl))) (mvT hZ (hw _ (List.mem_of_getElem? (i := 21) rfl))) (mvT hZ (hw _ (List.mem_of_getElem? (i := 18) rfl))) (mvT hZ (hw _ (List.mem_of_getElem? (i := 22) rfl))) (by decide) (backOf (W := 0) (rm3 l Z a0 hw [] p1 (91 : Int32) (96 : Int32) h0 n0 Z0) hZ (hw _ (List.mem_of_getElem? (i := 22) rfl)) (hw _ (List.mem_of_getElem? (i := 18) rfl)) (by decide) (by decide)) (g := (mkF m 19 #[.val (.int p1), .unset] [(.int (96 : Int32)), (.int (91 : Int32)), (.int p1)])) rfl (by rw [hml]; rfl) (argsL := [(.int p1), (.int (91 : Int32)), (.int (96 : Int32))]) (rest := []) (lenOf pd_2_1 rfl) rfl (by show 2 * 0 + _ ≤ _; exact Nat.le_of_eq rfl) (hb hby d2_19) (fun _ _ => ⟨rfl, e0, (by decide : 0 + 0 ≤ _), (by decide : 0 + 0 ≤ _)⟩)
  dsimp only [Pt.U, Pt.locs, Pt.cells, Pt.slots] at X2 l2 y2 z2 st2 hQ2
  subst l2 y2 z2
  obtain ⟨rfl, N2q, eh2⟩ := hQ2
  have N2 := Fr.app N0 N2q
  obtain ⟨_, _, ⟨T3, L3, k3, n3⟩, -, X3, ⟨Lc3, hQ3, l3, y3, z3⟩, st3⟩ := Jvm.LawKit.callS X2 hx (y := (⟨"com/example/text_with_triples/textwithtriples/model/NameCharsIsBasePinLaw", "in", "(III)Z"⟩ : MethodName)) hown (mvT hZ (hw _ (List.mem_of_getElem? (i := 20) rfl))) (mvT hZ (hw _ (List.mem_of_getElem? (i := 21) rfl))) (mvT hZ (hw _ (List.mem_of_getElem? (i := 18) rfl))) (mvT hZ (hw _ (List.mem_of_getElem? (i := 22) rfl))) (by decide) (backOf (W := 0) (rm3 l Z a0 hw [] p1 (123 : Int32) (191 : Int32) T2.heap n0 (by rw [eh2]; exact Z0)) hZ (hw _ (List.mem_of_getElem? (i := 22) rfl)) (hw _ (List.mem_of_getElem? (i := 18) rfl)) (by decide) (by decide)) (g := (mkF m 31 #[.val (.int p1), .unset] [(.int (191 : Int32)), (.int (123 : Int32)), (.int p1)])) rfl (by rw [hml]; rfl) (argsL := [(.int p1), (.int (123 : Int32)), (.int (191 : Int32))]) (rest := []) (lenOf pd_2_1 rfl) rfl (by show 2 * 0 + _ ≤ _; exact Nat.le_of_eq rfl) (hb hby d2_31) (fun _ _ => ⟨rfl, rfl, (by decide : 0 + 0 ≤ _), (by decide : 0 + 0 ≤ _)⟩)
  dsimp only [Pt.U, Pt.locs, Pt.cells, Pt.slots] at X3 l3 y3 z3 st3 hQ3
  subst l3 y3 z3
  obtain ⟨rfl, N3q, eh3⟩ := hQ3
  have N3 := Fr.app N2 N3q
  obtain ⟨_, _, ⟨T4, L4, k4, n4⟩, -, X4, ⟨Lc4, hQ4, l4, y4, z4⟩, st4⟩ := Jvm.LawKit.callS X3 hx (y := (⟨"com/example/text_with_triples/textwithtriples/model/NameCharsIsBasePinLaw", "in", "(III)Z"⟩ : MethodName)) hown (mvT hZ (hw _ (List.mem_of_getElem? (i := 20) rfl))) (mvT hZ (hw _ (List.mem_of_getElem? (i := 21) rfl))) (mvT hZ (hw _ (List.mem_of_getElem? (i := 18) rfl))) (mvT hZ (hw _ (List.mem_of_getElem? (i := 22) rfl))) (by decide) (backOf (W := 0) (rm3 l Z a0 hw [] p1 (768 : Int32) (879 : Int32) T3.heap n0 (by rw [eh3, eh2]; exact Z0)) hZ (hw _ (List.mem_of_getElem? (i := 22) rfl)) (hw _ (List.mem_of_getElem? (i := 18) rfl)) (by decide) (by decide)) (g := (mkF m 58 #[.val (.int p1), .unset] [(.int (879 : Int32)), (.int (768 : Int32)), (.int p1)])) rfl (by rw [hml]; rfl) (argsL := [(.int p1), (.int (768 : Int32)), (.int (879 : Int32))]) (rest := []) (lenOf pd_2_1 rfl) rfl (by show 2 * 0 + _ ≤ _; exact Nat.le_of_eq rfl) (hb hby d2_58) (fun _ _ => ⟨rfl, rfl, (by decide : 0 + 0 ≤ _), (by decide : 0 + 0 ≤ _)⟩)
  dsimp only [Pt.U, Pt.locs, Pt.cells, Pt.slots] at X4 l4 y4 z4 st4 hQ4
  subst l4 y4 z4
  obtain ⟨rfl, N4q, eh4⟩ := hQ4
  have N4 := Fr.app N3 N4q
  obtain ⟨_, _, ⟨T5, L5, k5, n5⟩, -, X5, ⟨Lc5, hQ5, l5, y5, z5⟩, st5⟩ := Jvm.LawKit.callS X4 hx (y := (⟨"com/example/text_with_triples/textwithtriples/model/NameCharsIsBasePinLaw", "in", "(III)Z"⟩ : MethodName)) hown (mvT hZ (hw _ (List.mem_of_getElem? (i := 20) rfl))) (mvT hZ (hw _ (List.mem_of_getElem? (i := 21) rfl))) (mvT hZ (hw _ (List.mem_of_getElem? (i := 18) rfl))) (mvT hZ (hw _ (List.mem_of_getElem? (i := 22) rfl))) (by decide) (backOf (W := 0) (rm3 l Z a0 hw [] p1 (8192 : Int32) (8203 : Int32) T4.heap n0 (by rw [eh4, eh3, eh2]; exact Z0)) hZ (hw _ (List.mem_of_getElem? (i := 22) rfl)) (hw _ (List.mem_of_getElem? (i := 18) rfl)) (by decide) (by decide)) (g := (mkF m 78 #[.val (.int p1), .unset] [(.int (8203 : Int32)), (.int (8192 : Int32)), (.int p1)])) rfl (by rw [hml]; rfl) (argsL := [(.int p1), (.int (8192 : Int32)), (.int (8203 : Int32))]) (rest := []) (lenOf pd_2_1 rfl) rfl (by show 2 * 0 + _ ≤ _; exact Nat.le_of_eq rfl) (hb hby d2_78) (fun _ _ => ⟨rfl, rfl, (by decide : 0 + 0 ≤ _), (by decide : 0 + 0 ≤ _)⟩)
  dsimp only [Pt.U, Pt.locs, Pt.cells, Pt.slots] at X5 l5 y5 z5 st5 hQ5
  subst l5 y5 z5
  obtain ⟨rfl, N5q, eh5⟩ := hQ5
  have N5 := Fr.app N4 N5q
  obtain ⟨_, _, ⟨T6, L6, k6, n6⟩, -, X6, ⟨Lc6, hQ6, l6, y6, z6⟩, st6⟩ := Jvm.LawKit.callS X5 hx (y := (⟨"com/example/text_with_triples/textwithtriples/model/NameCharsIsBasePinLaw", "in", "(III)Z"⟩ : MethodName)) hown (mvT hZ (hw _ (List.mem_of_getElem? (i := 20) rfl))) (mvT hZ (hw _ (List.mem_of_getElem? (i := 21) rfl))) (mvT hZ (hw _ (List.mem_of_getElem? (i := 18) rfl))) (mvT hZ (hw _ (List.mem_of_getElem? (i := 22) rfl))) (by decide) (backOf (W := 0) (rm3 l Z a0 hw [] p1 (8206 : Int32) (8303 : Int32) T5.heap n0 (by rw [eh5, eh4, eh3, eh2]; exact Z0)) hZ (hw _ (List.mem_of_getElem? (i := 22) rfl)) (hw _ (List.mem_of_getElem? (i := 18) rfl)) (by decide) (by decide)) (g := (mkF m 91 #[.val (.int p1), .unset] [(.int (8303 : Int32)), (.int (8206 : Int32)), (.int p1)])) rfl (by rw [hml]; rfl) (argsL := [(.int p1), (.int (8206 : Int32)), (.int (8303 : Int32))]) (rest := []) (lenOf pd_2_1 rfl) rfl (by show 2 * 0 + _ ≤ _; exact Nat.le_of_eq rfl) (hb hby d2_91) (fun _ _ => ⟨rfl, rfl, (by decide : 0 + 0 ≤ _), (by decide : 0 + 0 ≤ _)⟩)
  dsimp only [Pt.U, Pt.locs, Pt.cells, Pt.slots] at X6 l6 y6 z6 st6 hQ6
  subst l6 y6 z6
  obtain ⟨rfl, N6q, eh6⟩ := hQ6
  have N6 := Fr.app N5 N6q
  obtain ⟨_, _, ⟨T7, L7, k7, n7⟩, -, X7, ⟨Lc7, hQ7, l7, y7, z7⟩, st7⟩ := Jvm.LawKit.callS X6 hx (y := (⟨"com/example/text_with_triples/textwithtriples/model/NameCharsIsBasePinLaw", "in", "(III)Z"⟩ : MethodName)) hown (mvT hZ (hw _ (List.mem_of_getElem? (i := 20) rfl))) (mvT hZ (hw _ (List.mem_of_getElem? (i := 21) rfl))) (mvT hZ (hw _ (List.mem_of_getElem? (i := 18) rfl))) (mvT hZ (hw _ (List.mem_of_getElem? (i := 22) rfl))) (by decide) (backOf (W := 0) (rm3 l Z a0 hw [] p1 (8592 : Int32) (11263 : Int32) T6.heap n0 (by rw [eh6, eh5, eh4, eh3, eh2]; exact Z0)) hZ (hw _ (List.mem_of_getElem? (i := 22) rfl)) (hw _ (List.mem_of_getElem? (i := 18) rfl)) (by decide) (by decide)) (g := (mkF m 104 #[.val (.int p1), .unset] [(.int (11263 : Int32)), (.int (8592 : Int32)), (.int p1)])) rfl (by rw [hml]; rfl) (argsL := [(.int p1), (.int (8592 : Int32)), (.int (11263 : Int32))]) (rest := []) (lenOf pd_2_1 rfl) rfl (by show 2 * 0 + _ ≤ _; exact Nat.le_of_eq rfl) (hb hby d2_104) (fun _ _ => ⟨rfl, rfl, (by decide : 0 + 0 ≤ _), (by decide : 0 + 0 ≤ _)⟩)
  dsimp only [Pt.U, Pt.locs, Pt.cells, Pt.slots] at X7 l7 y7 z7 st7 hQ7
  subst l7 y7 z7
  obtain ⟨rfl, N7q, eh7⟩ := hQ7
  have N7 := Fr.app N6 N7q
  obtain ⟨_, _, ⟨T8, L8, k8, n8⟩, -, X8, ⟨Lc8, hQ8, l8, y8, z8⟩, st8⟩ := Jvm.LawKit.callS X7 hx (y := (⟨"com/example/text_with_triples/textwithtriples/model/NameCharsIsBasePinLaw", "in", "(III)Z"⟩ : MethodName)) hown (mvT hZ (hw _ (List.mem_of_getElem? (i := 20) rfl))) (mvT hZ (hw _ (List.mem_of_getElem? (i := 21) rfl))) (mvT hZ (hw _ (List.mem_of_getElem? (i := 18) rfl))) (mvT hZ (hw _ (List.mem_of_getElem? (i := 22) rfl))) (by decide) (backOf (W := 0) (rm3 l Z a0 hw [] p1 (12272 : Int32) (12288 : Int32) T7.heap n0 (by rw [eh7, eh6, eh5, eh4, eh3, eh2]; exact Z0)) hZ (hw _ (List.mem_of_getElem? (i := 22) rfl)) (hw _ (List.mem_of_getElem? (i := 18) rfl)) (by decide) (by decide)) (g := (mkF m 117 #[.val (.int p1), .unset] [(.int (12288 : Int32)), (.int (12272 : Int32)), (.int p1)])) rfl (by rw [hml]; rfl) (argsL := [(.int p1), (.int (12272 : Int32)), (.int (12288 : Int32))]) (rest := []) (lenOf pd_2_1 rfl) rfl (by show 2 * 0 + _ ≤ _; exact Nat.le_of_eq rfl) (hb hby d2_117) (fun _ _ => ⟨rfl, rfl, (by decide : 0 + 0 ≤ _), (by decide : 0 + 0 ≤ _)⟩)
  dsimp only [Pt.U, Pt.locs, Pt.cells, Pt.slots] at X8 l8 y8 z8 st8 hQ8
  subst l8 y8 z8
  obtain ⟨rfl, N8q, eh8⟩ := hQ8
  have N8 := Fr.app N7 N8q
  obtain ⟨_, _, ⟨T9, L9, k9, n9⟩, -, X9, ⟨Lc9, hQ9, l9, y9, z9⟩, st9⟩ := Jvm.LawKit.callS X8 hx (y := (⟨"com/example/text_with_triples/textwithtriples/model/NameCharsIsBasePinLaw", "in", "(III)Z"⟩ : MethodName)) hown (mvT hZ (hw _ (List.mem_of_getElem? (i := 20) rfl))) (mvT hZ (hw _ (List.mem_of_getElem? (i := 21) rfl))) (mvT hZ (hw _ (List.mem_of_getElem? (i := 18) rfl))) (mvT hZ (hw _ (List.mem_of_getElem? (i := 22) rfl))) (by decide) (backOf (W := 0) (rm3 l Z a0 hw [] p1 (55296 : Int32) (63743 : Int32) T8.heap n0 (by rw [eh8, eh7, eh6, eh5, eh4, eh3, eh2]; exact Z0)) hZ (hw _ (List.mem_of_getElem? (i := 22) rfl)) (hw _ (List.mem_of_getElem? (i := 18) rfl)) (by decide) (by decide)) (g := (mkF m 128 #[.val (.int p1), .unset] [(.int (63743 : Int32)), (.int (55296 : Int32)), (.int p1)])) rfl (by rw [hml]; rfl) (argsL := [(.int p1), (.int (55296 : Int32)), (.int (63743 : Int32))]) (rest := []) (lenOf pd_2_1 rfl) rfl (by show 2 * 0 + _ ≤ _; exact Nat.le_of_eq rfl) (hb hby d2_128) (fun _ _ => ⟨rfl, rfl, (by decide : 0 + 0 ≤ _), (by decide : 0 + 0 ≤ _)⟩)
  dsimp only [Pt.U, Pt.locs, Pt.cells, Pt.slots] at X9 l9 y9 z9 st9 hQ9
  subst l9 y9 z9
  obtain ⟨rfl, N9q, eh9⟩ := hQ9
  have N9 := Fr.app N8 N9q
  obtain ⟨fs, hr, hrun, hended, hW, hsame⟩ := X9.leave (v := some (.int (0 : Int32))) (fun h => by rw [Bd.returns] at h; cases h)
  refine ⟨_, _, pre0 _ ?_, hrun, hended, _, _, rfl, ?_, ⟨_, rfl⟩, hW, hsame.mono (by decide) (by decide)⟩
  · show Steps p.tables e below (s₁.setTop (mkF m 0 #[.val (.int p1), .unset] [])) _
    refine XS.iloadN X0.here hx rfl (hb hby d2_0) rfl ?_
    show Steps p.tables e below (s₁.setTop (mkF m 1 #[.val (.int p1), .unset] [(.int p1)])) _
    refine XS.bipush X0.here hx rfl (hb hby d2_1) ?_
    show Steps p.tables e below (s₁.setTop (mkF m 3 #[.val (.int p1), .unset] [(.int (65 : Int32)), (.int p1)])) _
    refine XS.icmpNo X0.here hx rfl (hb hby d2_3) rfl (flt hc3).1 ?_
    show Steps p.tables e below (s₁.setTop (mkF m 6 #[.val (.int p1), .unset] [])) _
    refine XS.iloadN X0.here hx rfl (hb hby d2_6) rfl ?_
    show Steps p.tables e below (s₁.setTop (mkF m 7 #[.val (.int p1), .unset] [(.int p1)])) _
    refine X0.ldcInt hx hown (mvT hZ (hw _ (List.mem_of_getElem? (i := 7) rfl))) (g := (mkF m 7 #[.val (.int p1), .unset] [(.int p1)])) rfl (hb hby d2_7) _ ?_
    show Steps p.tables e below (s₁.setTop (mkF m 9 #[.val (.int p1), .unset] [(.int (983039 : Int32)), (.int p1)])) _
    refine XS.icmpYes X0.here hx rfl (pc0 := 9) (pc' := 14) rfl (hb hby d2_9) rfl (flt hc9).2.2.2 (by decide) (by decide) ?_
    show Steps p.tables e below (s₁.setTop (mkF m 14 #[.val (.int p1), .unset] [])) _
    refine XS.iloadN X0.here hx rfl (hb hby d2_14) rfl ?_
    show Steps p.tables e below (s₁.setTop (mkF m 15 #[.val (.int p1), .unset] [(.int p1)])) _
    refine XS.bipush X0.here hx rfl (hb hby d2_15) ?_
    show Steps p.tables e below (s₁.setTop (mkF m 17 #[.val (.int p1), .unset] [(.int (91 : Int32)), (.int p1)])) _
    refine XS.bipush X0.here hx rfl (hb hby d2_17) ?_
    show Steps p.tables e below (s₁.setTop (mkF m 19 #[.val (.int p1), .unset] [(.int (96 : Int32)), (.int (91 : Int32)), (.int p1)])) _
    refine st2 _ ?_
    show Steps p.tables e below (T2.setTop (mkF m 22 #[.val (.int p1), .unset] [(.int (own_in p1 (91 : Int32) (96 : Int32)))])) _
    refine XS.ifNo X2.here hx rfl (hb hby d2_22) rfl ((if0 _ _).trans (teq (g0 : (own_in p1 (91 : Int32) (96 : Int32)) = (0 : Int32))).2) ?_
    show Steps p.tables e below (T2.setTop (mkF m 25 #[.val (.int p1), .unset] [])) _
    refine XS.iloadN X2.here hx rfl (hb hby d2_25) rfl ?_
    show Steps p.tables e below (T2.setTop (mkF m 26 #[.val (.int p1), .unset] [(.int p1)])) _
    refine XS.bipush X2.here hx rfl (hb hby d2_26) ?_
    show Steps p.tables e below (T2.setTop (mkF m 28 #[.val (.int p1), .unset] [(.int (123 : Int32)), (.int p1)])) _
    refine XS.sipush X2.here hx rfl (hb hby d2_28) ?_
    show Steps p.tables e below (T2.setTop (mkF m 31 #[.val (.int p1), .unset] [(.int (191 : Int32)), (.int (123 : Int32)), (.int p1)])) _
    refine st3 _ ?_
    show Steps p.tables e below (T3.setTop (mkF m 34 #[.val (.int p1), .unset] [(.int (own_in p1 (123 : Int32) (191 : Int32)))])) _
    refine XS.ifNo X3.here hx rfl (hb hby d2_34) rfl ((if0 _ _).trans (teq (g1 : (own_in p1 (123 : Int32) (191 : Int32)) = (0 : Int32))).2) ?_
    show Steps p.tables e below (T3.setTop (mkF m 37 #[.val (.int p1), .unset] [])) _
    refine XS.iloadN X3.here hx rfl (hb hby d2_37) rfl ?_
    show Steps p.tables e below (T3.setTop (mkF m 38 #[.val (.int p1), .unset] [(.int p1)])) _
    refine XS.sipush X3.here hx rfl (hb hby d2_38) ?_
    show Steps p.tables e below (T3.setTop (mkF m 41 #[.val (.int p1), .unset] [(.int (215 : Int32)), (.int p1)])) _
    refine XS.icmpNo X3.here hx rfl (hb hby d2_41) rfl (feq hc41).1 ?_
    show Steps p.tables e below (T3.setTop (mkF m 44 #[.val (.int p1), .unset] [])) _
    refine XS.iloadN X3.here hx rfl (hb hby d2_44) rfl ?_
    show Steps p.tables e below (T3.setTop (mkF m 45 #[.val (.int p1), .unset] [(.int p1)])) _
    refine XS.sipush X3.here hx rfl (hb hby d2_45) ?_
    show Steps p.tables e below (T3.setTop (mkF m 48 #[.val (.int p1), .unset] [(.int (247 : Int32)), (.int p1)])) _
    refine XS.icmpNo X3.here hx rfl (hb hby d2_48) rfl (feq hc48).1 ?_
    show Steps p.tables e below (T3.setTop (mkF m 51 #[.val (.int p1), .unset] [])) _
    refine XS.iloadN X3.here hx rfl (hb hby d2_51) rfl ?_
    show Steps p.tables e below (T3.setTop (mkF m 52 #[.val (.int p1), .unset] [(.int p1)])) _
    refine XS.sipush X3.here hx rfl (hb hby d2_52) ?_
    show Steps p.tables e below (T3.setTop (mkF m 55 #[.val (.int p1), .unset] [(.int (768 : Int32)), (.int p1)])) _
    refine XS.sipush X3.here hx rfl (hb hby d2_55) ?_
    show Steps p.tables e below (T3.setTop (mkF m 58 #[.val (.int p1), .unset] [(.int (879 : Int32)), (.int (768 : Int32)), (.int p1)])) _
    refine st4 _ ?_
    show Steps p.tables e below (T4.setTop (mkF m 61 #[.val (.int p1), .unset] [(.int (own_in p1 (768 : Int32) (879 : Int32)))])) _
    refine XS.ifNo X4.here hx rfl (hb hby d2_61) rfl ((if0 _ _).trans (teq (g4 : (own_in p1 (768 : Int32) (879 : Int32)) = (0 : Int32))).2) ?_
    show Steps p.tables e below (T4.setTop (mkF m 64 #[.val (.int p1), .unset] [])) _
    refine XS.iloadN X4.here hx rfl (hb hby d2_64) rfl ?_
    show Steps p.tables e below (T4.setTop (mkF m 65 #[.val (.int p1), .unset] [(.int p1)])) _
    refine XS.sipush X4.here hx rfl (hb hby d2_65) ?_
    show Steps p.tables e below (T4.setTop (mkF m 68 #[.val (.int p1), .unset] [(.int (894 : Int32)), (.int p1)])) _
    refine XS.icmpNo X4.here hx rfl (hb hby d2_68) rfl (feq hc68).1 ?_
    show Steps p.tables e below (T4.setTop (mkF m 71 #[.val (.int p1), .unset] [])) _
    refine XS.iloadN X4.here hx rfl (hb hby d2_71) rfl ?_
    show Steps p.tables e below (T4.setTop (mkF m 72 #[.val (.int p1), .unset] [(.int p1)])) _
    refine XS.sipush X4.here hx rfl (hb hby d2_72) ?_
    show Steps p.tables e below (T4.setTop (mkF m 75 #[.val (.int p1), .unset] [(.int (8192 : Int32)), (.int p1)])) _
    refine XS.sipush X4.here hx rfl (hb hby d2_75) ?_
    show Steps p.tables e below (T4.setTop (mkF m 78 #[.val (.int p1), .unset] [(.int (8203 : Int32)), (.int (8192 : Int32)), (.int p1)])) _
    refine st5 _ ?_
    show Steps p.tables e below (T5.setTop (mkF m 81 #[.val (.int p1), .unset] [(.int (own_in p1 (8192 : Int32) (8203 : Int32)))])) _
    refine XS.ifNo X5.here hx rfl (hb hby d2_81) rfl ((if0 _ _).trans (teq (g6 : (own_in p1 (8192 : Int32) (8203 : Int32)) = (0 : Int32))).2) ?_
    show Steps p.tables e below (T5.setTop (mkF m 84 #[.val (.int p1), .unset] [])) _
    refine XS.iloadN X5.here hx rfl (hb hby d2_84) rfl ?_
    show Steps p.tables e below (T5.setTop (mkF m 85 #[.val (.int p1), .unset] [(.int p1)])) _
    refine XS.sipush X5.here hx rfl (hb hby d2_85) ?_
    show Steps p.tables e below (T5.setTop (mkF m 88 #[.val (.int p1), .unset] [(.int (8206 : Int32)), (.int p1)])) _
    refine XS.sipush X5.here hx rfl (hb hby d2_88) ?_
    show Steps p.tables e below (T5.setTop (mkF m 91 #[.val (.int p1), .unset] [(.int (8303 : Int32)), (.int (8206 : Int32)), (.int p1)])) _
    refine st6 _ ?_
    show Steps p.tables e below (T6.setTop (mkF m 94 #[.val (.int p1), .unset] [(.int (own_in p1 (8206 : Int32) (8303 : Int32)))])) _
    refine XS.ifNo X6.here hx rfl (hb hby d2_94) rfl ((if0 _ _).trans (teq (g7 : (own_in p1 (8206 : Int32) (8303 : Int32)) = (0 : Int32))).2) ?_
    show Steps p.tables e below (T6.setTop (mkF m 97 #[.val (.int p1), .unset] [])) _
    refine XS.iloadN X6.here hx rfl (hb hby d2_97) rfl ?_
    show Steps p.tables e below (T6.setTop (mkF m 98 #[.val (.int p1), .unset] [(.int p1)])) _
    refine XS.sipush X6.here hx rfl (hb hby d2_98) ?_
    show Steps p.tables e below (T6.setTop (mkF m 101 #[.val (.int p1), .unset] [(.int (8592 : Int32)), (.int p1)])) _
    refine XS.sipush X6.here hx rfl (hb hby d2_101) ?_
    show Steps p.tables e below (T6.setTop (mkF m 104 #[.val (.int p1), .unset] [(.int (11263 : Int32)), (.int (8592 : Int32)), (.int p1)])) _
    refine st7 _ ?_
    show Steps p.tables e below (T7.setTop (mkF m 107 #[.val (.int p1), .unset] [(.int (own_in p1 (8592 : Int32) (11263 : Int32)))])) _
    refine XS.ifNo X7.here hx rfl (hb hby d2_107) rfl ((if0 _ _).trans (teq (g8 : (own_in p1 (8592 : Int32) (11263 : Int32)) = (0 : Int32))).2) ?_
    show Steps p.tables e below (T7.setTop (mkF m 110 #[.val (.int p1), .unset] [])) _
    refine XS.iloadN X7.here hx rfl (hb hby d2_110) rfl ?_
    show Steps p.tables e below (T7.setTop (mkF m 111 #[.val (.int p1), .unset] [(.int p1)])) _
    refine XS.sipush X7.here hx rfl (hb hby d2_111) ?_
    show Steps p.tables e below (T7.setTop (mkF m 114 #[.val (.int p1), .unset] [(.int (12272 : Int32)), (.int p1)])) _
    refine XS.sipush X7.here hx rfl (hb hby d2_114) ?_
    show Steps p.tables e below (T7.setTop (mkF m 117 #[.val (.int p1), .unset] [(.int (12288 : Int32)), (.int (12272 : Int32)), (.int p1)])) _
    refine st8 _ ?_
    show Steps p.tables e below (T8.setTop (mkF m 120 #[.val (.int p1), .unset] [(.int (own_in p1 (12272 : Int32) (12288 : Int32)))])) _
    refine XS.ifNo X8.here hx rfl (hb hby d2_120) rfl ((if0 _ _).trans (teq (g9 : (own_in p1 (12272 : Int32) (12288 : Int32)) = (0 : Int32))).2) ?_
    show Steps p.tables e below (T8.setTop (mkF m 123 #[.val (.int p1), .unset] [])) _
    refine XS.iloadN X8.here hx rfl (hb hby d2_123) rfl ?_
    show Steps p.tables e below (T8.setTop (mkF m 124 #[.val (.int p1), .unset] [(.int p1)])) _
    refine X8.ldcInt hx hown (mvT hZ (hw _ (List.mem_of_getElem? (i := 23) rfl))) (g := (mkF m 124 #[.val (.int p1), .unset] [(.int p1)])) rfl (hb hby d2_124) _ ?_
    show Steps p.tables e below (T8.setTop (mkF m 126 #[.val (.int p1), .unset] [(.int (55296 : Int32)), (.int p1)])) _
    refine X8.ldcInt hx hown (mvT hZ (hw _ (List.mem_of_getElem? (i := 24) rfl))) (g := (mkF m 126 #[.val (.int p1), .unset] [(.int (55296 : Int32)), (.int p1)])) rfl (hb hby d2_126) _ ?_
    show Steps p.tables e below (T8.setTop (mkF m 128 #[.val (.int p1), .unset] [(.int (63743 : Int32)), (.int (55296 : Int32)), (.int p1)])) _
    refine st9 _ ?_
    show Steps p.tables e below (T9.setTop (mkF m 131 #[.val (.int p1), .unset] [(.int (own_in p1 (55296 : Int32) (63743 : Int32)))])) _
    refine XS.ifYes X9.here hx rfl (pc0 := 131) (pc' := 156) rfl (hb hby d2_131) rfl ((if0 _ _).trans (feq (g10 : ¬ ((own_in p1 (55296 : Int32) (63743 : Int32)) = (0 : Int32)))).2) (by decide) (by decide) ?_
    show Steps p.tables e below (T9.setTop (mkF m 156 #[.val (.int p1), .unset] [])) _
    refine XS.iconst X9.here hx rfl (hb hby d2_156) ?_
    show Steps p.tables e below (T9.setTop (mkF m 157 #[.val (.int p1), .unset] [(.int (1 : Int32))])) _
    refine XS.goto X9.here hx rfl (pc0 := 157) (pc' := 161) rfl (hb hby d2_157) (by decide) (by decide) ?_
    show Steps p.tables e below (T9.setTop (mkF m 161 #[.val (.int p1), .unset] [(.int (1 : Int32))])) _
    refine XS.istoreN X9.here hx rfl (hb hby d2_161) rfl (l' := #[.val (.int p1), .val (.int (1 : Int32))]) rfl ?_
    show Steps p.tables e below (T9.setTop (mkF m 162 #[.val (.int p1), .val (.int (1 : Int32))] [])) _
    refine XS.iloadN X9.here hx rfl (hb hby d2_162) rfl ?_
    show Steps p.tables e below (T9.setTop (mkF m 163 #[.val (.int p1), .val (.int (1 : Int32))] [(.int (1 : Int32))])) _
    refine XS.ifYes X9.here hx rfl (pc0 := 163) (pc' := 170) rfl (hb hby d2_163) rfl ((if0 _ _).trans (feq hc163).2) (by decide) (by decide) ?_
    show Steps p.tables e below (T9.setTop (mkF m 170 #[.val (.int p1), .val (.int (1 : Int32))] [])) _
    refine XS.iconst X9.here hx rfl (hb hby d2_170) ?_
    show Steps p.tables e below (T9.setTop (mkF m 171 #[.val (.int p1), .val (.int (1 : Int32))] [(.int (0 : Int32))])) _
    exact retN X9 hx (t := .boolean) Bd.returns (by simp) (hb hby d2_171) hr
  · show Q2 Z p1 h0 n0 _ T9.heap _
    exact ⟨by rw [own_g10 p1 g10], N9, ((((((eh9.trans eh8).trans eh7).trans eh6).trans eh5).trans eh4).trans eh3).trans eh2⟩
theorem d2_134 : decode method_3_code 134 = .ok (.iload_n 0, 1) := by decide +kernel
theorem d2_135 : decode method_3_code 135 = .ok (.ldc 16, 2) := by decide +kernel
theorem d2_137 : decode method_3_code 137 = .ok (.ldc 17, 2) := by decide +kernel
theorem d2_139 : decode method_3_code 139 = .ok (.invokestatic 8, 3) := by decide +kernel
theorem d2_142 : decode method_3_code 142 = .ok (.ifCond .ne 14, 3) := by decide +kernel
set_option maxRecDepth 65536 in
set_option maxHeartbeats 40000000 in
theorem rm2_11 (l : Launch) (Z : State) (a0 : Array Value) (hw : ∀ d ∈ tables_1, d.before a0 Z = true) (ws : List Jvm.Cond) (p1 : Int32) (h0 : Heap) (n0 : Nat) (Z0 : n0 ≤ h0.size) (g0 : own_in p1 (91 : Int32) (96 : Int32) = (0 : Int32)) (g1 : own_in p1 (123 : Int32) (191 : Int32) = (0 : Int32)) (g4 : own_in p1 (768 : Int32) (879 : Int32) = (0 : Int32)) (g6 : own_in p1 (8192 : Int32) (8203 : Int32) = (0 : Int32)) (g7 : own_in p1 (8206 : Int32) (8303 : Int32) = (0 : Int32)) (g8 : own_in p1 (8592 : Int32) (11263 : Int32) = (0 : Int32)) (g9 : own_in p1 (12272 : Int32) (12288 : Int32) = (0 : Int32)) (g10 : own_in p1 (55296 : Int32) (63743 : Int32) = (0 : Int32)) (g11 : ¬ (own_in p1 (64976 : Int32) (65007 : Int32) = (0 : Int32))) (hc3 : ¬ (p1 < (65 : Int32))) (hc9 : ¬ ((983039 : Int32) < p1)) (hc41 : ¬ (p1 = (215 : Int32))) (hc48 : ¬ (p1 = (247 : Int32))) (hc68 : ¬ (p1 = (894 : Int32))) (hc163 : ¬ ((1 : Int32) = (0 : Int32))) :
    MetFree l (⟨"com/example/text_with_triples/textwithtriples/model/NameCharsIsBasePinLaw", "ref", "(I)Z"⟩ : MethodName) (head1 (Jvm.Cond.code (⟨"com/example/text_with_triples/textwithtriples/model/NameCharsIsBasePinLaw", "ref", "(I)Z"⟩ : MethodName) method_3_code 2 (some .boolean) :: ws) ({ frames := 1, cells := 0, slots := 0, locals := 14 } : Room)) (fun a U => a = #[(.int p1)] ∧ Z.Warmed39 U.vm ∧ U.heap = h0) (fun _ _ _ _ _ => True) (fun _ U o U' => ∃ v L, o = .returned v ∧ Q2 Z p1 h0 n0 v U'.heap L ∧ FrameEnd U o U' L ({ frames := 1, cells := 0, slots := 0, locals := 14 } : Room).cells ({ frames := 1, cells := 0, slots := 0, locals := 14 } : Room).slots) := by
  refine MetFree.of_bodySF (plainFor_of_name pn_2) hisR ?_
  intro p e s m args below meth c s₁ Bd hml0 hP hK
  obtain ⟨rfl, hZ, hh⟩ := hP
  have hx := Bd.exec
  have hby := Bd.bytes
  have hml : c.maxLocals = 2 := hml0
  have hown : s.vm.findClass "com/example/text_with_triples/textwithtriples/model/NameCharsIsBasePinLaw" = some m.cls := findClass_of_methodNamed Bd.named
  have hnm := (name_of_methodNamed Bd.named Bd.method).1
  have X0 : Stand p l e ({ frames := 1, cells := 0, slots := 0, locals := 14 } : Room) s m #[(.int p1)] below meth c s₁ [] 0 0 := Stand.of_body Bd
  have e0 : s₁.heap = h0 := by rw [← hh, Bd.state]; rfl
  have N0 := Fr.nil n0
  have pre0 : ∀ t, Steps p.tables e below (s₁.setTop (mkF m 0 #[.val (.int p1), .unset] [])) t → Steps p.tables e below (s₁.setTop (entryFrame m #[(.int p1)] 2)) t := fun t k => castTop (ef_2 m p1) k
  obtain ⟨_, _, ⟨T2, L2, k2, n2⟩, -, X2, ⟨Lc2, hQ2, l2, y2, z2⟩, st2⟩ := Jvm.LawKit.callS X0 hx (y := (⟨"com/example/text_with_triples/textwithtriples/model/NameCharsIsBasePinLaw", "in", "(III)Z"⟩ : MethodName)) hown (mvT hZ (hw _ (List.mem_of_getElem? (i := 20) rfl))) (mvT hZ (hw _ (List.mem_of_getElem? (i := 21) rfl))) (mvT hZ (hw _ (List.mem_of_getElem? (i := 18) rfl))) (mvT hZ (hw _ (List.mem_of_getElem? (i := 22) rfl))) (by decide) (backOf (W := 0) (rm3 l Z a0 hw [] p1 (91 : Int32) (96 : Int32) h0 n0 Z0) hZ (hw _ (List.mem_of_getElem? (i := 22) rfl)) (hw _ (List.mem_of_getElem? (i := 18) rfl)) (by decide) (by decide)) (g := (mkF m 19 #[.val (.int p1), .unset] [(.int (96 : Int32)), (.int (91 : Int32)), (.int p1)])) rfl (by rw [hml]; rfl) (argsL := [(.int p1), (.int (91 : Int32)), (.int (96 : Int32))]) (rest := []) (lenOf pd_2_1 rfl) rfl (by show 2 * 0 + _ ≤ _; exact Nat.le_of_eq rfl) (hb hby d2_19) (fun _ _ => ⟨rfl, e0, (by decide : 0 + 0 ≤ _), (by decide : 0 + 0 ≤ _)⟩)
  dsimp only [Pt.U, Pt.locs, Pt.cells, Pt.slots] at X2 l2 y2 z2 st2 hQ2
  subst l2 y2 z2
  obtain ⟨rfl, N2q, eh2⟩ := hQ2
  have N2 := Fr.app N0 N2q
  obtain ⟨_, _, ⟨T3, L3, k3, n3⟩, -, X3, ⟨Lc3, hQ3, l3, y3, z3⟩, st3⟩ := Jvm.LawKit.callS X2 hx (y := (⟨"com/example/text_with_triples/textwithtriples/model/NameCharsIsBasePinLaw", "in", "(III)Z"⟩ : MethodName)) hown (mvT hZ (hw _ (List.mem_of_getElem? (i := 20) rfl))) (mvT hZ (hw _ (List.mem_of_getElem? (i := 21) rfl))) (mvT hZ (hw _ (List.mem_of_getElem? (i := 18) rfl))) (mvT hZ (hw _ (List.mem_of_getElem? (i := 22) rfl))) (by decide) (backOf (W := 0) (rm3 l Z a0 hw [] p1 (123 : Int32) (191 : Int32) T2.heap n0 (by rw [eh2]; exact Z0)) hZ (hw _ (List.mem_of_getElem? (i := 22) rfl)) (hw _ (List.mem_of_getElem? (i := 18) rfl)) (by decide) (by decide)) (g := (mkF m 31 #[.val (.int p1), .unset] [(.int (191 : Int32)), (.int (123 : Int32)), (.int p1)])) rfl (by rw [hml]; rfl) (argsL := [(.int p1), (.int (123 : Int32)), (.int (191 : Int32))]) (rest := []) (lenOf pd_2_1 rfl) rfl (by show 2 * 0 + _ ≤ _; exact Nat.le_of_eq rfl) (hb hby d2_31) (fun _ _ => ⟨rfl, rfl, (by decide : 0 + 0 ≤ _), (by decide : 0 + 0 ≤ _)⟩)
  dsimp only [Pt.U, Pt.locs, Pt.cells, Pt.slots] at X3 l3 y3 z3 st3 hQ3
  subst l3 y3 z3
  obtain ⟨rfl, N3q, eh3⟩ := hQ3
  have N3 := Fr.app N2 N3q
  obtain ⟨_, _, ⟨T4, L4, k4, n4⟩, -, X4, ⟨Lc4, hQ4, l4, y4, z4⟩, st4⟩ := Jvm.LawKit.callS X3 hx (y := (⟨"com/example/text_with_triples/textwithtriples/model/NameCharsIsBasePinLaw", "in", "(III)Z"⟩ : MethodName)) hown (mvT hZ (hw _ (List.mem_of_getElem? (i := 20) rfl))) (mvT hZ (hw _ (List.mem_of_getElem? (i := 21) rfl))) (mvT hZ (hw _ (List.mem_of_getElem? (i := 18) rfl))) (mvT hZ (hw _ (List.mem_of_getElem? (i := 22) rfl))) (by decide) (backOf (W := 0) (rm3 l Z a0 hw [] p1 (768 : Int32) (879 : Int32) T3.heap n0 (by rw [eh3, eh2]; exact Z0)) hZ (hw _ (List.mem_of_getElem? (i := 22) rfl)) (hw _ (List.mem_of_getElem? (i := 18) rfl)) (by decide) (by decide)) (g := (mkF m 58 #[.val (.int p1), .unset] [(.int (879 : Int32)), (.int (768 : Int32)), (.int p1)])) rfl (by rw [hml]; rfl) (argsL := [(.int p1), (.int (768 : Int32)), (.int (879 : Int32))]) (rest := []) (lenOf pd_2_1 rfl) rfl (by show 2 * 0 + _ ≤ _; exact Nat.le_of_eq rfl) (hb hby d2_58) (fun _ _ => ⟨rfl, rfl, (by decide : 0 + 0 ≤ _), (by decide : 0 + 0 ≤ _)⟩)
  dsimp only [Pt.U, Pt.locs, Pt.cells, Pt.slots] at X4 l4 y4 z4 st4 hQ4
  subst l4 y4 z4
  obtain ⟨rfl, N4q, eh4⟩ := hQ4
  have N4 := Fr.app N3 N4q
  obtain ⟨_, _, ⟨T5, L5, k5, n5⟩, -, X5, ⟨Lc5, hQ5, l5, y5, z5⟩, st5⟩ := Jvm.LawKit.callS X4 hx (y := (⟨"com/example/text_with_triples/textwithtriples/model/NameCharsIsBasePinLaw", "in", "(III)Z"⟩ : MethodName)) hown (mvT hZ (hw _ (List.mem_of_getElem? (i := 20) rfl))) (mvT hZ (hw _ (List.mem_of_getElem? (i := 21) rfl))) (mvT hZ (hw _ (List.mem_of_getElem? (i := 18) rfl))) (mvT hZ (hw _ (List.mem_of_getElem? (i := 22) rfl))) (by decide) (backOf (W := 0) (rm3 l Z a0 hw [] p1 (8192 : Int32) (8203 : Int32) T4.heap n0 (by rw [eh4, eh3, eh2]; exact Z0)) hZ (hw _ (List.mem_of_getElem? (i := 22) rfl)) (hw _ (List.mem_of_getElem? (i := 18) rfl)) (by decide) (by decide)) (g := (mkF m 78 #[.val (.int p1), .unset] [(.int (8203 : Int32)), (.int (8192 : Int32)), (.int p1)])) rfl (by rw [hml]; rfl) (argsL := [(.int p1), (.int (8192 : Int32)), (.int (8203 : Int32))]) (rest := []) (lenOf pd_2_1 rfl) rfl (by show 2 * 0 + _ ≤ _; exact Nat.le_of_eq rfl) (hb hby d2_78) (fun _ _ => ⟨rfl, rfl, (by decide : 0 + 0 ≤ _), (by decide : 0 + 0 ≤ _)⟩)
  dsimp only [Pt.U, Pt.locs, Pt.cells, Pt.slots] at X5 l5 y5 z5 st5 hQ5
  subst l5 y5 z5
  obtain ⟨rfl, N5q, eh5⟩ := hQ5
  have N5 := Fr.app N4 N5q
  obtain ⟨_, _, ⟨T6, L6, k6, n6⟩, -, X6, ⟨Lc6, hQ6, l6, y6, z6⟩, st6⟩ := Jvm.LawKit.callS X5 hx (y := (⟨"com/example/text_with_triples/textwithtriples/model/NameCharsIsBasePinLaw", "in", "(III)Z"⟩ : MethodName)) hown (mvT hZ (hw _ (List.mem_of_getElem? (i := 20) rfl))) (mvT hZ (hw _ (List.mem_of_getElem? (i := 21) rfl))) (mvT hZ (hw _ (List.mem_of_getElem? (i := 18) rfl))) (mvT hZ (hw _ (List.mem_of_getElem? (i := 22) rfl))) (by decide) (backOf (W := 0) (rm3 l Z a0 hw [] p1 (8206 : Int32) (8303 : Int32) T5.heap n0 (by rw [eh5, eh4, eh3, eh2]; exact Z0)) hZ (hw _ (List.mem_of_getElem? (i := 22) rfl)) (hw _ (List.mem_of_getElem? (i := 18) rfl)) (by decide) (by decide)) (g := (mkF m 91 #[.val (.int p1), .unset] [(.int (8303 : Int32)), (.int (8206 : Int32)), (.int p1)])) rfl (by rw [hml]; rfl) (argsL := [(.int p1), (.int (8206 : Int32)), (.int (8303 : Int32))]) (rest := []) (lenOf pd_2_1 rfl) rfl (by show 2 * 0 + _ ≤ _; exact Nat.le_of_eq rfl) (hb hby d2_91) (fun _ _ => ⟨rfl, rfl, (by decide : 0 + 0 ≤ _), (by decide : 0 + 0 ≤ _)⟩)
  dsimp only [Pt.U, Pt.locs, Pt.cells, Pt.slots] at X6 l6 y6 z6 st6 hQ6
  subst l6 y6 z6
  obtain ⟨rfl, N6q, eh6⟩ := hQ6
  have N6 := Fr.app N5 N6q
  obtain ⟨_, _, ⟨T7, L7, k7, n7⟩, -, X7, ⟨Lc7, hQ7, l7, y7, z7⟩, st7⟩ := Jvm.LawKit.callS X6 hx (y := (⟨"com/example/text_with_triples/textwithtriples/model/NameCharsIsBasePinLaw", "in", "(III)Z"⟩ : MethodName)) hown (mvT hZ (hw _ (List.mem_of_getElem? (i := 20) rfl))) (mvT hZ (hw _ (List.mem_of_getElem? (i := 21) rfl))) (mvT hZ (hw _ (List.mem_of_getElem? (i := 18) rfl))) (mvT hZ (hw _ (List.mem_of_getElem? (i := 22) rfl))) (by decide) (backOf (W := 0) (rm3 l Z a0 hw [] p1 (8592 : Int32) (11263 : Int32) T6.heap n0 (by rw [eh6, eh5, eh4, eh3, eh2]; exact Z0)) hZ (hw _ (List.mem_of_getElem? (i := 22) rfl)) (hw _ (List.mem_of_getElem? (i := 18) rfl)) (by decide) (by decide)) (g := (mkF m 104 #[.val (.int p1), .unset] [(.int (11263 : Int32)), (.int (8592 : Int32)), (.int p1)])) rfl (by rw [hml]; rfl) (argsL := [(.int p1), (.int (8592 : Int32)), (.int (11263 : Int32))]) (rest := []) (lenOf pd_2_1 rfl) rfl (by show 2 * 0 + _ ≤ _; exact Nat.le_of_eq rfl) (hb hby d2_104) (fun _ _ => ⟨rfl, rfl, (by decide : 0 + 0 ≤ _), (by decide : 0 + 0 ≤ _)⟩)
  dsimp only [Pt.U, Pt.locs, Pt.cells, Pt.slots] at X7 l7 y7 z7 st7 hQ7
  subst l7 y7 z7
  obtain ⟨rfl, N7q, eh7⟩ := hQ7
  have N7 := Fr.app N6 N7q
  obtain ⟨_, _, ⟨T8, L8, k8, n8⟩, -, X8, ⟨Lc8, hQ8, l8, y8, z8⟩, st8⟩ := Jvm.LawKit.callS X7 hx (y := (⟨"com/example/text_with_triples/textwithtriples/model/NameCharsIsBasePinLaw", "in", "(III)Z"⟩ : MethodName)) hown (mvT hZ (hw _ (List.mem_of_getElem? (i := 20) rfl))) (mvT hZ (hw _ (List.mem_of_getElem? (i := 21) rfl))) (mvT hZ (hw _ (List.mem_of_getElem? (i := 18) rfl))) (mvT hZ (hw _ (List.mem_of_getElem? (i := 22) rfl))) (by decide) (backOf (W := 0) (rm3 l Z a0 hw [] p1 (12272 : Int32) (12288 : Int32) T7.heap n0 (by rw [eh7, eh6, eh5, eh4, eh3, eh2]; exact Z0)) hZ (hw _ (List.mem_of_getElem? (i := 22) rfl)) (hw _ (List.mem_of_getElem? (i := 18) rfl)) (by decide) (by decide)) (g := (mkF m 117 #[.val (.int p1), .unset] [(.int (12288 : Int32)), (.int (12272 : Int32)), (.int p1)])) rfl (by rw [hml]; rfl) (argsL := [(.int p1), (.int (12272 : Int32)), (.int (12288 : Int32))]) (rest := []) (lenOf pd_2_1 rfl) rfl (by show 2 * 0 + _ ≤ _; exact Nat.le_of_eq rfl) (hb hby d2_117) (fun _ _ => ⟨rfl, rfl, (by decide : 0 + 0 ≤ _), (by decide : 0 + 0 ≤ _)⟩)
  dsimp only [Pt.U, Pt.locs, Pt.cells, Pt.slots] at X8 l8 y8 z8 st8 hQ8
  subst l8 y8 z8
  obtain ⟨rfl, N8q, eh8⟩ := hQ8
  have N8 := Fr.app N7 N8q
  obtain ⟨_, _, ⟨T9, L9, k9, n9⟩, -, X9, ⟨Lc9, hQ9, l9, y9, z9⟩, st9⟩ := Jvm.LawKit.callS X8 hx (y := (⟨"com/example/text_with_triples/textwithtriples/model/NameCharsIsBasePinLaw", "in", "(III)Z"⟩ : MethodName)) hown (mvT hZ (hw _ (List.mem_of_getElem? (i := 20) rfl))) (mvT hZ (hw _ (List.mem_of_getElem? (i := 21) rfl))) (mvT hZ (hw _ (List.mem_of_getElem? (i := 18) rfl))) (mvT hZ (hw _ (List.mem_of_getElem? (i := 22) rfl))) (by decide) (backOf (W := 0) (rm3 l Z a0 hw [] p1 (55296 : Int32) (63743 : Int32) T8.heap n0 (by rw [eh8, eh7, eh6, eh5, eh4, eh3, eh2]; exact Z0)) hZ (hw _ (List.mem_of_getElem? (i := 22) rfl)) (hw _ (List.mem_of_getElem? (i := 18) rfl)) (by decide) (by decide)) (g := (mkF m 128 #[.val (.int p1), .unset] [(.int (63743 : Int32)), (.int (55296 : Int32)), (.int p1)])) rfl (by rw [hml]; rfl) (argsL := [(.int p1), (.int (55296 : Int32)), (.int (63743 : Int32))]) (rest := []) (lenOf pd_2_1 rfl) rfl (by show 2 * 0 + _ ≤ _; exact Nat.le_of_eq rfl) (hb hby d2_128) (fun _ _ => ⟨rfl, rfl, (by decide : 0 + 0 ≤ _), (by decide : 0 + 0 ≤ _)⟩)
  dsimp only [Pt.U, Pt.locs, Pt.cells, Pt.slots] at X9 l9 y9 z9 st9 hQ9
  subst l9 y9 z9
  obtain ⟨rfl, N9q, eh9⟩ := hQ9
  have N9 := Fr.app N8 N9q
  obtain ⟨_, _, ⟨T10, L10, k10, n10⟩, -, X10, ⟨Lc10, hQ10, l10, y10, z10⟩, st10⟩ := Jvm.LawKit.callS X9 hx (y := (⟨"com/example/text_with_triples/textwithtriples/model/NameCharsIsBasePinLaw", "in", "(III)Z"⟩ : MethodName)) hown (mvT hZ (hw _ (List.mem_of_getElem? (i := 20) rfl))) (mvT hZ (hw _ (List.mem_of_getElem? (i := 21) rfl))) (mvT hZ (hw _ (List.mem_of_getElem? (i := 18) rfl))) (mvT hZ (hw _ (List.mem_of_getElem? (i := 22) rfl))) (by decide) (backOf (W := 0) (rm3 l Z a0 hw [] p1 (64976 : Int32) (65007 : Int32) T9.heap n0 (by rw [eh9, eh8, eh7, eh6, eh5, eh4, eh3, eh2]; exact Z0)) hZ (hw _ (List.mem_of_getElem? (i := 22) rfl)) (hw _ (List.mem_of_getElem? (i := 18) rfl)) (by decide) (by decide)) (g := (mkF m 139 #[.val (.int p1), .unset] [(.int (65007 : Int32)), (.int (64976 : Int32)), (.int p1)])) rfl (by rw [hml]; rfl) (argsL := [(.int p1), (.int (64976 : Int32)), (.int (65007 : Int32))]) (rest := []) (lenOf pd_2_1 rfl) rfl (by show 2 * 0 + _ ≤ _; exact Nat.le_of_eq rfl) (hb hby d2_139) (fun _ _ => ⟨rfl, rfl, (by decide : 0 + 0 ≤ _), (by decide : 0 + 0 ≤ _)⟩)
  dsimp only [Pt.U, Pt.locs, Pt.cells, Pt.slots] at X10 l10 y10 z10 st10 hQ10
  subst l10 y10 z10
  obtain ⟨rfl, N10q, eh10⟩ := hQ10
  have N10 := Fr.app N9 N10q
  obtain ⟨fs, hr, hrun, hended, hW, hsame⟩ := X10.leave (v := some (.int (0 : Int32))) (fun h => by rw [Bd.returns] at h; cases h)
  refine ⟨_, _, pre0 _ ?_, hrun, hended, _, _, rfl, ?_, ⟨_, rfl⟩, hW, hsame.mono (by decide) (by decide)⟩
  · show Steps p.tables e below (s₁.setTop (mkF m 0 #[.val (.int p1), .unset] [])) _
    refine XS.iloadN X0.here hx rfl (hb hby d2_0) rfl ?_
    show Steps p.tables e below (s₁.setTop (mkF m 1 #[.val (.int p1), .unset] [(.int p1)])) _
    refine XS.bipush X0.here hx rfl (hb hby d2_1) ?_
    show Steps p.tables e below (s₁.setTop (mkF m 3 #[.val (.int p1), .unset] [(.int (65 : Int32)), (.int p1)])) _
    refine XS.icmpNo X0.here hx rfl (hb hby d2_3) rfl (flt hc3).1 ?_
    show Steps p.tables e below (s₁.setTop (mkF m 6 #[.val (.int p1), .unset] [])) _
    refine XS.iloadN X0.here hx rfl (hb hby d2_6) rfl ?_
    show Steps p.tables e below (s₁.setTop (mkF m 7 #[.val (.int p1), .unset] [(.int p1)])) _
    refine X0.ldcInt hx hown (mvT hZ (hw _ (List.mem_of_getElem? (i := 7) rfl))) (g := (mkF m 7 #[.val (.int p1), .unset] [(.int p1)])) rfl (hb hby d2_7) _ ?_
    show Steps p.tables e below (s₁.setTop (mkF m 9 #[.val (.int p1), .unset] [(.int (983039 : Int32)), (.int p1)])) _
    refine XS.icmpYes X0.here hx rfl (pc0 := 9) (pc' := 14) rfl (hb hby d2_9) rfl (flt hc9).2.2.2 (by decide) (by decide) ?_
    show Steps p.tables e below (s₁.setTop (mkF m 14 #[.val (.int p1), .unset] [])) _
    refine XS.iloadN X0.here hx rfl (hb hby d2_14) rfl ?_
    show Steps p.tables e below (s₁.setTop (mkF m 15 #[.val (.int p1), .unset] [(.int p1)])) _
    refine XS.bipush X0.here hx rfl (hb hby d2_15) ?_
    show Steps p.tables e below (s₁.setTop (mkF m 17 #[.val (.int p1), .unset] [(.int (91 : Int32)), (.int p1)])) _
    refine XS.bipush X0.here hx rfl (hb hby d2_17) ?_
    show Steps p.tables e below (s₁.setTop (mkF m 19 #[.val (.int p1), .unset] [(.int (96 : Int32)), (.int (91 : Int32)), (.int p1)])) _
    refine st2 _ ?_
    show Steps p.tables e below (T2.setTop (mkF m 22 #[.val (.int p1), .unset] [(.int (own_in p1 (91 : Int32) (96 : Int32)))])) _
    refine XS.ifNo X2.here hx rfl (hb hby d2_22) rfl ((if0 _ _).trans (teq (g0 : (own_in p1 (91 : Int32) (96 : Int32)) = (0 : Int32))).2) ?_
    show Steps p.tables e below (T2.setTop (mkF m 25 #[.val (.int p1), .unset] [])) _
    refine XS.iloadN X2.here hx rfl (hb hby d2_25) rfl ?_
    show Steps p.tables e below (T2.setTop (mkF m 26 #[.val (.int p1), .unset] [(.int p1)])) _
    refine XS.bipush X2.here hx rfl (hb hby d2_26) ?_
    show Steps p.tables e below (T2.setTop (mkF m 28 #[.val (.int p1), .unset] [(.int (123 : Int32)), (.int p1)])) _
    refine XS.sipush X2.here hx rfl (hb hby d2_28) ?_
    show Steps p.tables e below (T2.setTop (mkF m 31 #[.val (.int p1), .unset] [(.int (191 : Int32)), (.int (123 : Int32)), (.int p1)])) _
    refine st3 _ ?_
    show Steps p.tables e below (T3.setTop (mkF m 34 #[.val (.int p1), .unset] [(.int (own_in p1 (123 : Int32) (191 : Int32)))])) _
    refine XS.ifNo X3.here hx rfl (hb hby d2_34) rfl ((if0 _ _).trans (teq (g1 : (own_in p1 (123 : Int32) (191 : Int32)) = (0 : Int32))).2) ?_
    show Steps p.tables e below (T3.setTop (mkF m 37 #[.val (.int p1), .unset] [])) _
    refine XS.iloadN X3.here hx rfl (hb hby d2_37) rfl ?_
    show Steps p.tables e below (T3.setTop (mkF m 38 #[.val (.int p1), .unset] [(.int p1)])) _
    refine XS.sipush X3.here hx rfl (hb hby d2_38) ?_
    show Steps p.tables e below (T3.setTop (mkF m 41 #[.val (.int p1), .unset] [(.int (215 : Int32)), (.int p1)])) _
    refine XS.icmpNo X3.here hx rfl (hb hby d2_41) rfl (feq hc41).1 ?_
    show Steps p.tables e below (T3.setTop (mkF m 44 #[.val (.int p1), .unset] [])) _
    refine XS.iloadN X3.here hx rfl (hb hby d2_44) rfl ?_
    show Steps p.tables e below (T3.setTop (mkF m 45 #[.val (.int p1), .unset] [(.int p1)])) _
    refine XS.sipush X3.here hx rfl (hb hby d2_45) ?_
    show Steps p.tables e below (T3.setTop (mkF m 48 #[.val (.int p1), .unset] [(.int (247 : Int32)), (.int p1)])) _
    refine XS.icmpNo X3.here hx rfl (hb hby d2_48) rfl (feq hc48).1 ?_
    show Steps p.tables e below (T3.setTop (mkF m 51 #[.val (.int p1), .unset] [])) _
    refine XS.iloadN X3.here hx rfl (hb hby d2_51) rfl ?_
    show Steps p.tables e below (T3.setTop (mkF m 52 #[.val (.int p1), .unset] [(.int p1)])) _
    refine XS.sipush X3.here hx rfl (hb hby d2_52) ?_
    show Steps p.tables e below (T3.setTop (mkF m 55 #[.val (.int p1), .unset] [(.int (768 : Int32)), (.int p1)])) _
    refine XS.sipush X3.here hx rfl (hb hby d2_55) ?_
    show Steps p.tables e below (T3.setTop (mkF m 58 #[.val (.int p1), .unset] [(.int (879 : Int32)), (.int (768 : Int32)), (.int p1)])) _
    refine st4 _ ?_
    show Steps p.tables e below (T4.setTop (mkF m 61 #[.val (.int p1), .unset] [(.int (own_in p1 (768 : Int32) (879 : Int32)))])) _
    refine XS.ifNo X4.here hx rfl (hb hby d2_61) rfl ((if0 _ _).trans (teq (g4 : (own_in p1 (768 : Int32) (879 : Int32)) = (0 : Int32))).2) ?_
    show Steps p.tables e below (T4.setTop (mkF m 64 #[.val (.int p1), .unset] [])) _
    refine XS.iloadN X4.here hx rfl (hb hby d2_64) rfl ?_
    show Steps p.tables e below (T4.setTop (mkF m 65 #[.val (.int p1), .unset] [(.int p1)])) _
    refine XS.sipush X4.here hx rfl (hb hby d2_65) ?_
    show Steps p.tables e below (T4.setTop (mkF m 68 #[.val (.int p1), .unset] [(.int (894 : Int32)), (.int p1)])) _
    refine XS.icmpNo X4.here hx rfl (hb hby d2_68) rfl (feq hc68).1 ?_
    show Steps p.tables e below (T4.setTop (mkF m 71 #[.val (.int p1), .unset] [])) _
    refine XS.iloadN X4.here hx rfl (hb hby d2_71) rfl ?_
    show Steps p.tables e below (T4.setTop (mkF m 72 #[.val (.int p1), .unset] [(.int p1)])) _
    refine XS.sipush X4.here hx rfl (hb hby d2_72) ?_
    show Steps p.tables e below (T4.setTop (mkF m 75 #[.val (.int p1), .unset] [(.int (8192 : Int32)), (.int p1)])) _
    refine XS.sipush X4.here hx rfl (hb hby d2_75) ?_
    show Steps p.tables e below (T4.setTop (mkF m 78 #[.val (.int p1), .unset] [(.int (8203 : Int32)), (.int (8192 : Int32)), (.int p1)])) _
    refine st5 _ ?_
    show Steps p.tables e below (T5.setTop (mkF m 81 #[.val (.int p1), .unset] [(.int (own_in p1 (8192 : Int32) (8203 : Int32)))])) _
    refine XS.ifNo X5.here hx rfl (hb hby d2_81) rfl ((if0 _ _).trans (teq (g6 : (own_in p1 (8192 : Int32) (8203 : Int32)) = (0 : Int32))).2) ?_
    show Steps p.tables e below (T5.setTop (mkF m 84 #[.val (.int p1), .unset] [])) _
    refine XS.iloadN X5.here hx rfl (hb hby d2_84) rfl ?_
    show Steps p.tables e below (T5.setTop (mkF m 85 #[.val (.int p1), .unset] [(.int p1)])) _
    refine XS.sipush X5.here hx rfl (hb hby d2_85) ?_
    show Steps p.tables e below (T5.setTop (mkF m 88 #[.val (.int p1), .unset] [(.int (8206 : Int32)), (.int p1)])) _
    refine XS.sipush X5.here hx rfl (hb hby d2_88) ?_
    show Steps p.tables e below (T5.setTop (mkF m 91 #[.val (.int p1), .unset] [(.int (8303 : Int32)), (.int (8206 : Int32)), (.int p1)])) _
    refine st6 _ ?_
    show Steps p.tables e below (T6.setTop (mkF m 94 #[.val (.int p1), .unset] [(.int (own_in p1 (8206 : Int32) (8303 : Int32)))])) _
    refine XS.ifNo X6.here hx rfl (hb hby d2_94) rfl ((if0 _ _).trans (teq (g7 : (own_in p1 (8206 : Int32) (8303 : Int32)) = (0 : Int32))).2) ?_
    show Steps p.tables e below (T6.setTop (mkF m 97 #[.val (.int p1), .unset] [])) _
    refine XS.iloadN X6.here hx rfl (hb hby d2_97) rfl ?_
    show Steps p.tables e below (T6.setTop (mkF m 98 #[.val (.int p1), .unset] [(.int p1)])) _
    refine XS.sipush X6.here hx rfl (hb hby d2_98) ?_
    show Steps p.tables e below (T6.setTop (mkF m 101 #[.val (.int p1), .unset] [(.int (8592 : Int32)), (.int p1)])) _
    refine XS.sipush X6.here hx rfl (hb hby d2_101) ?_
    show Steps p.tables e below (T6.setTop (mkF m 104 #[.val (.int p1), .unset] [(.int (11263 : Int32)), (.int (8592 : Int32)), (.int p1)])) _
    refine st7 _ ?_
    show Steps p.tables e below (T7.setTop (mkF m 107 #[.val (.int p1), .unset] [(.int (own_in p1 (8592 : Int32) (11263 : Int32)))])) _
    refine XS.ifNo X7.here hx rfl (hb hby d2_107) rfl ((if0 _ _).trans (teq (g8 : (own_in p1 (8592 : Int32) (11263 : Int32)) = (0 : Int32))).2) ?_
    show Steps p.tables e below (T7.setTop (mkF m 110 #[.val (.int p1), .unset] [])) _
    refine XS.iloadN X7.here hx rfl (hb hby d2_110) rfl ?_
    show Steps p.tables e below (T7.setTop (mkF m 111 #[.val (.int p1), .unset] [(.int p1)])) _
    refine XS.sipush X7.here hx rfl (hb hby d2_111) ?_
    show Steps p.tables e below (T7.setTop (mkF m 114 #[.val (.int p1), .unset] [(.int (12272 : Int32)), (.int p1)])) _
    refine XS.sipush X7.here hx rfl (hb hby d2_114) ?_
    show Steps p.tables e below (T7.setTop (mkF m 117 #[.val (.int p1), .unset] [(.int (12288 : Int32)), (.int (12272 : Int32)), (.int p1)])) _
    refine st8 _ ?_
    show Steps p.tables e below (T8.setTop (mkF m 120 #[.val (.int p1), .unset] [(.int (own_in p1 (12272 : Int32) (12288 : Int32)))])) _
    refine XS.ifNo X8.here hx rfl (hb hby d2_120) rfl ((if0 _ _).trans (teq (g9 : (own_in p1 (12272 : Int32) (12288 : Int32)) = (0 : Int32))).2) ?_
    show Steps p.tables e below (T8.setTop (mkF m 123 #[.val (.int p1), .unset] [])) _
    refine XS.iloadN X8.here hx rfl (hb hby d2_123) rfl ?_
    show Steps p.tables e below (T8.setTop (mkF m 124 #[.val (.int p1), .unset] [(.int p1)])) _
    refine X8.ldcInt hx hown (mvT hZ (hw _ (List.mem_of_getElem? (i := 23) rfl))) (g := (mkF m 124 #[.val (.int p1), .unset] [(.int p1)])) rfl (hb hby d2_124) _ ?_
    show Steps p.tables e below (T8.setTop (mkF m 126 #[.val (.int p1), .unset] [(.int (55296 : Int32)), (.int p1)])) _
    refine X8.ldcInt hx hown (mvT hZ (hw _ (List.mem_of_getElem? (i := 24) rfl))) (g := (mkF m 126 #[.val (.int p1), .unset] [(.int (55296 : Int32)), (.int p1)])) rfl (hb hby d2_126) _ ?_
    show Steps p.tables e below (T8.setTop (mkF m 128 #[.val (.int p1), .unset] [(.int (63743 : Int32)), (.int (55296 : Int32)), (.int p1)])) _
    refine st9 _ ?_
    show Steps p.tables e below (T9.setTop (mkF m 131 #[.val (.int p1), .unset] [(.int (own_in p1 (55296 : Int32) (63743 : Int32)))])) _
    refine XS.ifNo X9.here hx rfl (hb hby d2_131) rfl ((if0 _ _).trans (teq (g10 : (own_in p1 (55296 : Int32) (63743 : Int32)) = (0 : Int32))).2) ?_
    show Steps p.tables e below (T9.setTop (mkF m 134 #[.val (.int p1), .unset] [])) _
    refine XS.iloadN X9.here hx rfl (hb hby d2_134) rfl ?_
    show Steps p.tables e below (T9.setTop (mkF m 135 #[.val (.int p1), .unset] [(.int p1)])) _
    refine X9.ldcInt hx hown (mvT hZ (hw _ (List.mem_of_getElem? (i := 25) rfl))) (g := (mkF m 135 #[.val (.int p1), .unset] [(.int p1)])) rfl (hb hby d2_135) _ ?_
    show Steps p.tables e below (T9.setTop (mkF m 137 #[.val (.int p1), .unset] [(.int (64976 : Int32)), (.int p1)])) _
    refine X9.ldcInt hx hown (mvT hZ (hw _ (List.mem_of_getElem? (i := 26) rfl))) (g := (mkF m 137 #[.val (.int p1), .unset] [(.int (64976 : Int32)), (.int p1)])) rfl (hb hby d2_137) _ ?_
    show Steps p.tables e below (T9.setTop (mkF m 139 #[.val (.int p1), .unset] [(.int (65007 : Int32)), (.int (64976 : Int32)), (.int p1)])) _
    refine st10 _ ?_
    show Steps p.tables e below (T10.setTop (mkF m 142 #[.val (.int p1), .unset] [(.int (own_in p1 (64976 : Int32) (65007 : Int32)))])) _
    refine XS.ifYes X10.here hx rfl (pc0 := 142) (pc' := 156) rfl (hb hby d2_142) rfl ((if0 _ _).trans (feq (g11 : ¬ ((own_in p1 (64976 : Int32) (65007 : Int32)) = (0 : Int32)))).2) (by decide) (by decide) ?_
    show Steps p.tables e below (T10.setTop (mkF m 156 #[.val (.int p1), .unset] [])) _
    refine XS.iconst X10.here hx rfl (hb hby d2_156) ?_
    show Steps p.tables e below (T10.setTop (mkF m 157 #[.val (.int p1), .unset] [(.int (1 : Int32))])) _
    refine XS.goto X10.here hx rfl (pc0 := 157) (pc' := 161) rfl (hb hby d2_157) (by decide) (by decide) ?_
    show Steps p.tables e below (T10.setTop (mkF m 161 #[.val (.int p1), .unset] [(.int (1 : Int32))])) _
    refine XS.istoreN X10.here hx rfl (hb hby d2_161) rfl (l' := #[.val (.int p1), .val (.int (1 : Int32))]) rfl ?_
    show Steps p.tables e below (T10.setTop (mkF m 162 #[.val (.int p1), .val (.int (1 : Int32))] [])) _
    refine XS.iloadN X10.here hx rfl (hb hby d2_162) rfl ?_
    show Steps p.tables e below (T10.setTop (mkF m 163 #[.val (.int p1), .val (.int (1 : Int32))] [(.int (1 : Int32))])) _
    refine XS.ifYes X10.here hx rfl (pc0 := 163) (pc' := 170) rfl (hb hby d2_163) rfl ((if0 _ _).trans (feq hc163).2) (by decide) (by decide) ?_
    show Steps p.tables e below (T10.setTop (mkF m 170 #[.val (.int p1), .val (.int (1 : Int32))] [])) _
    refine XS.iconst X10.here hx rfl (hb hby d2_170) ?_
    show Steps p.tables e below (T10.setTop (mkF m 171 #[.val (.int p1), .val (.int (1 : Int32))] [(.int (0 : Int32))])) _
    exact retN X10 hx (t := .boolean) Bd.returns (by simp) (hb hby d2_171) hr
  · show Q2 Z p1 h0 n0 _ T10.heap _
    exact ⟨by rw [own_g11 p1 g11], N10, (((((((eh10.trans eh9).trans eh8).trans eh7).trans eh6).trans eh5).trans eh4).trans eh3).trans eh2⟩
theorem d2_145 : decode method_3_code 145 = .ok (.iload_n 0, 1) := by decide +kernel
theorem d2_146 : decode method_3_code 146 = .ok (.ldc 18, 2) := by decide +kernel
theorem d2_148 : decode method_3_code 148 = .ok (.ldc 19, 2) := by decide +kernel
theorem d2_150 : decode method_3_code 150 = .ok (.invokestatic 8, 3) := by decide +kernel
theorem d2_153 : decode method_3_code 153 = .ok (.ifCond .eq 7, 3) := by decide +kernel
set_option maxRecDepth 65536 in
set_option maxHeartbeats 40000000 in
theorem rm2_12 (l : Launch) (Z : State) (a0 : Array Value) (hw : ∀ d ∈ tables_1, d.before a0 Z = true) (ws : List Jvm.Cond) (p1 : Int32) (h0 : Heap) (n0 : Nat) (Z0 : n0 ≤ h0.size) (g0 : own_in p1 (91 : Int32) (96 : Int32) = (0 : Int32)) (g1 : own_in p1 (123 : Int32) (191 : Int32) = (0 : Int32)) (g4 : own_in p1 (768 : Int32) (879 : Int32) = (0 : Int32)) (g6 : own_in p1 (8192 : Int32) (8203 : Int32) = (0 : Int32)) (g7 : own_in p1 (8206 : Int32) (8303 : Int32) = (0 : Int32)) (g8 : own_in p1 (8592 : Int32) (11263 : Int32) = (0 : Int32)) (g9 : own_in p1 (12272 : Int32) (12288 : Int32) = (0 : Int32)) (g10 : own_in p1 (55296 : Int32) (63743 : Int32) = (0 : Int32)) (g11 : own_in p1 (64976 : Int32) (65007 : Int32) = (0 : Int32)) (g12 : ¬ (own_in p1 (65534 : Int32) (65535 : Int32) = (0 : Int32))) (hc3 : ¬ (p1 < (65 : Int32))) (hc9 : ¬ ((983039 : Int32) < p1)) (hc41 : ¬ (p1 = (215 : Int32))) (hc48 : ¬ (p1 = (247 : Int32))) (hc68 : ¬ (p1 = (894 : Int32))) (hc163 : ¬ ((1 : Int32) = (0 : Int32))) :
    MetFree l (⟨"com/example/text_with_triples/textwithtriples/model/NameCharsIsBasePinLaw", "ref", "(I)Z"⟩ : MethodName) (head1 (Jvm.Cond.code (⟨"com/example/text_with_triples/textwithtriples/model/NameCharsIsBasePinLaw", "ref", "(I)Z"⟩ : MethodName) method_3_code 2 (some .boolean) :: ws) ({ frames := 1, cells := 0, slots := 0, locals := 14 } : Room)) (fun a U => a = #[(.int p1)] ∧ Z.Warmed39 U.vm ∧ U.heap = h0) (fun _ _ _ _ _ => True) (fun _ U o U' => ∃ v L, o = .returned v ∧ Q2 Z p1 h0 n0 v U'.heap L ∧ FrameEnd U o U' L ({ frames := 1, cells := 0, slots := 0, locals := 14 } : Room).cells ({ frames := 1, cells := 0, slots := 0, locals := 14 } : Room).slots) := by
  refine MetFree.of_bodySF (plainFor_of_name pn_2) hisR ?_
  intro p e s m args below meth c s₁ Bd hml0 hP hK
  obtain ⟨rfl, hZ, hh⟩ := hP
  have hx := Bd.exec
  have hby := Bd.bytes
  have hml : c.maxLocals = 2 := hml0
  have hown : s.vm.findClass "com/example/text_with_triples/textwithtriples/model/NameCharsIsBasePinLaw" = some m.cls := findClass_of_methodNamed Bd.named
  have hnm := (name_of_methodNamed Bd.named Bd.method).1
  have X0 : Stand p l e ({ frames := 1, cells := 0, slots := 0, locals := 14 } : Room) s m #[(.int p1)] below meth c s₁ [] 0 0 := Stand.of_body Bd
  have e0 : s₁.heap = h0 := by rw [← hh, Bd.state]; rfl
  have N0 := Fr.nil n0
  have pre0 : ∀ t, Steps p.tables e below (s₁.setTop (mkF m 0 #[.val (.int p1), .unset] [])) t → Steps p.tables e below (s₁.setTop (entryFrame m #[(.int p1)] 2)) t := fun t k => castTop (ef_2 m p1) k
  obtain ⟨_, _, ⟨T2, L2, k2, n2⟩, -, X2, ⟨Lc2, hQ2, l2, y2, z2⟩, st2⟩ := Jvm.LawKit.callS X0 hx (y := (⟨"com/example/text_with_triples/textwithtriples/model/NameCharsIsBasePinLaw", "in", "(III)Z"⟩ : MethodName)) hown (mvT hZ (hw _ (List.mem_of_getElem? (i := 20) rfl))) (mvT hZ (hw _ (List.mem_of_getElem? (i := 21) rfl))) (mvT hZ (hw _ (List.mem_of_getElem? (i := 18) rfl))) (mvT hZ (hw _ (List.mem_of_getElem? (i := 22) rfl))) (by decide) (backOf (W := 0) (rm3 l Z a0 hw [] p1 (91 : Int32) (96 : Int32) h0 n0 Z0) hZ (hw _ (List.mem_of_getElem? (i := 22) rfl)) (hw _ (List.mem_of_getElem? (i := 18) rfl)) (by decide) (by decide)) (g := (mkF m 19 #[.val (.int p1), .unset] [(.int (96 : Int32)), (.int (91 : Int32)), (.int p1)])) rfl (by rw [hml]; rfl) (argsL := [(.int p1), (.int (91 : Int32)), (.int (96 : Int32))]) (rest := []) (lenOf pd_2_1 rfl) rfl (by show 2 * 0 + _ ≤ _; exact Nat.le_of_eq rfl) (hb hby d2_19) (fun _ _ => ⟨rfl, e0, (by decide : 0 + 0 ≤ _), (by decide : 0 + 0 ≤ _)⟩)
  dsimp only [Pt.U, Pt.locs, Pt.cells, Pt.slots] at X2 l2 y2 z2 st2 hQ2
  subst l2 y2 z2
  obtain ⟨rfl, N2q, eh2⟩ := hQ2
  have N2 := Fr.app N0 N2q
  obtain ⟨_, _, ⟨T3, L3, k3, n3⟩, -, X3, ⟨Lc3, hQ3, l3, y3, z3⟩, st3⟩ := Jvm.LawKit.callS X2 hx (y := (⟨"com/example/text_with_triples/textwithtriples/model/NameCharsIsBasePinLaw", "in", "(III)Z"⟩ : MethodName)) hown (mvT hZ (hw _ (List.mem_of_getElem? (i := 20) rfl))) (mvT hZ (hw _ (List.mem_of_getElem? (i := 21) rfl))) (mvT hZ (hw _ (List.mem_of_getElem? (i := 18) rfl))) (mvT hZ (hw _ (List.mem_of_getElem? (i := 22) rfl))) (by decide) (backOf (W := 0) (rm3 l Z a0 hw [] p1 (123 : Int32) (191 : Int32) T2.heap n0 (by rw [eh2]; exact Z0)) hZ (hw _ (List.mem_of_getElem? (i := 22) rfl)) (hw _ (List.mem_of_getElem? (i := 18) rfl)) (by decide) (by decide)) (g := (mkF m 31 #[.val (.int p1), .unset] [(.int (191 : Int32)), (.int (123 : Int32)), (.int p1)])) rfl (by rw [hml]; rfl) (argsL := [(.int p1), (.int (123 : Int32)), (.int (191 : Int32))]) (rest := []) (lenOf pd_2_1 rfl) rfl (by show 2 * 0 + _ ≤ _; exact Nat.le_of_eq rfl) (hb hby d2_31) (fun _ _ => ⟨rfl, rfl, (by decide : 0 + 0 ≤ _), (by decide : 0 + 0 ≤ _)⟩)
  dsimp only [Pt.U, Pt.locs, Pt.cells, Pt.slots] at X3 l3 y3 z3 st3 hQ3
  subst l3 y3 z3
  obtain ⟨rfl, N3q, eh3⟩ := hQ3
  have N3 := Fr.app N2 N3q
  obtain ⟨_, _, ⟨T4, L4, k4, n4⟩, -, X4, ⟨Lc4, hQ4, l4, y4, z4⟩, st4⟩ := Jvm.LawKit.callS X3 hx (y := (⟨"com/example/text_with_triples/textwithtriples/model/NameCharsIsBasePinLaw", "in", "(III)Z"⟩ : MethodName)) hown (mvT hZ (hw _ (List.mem_of_getElem? (i := 20) rfl))) (mvT hZ (hw _ (List.mem_of_getElem? (i := 21) rfl))) (mvT hZ (hw _ (List.mem_of_getElem? (i := 18) rfl))) (mvT hZ (hw _ (List.mem_of_getElem? (i := 22) rfl))) (by decide) (backOf (W := 0) (rm3 l Z a0 hw [] p1 (768 : Int32) (879 : Int32) T3.heap n0 (by rw [eh3, eh2]; exact Z0)) hZ (hw _ (List.mem_of_getElem? (i := 22) rfl)) (hw _ (List.mem_of_getElem? (i := 18) rfl)) (by decide) (by decide)) (g := (mkF m 58 #[.val (.int p1), .unset] [(.int (879 : Int32)), (.int (768 : Int32)), (.int p1)])) rfl (by rw [hml]; rfl) (argsL := [(.int p1), (.int (768 : Int32)), (.int (879 : Int32))]) (rest := []) (lenOf pd_2_1 rfl) rfl (by show 2 * 0 + _ ≤ _; exact Nat.le_of_eq rfl) (hb hby d2_58) (fun _ _ => ⟨rfl, rfl, (by decide : 0 + 0 ≤ _), (by decide : 0 + 0 ≤ _)⟩)
  dsimp only [Pt.U, Pt.locs, Pt.cells, Pt.slots] at X4 l4 y4 z4 st4 hQ4
  subst l4 y4 z4
  obtain ⟨rfl, N4q, eh4⟩ := hQ4
  have N4 := Fr.app N3 N4q
  obtain ⟨_, _, ⟨T5, L5, k5, n5⟩, -, X5, ⟨Lc5, hQ5, l5, y5, z5⟩, st5⟩ := Jvm.LawKit.callS X4 hx (y := (⟨"com/example/text_with_triples/textwithtriples/model/NameCharsIsBasePinLaw", "in", "(III)Z"⟩ : MethodName)) hown (mvT hZ (hw _ (List.mem_of_getElem? (i := 20) rfl))) (mvT hZ (hw _ (List.mem_of_getElem? (i := 21) rfl))) (mvT hZ (hw _ (List.mem_of_getElem? (i := 18) rfl))) (mvT hZ (hw _ (List.mem_of_getElem? (i := 22) rfl))) (by decide) (backOf (W := 0) (rm3 l Z a0 hw [] p1 (8192 : Int32) (8203 : Int32) T4.heap n0 (by rw [eh4, eh3, eh2]; exact Z0)) hZ (hw _ (List.mem_of_getElem? (i := 22) rfl)) (hw _ (List.mem_of_getElem? (i := 18) rfl)) (by decide) (by decide)) (g := (mkF m 78 #[.val (.int p1), .unset] [(.int (8203 : Int32)), (.int (8192 : Int32)), (.int p1)])) rfl (by rw [hml]; rfl) (argsL := [(.int p1), (.int (8192 : Int32)), (.int (8203 : Int32))]) (rest := []) (lenOf pd_2_1 rfl) rfl (by show 2 * 0 + _ ≤ _; exact Nat.le_of_eq rfl) (hb hby d2_78) (fun _ _ => ⟨rfl, rfl, (by decide : 0 + 0 ≤ _), (by decide : 0 + 0 ≤ _)⟩)
  dsimp only [Pt.U, Pt.locs, Pt.cells, Pt.slots] at X5 l5 y5 z5 st5 hQ5
  subst l5 y5 z5
  obtain ⟨rfl, N5q, eh5⟩ := hQ5
  have N5 := Fr.app N4 N5q
  obtain ⟨_, _, ⟨T6, L6, k6, n6⟩, -, X6, ⟨Lc6, hQ6, l6, y6, z6⟩, st6⟩ := Jvm.LawKit.callS X5 hx (y := (⟨"com/example/text_with_triples/textwithtriples/model/NameCharsIsBasePinLaw", "in", "(III)Z"⟩ : MethodName)) hown (mvT hZ (hw _ (List.mem_of_getElem? (i := 20) rfl))) (mvT hZ (hw _ (List.mem_of_getElem? (i := 21) rfl))) (mvT hZ (hw _ (List.mem_of_getElem? (i := 18) rfl))) (mvT hZ (hw _ (List.mem_of_getElem? (i := 22) rfl))) (by decide) (backOf (W := 0) (rm3 l Z a0 hw [] p1 (8206 : Int32) (8303 : Int32) T5.heap n0 (by rw [eh5, eh4, eh3, eh2]; exact Z0)) hZ (hw _ (List.mem_of_getElem? (i := 22) rfl)) (hw _ (List.mem_of_getElem? (i := 18) rfl)) (by decide) (by decide)) (g := (mkF m 91 #[.val (.int p1), .unset] [(.int (8303 : Int32)), (.int (8206 : Int32)), (.int p1)])) rfl (by rw [hml]; rfl) (argsL := [(.int p1), (.int (8206 : Int32)), (.int (8303 : Int32))]) (rest := []) (lenOf pd_2_1 rfl) rfl (by show 2 * 0 + _ ≤ _; exact Nat.le_of_eq rfl) (hb hby d2_91) (fun _ _ => ⟨rfl, rfl, (by decide : 0 + 0 ≤ _), (by decide : 0 + 0 ≤ _)⟩)
  dsimp only [Pt.U, Pt.locs, Pt.cells, Pt.slots] at X6 l6 y6 z6 st6 hQ6
  subst l6 y6 z6
  obtain ⟨rfl, N6q, eh6⟩ := hQ6
  have N6 := Fr.app N5 N6q
  obtain ⟨_, _, ⟨T7, L7, k7, n7⟩, -, X7, ⟨Lc7, hQ7, l7, y7, z7⟩, st7⟩ := Jvm.LawKit.callS X6 hx (y := (⟨"com/example/text_with_triples/textwithtriples/model/NameCharsIsBasePinLaw", "in", "(III)Z"⟩ : MethodName)) hown (mvT hZ (hw _ (List.mem_of_getElem? (i := 20) rfl))) (mvT hZ (hw _ (List.mem_of_getElem? (i := 21) rfl))) (mvT hZ (hw _ (List.mem_of_getElem? (i := 18) rfl))) (mvT hZ (hw _ (List.mem_of_getElem? (i := 22) rfl))) (by decide) (backOf (W := 0) (rm3 l Z a0 hw [] p1 (8592 : Int32) (11263 : Int32) T6.heap n0 (by rw [eh6, eh5, eh4, eh3, eh2]; exact Z0)) hZ (hw _ (List.mem_of_getElem? (i := 22) rfl)) (hw _ (List.mem_of_getElem? (i := 18) rfl)) (by decide) (by decide)) (g := (mkF m 104 #[.val (.int p1), .unset] [(.int (11263 : Int32)), (.int (8592 : Int32)), (.int p1)])) rfl (by rw [hml]; rfl) (argsL := [(.int p1), (.int (8592 : Int32)), (.int (11263 : Int32))]) (rest := []) (lenOf pd_2_1 rfl) rfl (by show 2 * 0 + _ ≤ _; exact Nat.le_of_eq rfl) (hb hby d2_104) (fun _ _ => ⟨rfl, rfl, (by decide : 0 + 0 ≤ _), (by decide : 0 + 0 ≤ _)⟩)
  dsimp only [Pt.U, Pt.locs, Pt.cells, Pt.slots] at X7 l7 y7 z7 st7 hQ7
  subst l7 y7 z7
  obtain ⟨rfl, N7q, eh7⟩ := hQ7
  have N7 := Fr.app N6 N7q
  obtain ⟨_, _, ⟨T8, L8, k8, n8⟩, -, X8, ⟨Lc8, hQ8, l8, y8, z8⟩, st8⟩ := Jvm.LawKit.callS X7 hx (y := (⟨"com/example/text_with_triples/textwithtriples/model/NameCharsIsBasePinLaw", "in", "(III)Z"⟩ : MethodName)) hown (mvT hZ (hw _ (List.mem_of_getElem? (i := 20) rfl))) (mvT hZ (hw _ (List.mem_of_getElem? (i := 21) rfl))) (mvT hZ (hw _ (List.mem_of_getElem? (i := 18) rfl))) (mvT hZ (hw _ (List.mem_of_getElem? (i := 22) rfl))) (by decide) (backOf (W := 0) (rm3 l Z a0 hw [] p1 (12272 : Int32) (12288 : Int32) T7.heap n0 (by rw [eh7, eh6, eh5, eh4, eh3, eh2]; exact Z0)) hZ (hw _ (List.mem_of_getElem? (i := 22) rfl)) (hw _ (List.mem_of_getElem? (i := 18) rfl)) (by decide) (by decide)) (g := (mkF m 117 #[.val (.int p1), .unset] [(.int (12288 : Int32)), (.int (12272 : Int32)), (.int p1)])) rfl (by rw [hml]; rfl) (argsL := [(.int p1), (.int (12272 : Int32)), (.int (12288 : Int32))]) (rest := []) (lenOf pd_2_1 rfl) rfl (by show 2 * 0 + _ ≤ _; exact Nat.le_of_eq rfl) (hb hby d2_117) (fun _ _ => ⟨rfl, rfl, (by decide : 0 + 0 ≤ _), (by decide : 0 + 0 ≤ _)⟩)
  dsimp only [Pt.U, Pt.locs, Pt.cells, Pt.slots] at X8 l8 y8 z8 st8 hQ8
  subst l8 y8 z8
  obtain ⟨rfl, N8q, eh8⟩ := hQ8
  have N8 := Fr.app N7 N8q
  obtain ⟨_, _, ⟨T9, L9, k9, n9⟩, -, X9, ⟨Lc9, hQ9, l9, y9, z9⟩, st9⟩ := Jvm.LawKit.callS X8 hx (y := (⟨"com/example/text_with_triples/textwithtriples/model/NameCharsIsBasePinLaw", "in", "(III)Z"⟩ : MethodName)) hown (mvT hZ (hw _ (List.mem_of_getElem? (i := 20) rfl))) (mvT hZ (hw _ (List.mem_of_getElem? (i := 21) rfl))) (mvT hZ (hw _ (List.mem_of_getElem? (i := 18) rfl))) (mvT hZ (hw _ (List.mem_of_getElem? (i := 22) rfl))) (by decide) (backOf (W := 0) (rm3 l Z a0 hw [] p1 (55296 : Int32) (63743 : Int32) T8.heap n0 (by rw [eh8, eh7, eh6, eh5, eh4, eh3, eh2]; exact Z0)) hZ (hw _ (List.mem_of_getElem? (i := 22) rfl)) (hw _ (List.mem_of_getElem? (i := 18) rfl)) (by decide) (by decide)) (g := (mkF m 128 #[.val (.int p1), .unset] [(.int (63743 : Int32)), (.int (55296 : Int32)), (.int p1)])) rfl (by rw [hml]; rfl) (argsL := [(.int p1), (.int (55296 : Int32)), (.int (63743 : Int32))]) (rest := []) (lenOf pd_2_1 rfl) rfl (by show 2 * 0 + _ ≤ _; exact Nat.le_of_eq rfl) (hb hby d2_128) (fun _ _ => ⟨rfl, rfl, (by decide : 0 + 0 ≤ _), (by decide : 0 + 0 ≤ _)⟩)
  dsimp only [Pt.U, Pt.locs, Pt.cells, Pt.slots] at X9 l9 y9 z9 st9 hQ9
  subst l9 y9 z9
  obtain ⟨rfl, N9q, eh9⟩ := hQ9
  have N9 := Fr.app N8 N9q
  obtain ⟨_, _, ⟨T10, L10, k10, n10⟩, -, X10, ⟨Lc10, hQ10, l10, y10, z10⟩, st10⟩ := Jvm.LawKit.callS X9 hx (y := (⟨"com/example/text_with_triples/textwithtriples/model/NameCharsIsBasePinLaw", "in", "(III)Z"⟩ : MethodName)) hown (mvT hZ (hw _ (List.mem_of_getElem? (i := 20) rfl))) (mvT hZ (hw _ (List.mem_of_getElem? (i := 21) rfl))) (mvT hZ (hw _ (List.mem_of_getElem? (i := 18) rfl))) (mvT hZ (hw _ (List.mem_of_getElem? (i := 22) rfl))) (by decide) (backOf (W := 0) (rm3 l Z a0 hw [] p1 (64976 : Int32) (65007 : Int32) T9.heap n0 (by rw [eh9, eh8, eh7, eh6, eh5, eh4, eh3, eh2]; exact Z0)) hZ (hw _ (List.mem_of_getElem? (i := 22) rfl)) (hw _ (List.mem_of_getElem? (i := 18) rfl)) (by decide) (by decide)) (g := (mkF m 139 #[.val (.int p1), .unset] [(.int (65007 : Int32)), (.int (64976 : Int32)), (.int p1)])) rfl (by rw [hml]; rfl) (argsL := [(.int p1), (.int (64976 : Int32)), (.int (65007 : Int32))]) (rest := []) (lenOf pd_2_1 rfl) rfl (by show 2 * 0 + _ ≤ _; exact Nat.le_of_eq rfl) (hb hby d2_139) (fun _ _ => ⟨rfl, rfl, (by decide : 0 + 0 ≤ _), (by decide : 0 + 0 ≤ _)⟩)
  dsimp only [Pt.U, Pt.locs, Pt.cells, Pt.slots] at X10 l10 y10 z10 st10 hQ10
  subst l10 y10 z10
  obtain ⟨rfl, N10q, eh10⟩ := hQ10
  have N10 := Fr.app N9 N10q
  obtain ⟨_, _, ⟨T11, L11, k11, n11⟩, -, X11, ⟨Lc11, hQ11, l11, y11, z11⟩, st11⟩ := Jvm.LawKit.callS X10 hx (y := (⟨"com/example/text_with_triples/textwithtriples/model/NameCharsIsBasePinLaw", "in", "(III)Z"⟩ : MethodName)) hown (mvT hZ (hw _ (List.mem_of_getElem? (i := 20) rfl))) (mvT hZ (hw _ (List.mem_of_getElem? (i := 21) rfl))) (mvT hZ (hw _ (List.mem_of_getElem? (i := 18) rfl))) (mvT hZ (hw _ (List.mem_of_getElem? (i := 22) rfl))) (by decide) (backOf (W := 0) (rm3 l Z a0 hw [] p1 (65534 : Int32) (65535 : Int32) T10.heap n0 (by rw [eh10, eh9, eh8, eh7, eh6, eh5, eh4, eh3, eh2]; exact Z0)) hZ (hw _ (List.mem_of_getElem? (i := 22) rfl)) (hw _ (List.mem_of_getElem? (i := 18) rfl)) (by decide) (by decide)) (g := (mkF m 150 #[.val (.int p1), .unset] [(.int (65535 : Int32)), (.int (65534 : Int32)), (.int p1)])) rfl (by rw [hml]; rfl) (argsL := [(.int p1), (.int (65534 : Int32)), (.int (65535 : Int32))]) (rest := []) (lenOf pd_2_1 rfl) rfl (by show 2 * 0 + _ ≤ _; exact Nat.le_of_eq rfl) (hb hby d2_150) (fun _ _ => ⟨rfl, rfl, (by decide : 0 + 0 ≤ _), (by decide : 0 + 0 ≤ _)⟩)
  dsimp only [Pt.U, Pt.locs, Pt.cells, Pt.slots] at X11 l11 y11 z11 st11 hQ11
  subst l11 y11 z11
  obtain ⟨rfl, N11q, eh11⟩ := hQ11
  have N11 := Fr.app N10 N11q
  obtain ⟨fs, hr, hrun, hended, hW, hsame⟩ := X11.leave (v := some (.int (0 : Int32))) (fun h => by rw [Bd.returns] at h; cases h)
  refine ⟨_, _, pre0 _ ?_, hrun, hended, _, _, rfl, ?_, ⟨_, rfl⟩, hW, hsame.mono (by decide) (by decide)⟩
  · show Steps p.tables e below (s₁.setTop (mkF m 0 #[.val (.int p1), .unset] [])) _
    refine XS.iloadN X0.here hx rfl (hb hby d2_0) rfl ?_
    show Steps p.tables e below (s₁.setTop (mkF m 1 #[.val (.int p1), .unset] [(.int p1)])) _
    refine XS.bipush X0.here hx rfl (hb hby d2_1) ?_
    show Steps p.tables e below (s₁.setTop (mkF m 3 #[.val (.int p1), .unset] [(.int (65 : Int32)), (.int p1)])) _
    refine XS.icmpNo X0.here hx rfl (hb hby d2_3) rfl (flt hc3).1 ?_
    show Steps p.tables e below (s₁.setTop (mkF m 6 #[.val (.int p1), .unset] [])) _
    refine XS.iloadN X0.here hx rfl (hb hby d2_6) rfl ?_
    show Steps p.tables e below (s₁.setTop (mkF m 7 #[.val (.int p1), .unset] [(.int p1)])) _
    refine X0.ldcInt hx hown (mvT hZ (hw _ (List.mem_of_getElem? (i := 7) rfl))) (g := (mkF m 7 #[.val (.int p1), .unset] [(.int p1)])) rfl (hb hby d2_7) _ ?_
    show Steps p.tables e below (s₁.setTop (mkF m 9 #[.val (.int p1), .unset] [(.int (983039 : Int32)), (.int p1)])) _
    refine XS.icmpYes X0.here hx rfl (pc0 := 9) (pc' := 14) rfl (hb hby d2_9) rfl (flt hc9).2.2.2 (by decide) (by decide) ?_
    show Steps p.tables e below (s₁.setTop (mkF m 14 #[.val (.int p1), .unset] [])) _
    refine XS.iloadN X0.here hx rfl (hb hby d2_14) rfl ?_
    show Steps p.tables e below (s₁.setTop (mkF m 15 #[.val (.int p1), .unset] [(.int p1)])) _
    refine XS.bipush X0.here hx rfl (hb hby d2_15) ?_
    show Steps p.tables e below (s₁.setTop (mkF m 17 #[.val (.int p1), .unset] [(.int (91 : Int32)), (.int p1)])) _
    refine XS.bipush X0.here hx rfl (hb hby d2_17) ?_
    show Steps p.tables e below (s₁.setTop (mkF m 19 #[.val (.int p1), .unset] [(.int (96 : Int32)), (.int (91 : Int32)), (.int p1)])) _
    refine st2 _ ?_
    show Steps p.tables e below (T2.setTop (mkF m 22 #[.val (.int p1), .unset] [(.int (own_in p1 (91 : Int32) (96 : Int32)))])) _
    refine XS.ifNo X2.here hx rfl (hb hby d2_22) rfl ((if0 _ _).trans (teq (g0 : (own_in p1 (91 : Int32) (96 : Int32)) = (0 : Int32))).2) ?_
    show Steps p.tables e below (T2.setTop (mkF m 25 #[.val (.int p1), .unset] [])) _
    refine XS.iloadN X2.here hx rfl (hb hby d2_25) rfl ?_
    show Steps p.tables e below (T2.setTop (mkF m 26 #[.val (.int p1), .unset] [(.int p1)])) _
    refine XS.bipush X2.here hx rfl (hb hby d2_26) ?_
    show Steps p.tables e below (T2.setTop (mkF m 28 #[.val (.int p1), .unset] [(.int (123 : Int32)), (.int p1)])) _
    refine XS.sipush X2.here hx rfl (hb hby d2_28) ?_
    show Steps p.tables e below (T2.setTop (mkF m 31 #[.val (.int p1), .unset] [(.int (191 : Int32)), (.int (123 : Int32)), (.int p1)])) _
    refine st3 _ ?_
    show Steps p.tables e below (T3.setTop (mkF m 34 #[.val (.int p1), .unset] [(.int (own_in p1 (123 : Int32) (191 : Int32)))])) _
    refine XS.ifNo X3.here hx rfl (hb hby d2_34) rfl ((if0 _ _).trans (teq (g1 : (own_in p1 (123 : Int32) (191 : Int32)) = (0 : Int32))).2) ?_
    show Steps p.tables e below (T3.setTop (mkF m 37 #[.val (.int p1), .unset] [])) _
    refine XS.iloadN X3.here hx rfl (hb hby d2_37) rfl ?_
    show Steps p.tables e below (T3.setTop (mkF m 38 #[.val (.int p1), .unset] [(.int p1)])) _
    refine XS.sipush X3.here hx rfl (hb hby d2_38) ?_
    show Steps p.tables e below (T3.setTop (mkF m 41 #[.val (.int p1), .unset] [(.int (215 : Int32)), (.int p1)])) _
    refine XS.icmpNo X3.here hx rfl (hb hby d2_41) rfl (feq hc41).1 ?_
    show Steps p.tables e below (T3.setTop (mkF m 44 #[.val (.int p1), .unset] [])) _
    refine XS.iloadN X3.here hx rfl (hb hby d2_44) rfl ?_
    show Steps p.tables e below (T3.setTop (mkF m 45 #[.val (.int p1), .unset] [(.int p1)])) _
    refine XS.sipush X3.here hx rfl (hb hby d2_45) ?_
    show Steps p.tables e below (T3.setTop (mkF m 48 #[.val (.int p1), .unset] [(.int (247 : Int32)), (.int p1)])) _
    refine XS.icmpNo X3.here hx rfl (hb hby d2_48) rfl (feq hc48).1 ?_
    show Steps p.tables e below (T3.setTop (mkF m 51 #[.val (.int p1), .unset] [])) _
    refine XS.iloadN X3.here hx rfl (hb hby d2_51) rfl ?_
    show Steps p.tables e below (T3.setTop (mkF m 52 #[.val (.int p1), .unset] [(.int p1)])) _
    refine XS.sipush X3.here hx rfl (hb hby d2_52) ?_
    show Steps p.tables e below (T3.setTop (mkF m 55 #[.val (.int p1), .unset] [(.int (768 : Int32)), (.int p1)])) _
    refine XS.sipush X3.here hx rfl (hb hby d2_55) ?_
    show Steps p.tables e below (T3.setTop (mkF m 58 #[.val (.int p1), .unset] [(.int (879 : Int32)), (.int (768 : Int32)), (.int p1)])) _
    refine st4 _ ?_
    show Steps p.tables e below (T4.setTop (mkF m 61 #[.val (.int p1), .unset] [(.int (own_in p1 (768 : Int32) (879 : Int32)))])) _
    refine XS.ifNo X4.here hx rfl (hb hby d2_61) rfl ((if0 _ _).trans (teq (g4 : (own_in p1 (768 : Int32) (879 : Int32)) = (0 : Int32))).2) ?_
    show Steps p.tables e below (T4.setTop (mkF m 64 #[.val (.int p1), .unset] [])) _
    refine XS.iloadN X4.here hx rfl (hb hby d2_64) rfl ?_
    show Steps p.tables e below (T4.setTop (mkF m 65 #[.val (.int p1), .unset] [(.int p1)])) _
    refine XS.sipush X4.here hx rfl (hb hby d2_65) ?_
    show Steps p.tables e below (T4.setTop (mkF m 68 #[.val (.int p1), .unset] [(.int (894 : Int32)), (.int p1)])) _
    refine XS.icmpNo X4.here hx rfl (hb hby d2_68) rfl (feq hc68).1 ?_
    show Steps p.tables e below (T4.setTop (mkF m 71 #[.val (.int p1), .unset] [])) _
    refine XS.iloadN X4.here hx rfl (hb hby d2_71) rfl ?_
    show Steps p.tables e below (T4.setTop (mkF m 72 #[.val (.int p1), .unset] [(.int p1)])) _
    refine XS.sipush X4.here hx rfl (hb hby d2_72) ?_
    show Steps p.tables e below (T4.setTop (mkF m 75 #[.val (.int p1), .unset] [(.int (8192 : Int32)), (.int p1)])) _
    refine XS.sipush X4.here hx rfl (hb hby d2_75) ?_
    show Steps p.tables e below (T4.setTop (mkF m 78 #[.val (.int p1), .unset] [(.int (8203 : Int32)), (.int (8192 : Int32)), (.int p1)])) _
    refine st5 _ ?_
    show Steps p.tables e below (T5.setTop (mkF m 81 #[.val (.int p1), .unset] [(.int (own_in p1 (8192 : Int32) (8203 : Int32)))])) _
    refine XS.ifNo X5.here hx rfl (hb hby d2_81) rfl ((if0 _ _).trans (teq (g6 : (own_in p1 (8192 : Int32) (8203 : Int32)) = (0 : Int32))).2) ?_
    show Steps p.tables e below (T5.setTop (mkF m 84 #[.val (.int p1), .unset] [])) _
    refine XS.iloadN X5.here hx rfl (hb hby d2_84) rfl ?_
    show Steps p.tables e below (T5.setTop (mkF m 85 #[.val (.int p1), .unset] [(.int p1)])) _
    refine XS.sipush X5.here hx rfl (hb hby d2_85) ?_
    show Steps p.tables e below (T5.setTop (mkF m 88 #[.val (.int p1), .unset] [(.int (8206 : Int32)), (.int p1)])) _
    refine XS.sipush X5.here hx rfl (hb hby d2_88) ?_
    show Steps p.tables e below (T5.setTop (mkF m 91 #[.val (.int p1), .unset] [(.int (8303 : Int32)), (.int (8206 : Int32)), (.int p1)])) _
    refine st6 _ ?_
    show Steps p.tables e below (T6.setTop (mkF m 94 #[.val (.int p1), .unset] [(.int (own_in p1 (8206 : Int32) (8303 : Int32)))])) _
    refine XS.ifNo X6.here hx rfl (hb hby d2_94) rfl ((if0 _ _).trans (teq (g7 : (own_in p1 (8206 : Int32) (8303 : Int32)) = (0 : Int32))).2) ?_
    show Steps p.tables e below (T6.setTop (mkF m 97 #[.val (.int p1), .unset] [])) _
    refine XS.iloadN X6.here hx rfl (hb hby d2_97) rfl ?_
    show Steps p.tables e below (T6.setTop (mkF m 98 #[.val (.int p1), .unset] [(.int p1)])) _
    refine XS.sipush X6.here hx rfl (hb hby d2_98) ?_
    show Steps p.tables e below (T6.setTop (mkF m 101 #[.val (.int p1), .unset] [(.int (8592 : Int32)), (.int p1)])) _
    refine XS.sipush X6.here hx rfl (hb hby d2_101) ?_
    show Steps p.tables e below (T6.setTop (mkF m 104 #[.val (.int p1), .unset] [(.int (11263 : Int32)), (.int (8592 : Int32)), (.int p1)])) _
    refine st7 _ ?_
    show Steps p.tables e below (T7.setTop (mkF m 107 #[.val (.int p1), .unset] [(.int (own_in p1 (8592 : Int32) (11263 : Int32)))])) _
    refine XS.ifNo X7.here hx rfl (hb hby d2_107) rfl ((if0 _ _).trans (teq (g8 : (own_in p1 (8592 : Int32) (11263 : Int32)) = (0 : Int32))).2) ?_
    show Steps p.tables e below (T7.setTop (mkF m 110 #[.val (.int p1), .unset] [])) _
    refine XS.iloadN X7.here hx rfl (hb hby d2_110) rfl ?_
    show Steps p.tables e below (T7.setTop (mkF m 111 #[.val (.int p1), .unset] [(.int p1)])) _
    refine XS.sipush X7.here hx rfl (hb hby d2_111) ?_
    show Steps p.tables e below (T7.setTop (mkF m 114 #[.val (.int p1), .unset] [(.int (12272 : Int32)), (.int p1)])) _
    refine XS.sipush X7.here hx rfl (hb hby d2_114) ?_
    show Steps p.tables e below (T7.setTop (mkF m 117 #[.val (.int p1), .unset] [(.int (12288 : Int32)), (.int (12272 : Int32)), (.int p1)])) _
    refine st8 _ ?_
    show Steps p.tables e below (T8.setTop (mkF m 120 #[.val (.int p1), .unset] [(.int (own_in p1 (12272 : Int32) (12288 : Int32)))])) _
    refine XS.ifNo X8.here hx rfl (hb hby d2_120) rfl ((if0 _ _).trans (teq (g9 : (own_in p1 (12272 : Int32) (12288 : Int32)) = (0 : Int32))).2) ?_
    show Steps p.tables e below (T8.setTop (mkF m 123 #[.val (.int p1), .unset] [])) _
    refine XS.iloadN X8.here hx rfl (hb hby d2_123) rfl ?_
    show Steps p.tables e below (T8.setTop (mkF m 124 #[.val (.int p1), .unset] [(.int p1)])) _
    refine X8.ldcInt hx hown (mvT hZ (hw _ (List.mem_of_getElem? (i := 23) rfl))) (g := (mkF m 124 #[.val (.int p1), .unset] [(.int p1)])) rfl (hb hby d2_124) _ ?_
    show Steps p.tables e below (T8.setTop (mkF m 126 #[.val (.int p1), .unset] [(.int (55296 : Int32)), (.int p1)])) _
    refine X8.ldcInt hx hown (mvT hZ (hw _ (List.mem_of_getElem? (i := 24) rfl))) (g := (mkF m 126 #[.val (.int p1), .unset] [(.int (55296 : Int32)), (.int p1)])) rfl (hb hby d2_126) _ ?_
    show Steps p.tables e below (T8.setTop (mkF m 128 #[.val (.int p1), .unset] [(.int (63743 : Int32)), (.int (55296 : Int32)), (.int p1)])) _
    refine st9 _ ?_
    show Steps p.tables e below (T9.setTop (mkF m 131 #[.val (.int p1), .unset] [(.int (own_in p1 (55296 : Int32) (63743 : Int32)))])) _
    refine XS.ifNo X9.here hx rfl (hb hby d2_131) rfl ((if0 _ _).trans (teq (g10 : (own_in p1 (55296 : Int32) (63743 : Int32)) = (0 : Int32))).2) ?_
    show Steps p.tables e below (T9.setTop (mkF m 134 #[.val (.int p1), .unset] [])) _
    refine XS.iloadN X9.here hx rfl (hb hby d2_134) rfl ?_
    show Steps p.tables e below (T9.setTop (mkF m 135 #[.val (.int p1), .unset] [(.int p1)])) _
    refine X9.ldcInt hx hown (mvT hZ (hw _ (List.mem_of_getElem? (i := 25) rfl))) (g := (mkF m 135 #[.val (.int p1), .unset] [(.int p1)])) rfl (hb hby d2_135) _ ?_
    show Steps p.tables e below (T9.setTop (mkF m 137 #[.val (.int p1), .unset] [(.int (64976 : Int32)), (.int p1)])) _
    refine X9.ldcInt hx hown (mvT hZ (hw _ (List.mem_of_getElem? (i := 26) rfl))) (g := (mkF m 137 #[.val (.int p1), .unset] [(.int (64976 : Int32)), (.int p1)])) rfl (hb hby d2_137) _ ?_
    show Steps p.tables e below (T9.setTop (mkF m 139 #[.val (.int p1), .unset] [(.int (65007 : Int32)), (.int (64976 : Int32)), (.int p1)])) _
    refine st10 _ ?_
    show Steps p.tables e below (T10.setTop (mkF m 142 #[.val (.int p1), .unset] [(.int (own_in p1 (64976 : Int32) (65007 : Int32)))])) _
    refine XS.ifNo X10.here hx rfl (hb hby d2_142) rfl ((if0 _ _).trans (teq (g11 : (own_in p1 (64976 : Int32) (65007 : Int32)) = (0 : Int32))).2) ?_
    show Steps p.tables e below (T10.setTop (mkF m 145 #[.val (.int p1), .unset] [])) _
    refine XS.iloadN X10.here hx rfl (hb hby d2_145) rfl ?_
    show Steps p.tables e below (T10.setTop (mkF m 146 #[.val (.int p1), .unset] [(.int p1)])) _
    refine X10.ldcInt hx hown (mvT hZ (hw _ (List.mem_of_getElem? (i := 27) rfl))) (g := (mkF m 146 #[.val (.int p1), .unset] [(.int p1)])) rfl (hb hby d2_146) _ ?_
    show Steps p.tables e below (T10.setTop (mkF m 148 #[.val (.int p1), .unset] [(.int (65534 : Int32)), (.int p1)])) _
    refine X10.ldcInt hx hown (mvT hZ (hw _ (List.mem_of_getElem? (i := 28) rfl))) (g := (mkF m 148 #[.val (.int p1), .unset] [(.int (65534 : Int32)), (.int p1)])) rfl (hb hby d2_148) _ ?_
    show Steps p.tables e below (T10.setTop (mkF m 150 #[.val (.int p1), .unset] [(.int (65535 : Int32)), (.int (65534 : Int32)), (.int p1)])) _
    refine st11 _ ?_
    show Steps p.tables e below (T11.setTop (mkF m 153 #[.val (.int p1), .unset] [(.int (own_in p1 (65534 : Int32) (65535 : Int32)))])) _
    refine XS.ifNo X11.here hx rfl (hb hby d2_153) rfl ((if0 _ _).trans (feq (g12 : ¬ ((own_in p1 (65534 : Int32) (65535 : Int32)) = (0 : Int32)))).1) ?_
    show Steps p.tables e below (T11.setTop (mkF m 156 #[.val (.int p1), .unset] [])) _
    refine XS.iconst X11.here hx rfl (hb hby d2_156) ?_
    show Steps p.tables e below (T11.setTop (mkF m 157 #[.val (.int p1), .unset] [(.int (1 : Int32))])) _
    refine XS.goto X11.here hx rfl (pc0 := 157) (pc' := 161) rfl (hb hby d2_157) (by decide) (by decide) ?_
    show Steps p.tables e below (T11.setTop (mkF m 161 #[.val (.int p1), .unset] [(.int (1 : Int32))])) _
    refine XS.istoreN X11.here hx rfl (hb hby d2_161) rfl (l' := #[.val (.int p1), .val (.int (1 : Int32))]) rfl ?_
    show Steps p.tables e below (T11.setTop (mkF m 162 #[.val (.int p1), .val (.int (1 : Int32))] [])) _
    refine XS.iloadN X11.here hx rfl (hb hby d2_162) rfl ?_
    show Steps p.tables e below (T11.setTop (mkF m 163 #[.val (.int p1), .val (.int (1 : Int32))] [(.int (1 : Int32))])) _
    refine XS.ifYes X11.here hx rfl (pc0 := 163) (pc' := 170) rfl (hb hby d2_163) rfl ((if0 _ _).trans (feq hc163).2) (by decide) (by decide) ?_
    show Steps p.tables e below (T11.setTop (mkF m 170 #[.val (.int p1), .val (.int (1 : Int32))] [])) _
    refine XS.iconst X11.here hx rfl (hb hby d2_170) ?_
    show Steps p.tables e below (T11.setTop (mkF m 171 #[.val (.int p1), .val (.int (1 : Int32))] [(.int (0 : Int32))])) _
    exact retN X11 hx (t := .boolean) Bd.returns (by simp) (hb hby d2_171) hr
  · show Q2 Z p1 h0 n0 _ T11.heap _
    exact ⟨by rw [own_g12 p1 g12], N11, ((((((((eh11.trans eh10).trans eh9).trans eh8).trans eh7).trans eh6).trans eh5).trans eh4).trans eh3).trans eh2⟩
theorem d2_160 : decode method_3_code 160 = .ok (.iconst 0, 1) := by decide +kernel
theorem d2_166 : decode method_3_code 166 = .ok (.iconst 1, 1) := by decide +kernel
theorem d2_167 : decode method_3_code 167 = .ok (.goto 4, 3) := by decide +kernel
set_option maxRecDepth 65536 in
set_option maxHeartbeats 40000000 in
theorem rm2_none (l : Launch) (Z : State) (a0 : Array Value) (hw : ∀ d ∈ tables_1, d.before a0 Z = true) (ws : List Jvm.Cond) (p1 : Int32) (h0 : Heap) (n0 : Nat) (Z0 : n0 ≤ h0.size) (g0 : own_in p1 (91 : Int32) (96 : Int32) = (0 : Int32)) (g1 : own_in p1 (123 : Int32) (191 : Int32) = (0 : Int32)) (g4 : own_in p1 (768 : Int32) (879 : Int32) = (0 : Int32)) (g6 : own_in p1 (8192 : Int32) (8203 : Int32) = (0 : Int32)) (g7 : own_in p1 (8206 : Int32) (8303 : Int32) = (0 : Int32)) (g8 : own_in p1 (8592 : Int32) (11263 : Int32) = (0 : Int32)) (g9 : own_in p1 (12272 : Int32) (12288 : Int32) = (0 : Int32)) (g10 : own_in p1 (55296 : Int32) (63743 : Int32) = (0 : Int32)) (g11 : own_in p1 (64976 : Int32) (65007 : Int32) = (0 : Int32)) (g12 : own_in p1 (65534 : Int32) (65535 : Int32) = (0 : Int32)) (hc3 : ¬ (p1 < (65 : Int32))) (hc9 : ¬ ((983039 : Int32) < p1)) (hc41 : ¬ (p1 = (215 : Int32))) (hc48 : ¬ (p1 = (247 : Int32))) (hc68 : ¬ (p1 = (894 : Int32))) :
    MetFree l (⟨"com/example/text_with_triples/textwithtriples/model/NameCharsIsBasePinLaw", "ref", "(I)Z"⟩ : MethodName) (head1 (Jvm.Cond.code (⟨"com/example/text_with_triples/textwithtriples/model/NameCharsIsBasePinLaw", "ref", "(I)Z"⟩ : MethodName) method_3_code 2 (some .boolean) :: ws) ({ frames := 1, cells := 0, slots := 0, locals := 14 } : Room)) (fun a U => a = #[(.int p1)] ∧ Z.Warmed39 U.vm ∧ U.heap = h0) (fun _ _ _ _ _ => True) (fun _ U o U' => ∃ v L, o = .returned v ∧ Q2 Z p1 h0 n0 v U'.heap L ∧ FrameEnd U o U' L ({ frames := 1, cells := 0, slots := 0, locals := 14 } : Room).cells ({ frames := 1, cells := 0, slots := 0, locals := 14 } : Room).slots) := by
  refine MetFree.of_bodySF (plainFor_of_name pn_2) hisR ?_
  intro p e s m args below meth c s₁ Bd hml0 hP hK
  obtain ⟨rfl, hZ, hh⟩ := hP
  have hx := Bd.exec
  have hby := Bd.bytes
  have hml : c.maxLocals = 2 := hml0
  have hown : s.vm.findClass "com/example/text_with_triples/textwithtriples/model/NameCharsIsBasePinLaw" = some m.cls := findClass_of_methodNamed Bd.named
  have hnm := (name_of_methodNamed Bd.named Bd.method).1
  have X0 : Stand p l e ({ frames := 1, cells := 0, slots := 0, locals := 14 } : Room) s m #[(.int p1)] below meth c s₁ [] 0 0 := Stand.of_body Bd
  have e0 : s₁.heap = h0 := by rw [← hh, Bd.state]; rfl
  have N0 := Fr.nil n0
  have pre0 : ∀ t, Steps p.tables e below (s₁.setTop (mkF m 0 #[.val (.int p1), .unset] [])) t → Steps p.tables e below (s₁.setTop (entryFrame m #[(.int p1)] 2)) t := fun t k => castTop (ef_2 m p1) k
  obtain ⟨_, _, ⟨T2, L2, k2, n2⟩, -, X2, ⟨Lc2, hQ2, l2, y2, z2⟩, st2⟩ := Jvm.LawKit.callS X0 hx (y := (⟨"com/example/text_with_triples/textwithtriples/model/NameCharsIsBasePinLaw", "in", "(III)Z"⟩ : MethodName)) hown (mvT hZ (hw _ (List.mem_of_getElem? (i := 20) rfl))) (mvT hZ (hw _ (List.mem_of_getElem? (i := 21) rfl))) (mvT hZ (hw _ (List.mem_of_getElem? (i := 18) rfl))) (mvT hZ (hw _ (List.mem_of_getElem? (i := 22) rfl))) (by decide) (backOf (W := 0) (rm3 l Z a0 hw [] p1 (91 : Int32) (96 : Int32) h0 n0 Z0) hZ (hw _ (List.mem_of_getElem? (i := 22) rfl)) (hw _ (List.mem_of_getElem? (i := 18) rfl)) (by decide) (by decide)) (g := (mkF m 19 #[.val (.int p1), .unset] [(.int (96 : Int32)), (.int (91 : Int32)), (.int p1)])) rfl (by rw [hml]; rfl) (argsL := [(.int p1), (.int (91 : Int32)), (.int (96 : Int32))]) (rest := []) (lenOf pd_2_1 rfl) rfl (by show 2 * 0 + _ ≤ _; exact Nat.le_of_eq rfl) (hb hby d2_19) (fun _ _ => ⟨rfl, e0, (by decide : 0 + 0 ≤ _), (by decide : 0 + 0 ≤ _)⟩)
  dsimp only [Pt.U, Pt.locs, Pt.cells, Pt.slots] at X2 l2 y2 z2 st2 hQ2
  subst l2 y2 z2
  obtain ⟨rfl, N2q, eh2⟩ := hQ2
  have N2 := Fr.app N0 N2q
  obtain ⟨_, _, ⟨T3, L3, k3, n3⟩, -, X3, ⟨Lc3, hQ3, l3, y3, z3⟩, st3⟩ := Jvm.LawKit.callS X2 hx (y := (⟨"com/example/text_with_triples/textwithtriples/model/NameCharsIsBasePinLaw", "in", "(III)Z"⟩ : MethodName)) hown (mvT hZ (hw _ (List.mem_of_getElem? (i := 20) rfl))) (mvT hZ (hw _ (List.mem_of_getElem? (i := 21) rfl))) (mvT hZ (hw _ (List.mem_of_getElem? (i := 18) rfl))) (mvT hZ (hw _ (List.mem_of_getElem? (i := 22) rfl))) (by decide) (backOf (W := 0) (rm3 l Z a0 hw [] p1 (123 : Int32) (191 : Int32) T2.heap n0 (by rw [eh2]; exact Z0)) hZ (hw _ (List.mem_of_getElem? (i := 22) rfl)) (hw _ (List.mem_of_getElem? (i := 18) rfl)) (by decide) (by decide)) (g := (mkF m 31 #[.val (.int p1), .unset] [(.int (191 : Int32)), (.int (123 : Int32)), (.int p1)])) rfl (by rw [hml]; rfl) (argsL := [(.int p1), (.int (123 : Int32)), (.int (191 : Int32))]) (rest := []) (lenOf pd_2_1 rfl) rfl (by show 2 * 0 + _ ≤ _; exact Nat.le_of_eq rfl) (hb hby d2_31) (fun _ _ => ⟨rfl, rfl, (by decide : 0 + 0 ≤ _), (by decide : 0 + 0 ≤ _)⟩)
  dsimp only [Pt.U, Pt.locs, Pt.cells, Pt.slots] at X3 l3 y3 z3 st3 hQ3
  subst l3 y3 z3
  obtain ⟨rfl, N3q, eh3⟩ := hQ3
  have N3 := Fr.app N2 N3q
  obtain ⟨_, _, ⟨T4, L4, k4, n4⟩, -, X4, ⟨Lc4, hQ4, l4, y4, z4⟩, st4⟩ := Jvm.LawKit.callS X3 hx (y := (⟨"com/example/text_with_triples/textwithtriples/model/NameCharsIsBasePinLaw", "in", "(III)Z"⟩ : MethodName)) hown (mvT hZ (hw _ (List.mem_of_getElem? (i := 20) rfl))) (mvT hZ (hw _ (List.mem_of_getElem? (i := 21) rfl))) (mvT hZ (hw _ (List.mem_of_getElem? (i := 18) rfl))) (mvT hZ (hw _ (List.mem_of_getElem? (i := 22) rfl))) (by decide) (backOf (W := 0) (rm3 l Z a0 hw [] p1 (768 : Int32) (879 : Int32) T3.heap n0 (by rw [eh3, eh2]; exact Z0)) hZ (hw _ (List.mem_of_getElem? (i := 22) rfl)) (hw _ (List.mem_of_getElem? (i := 18) rfl)) (by decide) (by decide)) (g := (mkF m 58 #[.val (.int p1), .unset] [(.int (879 : Int32)), (.int (768 : Int32)), (.int p1)])) rfl (by rw [hml]; rfl) (argsL := [(.int p1), (.int (768 : Int32)), (.int (879 : Int32))]) (rest := []) (lenOf pd_2_1 rfl) rfl (by show 2 * 0 + _ ≤ _; exact Nat.le_of_eq rfl) (hb hby d2_58) (fun _ _ => ⟨rfl, rfl, (by decide : 0 + 0 ≤ _), (by decide : 0 + 0 ≤ _)⟩)
  dsimp only [Pt.U, Pt.locs, Pt.cells, Pt.slots] at X4 l4 y4 z4 st4 hQ4
  subst l4 y4 z4
  obtain ⟨rfl, N4q, eh4⟩ := hQ4
  have N4 := Fr.app N3 N4q
  obtain ⟨_, _, ⟨T5, L5, k5, n5⟩, -, X5, ⟨Lc5, hQ5, l5, y5, z5⟩, st5⟩ := Jvm.LawKit.callS X4 hx (y := (⟨"com/example/text_with_triples/textwithtriples/model/NameCharsIsBasePinLaw", "in", "(III)Z"⟩ : MethodName)) hown (mvT hZ (hw _ (List.mem_of_getElem? (i := 20) rfl))) (mvT hZ (hw _ (List.mem_of_getElem? (i := 21) rfl))) (mvT hZ (hw _ (List.mem_of_getElem? (i := 18) rfl))) (mvT hZ (hw _ (List.mem_of_getElem? (i := 22) rfl))) (by decide) (backOf (W := 0) (rm3 l Z a0 hw [] p1 (8192 : Int32) (8203 : Int32) T4.heap n0 (by rw [eh4, eh3, eh2]; exact Z0)) hZ (hw _ (List.mem_of_getElem? (i := 22) rfl)) (hw _ (List.mem_of_getElem? (i := 18) rfl)) (by decide) (by decide)) (g := (mkF m 78 #[.val (.int p1), .unset] [(.int (8203 : Int32)), (.int (8192 : Int32)), (.int p1)])) rfl (by rw [hml]; rfl) (argsL := [(.int p1), (.int (8192 : Int32)), (.int (8203 : Int32))]) (rest := []) (lenOf pd_2_1 rfl) rfl (by show 2 * 0 + _ ≤ _; exact Nat.le_of_eq rfl) (hb hby d2_78) (fun _ _ => ⟨rfl, rfl, (by decide : 0 + 0 ≤ _), (by decide : 0 + 0 ≤ _)⟩)
  dsimp only [Pt.U, Pt.locs, Pt.cells, Pt.slots] at X5 l5 y5 z5 st5 hQ5
  subst l5 y5 z5
  obtain ⟨rfl, N5q, eh5⟩ := hQ5
  have N5 := Fr.app N4 N5q
  obtain ⟨_, _, ⟨T6, L6, k6, n6⟩, -, X6, ⟨Lc6, hQ6, l6, y6, z6⟩, st6⟩ := Jvm.LawKit.callS X5 hx (y := (⟨"com/example/text_with_triples/textwithtriples/model/NameCharsIsBasePinLaw", "in", "(III)Z"⟩ : MethodName)) hown (mvT hZ (hw _ (List.mem_of_getElem? (i := 20) rfl))) (mvT hZ (hw _ (List.mem_of_getElem? (i := 21) rfl))) (mvT hZ (hw _ (List.mem_of_getElem? (i := 18) rfl))) (mvT hZ (hw _ (List.mem_of_getElem? (i := 22) rfl))) (by decide) (backOf (W := 0) (rm3 l Z a0 hw [] p1 (8206 : Int32) (8303 : Int32) T5.heap n0 (by rw [eh5, eh4, eh3, eh2]; exact Z0)) hZ (hw _ (List.mem_of_getElem? (i := 22) rfl)) (hw _ (List.mem_of_getElem? (i := 18) rfl)) (by decide) (by decide)) (g := (mkF m 91 #[.val (.int p1), .unset] [(.int (8303 : Int32)), (.int (8206 : Int32)), (.int p1)])) rfl (by rw [hml]; rfl) (argsL := [(.int p1), (.int (8206 : Int32)), (.int (8303 : Int32))]) (rest := []) (lenOf pd_2_1 rfl) rfl (by show 2 * 0 + _ ≤ _; exact Nat.le_of_eq rfl) (hb hby d2_91) (fun _ _ => ⟨rfl, rfl, (by decide : 0 + 0 ≤ _), (by decide : 0 + 0 ≤ _)⟩)
  dsimp only [Pt.U, Pt.locs, Pt.cells, Pt.slots] at X6 l6 y6 z6 st6 hQ6
  subst l6 y6 z6
  obtain ⟨rfl, N6q, eh6⟩ := hQ6
  have N6 := Fr.app N5 N6q
  obtain ⟨_, _, ⟨T7, L7, k7, n7⟩, -, X7, ⟨Lc7, hQ7, l7, y7, z7⟩, st7⟩ := Jvm.LawKit.callS X6 hx (y := (⟨"com/example/text_with_triples/textwithtriples/model/NameCharsIsBasePinLaw", "in", "(III)Z"⟩ : MethodName)) hown (mvT hZ (hw _ (List.mem_of_getElem? (i := 20) rfl))) (mvT hZ (hw _ (List.mem_of_getElem? (i := 21) rfl))) (mvT hZ (hw _ (List.mem_of_getElem? (i := 18) rfl))) (mvT hZ (hw _ (List.mem_of_getElem? (i := 22) rfl))) (by decide) (backOf (W := 0) (rm3 l Z a0 hw [] p1 (8592 : Int32) (11263 : Int32) T6.heap n0 (by rw [eh6, eh5, eh4, eh3, eh2]; exact Z0)) hZ (hw _ (List.mem_of_getElem? (i := 22) rfl)) (hw _ (List.mem_of_getElem? (i := 18) rfl)) (by decide) (by decide)) (g := (mkF m 104 #[.val (.int p1), .unset] [(.int (11263 : Int32)), (.int (8592 : Int32)), (.int p1)])) rfl (by rw [hml]; rfl) (argsL := [(.int p1), (.int (8592 : Int32)), (.int (11263 : Int32))]) (rest := []) (lenOf pd_2_1 rfl) rfl (by show 2 * 0 + _ ≤ _; exact Nat.le_of_eq rfl) (hb hby d2_104) (fun _ _ => ⟨rfl, rfl, (by decide : 0 + 0 ≤ _), (by decide : 0 + 0 ≤ _)⟩)
  dsimp only [Pt.U, Pt.locs, Pt.cells, Pt.slots] at X7 l7 y7 z7 st7 hQ7
  subst l7 y7 z7
  obtain ⟨rfl, N7q, eh7⟩ := hQ7
  have N7 := Fr.app N6 N7q
  obtain ⟨_, _, ⟨T8, L8, k8, n8⟩, -, X8, ⟨Lc8, hQ8, l8, y8, z8⟩, st8⟩ := Jvm.LawKit.callS X7 hx (y := (⟨"com/example/text_with_triples/textwithtriples/model/NameCharsIsBasePinLaw", "in", "(III)Z"⟩ : MethodName)) hown (mvT hZ (hw _ (List.mem_of_getElem? (i := 20) rfl))) (mvT hZ (hw _ (List.mem_of_getElem? (i := 21) rfl))) (mvT hZ (hw _ (List.mem_of_getElem? (i := 18) rfl))) (mvT hZ (hw _ (List.mem_of_getElem? (i := 22) rfl))) (by decide) (backOf (W := 0) (rm3 l Z a0 hw [] p1 (12272 : Int32) (12288 : Int32) T7.heap n0 (by rw [eh7, eh6, eh5, eh4, eh3, eh2]; exact Z0)) hZ (hw _ (List.mem_of_getElem? (i := 22) rfl)) (hw _ (List.mem_of_getElem? (i := 18) rfl)) (by decide) (by decide)) (g := (mkF m 117 #[.val (.int p1), .unset] [(.int (12288 : Int32)), (.int (12272 : Int32)), (.int p1)])) rfl (by rw [hml]; rfl) (argsL := [(.int p1), (.int (12272 : Int32)), (.int (12288 : Int32))]) (rest := []) (lenOf pd_2_1 rfl) rfl (by show 2 * 0 + _ ≤ _; exact Nat.le_of_eq rfl) (hb hby d2_117) (fun _ _ => ⟨rfl, rfl, (by decide : 0 + 0 ≤ _), (by decide : 0 + 0 ≤ _)⟩)
  dsimp only [Pt.U, Pt.locs, Pt.cells, Pt.slots] at X8 l8 y8 z8 st8 hQ8
  subst l8 y8 z8
  obtain ⟨rfl, N8q, eh8⟩ := hQ8
  have N8 := Fr.app N7 N8q
  obtain ⟨_, _, ⟨T9, L9, k9, n9⟩, -, X9, ⟨Lc9, hQ9, l9, y9, z9⟩, st9⟩ := Jvm.LawKit.callS X8 hx (y := (⟨"com/example/text_with_triples/textwithtriples/model/NameCharsIsBasePinLaw", "in", "(III)Z"⟩ : MethodName)) hown (mvT hZ (hw _ (List.mem_of_getElem? (i := 20) rfl))) (mvT hZ (hw _ (List.mem_of_getElem? (i := 21) rfl))) (mvT hZ (hw _ (List.mem_of_getElem? (i := 18) rfl))) (mvT hZ (hw _ (List.mem_of_getElem? (i := 22) rfl))) (by decide) (backOf (W := 0) (rm3 l Z a0 hw [] p1 (55296 : Int32) (63743 : Int32) T8.heap n0 (by rw [eh8, eh7, eh6, eh5, eh4, eh3, eh2]; exact Z0)) hZ (hw _ (List.mem_of_getElem? (i := 22) rfl)) (hw _ (List.mem_of_getElem? (i := 18) rfl)) (by decide) (by decide)) (g := (mkF m 128 #[.val (.int p1), .unset] [(.int (63743 : Int32)), (.int (55296 : Int32)), (.int p1)])) rfl (by rw [hml]; rfl) (argsL := [(.int p1), (.int (55296 : Int32)), (.int (63743 : Int32))]) (rest := []) (lenOf pd_2_1 rfl) rfl (by show 2 * 0 + _ ≤ _; exact Nat.le_of_eq rfl) (hb hby d2_128) (fun _ _ => ⟨rfl, rfl, (by decide : 0 + 0 ≤ _), (by decide : 0 + 0 ≤ _)⟩)
  dsimp only [Pt.U, Pt.locs, Pt.cells, Pt.slots] at X9 l9 y9 z9 st9 hQ9
  subst l9 y9 z9
  obtain ⟨rfl, N9q, eh9⟩ := hQ9
  have N9 := Fr.app N8 N9q
  obtain ⟨_, _, ⟨T10, L10, k10, n10⟩, -, X10, ⟨Lc10, hQ10, l10, y10, z10⟩, st10⟩ := Jvm.LawKit.callS X9 hx (y := (⟨"com/example/text_with_triples/textwithtriples/model/NameCharsIsBasePinLaw", "in", "(III)Z"⟩ : MethodName)) hown (mvT hZ (hw _ (List.mem_of_getElem? (i := 20) rfl))) (mvT hZ (hw _ (List.mem_of_getElem? (i := 21) rfl))) (mvT hZ (hw _ (List.mem_of_getElem? (i := 18) rfl))) (mvT hZ (hw _ (List.mem_of_getElem? (i := 22) rfl))) (by decide) (backOf (W := 0) (rm3 l Z a0 hw [] p1 (64976 : Int32) (65007 : Int32) T9.heap n0 (by rw [eh9, eh8, eh7, eh6, eh5, eh4, eh3, eh2]; exact Z0)) hZ (hw _ (List.mem_of_getElem? (i := 22) rfl)) (hw _ (List.mem_of_getElem? (i := 18) rfl)) (by decide) (by decide)) (g := (mkF m 139 #[.val (.int p1), .unset] [(.int (65007 : Int32)), (.int (64976 : Int32)), (.int p1)])) rfl (by rw [hml]; rfl) (argsL := [(.int p1), (.int (64976 : Int32)), (.int (65007 : Int32))]) (rest := []) (lenOf pd_2_1 rfl) rfl (by show 2 * 0 + _ ≤ _; exact Nat.le_of_eq rfl) (hb hby d2_139) (fun _ _ => ⟨rfl, rfl, (by decide : 0 + 0 ≤ _), (by decide : 0 + 0 ≤ _)⟩)
  dsimp only [Pt.U, Pt.locs, Pt.cells, Pt.slots] at X10 l10 y10 z10 st10 hQ10
  subst l10 y10 z10
  obtain ⟨rfl, N10q, eh10⟩ := hQ10
  have N10 := Fr.app N9 N10q
  obtain ⟨_, _, ⟨T11, L11, k11, n11⟩, -, X11, ⟨Lc11, hQ11, l11, y11, z11⟩, st11⟩ := Jvm.LawKit.callS X10 hx (y := (⟨"com/example/text_with_triples/textwithtriples/model/NameCharsIsBasePinLaw", "in", "(III)Z"⟩ : MethodName)) hown (mvT hZ (hw _ (List.mem_of_getElem? (i := 20) rfl))) (mvT hZ (hw _ (List.mem_of_getElem? (i := 21) rfl))) (mvT hZ (hw _ (List.mem_of_getElem? (i := 18) rfl))) (mvT hZ (hw _ (List.mem_of_getElem? (i := 22) rfl))) (by decide) (backOf (W := 0) (rm3 l Z a0 hw [] p1 (65534 : Int32) (65535 : Int32) T10.heap n0 (by rw [eh10, eh9, eh8, eh7, eh6, eh5, eh4, eh3, eh2]; exact Z0)) hZ (hw _ (List.mem_of_getElem? (i := 22) rfl)) (hw _ (List.mem_of_getElem? (i := 18) rfl)) (by decide) (by decide)) (g := (mkF m 150 #[.val (.int p1), .unset] [(.int (65535 : Int32)), (.int (65534 : Int32)), (.int p1)])) rfl (by rw [hml]; rfl) (argsL := [(.int p1), (.int (65534 : Int32)), (.int (65535 : Int32))]) (rest := []) (lenOf pd_2_1 rfl) rfl (by show 2 * 0 + _ ≤ _; exact Nat.le_of_eq rfl) (hb hby d2_150) (fun _ _ => ⟨rfl, rfl, (by decide : 0 + 0 ≤ _), (by decide : 0 + 0 ≤ _)⟩)
  dsimp only [Pt.U, Pt.locs, Pt.cells, Pt.slots] at X11 l11 y11 z11 st11 hQ11
  subst l11 y11 z11
  obtain ⟨rfl, N11q, eh11⟩ := hQ11
  have N11 := Fr.app N10 N11q
  obtain ⟨fs, hr, hrun, hended, hW, hsame⟩ := X11.leave (v := some (.int (1 : Int32))) (fun h => by rw [Bd.returns] at h; cases h)
  refine ⟨_, _, pre0 _ ?_, hrun, hended, _, _, rfl, ?_, ⟨_, rfl⟩, hW, hsame.mono (by decide) (by decide)⟩
  · show Steps p.tables e below (s₁.setTop (mkF m 0 #[.val (.int p1), .unset] [])) _
    refine XS.iloadN X0.here hx rfl (hb hby d2_0) rfl ?_
    show Steps p.tables e below (s₁.setTop (mkF m 1 #[.val (.int p1), .unset] [(.int p1)])) _
    refine XS.bipush X0.here hx rfl (hb hby d2_1) ?_
    show Steps p.tables e below (s₁.setTop (mkF m 3 #[.val (.int p1), .unset] [(.int (65 : Int32)), (.int p1)])) _
    refine XS.icmpNo X0.here hx rfl (hb hby d2_3) rfl (flt hc3).1 ?_
    show Steps p.tables e below (s₁.setTop (mkF m 6 #[.val (.int p1), .unset] [])) _
    refine XS.iloadN X0.here hx rfl (hb hby d2_6) rfl ?_
    show Steps p.tables e below (s₁.setTop (mkF m 7 #[.val (.int p1), .unset] [(.int p1)])) _
    refine X0.ldcInt hx hown (mvT hZ (hw _ (List.mem_of_getElem? (i := 7) rfl))) (g := (mkF m 7 #[.val (.int p1), .unset] [(.int p1)])) rfl (hb hby d2_7) _ ?_
    show Steps p.tables e below (s₁.setTop (mkF m 9 #[.val (.int p1), .unset] [(.int (983039 : Int32)), (.int p1)])) _
    refine XS.icmpYes X0.here hx rfl (pc0 := 9) (pc' := 14) rfl (hb hby d2_9) rfl (flt hc9).2.2.2 (by decide) (by decide) ?_
    show Steps p.tables e below (s₁.setTop (mkF m 14 #[.val (.int p1), .unset] [])) _
    refine XS.iloadN X0.here hx rfl (hb hby d2_14) rfl ?_
    show Steps p.tables e below (s₁.setTop (mkF m 15 #[.val (.int p1), .unset] [(.int p1)])) _
    refine XS.bipush X0.here hx rfl (hb hby d2_15) ?_
    show Steps p.tables e below (s₁.setTop (mkF m 17 #[.val (.int p1), .unset] [(.int (91 : Int32)), (.int p1)])) _
    refine XS.bipush X0.here hx rfl (hb hby d2_17) ?_
    show Steps p.tables e below (s₁.setTop (mkF m 19 #[.val (.int p1), .unset] [(.int (96 : Int32)), (.int (91 : Int32)), (.int p1)])) _
    refine st2 _ ?_
    show Steps p.tables e below (T2.setTop (mkF m 22 #[.val (.int p1), .unset] [(.int (own_in p1 (91 : Int32) (96 : Int32)))])) _
    refine XS.ifNo X2.here hx rfl (hb hby d2_22) rfl ((if0 _ _).trans (teq (g0 : (own_in p1 (91 : Int32) (96 : Int32)) = (0 : Int32))).2) ?_
    show Steps p.tables e below (T2.setTop (mkF m 25 #[.val (.int p1), .unset] [])) _
    refine XS.iloadN X2.here hx rfl (hb hby d2_25) rfl ?_
    show Steps p.tables e below (T2.setTop (mkF m 26 #[.val (.int p1), .unset] [(.int p1)])) _
    refine XS.bipush X2.here hx rfl (hb hby d2_26) ?_
    show Steps p.tables e below (T2.setTop (mkF m 28 #[.val (.int p1), .unset] [(.int (123 : Int32)), (.int p1)])) _
    refine XS.sipush X2.here hx rfl (hb hby d2_28) ?_
    show Steps p.tables e below (T2.setTop (mkF m 31 #[.val (.int p1), .unset] [(.int (191 : Int32)), (.int (123 : Int32)), (.int p1)])) _
    refine st3 _ ?_
    show Steps p.tables e below (T3.setTop (mkF m 34 #[.val (.int p1), .unset] [(.int (own_in p1 (123 : Int32) (191 : Int32)))])) _
    refine XS.ifNo X3.here hx rfl (hb hby d2_34) rfl ((if0 _ _).trans (teq (g1 : (own_in p1 (123 : Int32) (191 : Int32)) = (0 : Int32))).2) ?_
    show Steps p.tables e below (T3.setTop (mkF m 37 #[.val (.int p1), .unset] [])) _
    refine XS.iloadN X3.here hx rfl (hb hby d2_37) rfl ?_
    show Steps p.tables e below (T3.setTop (mkF m 38 #[.val (.int p1), .unset] [(.int p1)])) _
    refine XS.sipush X3.here hx rfl (hb hby d2_38) ?_
    show Steps p.tables e below (T3.setTop (mkF m 41 #[.val (.int p1), .unset] [(.int (215 : Int32)), (.int p1)])) _
    refine XS.icmpNo X3.here hx rfl (hb hby d2_41) rfl (feq hc41).1 ?_
    show Steps p.tables e below (T3.setTop (mkF m 44 #[.val (.int p1), .unset] [])) _
    refine XS.iloadN X3.here hx rfl (hb hby d2_44) rfl ?_
    show Steps p.tables e below (T3.setTop (mkF m 45 #[.val (.int p1), .unset] [(.int p1)])) _
    refine XS.sipush X3.here hx rfl (hb hby d2_45) ?_
    show Steps p.tables e below (T3.setTop (mkF m 48 #[.val (.int p1), .unset] [(.int (247 : Int32)), (.int p1)])) _
    refine XS.icmpNo X3.here hx rfl (hb hby d2_48) rfl (feq hc48).1 ?_
    show Steps p.tables e below (T3.setTop (mkF m 51 #[.val (.int p1), .unset] [])) _
    refine XS.iloadN X3.here hx rfl (hb hby d2_51) rfl ?_
    show Steps p.tables e below (T3.setTop (mkF m 52 #[.val (.int p1), .unset] [(.int p1)])) _
    refine XS.sipush X3.here hx rfl (hb hby d2_52) ?_
    show Steps p.tables e below (T3.setTop (mkF m 55 #[.val (.int p1), .unset] [(.int (768 : Int32)), (.int p1)])) _
    refine XS.sipush X3.here hx rfl (hb hby d2_55) ?_
    show Steps p.tables e below (T3.setTop (mkF m 58 #[.val (.int p1), .unset] [(.int (879 : Int32)), (.int (768 : Int32)), (.int p1)])) _
    refine st4 _ ?_
    show Steps p.tables e below (T4.setTop (mkF m 61 #[.val (.int p1), .unset] [(.int (own_in p1 (768 : Int32) (879 : Int32)))])) _
    refine XS.ifNo X4.here hx rfl (hb hby d2_61) rfl ((if0 _ _).trans (teq (g4 : (own_in p1 (768 : Int32) (879 : Int32)) = (0 : Int32))).2) ?_
    show Steps p.tables e below (T4.setTop (mkF m 64 #[.val (.int p1), .unset] [])) _
    refine XS.iloadN X4.here hx rfl (hb hby d2_64) rfl ?_
    show Steps p.tables e below (T4.setTop (mkF m 65 #[.val (.int p1), .unset] [(.int p1)])) _
    refine XS.sipush X4.here hx rfl (hb hby d2_65) ?_
    show Steps p.tables e below (T4.setTop (mkF m 68 #[.val (.int p1), .unset] [(.int (894 : Int32)), (.int p1)])) _
    refine XS.icmpNo X4.here hx rfl (hb hby d2_68) rfl (feq hc68).1 ?_
    show Steps p.tables e below (T4.setTop (mkF m 71 #[.val (.int p1), .unset] [])) _
    refine XS.iloadN X4.here hx rfl (hb hby d2_71) rfl ?_
    show Steps p.tables e below (T4.setTop (mkF m 72 #[.val (.int p1), .unset] [(.int p1)])) _
    refine XS.sipush X4.here hx rfl (hb hby d2_72) ?_
    show Steps p.tables e below (T4.setTop (mkF m 75 #[.val (.int p1), .unset] [(.int (8192 : Int32)), (.int p1)])) _
    refine XS.sipush X4.here hx rfl (hb hby d2_75) ?_
    show Steps p.tables e below (T4.setTop (mkF m 78 #[.val (.int p1), .unset] [(.int (8203 : Int32)), (.int (8192 : Int32)), (.int p1)])) _
    refine st5 _ ?_
    show Steps p.tables e below (T5.setTop (mkF m 81 #[.val (.int p1), .unset] [(.int (own_in p1 (8192 : Int32) (8203 : Int32)))])) _
    refine XS.ifNo X5.here hx rfl (hb hby d2_81) rfl ((if0 _ _).trans (teq (g6 : (own_in p1 (8192 : Int32) (8203 : Int32)) = (0 : Int32))).2) ?_
    show Steps p.tables e below (T5.setTop (mkF m 84 #[.val (.int p1), .unset] [])) _
    refine XS.iloadN X5.here hx rfl (hb hby d2_84) rfl ?_
    show Steps p.tables e below (T5.setTop (mkF m 85 #[.val (.int p1), .unset] [(.int p1)])) _
    refine XS.sipush X5.here hx rfl (hb hby d2_85) ?_
    show Steps p.tables e below (T5.setTop (mkF m 88 #[.val (.int p1), .unset] [(.int (8206 : Int32)), (.int p1)])) _
    refine XS.sipush X5.here hx rfl (hb hby d2_88) ?_
    show Steps p.tables e below (T5.setTop (mkF m 91 #[.val (.int p1), .unset] [(.int (8303 : Int32)), (.int (8206 : Int32)), (.int p1)])) _
    refine st6 _ ?_
    show Steps p.tables e below (T6.setTop (mkF m 94 #[.val (.int p1), .unset] [(.int (own_in p1 (8206 : Int32) (8303 : Int32)))])) _
    refine XS.ifNo X6.here hx rfl (hb hby d2_94) rfl ((if0 _ _).trans (teq (g7 : (own_in p1 (8206 : Int32) (8303 : Int32)) = (0 : Int32))).2) ?_
    show Steps p.tables e below (T6.setTop (mkF m 97 #[.val (.int p1), .unset] [])) _
    refine XS.iloadN X6.here hx rfl (hb hby d2_97) rfl ?_
    show Steps p.tables e below (T6.setTop (mkF m 98 #[.val (.int p1), .unset] [(.int p1)])) _
    refine XS.sipush X6.here hx rfl (hb hby d2_98) ?_
    show Steps p.tables e below (T6.setTop (mkF m 101 #[.val (.int p1), .unset] [(.int (8592 : Int32)), (.int p1)])) _
    refine XS.sipush X6.here hx rfl (hb hby d2_101) ?_
    show Steps p.tables e below (T6.setTop (mkF m 104 #[.val (.int p1), .unset] [(.int (11263 : Int32)), (.int (8592 : Int32)), (.int p1)])) _
    refine st7 _ ?_
    show Steps p.tables e below (T7.setTop (mkF m 107 #[.val (.int p1), .unset] [(.int (own_in p1 (8592 : Int32) (11263 : Int32)))])) _
    refine XS.ifNo X7.here hx rfl (hb hby d2_107) rfl ((if0 _ _).trans (teq (g8 : (own_in p1 (8592 : Int32) (11263 : Int32)) = (0 : Int32))).2) ?_
    show Steps p.tables e below (T7.setTop (mkF m 110 #[.val (.int p1), .unset] [])) _
    refine XS.iloadN X7.here hx rfl (hb hby d2_110) rfl ?_
    show Steps p.tables e below (T7.setTop (mkF m 111 #[.val (.int p1), .unset] [(.int p1)])) _
    refine XS.sipush X7.here hx rfl (hb hby d2_111) ?_
    show Steps p.tables e below (T7.setTop (mkF m 114 #[.val (.int p1), .unset] [(.int (12272 : Int32)), (.int p1)])) _
    refine XS.sipush X7.here hx rfl (hb hby d2_114) ?_
    show Steps p.tables e below (T7.setTop (mkF m 117 #[.val (.int p1), .unset] [(.int (12288 : Int32)), (.int (12272 : Int32)), (.int p1)])) _
    refine st8 _ ?_
    show Steps p.tables e below (T8.setTop (mkF m 120 #[.val (.int p1), .unset] [(.int (own_in p1 (12272 : Int32) (12288 : Int32)))])) _
    refine XS.ifNo X8.here hx rfl (hb hby d2_120) rfl ((if0 _ _).trans (teq (g9 : (own_in p1 (12272 : Int32) (12288 : Int32)) = (0 : Int32))).2) ?_
    show Steps p.tables e below (T8.setTop (mkF m 123 #[.val (.int p1), .unset] [])) _
    refine XS.iloadN X8.here hx rfl (hb hby d2_123) rfl ?_
    show Steps p.tables e below (T8.setTop (mkF m 124 #[.val (.int p1), .unset] [(.int p1)])) _
    refine X8.ldcInt hx hown (mvT hZ (hw _ (List.mem_of_getElem? (i := 23) rfl))) (g := (mkF m 124 #[.val (.int p1), .unset] [(.int p1)])) rfl (hb hby d2_124) _ ?_
    show Steps p.tables e below (T8.setTop (mkF m 126 #[.val (.int p1), .unset] [(.int (55296 : Int32)), (.int p1)])) _
    refine X8.ldcInt hx hown (mvT hZ (hw _ (List.mem_of_getElem? (i := 24) rfl))) (g := (mkF m 126 #[.val (.int p1), .unset] [(.int (55296 : Int32)), (.int p1)])) rfl (hb hby d2_126) _ ?_
    show Steps p.tables e below (T8.setTop (mkF m 128 #[.val (.int p1), .unset] [(.int (63743 : Int32)), (.int (55296 : Int32)), (.int p1)])) _
    refine st9 _ ?_
    show Steps p.tables e below (T9.setTop (mkF m 131 #[.val (.int p1), .unset] [(.int (own_in p1 (55296 : Int32) (63743 : Int32)))])) _
    refine XS.ifNo X9.here hx rfl (hb hby d2_131) rfl ((if0 _ _).trans (teq (g10 : (own_in p1 (55296 : Int32) (63743 : Int32)) = (0 : Int32))).2) ?_
    show Steps p.tables e below (T9.setTop (mkF m 134 #[.val (.int p1), .unset] [])) _
    refine XS.iloadN X9.here hx rfl (hb hby d2_134) rfl ?_
    show Steps p.tables e below (T9.setTop (mkF m 135 #[.val (.int p1), .unset] [(.int p1)])) _
    refine X9.ldcInt hx hown (mvT hZ (hw _ (List.mem_of_getElem? (i := 25) rfl))) (g := (mkF m 135 #[.val (.int p1), .unset] [(.int p1)])) rfl (hb hby d2_135) _ ?_
    show Steps p.tables e below (T9.setTop (mkF m 137 #[.val (.int p1), .unset] [(.int (64976 : Int32)), (.int p1)])) _
    refine X9.ldcInt hx hown (mvT hZ (hw _ (List.mem_of_getElem? (i := 26) rfl))) (g := (mkF m 137 #[.val (.int p1), .unset] [(.int (64976 : Int32)), (.int p1)])) rfl (hb hby d2_137) _ ?_
    show Steps p.tables e below (T9.setTop (mkF m 139 #[.val (.int p1), .unset] [(.int (65007 : Int32)), (.int (64976 : Int32)), (.int p1)])) _
    refine st10 _ ?_
    show Steps p.tables e below (T10.setTop (mkF m 142 #[.val (.int p1), .unset] [(.int (own_in p1 (64976 : Int32) (65007 : Int32)))])) _
    refine XS.ifNo X10.here hx rfl (hb hby d2_142) rfl ((if0 _ _).trans (teq (g11 : (own_in p1 (64976 : Int32) (65007 : Int32)) = (0 : Int32))).2) ?_
    show Steps p.tables e below (T10.setTop (mkF m 145 #[.val (.int p1), .unset] [])) _
    refine XS.iloadN X10.here hx rfl (hb hby d2_145) rfl ?_
    show Steps p.tables e below (T10.setTop (mkF m 146 #[.val (.int p1), .unset] [(.int p1)])) _
    refine X10.ldcInt hx hown (mvT hZ (hw _ (List.mem_of_getElem? (i := 27) rfl))) (g := (mkF m 146 #[.val (.int p1), .unset] [(.int p1)])) rfl (hb hby d2_146) _ ?_
    show Steps p.tables e below (T10.setTop (mkF m 148 #[.val (.int p1), .unset] [(.int (65534 : Int32)), (.int p1)])) _
    refine X10.ldcInt hx hown (mvT hZ (hw _ (List.mem_of_getElem? (i := 28) rfl))) (g := (mkF m 148 #[.val (.int p1), .unset] [(.int (65534 : Int32)), (.int p1)])) rfl (hb hby d2_148) _ ?_
    show Steps p.tables e below (T10.setTop (mkF m 150 #[.val (.int p1), .unset] [(.int (65535 : Int32)), (.int (65534 : Int32)), (.int p1)])) _
    refine st11 _ ?_
    show Steps p.tables e below (T11.setTop (mkF m 153 #[.val (.int p1), .unset] [(.int (own_in p1 (65534 : Int32) (65535 : Int32)))])) _
    refine XS.ifYes X11.here hx rfl (pc0 := 153) (pc' := 160) rfl (hb hby d2_153) rfl ((if0 _ _).trans (teq (g12 : (own_in p1 (65534 : Int32) (65535 : Int32)) = (0 : Int32))).1) (by decide) (by decide) ?_
    show Steps p.tables e below (T11.setTop (mkF m 160 #[.val (.int p1), .unset] [])) _
    refine XS.iconst X11.here hx rfl (hb hby d2_160) ?_
    show Steps p.tables e below (T11.setTop (mkF m 161 #[.val (.int p1), .unset] [(.int (0 : Int32))])) _
    refine XS.istoreN X11.here hx rfl (hb hby d2_161) rfl (l' := #[.val (.int p1), .val (.int (0 : Int32))]) rfl ?_
    show Steps p.tables e below (T11.setTop (mkF m 162 #[.val (.int p1), .val (.int (0 : Int32))] [])) _
    refine XS.iloadN X11.here hx rfl (hb hby d2_162) rfl ?_
    show Steps p.tables e below (T11.setTop (mkF m 163 #[.val (.int p1), .val (.int (0 : Int32))] [(.int (0 : Int32))])) _
    refine XS.ifNo X11.here hx rfl (hb hby d2_163) rfl ((if0 _ _).trans (teq (rfl : (0 : Int32) = (0 : Int32))).2) ?_
    show Steps p.tables e below (T11.setTop (mkF m 166 #[.val (.int p1), .val (.int (0 : Int32))] [])) _
    refine XS.iconst X11.here hx rfl (hb hby d2_166) ?_
    show Steps p.tables e below (T11.setTop (mkF m 167 #[.val (.int p1), .val (.int (0 : Int32))] [(.int (1 : Int32))])) _
    refine XS.goto X11.here hx rfl (pc0 := 167) (pc' := 171) rfl (hb hby d2_167) (by decide) (by decide) ?_
    show Steps p.tables e below (T11.setTop (mkF m 171 #[.val (.int p1), .val (.int (0 : Int32))] [(.int (1 : Int32))])) _
    exact retN X11 hx (t := .boolean) Bd.returns (by simp) (hb hby d2_171) hr
  · show Q2 Z p1 h0 n0 _ T11.heap _
    exact ⟨by rw [own_none p1 hc3 hc9 g0 g1 hc41 hc48 g4 hc68 g6 g7 g8 g9 g10 g11 g12], N11, ((((((((eh11.trans eh10).trans eh9).trans eh8).trans eh7).trans eh6).trans eh5).trans eh4).trans eh3).trans eh2⟩
set_option maxRecDepth 65536 in
set_option maxHeartbeats 40000000 in
theorem rm2 (l : Launch) (Z : State) (a0 : Array Value) (hw : ∀ d ∈ tables_1, d.before a0 Z = true) (ws : List Jvm.Cond) (p1 : Int32) (h0 : Heap) (n0 : Nat) (Z0 : n0 ≤ h0.size) :
    MetFree l (⟨"com/example/text_with_triples/textwithtriples/model/NameCharsIsBasePinLaw", "ref", "(I)Z"⟩ : MethodName) (head1 (Jvm.Cond.code (⟨"com/example/text_with_triples/textwithtriples/model/NameCharsIsBasePinLaw", "ref", "(I)Z"⟩ : MethodName) method_3_code 2 (some .boolean) :: ws) ({ frames := 1, cells := 0, slots := 0, locals := 14 } : Room)) (fun a U => a = #[(.int p1)] ∧ Z.Warmed39 U.vm ∧ U.heap = h0) (fun _ _ _ _ _ => True) (fun _ U o U' => ∃ v L, o = .returned v ∧ Q2 Z p1 h0 n0 v U'.heap L ∧ FrameEnd U o U' L ({ frames := 1, cells := 0, slots := 0, locals := 14 } : Room).cells ({ frames := 1, cells := 0, slots := 0, locals := 14 } : Room).slots) := by
  by_cases h3 : p1 < (65 : Int32)
  · exact rm2_lo l Z a0 hw ws p1 h0 n0 Z0 h3
  by_cases h9 : (983039 : Int32) < p1
  · exact rm2_hi l Z a0 hw ws p1 h0 n0 Z0 h3 h9
  by_cases x0 : own_in p1 (91 : Int32) (96 : Int32) = (0 : Int32)
  case neg => exact rm2_0 l Z a0 hw ws p1 h0 n0 Z0 x0 h3 h9  (by decide)
  by_cases x1 : own_in p1 (123 : Int32) (191 : Int32) = (0 : Int32)
  case neg => exact rm2_1 l Z a0 hw ws p1 h0 n0 Z0 x0 x1 h3 h9  (by decide)
  by_cases x2 : p1 = (215 : Int32)
  case pos => exact rm2_2 l Z a0 hw ws p1 h0 n0 Z0 x0 x1 h3 h9 x2 (by decide)
  by_cases x3 : p1 = (247 : Int32)
  case pos => exact rm2_3 l Z a0 hw ws p1 h0 n0 Z0 x0 x1 h3 h9 x2 x3 (by decide)
  by_cases x4 : own_in p1 (768 : Int32) (879 : Int32) = (0 : Int32)
  case neg => exact rm2_4 l Z a0 hw ws p1 h0 n0 Z0 x0 x1 x4 h3 h9 x2 x3 (by decide)
  by_cases x5 : p1 = (894 : Int32)
  case pos => exact rm2_5 l Z a0 hw ws p1 h0 n0 Z0 x0 x1 x4 h3 h9 x2 x3 x5 (by decide)
  by_cases x6 : own_in p1 (8192 : Int32) (8203 : Int32) = (0 : Int32)
  case neg => exact rm2_6 l Z a0 hw ws p1 h0 n0 Z0 x0 x1 x4 x6 h3 h9 x2 x3 x5 (by decide)
  by_cases x7 : own_in p1 (8206 : Int32) (8303 : Int32) = (0 : Int32)
  case neg => exact rm2_7 l Z a0 hw ws p1 h0 n0 Z0 x0 x1 x4 x6 x7 h3 h9 x2 x3 x5 (by decide)
  by_cases x8 : own_in p1 (8592 : Int32) (11263 : Int32) = (0 : Int32)
  case neg => exact rm2_8 l Z a0 hw ws p1 h0 n0 Z0 x0 x1 x4 x6 x7 x8 h3 h9 x2 x3 x5 (by decide)
  by_cases x9 : own_in p1 (12272 : Int32) (12288 : Int32) = (0 : Int32)
  case neg => exact rm2_9 l Z a0 hw ws p1 h0 n0 Z0 x0 x1 x4 x6 x7 x8 x9 h3 h9 x2 x3 x5 (by decide)
  by_cases x10 : own_in p1 (55296 : Int32) (63743 : Int32) = (0 : Int32)
  case neg => exact rm2_10 l Z a0 hw ws p1 h0 n0 Z0 x0 x1 x4 x6 x7 x8 x9 x10 h3 h9 x2 x3 x5 (by decide)
  by_cases x11 : own_in p1 (64976 : Int32) (65007 : Int32) = (0 : Int32)
  case neg => exact rm2_11 l Z a0 hw ws p1 h0 n0 Z0 x0 x1 x4 x6 x7 x8 x9 x10 x11 h3 h9 x2 x3 x5 (by decide)
  by_cases x12 : own_in p1 (65534 : Int32) (65535 : Int32) = (0 : Int32)
  case neg => exact rm2_12 l Z a0 hw ws p1 h0 n0 Z0 x0 x1 x4 x6 x7 x8 x9 x10 x11 x12 h3 h9 x2 x3 x5 (by decide)
  exact rm2_none l Z a0 hw ws p1 h0 n0 Z0 x0 x1 x4 x6 x7 x8 x9 x10 x11 x12 h3 h9 x2 x3 x5
theorem pn_0 : plainName "com/example/text_with_triples/textwithtriples/model/NameCharsIsBasePinLaw" = true := by first | (simp [plainName, overriddenIn]; done) | decide +kernel
theorem pd_0_0 : parseMethodDescriptor "(I)Z" = some ⟨[.int], some .boolean⟩ := by decide +kernel
theorem ef_0 (m : MethodId) (x0 : Int32) (x1 : Int32) (x2 : Int32) : entryFrame m #[(.int x0), (.int x1), (.int x2)] maxLocals = mkF m 0 #[.val (.int x0), .val (.int x1), .val (.int x2), .unset, .unset] [] := by first | (simp [entryFrame, mkF, argsToLocals, Value.category, maxLocals]; done) | rfl
def Q0 (Z : State) (p1 : Int32) (p2 : Int32) (p3 : Int32) (h0 : Heap) (n0 : Nat) (v : Option Value) (h : Heap) (L : List Loc) : Prop := v = some (.int (1 : Int32)) ∧ Fr n0 L
set_option maxRecDepth 65536 in
set_option maxHeartbeats 40000000 in
theorem rm0 (l : Launch) (Z : State) (a0 : Array Value) (hw : ∀ d ∈ tables_1, d.before a0 Z = true) (ws : List Jvm.Cond) (p1 : Int32) (p2 : Int32) (p3 : Int32) (h0 : Heap) (n0 : Nat) (Z0 : n0 ≤ h0.size) :
    MetFree l x (head1 (Jvm.Cond.code x code maxLocals ret :: ws) room_1) (fun a U => a = #[(.int p1), (.int p2), (.int p3)] ∧ Z.Warmed39 U.vm ∧ U.heap = h0) (fun _ _ _ _ _ => True) (fun _ U o U' => ∃ v L, o = .returned v ∧ Q0 Z p1 p2 p3 h0 n0 v U'.heap L ∧ FrameEnd U o U' L room_1.cells room_1.slots) := by
  refine MetFree.of_bodySF (plainFor_of_name pn_0) hisR ?_
  intro p e s m args below meth c s₁ Bd hml0 hP hK
  obtain ⟨rfl, hZ, hh⟩ := hP
  have hx := Bd.exec
  have hby := Bd.bytes
  have hml : c.maxLocals = 5 := hml0
  have hown : s.vm.findClass "com/example/text_with_triples/textwithtriples/model/NameCharsIsBasePinLaw" = some m.cls := findClass_of_methodNamed Bd.named
  have hnm := (name_of_methodNamed Bd.named Bd.method).1
  have X0 : Stand p l e room_1 s m #[(.int p1), (.int p2), (.int p3)] below meth c s₁ [] 0 0 := Stand.of_body Bd
  have e0 : s₁.heap = h0 := by rw [← hh, Bd.state]; rfl
  have N0 := Fr.nil n0
  have pre0 : ∀ t, Steps p.tables e below (s₁.setTop (mkF m 0 #[.val (.int p1), .val (.int p2), .val (.int p3), .unset, .unset] [])) t → Steps p.tables e below (s₁.setTop (entryFrame m #[(.int p1), (.int p2), (.int p3)] maxLocals)) t := fun t k => castTop (ef_0 m p1 p2 p3) k
  obtain ⟨T4, h4, k4, X4, e4, E4, A4, st4⟩ := newP X0 hx hZ (hw _ (List.mem_of_getElem? (i := 0) rfl)) e0 (g := (mkF m 2 #[.val (.int p1), .val (.int p2), .val (.int p3), .unset, .unset] [(.int (28 : Int32))])) rfl (hb hby at_2) rfl (by decide) (cap := 28) (by decide) (by decide) (by decide) (by decide)
  obtain ⟨b4, g4⟩ : ∃ z, z = h0.size := ⟨_, rfl⟩
  rw [← g4] at A4 st4
  have V_b4 : Arv Z h4 b4 k4 .int (28 : Int32) [(.int (0 : Int32)), (.int (0 : Int32)), (.int (0 : Int32)), (.int (0 : Int32)), (.int (0 : Int32)), (.int (0 : Int32)), (.int (0 : Int32)), (.int (0 : Int32)), (.int (0 : Int32)), (.int (0 : Int32)), (.int (0 : Int32)), (.int (0 : Int32)), (.int (0 : Int32)), (.int (0 : Int32)), (.int (0 : Int32)), (.int (0 : Int32)), (.int (0 : Int32)), (.int (0 : Int32)), (.int (0 : Int32)), (.int (0 : Int32)), (.int (0 : Int32)), (.int (0 : Int32)), (.int (0 : Int32)), (.int (0 : Int32)), (.int (0 : Int32)), (.int (0 : Int32)), (.int (0 : Int32)), (.int (0 : Int32))] (.int (0 : Int32)) := (Arv.new A4 (by decide)).pad (pad_rep [] (.int (0 : Int32)) 28)
  obtain ⟨vs4, hl4, V_b4⟩ : ∃ vs : List Value, vs.length = 28 ∧ Arv Z h4 b4 k4 .int (28 : Int32) vs (.int (0 : Int32)) := ⟨_, rfl, V_b4⟩
  have g_b4 : n0 ≤ b4 := Nat.le_trans Z0 (Nat.le_of_eq g4.symm)
  have sz_b4 : h0.size ≤ b4 := (Nat.le_trans (Keep.refl h0 []).1 (Nat.le_of_eq g4.symm))
  have K4 : Keep h0 h4 [] := (Keep.refl h0 []).ext E4
  obtain ⟨cl_b4_8, Ar_b4, q_b4, S_b4, N_b4, H_b4, G_b4⟩ := V_b4
  have hin8 : ¬ ((0 : Int32) < 0 ∨ cl_b4_8.slots.size ≤ ((0 : Int32)).toNatClampNeg) := inb_of S_b4 ⟨by decide, by decide⟩
  obtain ⟨T5, h5, X5, e5, W5, st5⟩ := stI X4 hx hZ e4 Ar_b4 (j := (0 : Int32)) hin8 (g := (mkF m 8 #[.val (.int p1), .val (.int p2), .val (.int p3), .unset, .unset] [(.int (65 : Int32)), (.int (0 : Int32)), (.ref b4), (.ref b4)])) rfl rfl (hb hby at_8)
  obtain ⟨vs5, hl5, V_b4_5⟩ := own_store Ar_b4 q_b4 S_b4 N_b4 H_b4 G_b4 rfl W5 0 rfl hl4 (by decide)
  have K5 : Keep h0 h5 [] := K4.wr W5 (Or.inr sz_b4)
  have N5 := Fr.snoc X5 N0 g_b4
  obtain ⟨cl_b4_13, Ar_b4, q_b4, S_b4, N_b4, H_b4, G_b4⟩ := V_b4_5
  have hin13 : ¬ ((1 : Int32) < 0 ∨ cl_b4_13.slots.size ≤ ((1 : Int32)).toNatClampNeg) := inb_of S_b4 ⟨by decide, by decide⟩
  obtain ⟨T6, h6, X6, e6, W6, st6⟩ := stI X5 hx hZ e5 Ar_b4 (j := (1 : Int32)) hin13 (g := (mkF m 13 #[.val (.int p1), .val (.int p2), .val (.int p3), .unset, .unset] [(.int (90 : Int32)), (.int (1 : Int32)), (.ref b4), (.ref b4)])) rfl rfl (hb hby at_13)
  obtain ⟨vs6, hl6, V_b4_6⟩ := own_store Ar_b4 q_b4 S_b4 N_b4 H_b4 G_b4 rfl W6 1 rfl hl5 (by decide)
  have K6 : Keep h0 h6 [] := K5.wr W6 (Or.inr sz_b4)
  have N6 := Fr.snoc X6 N5 g_b4
  obtain ⟨cl_b4_18, Ar_b4, q_b4, S_b4, N_b4, H_b4, G_b4⟩ := V_b4_6
  have hin18 : ¬ ((2 : Int32) < 0 ∨ cl_b4_18.slots.size ≤ ((2 : Int32)).toNatClampNeg) := inb_of S_b4 ⟨by decide, by decide⟩
  obtain ⟨T7, h7, X7, e7, W7, st7⟩ := stI X6 hx hZ e6 Ar_b4 (j := (2 : Int32)) hin18 (g := (mkF m 18 #[.val (.int p1), .val (.int p2), .val (.int p3), .unset, .unset] [(.int (97 : Int32)), (.int (2 : Int32)), (.ref b4), (.ref b4)])) rfl rfl (hb hby at_18)
  obtain ⟨vs7, hl7, V_b4_7⟩ := own_store Ar_b4 q_b4 S_b4 N_b4 H_b4 G_b4 rfl W7 2 rfl hl6 (by decide)
  have K7 : Keep h0 h7 [] := K6.wr W7 (Or.inr sz_b4)
  have N7 := Fr.snoc X7 N6 g_b4
  obtain ⟨cl_b4_23, Ar_b4, q_b4, S_b4, N_b4, H_b4, G_b4⟩ := V_b4_7
  have hin23 : ¬ ((3 : Int32) < 0 ∨ cl_b4_23.slots.size ≤ ((3 : Int32)).toNatClampNeg) := inb_of S_b4 ⟨by decide, by decide⟩
  obtain ⟨T8, h8, X8, e8, W8, st8⟩ := stI X7 hx hZ e7 Ar_b4 (j := (3 : Int32)) hin23 (g := (mkF m 23 #[.val (.int p1), .val (.int p2), .val (.int p3), .unset, .unset] [(.int (122 : Int32)), (.int (3 : Int32)), (.ref b4), (.ref b4)])) rfl rfl (hb hby at_23)
  obtain ⟨vs8, hl8, V_b4_8⟩ := own_store Ar_b4 q_b4 S_b4 N_b4 H_b4 G_b4 rfl W8 3 rfl hl7 (by decide)
  have K8 : Keep h0 h8 [] := K7.wr W8 (Or.inr sz_b4)
  have N8 := Fr.snoc X8 N7 g_b4
  obtain ⟨cl_b4_29, Ar_b4, q_b4, S_b4, N_b4, H_b4, G_b4⟩ := V_b4_8
  have hin29 : ¬ ((4 : Int32) < 0 ∨ cl_b4_29.slots.size ≤ ((4 : Int32)).toNatClampNeg) := inb_of S_b4 ⟨by decide, by decide⟩
  obtain ⟨T9, h9, X9, e9, W9, st9⟩ := stI X8 hx hZ e8 Ar_b4 (j := (4 : Int32)) hin29 (g := (mkF m 29 #[.val (.int p1), .val (.int p2), .val (.int p3), .unset, .unset] [(.int (192 : Int32)), (.int (4 : Int32)), (.ref b4), (.ref b4)])) rfl rfl (hb hby at_29)
  obtain ⟨vs9, hl9, V_b4_9⟩ := own_store Ar_b4 q_b4 S_b4 N_b4 H_b4 G_b4 rfl W9 4 rfl hl8 (by decide)
  have K9 : Keep h0 h9 [] := K8.wr W9 (Or.inr sz_b4)
  have N9 := Fr.snoc X9 N8 g_b4
  obtain ⟨cl_b4_35, Ar_b4, q_b4, S_b4, N_b4, H_b4, G_b4⟩ := V_b4_9
  have hin35 : ¬ ((5 : Int32) < 0 ∨ cl_b4_35.slots.size ≤ ((5 : Int32)).toNatClampNeg) := inb_of S_b4 ⟨by decide, by decide⟩
  obtain ⟨T10, h10, X10, e10, W10, st10⟩ := stI X9 hx hZ e9 Ar_b4 (j := (5 : Int32)) hin35 (g := (mkF m 35 #[.val (.int p1), .val (.int p2), .val (.int p3), .unset, .unset] [(.int (214 : Int32)), (.int (5 : Int32)), (.ref b4), (.ref b4)])) rfl rfl (hb hby at_35)
  obtain ⟨vs10, hl10, V_b4_10⟩ := own_store Ar_b4 q_b4 S_b4 N_b4 H_b4 G_b4 rfl W10 5 rfl hl9 (by decide)
  have K10 : Keep h0 h10 [] := K9.wr W10 (Or.inr sz_b4)
  have N10 := Fr.snoc X10 N9 g_b4
  obtain ⟨cl_b4_42, Ar_b4, q_b4, S_b4, N_b4, H_b4, G_b4⟩ := V_b4_10
  have hin42 : ¬ ((6 : Int32) < 0 ∨ cl_b4_42.slots.size ≤ ((6 : Int32)).toNatClampNeg) := inb_of S_b4 ⟨by decide, by decide⟩
  obtain ⟨T11, h11, X11, e11, W11, st11⟩ := stI X10 hx hZ e10 Ar_b4 (j := (6 : Int32)) hin42 (g := (mkF m 42 #[.val (.int p1), .val (.int p2), .val (.int p3), .unset, .unset] [(.int (216 : Int32)), (.int (6 : Int32)), (.ref b4), (.ref b4)])) rfl rfl (hb hby at_42)
  obtain ⟨vs11, hl11, V_b4_11⟩ := own_store Ar_b4 q_b4 S_b4 N_b4 H_b4 G_b4 rfl W11 6 rfl hl10 (by decide)
  have K11 : Keep h0 h11 [] := K10.wr W11 (Or.inr sz_b4)
  have N11 := Fr.snoc X11 N10 g_b4
  obtain ⟨cl_b4_49, Ar_b4, q_b4, S_b4, N_b4, H_b4, G_b4⟩ := V_b4_11
  have hin49 : ¬ ((7 : Int32) < 0 ∨ cl_b4_49.slots.size ≤ ((7 : Int32)).toNatClampNeg) := inb_of S_b4 ⟨by decide, by decide⟩
  obtain ⟨T12, h12, X12, e12, W12, st12⟩ := stI X11 hx hZ e11 Ar_b4 (j := (7 : Int32)) hin49 (g := (mkF m 49 #[.val (.int p1), .val (.int p2), .val (.int p3), .unset, .unset] [(.int (246 : Int32)), (.int (7 : Int32)), (.ref b4), (.ref b4)])) rfl rfl (hb hby at_49)
  obtain ⟨vs12, hl12, V_b4_12⟩ := own_store Ar_b4 q_b4 S_b4 N_b4 H_b4 G_b4 rfl W12 7 rfl hl11 (by decide)
  have K12 : Keep h0 h12 [] := K11.wr W12 (Or.inr sz_b4)
  have N12 := Fr.snoc X12 N11 g_b4
  obtain ⟨cl_b4_56, Ar_b4, q_b4, S_b4, N_b4, H_b4, G_b4⟩ := V_b4_12
  have hin56 : ¬ ((8 : Int32) < 0 ∨ cl_b4_56.slots.size ≤ ((8 : Int32)).toNatClampNeg) := inb_of S_b4 ⟨by decide, by decide⟩
  obtain ⟨T13, h13, X13, e13, W13, st13⟩ := stI X12 hx hZ e12 Ar_b4 (j := (8 : Int32)) hin56 (g := (mkF m 56 #[.val (.int p1), .val (.int p2), .val (.int p3), .unset, .unset] [(.int (248 : Int32)), (.int (8 : Int32)), (.ref b4), (.ref b4)])) rfl rfl (hb hby at_56)
  obtain ⟨vs13, hl13, V_b4_13⟩ := own_store Ar_b4 q_b4 S_b4 N_b4 H_b4 G_b4 rfl W13 8 rfl hl12 (by decide)
  have K13 : Keep h0 h13 [] := K12.wr W13 (Or.inr sz_b4)
  have N13 := Fr.snoc X13 N12 g_b4
  obtain ⟨cl_b4_63, Ar_b4, q_b4, S_b4, N_b4, H_b4, G_b4⟩ := V_b4_13
  have hin63 : ¬ ((9 : Int32) < 0 ∨ cl_b4_63.slots.size ≤ ((9 : Int32)).toNatClampNeg) := inb_of S_b4 ⟨by decide, by decide⟩
  obtain ⟨T14, h14, X14, e14, W14, st14⟩ := stI X13 hx hZ e13 Ar_b4 (j := (9 : Int32)) hin63 (g := (mkF m 63 #[.val (.int p1), .val (.int p2), .val (.int p3), .unset, .unset] [(.int (767 : Int32)), (.int (9 : Int32)), (.ref b4), (.ref b4)])) rfl rfl (hb hby at_63)
  obtain ⟨vs14, hl14, V_b4_14⟩ := own_store Ar_b4 q_b4 S_b4 N_b4 H_b4 G_b4 rfl W14 9 rfl hl13 (by decide)
  have K14 : Keep h0 h14 [] := K13.wr W14 (Or.inr sz_b4)
  have N14 := Fr.snoc X14 N13 g_b4
  obtain ⟨cl_b4_70, Ar_b4, q_b4, S_b4, N_b4, H_b4, G_b4⟩ := V_b4_14
  have hin70 : ¬ ((10 : Int32) < 0 ∨ cl_b4_70.slots.size ≤ ((10 : Int32)).toNatClampNeg) := inb_of S_b4 ⟨by decide, by decide⟩
  obtain ⟨T15, h15, X15, e15, W15, st15⟩ := stI X14 hx hZ e14 Ar_b4 (j := (10 : Int32)) hin70 (g := (mkF m 70 #[.val (.int p1), .val (.int p2), .val (.int p3), .unset, .unset] [(.int (880 : Int32)), (.int (10 : Int32)), (.ref b4), (.ref b4)])) rfl rfl (hb hby at_70)
  obtain ⟨vs15, hl15, V_b4_15⟩ := own_store Ar_b4 q_b4 S_b4 N_b4 H_b4 G_b4 rfl W15 10 rfl hl14 (by decide)
  have K15 : Keep h0 h15 [] := K14.wr W15 (Or.inr sz_b4)
  have N15 := Fr.snoc X15 N14 g_b4
  obtain ⟨cl_b4_77, Ar_b4, q_b4, S_b4, N_b4, H_b4, G_b4⟩ := V_b4_15
  have hin77 : ¬ ((11 : Int32) < 0 ∨ cl_b4_77.slots.size ≤ ((11 : Int32)).toNatClampNeg) := inb_of S_b4 ⟨by decide, by decide⟩
  obtain ⟨T16, h16, X16, e16, W16, st16⟩ := stI X15 hx hZ e15 Ar_b4 (j := (11 : Int32)) hin77 (g := (mkF m 77 #[.val (.int p1), .val (.int p2), .val (.int p3), .unset, .unset] [(.int (893 : Int32)), (.int (11 : Int32)), (.ref b4), (.ref b4)])) rfl rfl (hb hby at_77)
  obtain ⟨vs16, hl16, V_b4_16⟩ := own_store Ar_b4 q_b4 S_b4 N_b4 H_b4 G_b4 rfl W16 11 rfl hl15 (by decide)
  have K16 : Keep h0 h16 [] := K15.wr W16 (Or.inr sz_b4)
  have N16 := Fr.snoc X16 N15 g_b4
  obtain ⟨cl_b4_84, Ar_b4, q_b4, S_b4, N_b4, H_b4, G_b4⟩ := V_b4_16
  have hin84 : ¬ ((12 : Int32) < 0 ∨ cl_b4_84.slots.size ≤ ((12 : Int32)).toNatClampNeg) := inb_of S_b4 ⟨by decide, by decide⟩
  obtain ⟨T17, h17, X17, e17, W17, st17⟩ := stI X16 hx hZ e16 Ar_b4 (j := (12 : Int32)) hin84 (g := (mkF m 84 #[.val (.int p1), .val (.int p2), .val (.int p3), .unset, .unset] [(.int (895 : Int32)), (.int (12 : Int32)), (.ref b4), (.ref b4)])) rfl rfl (hb hby at_84)
  obtain ⟨vs17, hl17, V_b4_17⟩ := own_store Ar_b4 q_b4 S_b4 N_b4 H_b4 G_b4 rfl W17 12 rfl hl16 (by decide)
  have K17 : Keep h0 h17 [] := K16.wr W17 (Or.inr sz_b4)
  have N17 := Fr.snoc X17 N16 g_b4
  obtain ⟨cl_b4_91, Ar_b4, q_b4, S_b4, N_b4, H_b4, G_b4⟩ := V_b4_17
  have hin91 : ¬ ((13 : Int32) < 0 ∨ cl_b4_91.slots.size ≤ ((13 : Int32)).toNatClampNeg) := inb_of S_b4 ⟨by decide, by decide⟩
  obtain ⟨T18, h18, X18, e18, W18, st18⟩ := stI X17 hx hZ e17 Ar_b4 (j := (13 : Int32)) hin91 (g := (mkF m 91 #[.val (.int p1), .val (.int p2), .val (.int p3), .unset, .unset] [(.int (8191 : Int32)), (.int (13 : Int32)), (.ref b4), (.ref b4)])) rfl rfl (hb hby at_91)
  obtain ⟨vs18, hl18, V_b4_18⟩ := own_store Ar_b4 q_b4 S_b4 N_b4 H_b4 G_b4 rfl W18 13 rfl hl17 (by decide)
  have K18 : Keep h0 h18 [] := K17.wr W18 (Or.inr sz_b4)
  have N18 := Fr.snoc X18 N17 g_b4
  obtain ⟨cl_b4_98, Ar_b4, q_b4, S_b4, N_b4, H_b4, G_b4⟩ := V_b4_18
  have hin98 : ¬ ((14 : Int32) < 0 ∨ cl_b4_98.slots.size ≤ ((14 : Int32)).toNatClampNeg) := inb_of S_b4 ⟨by decide, by decide⟩
  obtain ⟨T19, h19, X19, e19, W19, st19⟩ := stI X18 hx hZ e18 Ar_b4 (j := (14 : Int32)) hin98 (g := (mkF m 98 #[.val (.int p1), .val (.int p2), .val (.int p3), .unset, .unset] [(.int (8204 : Int32)), (.int (14 : Int32)), (.ref b4), (.ref b4)])) rfl rfl (hb hby at_98)
  obtain ⟨vs19, hl19, V_b4_19⟩ := own_store Ar_b4 q_b4 S_b4 N_b4 H_b4 G_b4 rfl W19 14 rfl hl18 (by decide)
  have K19 : Keep h0 h19 [] := K18.wr W19 (Or.inr sz_b4)
  have N19 := Fr.snoc X19 N18 g_b4
  obtain ⟨cl_b4_105, Ar_b4, q_b4, S_b4, N_b4, H_b4, G_b4⟩ := V_b4_19
  have hin105 : ¬ ((15 : Int32) < 0 ∨ cl_b4_105.slots.size ≤ ((15 : Int32)).toNatClampNeg) := inb_of S_b4 ⟨by decide, by decide⟩
  obtain ⟨T20, h20, X20, e20, W20, st20⟩ := stI X19 hx hZ e19 Ar_b4 (j := (15 : Int32)) hin105 (g := (mkF m 105 #[.val (.int p1), .val (.int p2), .val (.int p3), .unset, .unset] [(.int (8205 : Int32)), (.int (15 : Int32)), (.ref b4), (.ref b4)])) rfl rfl (hb hby at_105)
  obtain ⟨vs20, hl20, V_b4_20⟩ := own_store Ar_b4 q_b4 S_b4 N_b4 H_b4 G_b4 rfl W20 15 rfl hl19 (by decide)
  have K20 : Keep h0 h20 [] := K19.wr W20 (Or.inr sz_b4)
  have N20 := Fr.snoc X20 N19 g_b4
  obtain ⟨cl_b4_112, Ar_b4, q_b4, S_b4, N_b4, H_b4, G_b4⟩ := V_b4_20
  have hin112 : ¬ ((16 : Int32) < 0 ∨ cl_b4_112.slots.size ≤ ((16 : Int32)).toNatClampNeg) := inb_of S_b4 ⟨by decide, by decide⟩
  obtain ⟨T21, h21, X21, e21, W21, st21⟩ := stI X20 hx hZ e20 Ar_b4 (j := (16 : Int32)) hin112 (g := (mkF m 112 #[.val (.int p1), .val (.int p2), .val (.int p3), .unset, .unset] [(.int (8304 : Int32)), (.int (16 : Int32)), (.ref b4), (.ref b4)])) rfl rfl (hb hby at_112)
  obtain ⟨vs21, hl21, V_b4_21⟩ := own_store Ar_b4 q_b4 S_b4 N_b4 H_b4 G_b4 rfl W21 16 rfl hl20 (by decide)
  have K21 : Keep h0 h21 [] := K20.wr W21 (Or.inr sz_b4)
  have N21 := Fr.snoc X21 N20 g_b4
  obtain ⟨cl_b4_119, Ar_b4, q_b4, S_b4, N_b4, H_b4, G_b4⟩ := V_b4_21
  have hin119 : ¬ ((17 : Int32) < 0 ∨ cl_b4_119.slots.size ≤ ((17 : Int32)).toNatClampNeg) := inb_of S_b4 ⟨by decide, by decide⟩
  obtain ⟨T22, h22, X22, e22, W22, st22⟩ := stI X21 hx hZ e21 Ar_b4 (j := (17 : Int32)) hin119 (g := (mkF m 119 #[.val (.int p1), .val (.int p2), .val (.int p3), .unset, .unset] [(.int (8591 : Int32)), (.int (17 : Int32)), (.ref b4), (.ref b4)])) rfl rfl (hb hby at_119)
  obtain ⟨vs22, hl22, V_b4_22⟩ := own_store Ar_b4 q_b4 S_b4 N_b4 H_b4 G_b4 rfl W22 17 rfl hl21 (by decide)
  have K22 : Keep h0 h22 [] := K21.wr W22 (Or.inr sz_b4)
  have N22 := Fr.snoc X22 N21 g_b4
  obtain ⟨cl_b4_126, Ar_b4, q_b4, S_b4, N_b4, H_b4, G_b4⟩ := V_b4_22
  have hin126 : ¬ ((18 : Int32) < 0 ∨ cl_b4_126.slots.size ≤ ((18 : Int32)).toNatClampNeg) := inb_of S_b4 ⟨by decide, by decide⟩
  obtain ⟨T23, h23, X23, e23, W23, st23⟩ := stI X22 hx hZ e22 Ar_b4 (j := (18 : Int32)) hin126 (g := (mkF m 126 #[.val (.int p1), .val (.int p2), .val (.int p3), .unset, .unset] [(.int (11264 : Int32)), (.int (18 : Int32)), (.ref b4), (.ref b4)])) rfl rfl (hb hby at_126)
  obtain ⟨vs23, hl23, V_b4_23⟩ := own_store Ar_b4 q_b4 S_b4 N_b4 H_b4 G_b4 rfl W23 18 rfl hl22 (by decide)
  have K23 : Keep h0 h23 [] := K22.wr W23 (Or.inr sz_b4)
  have N23 := Fr.snoc X23 N22 g_b4
  obtain ⟨cl_b4_133, Ar_b4, q_b4, S_b4, N_b4, H_b4, G_b4⟩ := V_b4_23
  have hin133 : ¬ ((19 : Int32) < 0 ∨ cl_b4_133.slots.size ≤ ((19 : Int32)).toNatClampNeg) := inb_of S_b4 ⟨by decide, by decide⟩
  obtain ⟨T24, h24, X24, e24, W24, st24⟩ := stI X23 hx hZ e23 Ar_b4 (j := (19 : Int32)) hin133 (g := (mkF m 133 #[.val (.int p1), .val (.int p2), .val (.int p3), .unset, .unset] [(.int (12271 : Int32)), (.int (19 : Int32)), (.ref b4), (.ref b4)])) rfl rfl (hb hby at_133)
  obtain ⟨vs24, hl24, V_b4_24⟩ := own_store Ar_b4 q_b4 S_b4 N_b4 H_b4 G_b4 rfl W24 19 rfl hl23 (by decide)
  have K24 : Keep h0 h24 [] := K23.wr W24 (Or.inr sz_b4)
  have N24 := Fr.snoc X24 N23 g_b4
  obtain ⟨cl_b4_140, Ar_b4, q_b4, S_b4, N_b4, H_b4, G_b4⟩ := V_b4_24
  have hin140 : ¬ ((20 : Int32) < 0 ∨ cl_b4_140.slots.size ≤ ((20 : Int32)).toNatClampNeg) := inb_of S_b4 ⟨by decide, by decide⟩
  obtain ⟨T25, h25, X25, e25, W25, st25⟩ := stI X24 hx hZ e24 Ar_b4 (j := (20 : Int32)) hin140 (g := (mkF m 140 #[.val (.int p1), .val (.int p2), .val (.int p3), .unset, .unset] [(.int (12289 : Int32)), (.int (20 : Int32)), (.ref b4), (.ref b4)])) rfl rfl (hb hby at_140)
  obtain ⟨vs25, hl25, V_b4_25⟩ := own_store Ar_b4 q_b4 S_b4 N_b4 H_b4 G_b4 rfl W25 20 rfl hl24 (by decide)
  have K25 : Keep h0 h25 [] := K24.wr W25 (Or.inr sz_b4)
  have N25 := Fr.snoc X25 N24 g_b4
  obtain ⟨cl_b4_146, Ar_b4, q_b4, S_b4, N_b4, H_b4, G_b4⟩ := V_b4_25
  have hin146 : ¬ ((21 : Int32) < 0 ∨ cl_b4_146.slots.size ≤ ((21 : Int32)).toNatClampNeg) := inb_of S_b4 ⟨by decide, by decide⟩
  obtain ⟨T26, h26, X26, e26, W26, st26⟩ := stI X25 hx hZ e25 Ar_b4 (j := (21 : Int32)) hin146 (g := (mkF m 146 #[.val (.int p1), .val (.int p2), .val (.int p3), .unset, .unset] [(.int (55295 : Int32)), (.int (21 : Int32)), (.ref b4), (.ref b4)])) rfl rfl (hb hby at_146)
  obtain ⟨vs26, hl26, V_b4_26⟩ := own_store Ar_b4 q_b4 S_b4 N_b4 H_b4 G_b4 rfl W26 21 rfl hl25 (by decide)
  have K26 : Keep h0 h26 [] := K25.wr W26 (Or.inr sz_b4)
  have N26 := Fr.snoc X26 N25 g_b4
  obtain ⟨cl_b4_152, Ar_b4, q_b4, S_b4, N_b4, H_b4, G_b4⟩ := V_b4_26
  have hin152 : ¬ ((22 : Int32) < 0 ∨ cl_b4_152.slots.size ≤ ((22 : Int32)).toNatClampNeg) := inb_of S_b4 ⟨by decide, by decide⟩
  obtain ⟨T27, h27, X27, e27, W27, st27⟩ := stI X26 hx hZ e26 Ar_b4 (j := (22 : Int32)) hin152 (g := (mkF m 152 #[.val (.int p1), .val (.int p2), .val (.int p3), .unset, .unset] [(.int (63744 : Int32)), (.int (22 : Int32)), (.ref b4), (.ref b4)])) rfl rfl (hb hby at_152)
  obtain ⟨vs27, hl27, V_b4_27⟩ := own_store Ar_b4 q_b4 S_b4 N_b4 H_b4 G_b4 rfl W27 22 rfl hl26 (by decide)
  have K27 : Keep h0 h27 [] := K26.wr W27 (Or.inr sz_b4)
  have N27 := Fr.snoc X27 N26 g_b4
  obtain ⟨cl_b4_158, Ar_b4, q_b4, S_b4, N_b4, H_b4, G_b4⟩ := V_b4_27
  have hin158 : ¬ ((23 : Int32) < 0 ∨ cl_b4_158.slots.size ≤ ((23 : Int32)).toNatClampNeg) := inb_of S_b4 ⟨by decide, by decide⟩
  obtain ⟨T28, h28, X28, e28, W28, st28⟩ := stI X27 hx hZ e27 Ar_b4 (j := (23 : Int32)) hin158 (g := (mkF m 158 #[.val (.int p1), .val (.int p2), .val (.int p3), .unset, .unset] [(.int (64975 : Int32)), (.int (23 : Int32)), (.ref b4), (.ref b4)])) rfl rfl (hb hby at_158)
  obtain ⟨vs28, hl28, V_b4_28⟩ := own_store Ar_b4 q_b4 S_b4 N_b4 H_b4 G_b4 rfl W28 23 rfl hl27 (by decide)
  have K28 : Keep h0 h28 [] := K27.wr W28 (Or.inr sz_b4)
  have N28 := Fr.snoc X28 N27 g_b4
  obtain ⟨cl_b4_164, Ar_b4, q_b4, S_b4, N_b4, H_b4, G_b4⟩ := V_b4_28
  have hin164 : ¬ ((24 : Int32) < 0 ∨ cl_b4_164.slots.size ≤ ((24 : Int32)).toNatClampNeg) := inb_of S_b4 ⟨by decide, by decide⟩
  obtain ⟨T29, h29, X29, e29, W29, st29⟩ := stI X28 hx hZ e28 Ar_b4 (j := (24 : Int32)) hin164 (g := (mkF m 164 #[.val (.int p1), .val (.int p2), .val (.int p3), .unset, .unset] [(.int (65008 : Int32)), (.int (24 : Int32)), (.ref b4), (.ref b4)])) rfl rfl (hb hby at_164)
  obtain ⟨vs29, hl29, V_b4_29⟩ := own_store Ar_b4 q_b4 S_b4 N_b4 H_b4 G_b4 rfl W29 24 rfl hl28 (by decide)
  have K29 : Keep h0 h29 [] := K28.wr W29 (Or.inr sz_b4)
  have N29 := Fr.snoc X29 N28 g_b4
  obtain ⟨cl_b4_170, Ar_b4, q_b4, S_b4, N_b4, H_b4, G_b4⟩ := V_b4_29
  have hin170 : ¬ ((25 : Int32) < 0 ∨ cl_b4_170.slots.size ≤ ((25 : Int32)).toNatClampNeg) := inb_of S_b4 ⟨by decide, by decide⟩
  obtain ⟨T30, h30, X30, e30, W30, st30⟩ := stI X29 hx hZ e29 Ar_b4 (j := (25 : Int32)) hin170 (g := (mkF m 170 #[.val (.int p1), .val (.int p2), .val (.int p3), .unset, .unset] [(.int (65533 : Int32)), (.int (25 : Int32)), (.ref b4), (.ref b4)])) rfl rfl (hb hby at_170)
  obtain ⟨vs30, hl30, V_b4_30⟩ := own_store Ar_b4 q_b4 S_b4 N_b4 H_b4 G_b4 rfl W30 25 rfl hl29 (by decide)
  have K30 : Keep h0 h30 [] := K29.wr W30 (Or.inr sz_b4)
  have N30 := Fr.snoc X30 N29 g_b4
  obtain ⟨cl_b4_176, Ar_b4, q_b4, S_b4, N_b4, H_b4, G_b4⟩ := V_b4_30
  have hin176 : ¬ ((26 : Int32) < 0 ∨ cl_b4_176.slots.size ≤ ((26 : Int32)).toNatClampNeg) := inb_of S_b4 ⟨by decide, by decide⟩
  obtain ⟨T31, h31, X31, e31, W31, st31⟩ := stI X30 hx hZ e30 Ar_b4 (j := (26 : Int32)) hin176 (g := (mkF m 176 #[.val (.int p1), .val (.int p2), .val (.int p3), .unset, .unset] [(.int (65536 : Int32)), (.int (26 : Int32)), (.ref b4), (.ref b4)])) rfl rfl (hb hby at_176)
  obtain ⟨vs31, hl31, V_b4_31⟩ := own_store Ar_b4 q_b4 S_b4 N_b4 H_b4 G_b4 rfl W31 26 rfl hl30 (by decide)
  have K31 : Keep h0 h31 [] := K30.wr W31 (Or.inr sz_b4)
  have N31 := Fr.snoc X31 N30 g_b4
  obtain ⟨cl_b4_182, Ar_b4, q_b4, S_b4, N_b4, H_b4, G_b4⟩ := V_b4_31
  have hin182 : ¬ ((27 : Int32) < 0 ∨ cl_b4_182.slots.size ≤ ((27 : Int32)).toNatClampNeg) := inb_of S_b4 ⟨by decide, by decide⟩
  obtain ⟨T32, h32, X32, e32, W32, st32⟩ := stI X31 hx hZ e31 Ar_b4 (j := (27 : Int32)) hin182 (g := (mkF m 182 #[.val (.int p1), .val (.int p2), .val (.int p3), .unset, .unset] [(.int (983039 : Int32)), (.int (27 : Int32)), (.ref b4), (.ref b4)])) rfl rfl (hb hby at_182)
  obtain ⟨vs32, hl32, V_b4_32⟩ := own_store Ar_b4 q_b4 S_b4 N_b4 H_b4 G_b4 rfl W32 27 rfl hl31 (by decide)
  have K32 : Keep h0 h32 [] := K31.wr W32 (Or.inr sz_b4)
  have N32 := Fr.snoc X32 N31 g_b4
  obtain ⟨cl_b4_192, Ar_b4, q_b4, S_b4, N_b4, H_b4, G_b4⟩ := V_b4_32
  have hin192 : ¬ (((p2 &&& (2147483647 : Int32)) % (28 : Int32)) < 0 ∨ cl_b4_192.slots.size ≤ (((p2 &&& (2147483647 : Int32)) % (28 : Int32))).toNatClampNeg) := inb_of S_b4 (own_mod p2)
  have hlt192 : (((p2 &&& (2147483647 : Int32)) % (28 : Int32))).toNatClampNeg < cl_b4_192.slots.size := Nat.lt_of_not_le (fun q => hin192 (Or.inr q))
  obtain ⟨w33, hat192⟩ := own_slot (H_b4 _ hlt192) (G_b4 _ hlt192)
  have Zz32 : n0 ≤ h32.size := Nat.le_trans Z0 K32.1
  obtain ⟨LL, X32, N32⟩ : ∃ LL, Stand p l e room_1 s m #[(.int p1), (.int p2), (.int p3)] below meth c T32 LL 1 28 ∧ Fr n0 LL := ⟨_, X32, N32⟩
  obtain ⟨_, _, ⟨T34, L34, k34, n34⟩, -, X34, ⟨Lc34, hQ34, l34, y34, z34⟩, st34⟩ := Jvm.LawKit.callS X32 hx (y := (⟨"com/example/text_with_triples/textwithtriples/model/NameChars", "isBase", "(I)Z"⟩ : MethodName)) hown (mvT hZ (hw _ (List.mem_of_getElem? (i := 9) rfl))) (mvT hZ (hw _ (List.mem_of_getElem? (i := 10) rfl))) (mvT hZ (hw _ (List.mem_of_getElem? (i := 11) rfl))) (mvT hZ (hw _ (List.mem_of_getElem? (i := 12) rfl))) (by decide) (backOf (W := 0) (rm1 l Z a0 hw [] p1 h32 n0 Zz32) hZ (hw _ (List.mem_of_getElem? (i := 12) rfl)) (hw _ (List.mem_of_getElem? (i := 11) rfl)) (by decide) (by decide)) (g := (mkF m 205 #[.val (.int p1), .val (.int p2), .val (.int p3), .val (.ref b4), .val (.int ((w33 + ((p3 &&& (2147483647 : Int32)) % (3 : Int32))) - (1 : Int32)))] [(.int p1)])) rfl (by rw [hml]; rfl) (argsL := [(.int p1)]) (rest := []) (lenOf pd_0_0 rfl) rfl (by show 2 * 0 + _ ≤ _; exact Nat.le_of_eq rfl) (hb hby at_205) (fun _ _ => ⟨rfl, e32, (by decide : 1 + 0 ≤ _), (by decide : 28 + 0 ≤ _)⟩)
  dsimp only [Pt.U, Pt.locs, Pt.cells, Pt.slots] at X34 l34 y34 z34 st34 hQ34
  subst l34 y34 z34
  obtain ⟨rfl, N34q, eh34⟩ := hQ34
  have N34 := Fr.app N32 N34q
  obtain ⟨_, _, ⟨T35, L35, k35, n35⟩, -, X35, ⟨Lc35, hQ35, l35, y35, z35⟩, st35⟩ := Jvm.LawKit.callS X34 hx (y := (⟨"com/example/text_with_triples/textwithtriples/model/NameCharsIsBasePinLaw", "ref", "(I)Z"⟩ : MethodName)) hown (mvT hZ (hw _ (List.mem_of_getElem? (i := 16) rfl))) (mvT hZ (hw _ (List.mem_of_getElem? (i := 17) rfl))) (mvT hZ (hw _ (List.mem_of_getElem? (i := 18) rfl))) (mvT hZ (hw _ (List.mem_of_getElem? (i := 19) rfl))) (by decide) (backOf (W := 1) (rm2 l Z a0 hw [] p1 T34.heap n0 (by rw [eh34]; exact Zz32)) hZ (hw _ (List.mem_of_getElem? (i := 19) rfl)) (hw _ (List.mem_of_getElem? (i := 18) rfl)) (by decide) (by decide)) (g := (mkF m 209 #[.val (.int p1), .val (.int p2), .val (.int p3), .val (.ref b4), .val (.int ((w33 + ((p3 &&& (2147483647 : Int32)) % (3 : Int32))) - (1 : Int32)))] [(.int p1), (.int (own_bs own_L p1))])) rfl (by rw [hml]; rfl) (argsL := [(.int p1)]) (rest := [(.int (own_bs own_L p1))]) (lenOf pd_0_0 rfl) rfl (by show 2 * 0 + _ ≤ _; exact Nat.le_of_eq rfl) (hb hby at_209) (fun _ _ => ⟨rfl, rfl, (by decide : 1 + 0 ≤ _), (by decide : 28 + 0 ≤ _)⟩)
  dsimp only [Pt.U, Pt.locs, Pt.cells, Pt.slots] at X35 l35 y35 z35 st35 hQ35
  subst l35 y35 z35
  obtain ⟨rfl, N35q, eh35⟩ := hQ35
  have N35 := Fr.app N34 N35q
  obtain ⟨_, _, ⟨T36, L36, k36, n36⟩, -, X36, ⟨Lc36, hQ36, l36, y36, z36⟩, st36⟩ := Jvm.LawKit.callS X35 hx (y := (⟨"com/example/text_with_triples/textwithtriples/model/NameChars", "isBase", "(I)Z"⟩ : MethodName)) hown (mvT hZ (hw _ (List.mem_of_getElem? (i := 9) rfl))) (mvT hZ (hw _ (List.mem_of_getElem? (i := 10) rfl))) (mvT hZ (hw _ (List.mem_of_getElem? (i := 11) rfl))) (mvT hZ (hw _ (List.mem_of_getElem? (i := 12) rfl))) (by decide) (backOf (W := 0) (rm1 l Z a0 hw [] ((w33 + ((p3 &&& (2147483647 : Int32)) % (3 : Int32))) - (1 : Int32)) T35.heap n0 (by rw [eh35, eh34]; exact Zz32)) hZ (hw _ (List.mem_of_getElem? (i := 12) rfl)) (hw _ (List.mem_of_getElem? (i := 11) rfl)) (by decide) (by decide)) (g := (mkF m 217 #[.val (.int p1), .val (.int p2), .val (.int p3), .val (.ref b4), .val (.int ((w33 + ((p3 &&& (2147483647 : Int32)) % (3 : Int32))) - (1 : Int32)))] [(.int ((w33 + ((p3 &&& (2147483647 : Int32)) % (3 : Int32))) - (1 : Int32)))])) rfl (by rw [hml]; rfl) (argsL := [(.int ((w33 + ((p3 &&& (2147483647 : Int32)) % (3 : Int32))) - (1 : Int32)))]) (rest := []) (lenOf pd_0_0 rfl) rfl (by show 2 * 0 + _ ≤ _; exact Nat.le_of_eq rfl) (hb hby at_217) (fun _ _ => ⟨rfl, rfl, (by decide : 1 + 0 ≤ _), (by decide : 28 + 0 ≤ _)⟩)
  dsimp only [Pt.U, Pt.locs, Pt.cells, Pt.slots] at X36 l36 y36 z36 st36 hQ36
  subst l36 y36 z36
  obtain ⟨rfl, N36q, eh36⟩ := hQ36
  have N36 := Fr.app N35 N36q
  obtain ⟨_, _, ⟨T37, L37, k37, n37⟩, -, X37, ⟨Lc37, hQ37, l37, y37, z37⟩, st37⟩ := Jvm.LawKit.callS X36 hx (y := (⟨"com/example/text_with_triples/textwithtriples/model/NameCharsIsBasePinLaw", "ref", "(I)Z"⟩ : MethodName)) hown (mvT hZ (hw _ (List.mem_of_getElem? (i := 16) rfl))) (mvT hZ (hw _ (List.mem_of_getElem? (i := 17) rfl))) (mvT hZ (hw _ (List.mem_of_getElem? (i := 18) rfl))) (mvT hZ (hw _ (List.mem_of_getElem? (i := 19) rfl))) (by decide) (backOf (W := 1) (rm2 l Z a0 hw [] ((w33 + ((p3 &&& (2147483647 : Int32)) % (3 : Int32))) - (1 : Int32)) T36.heap n0 (by rw [eh36, eh35, eh34]; exact Zz32)) hZ (hw _ (List.mem_of_getElem? (i := 19) rfl)) (hw _ (List.mem_of_getElem? (i := 18) rfl)) (by decide) (by decide)) (g := (mkF m 222 #[.val (.int p1), .val (.int p2), .val (.int p3), .val (.ref b4), .val (.int ((w33 + ((p3 &&& (2147483647 : Int32)) % (3 : Int32))) - (1 : Int32)))] [(.int ((w33 + ((p3 &&& (2147483647 : Int32)) % (3 : Int32))) - (1 : Int32))), (.int (own_bs own_L ((w33 + ((p3 &&& (2147483647 : Int32)) % (3 : Int32))) - (1 : Int32))))])) rfl (by rw [hml]; rfl) (argsL := [(.int ((w33 + ((p3 &&& (2147483647 : Int32)) % (3 : Int32))) - (1 : Int32)))]) (rest := [(.int (own_bs own_L ((w33 + ((p3 &&& (2147483647 : Int32)) % (3 : Int32))) - (1 : Int32))))]) (lenOf pd_0_0 rfl) rfl (by show 2 * 0 + _ ≤ _; exact Nat.le_of_eq rfl) (hb hby at_222) (fun _ _ => ⟨rfl, rfl, (by decide : 1 + 0 ≤ _), (by decide : 28 + 0 ≤ _)⟩)
  dsimp only [Pt.U, Pt.locs, Pt.cells, Pt.slots] at X37 l37 y37 z37 st37 hQ37
  subst l37 y37 z37
  obtain ⟨rfl, N37q, eh37⟩ := hQ37
  have N37 := Fr.app N36 N37q
  obtain ⟨fs, hr, hrun, hended, hW, hsame⟩ := X37.leave (v := some (.int (1 : Int32))) (fun h => by rw [Bd.returns] at h; cases h)
  refine ⟨_, _, pre0 _ ?_, hrun, hended, _, _, rfl, ?_, ⟨_, rfl⟩, hW, hsame.mono (by decide) (by decide)⟩
  · show Steps p.tables e below (s₁.setTop (mkF m 0 #[.val (.int p1), .val (.int p2), .val (.int p3), .unset, .unset] [])) _
    refine XS.bipush X0.here hx rfl (hb hby at_0) ?_
    show Steps p.tables e below (s₁.setTop (mkF m 2 #[.val (.int p1), .val (.int p2), .val (.int p3), .unset, .unset] [(.int (28 : Int32))])) _
    refine st4 _ ?_
    show Steps p.tables e below (T4.setTop (mkF m 4 #[.val (.int p1), .val (.int p2), .val (.int p3), .unset, .unset] [(.ref b4)])) _
    refine XS.dup X4.here hx rfl (hb hby at_4) rfl rfl ?_
    show Steps p.tables e below (T4.setTop (mkF m 5 #[.val (.int p1), .val (.int p2), .val (.int p3), .unset, .unset] [(.ref b4), (.ref b4)])) _
    refine XS.iconst X4.here hx rfl (hb hby at_5) ?_
    show Steps p.tables e below (T4.setTop (mkF m 6 #[.val (.int p1), .val (.int p2), .val (.int p3), .unset, .unset] [(.int (0 : Int32)), (.ref b4), (.ref b4)])) _
    refine XS.bipush X4.here hx rfl (hb hby at_6) ?_
    show Steps p.tables e below (T4.setTop (mkF m 8 #[.val (.int p1), .val (.int p2), .val (.int p3), .unset, .unset] [(.int (65 : Int32)), (.int (0 : Int32)), (.ref b4), (.ref b4)])) _
    refine st5 _ ?_
    show Steps p.tables e below (T5.setTop (mkF m 9 #[.val (.int p1), .val (.int p2), .val (.int p3), .unset, .unset] [(.ref b4)])) _
    refine XS.dup X5.here hx rfl (hb hby at_9) rfl rfl ?_
    show Steps p.tables e below (T5.setTop (mkF m 10 #[.val (.int p1), .val (.int p2), .val (.int p3), .unset, .unset] [(.ref b4), (.ref b4)])) _
    refine XS.iconst X5.here hx rfl (hb hby at_10) ?_
    show Steps p.tables e below (T5.setTop (mkF m 11 #[.val (.int p1), .val (.int p2), .val (.int p3), .unset, .unset] [(.int (1 : Int32)), (.ref b4), (.ref b4)])) _
    refine XS.bipush X5.here hx rfl (hb hby at_11) ?_
    show Steps p.tables e below (T5.setTop (mkF m 13 #[.val (.int p1), .val (.int p2), .val (.int p3), .unset, .unset] [(.int (90 : Int32)), (.int (1 : Int32)), (.ref b4), (.ref b4)])) _
    refine st6 _ ?_
    show Steps p.tables e below (T6.setTop (mkF m 14 #[.val (.int p1), .val (.int p2), .val (.int p3), .unset, .unset] [(.ref b4)])) _
    refine XS.dup X6.here hx rfl (hb hby at_14) rfl rfl ?_
    show Steps p.tables e below (T6.setTop (mkF m 15 #[.val (.int p1), .val (.int p2), .val (.int p3), .unset, .unset] [(.ref b4), (.ref b4)])) _
    refine XS.iconst X6.here hx rfl (hb hby at_15) ?_
    show Steps p.tables e below (T6.setTop (mkF m 16 #[.val (.int p1), .val (.int p2), .val (.int p3), .unset, .unset] [(.int (2 : Int32)), (.ref b4), (.ref b4)])) _
    refine XS.bipush X6.here hx rfl (hb hby at_16) ?_
    show Steps p.tables e below (T6.setTop (mkF m 18 #[.val (.int p1), .val (.int p2), .val (.int p3), .unset, .unset] [(.int (97 : Int32)), (.int (2 : Int32)), (.ref b4), (.ref b4)])) _
    refine st7 _ ?_
    show Steps p.tables e below (T7.setTop (mkF m 19 #[.val (.int p1), .val (.int p2), .val (.int p3), .unset, .unset] [(.ref b4)])) _
    refine XS.dup X7.here hx rfl (hb hby at_19) rfl rfl ?_
    show Steps p.tables e below (T7.setTop (mkF m 20 #[.val (.int p1), .val (.int p2), .val (.int p3), .unset, .unset] [(.ref b4), (.ref b4)])) _
    refine XS.iconst X7.here hx rfl (hb hby at_20) ?_
    show Steps p.tables e below (T7.setTop (mkF m 21 #[.val (.int p1), .val (.int p2), .val (.int p3), .unset, .unset] [(.int (3 : Int32)), (.ref b4), (.ref b4)])) _
    refine XS.bipush X7.here hx rfl (hb hby at_21) ?_
    show Steps p.tables e below (T7.setTop (mkF m 23 #[.val (.int p1), .val (.int p2), .val (.int p3), .unset, .unset] [(.int (122 : Int32)), (.int (3 : Int32)), (.ref b4), (.ref b4)])) _
    refine st8 _ ?_
    show Steps p.tables e below (T8.setTop (mkF m 24 #[.val (.int p1), .val (.int p2), .val (.int p3), .unset, .unset] [(.ref b4)])) _
    refine XS.dup X8.here hx rfl (hb hby at_24) rfl rfl ?_
    show Steps p.tables e below (T8.setTop (mkF m 25 #[.val (.int p1), .val (.int p2), .val (.int p3), .unset, .unset] [(.ref b4), (.ref b4)])) _
    refine XS.iconst X8.here hx rfl (hb hby at_25) ?_
    show Steps p.tables e below (T8.setTop (mkF m 26 #[.val (.int p1), .val (.int p2), .val (.int p3), .unset, .unset] [(.int (4 : Int32)), (.ref b4), (.ref b4)])) _
    refine XS.sipush X8.here hx rfl (hb hby at_26) ?_
    show Steps p.tables e below (T8.setTop (mkF m 29 #[.val (.int p1), .val (.int p2), .val (.int p3), .unset, .unset] [(.int (192 : Int32)), (.int (4 : Int32)), (.ref b4), (.ref b4)])) _
    refine st9 _ ?_
    show Steps p.tables e below (T9.setTop (mkF m 30 #[.val (.int p1), .val (.int p2), .val (.int p3), .unset, .unset] [(.ref b4)])) _
    refine XS.dup X9.here hx rfl (hb hby at_30) rfl rfl ?_
    show Steps p.tables e below (T9.setTop (mkF m 31 #[.val (.int p1), .val (.int p2), .val (.int p3), .unset, .unset] [(.ref b4), (.ref b4)])) _
    refine XS.iconst X9.here hx rfl (hb hby at_31) ?_
    show Steps p.tables e below (T9.setTop (mkF m 32 #[.val (.int p1), .val (.int p2), .val (.int p3), .unset, .unset] [(.int (5 : Int32)), (.ref b4), (.ref b4)])) _
    refine XS.sipush X9.here hx rfl (hb hby at_32) ?_
    show Steps p.tables e below (T9.setTop (mkF m 35 #[.val (.int p1), .val (.int p2), .val (.int p3), .unset, .unset] [(.int (214 : Int32)), (.int (5 : Int32)), (.ref b4), (.ref b4)])) _
    refine st10 _ ?_
    show Steps p.tables e below (T10.setTop (mkF m 36 #[.val (.int p1), .val (.int p2), .val (.int p3), .unset, .unset] [(.ref b4)])) _
    refine XS.dup X10.here hx rfl (hb hby at_36) rfl rfl ?_
    show Steps p.tables e below (T10.setTop (mkF m 37 #[.val (.int p1), .val (.int p2), .val (.int p3), .unset, .unset] [(.ref b4), (.ref b4)])) _
    refine XS.bipush X10.here hx rfl (hb hby at_37) ?_
    show Steps p.tables e below (T10.setTop (mkF m 39 #[.val (.int p1), .val (.int p2), .val (.int p3), .unset, .unset] [(.int (6 : Int32)), (.ref b4), (.ref b4)])) _
    refine XS.sipush X10.here hx rfl (hb hby at_39) ?_
    show Steps p.tables e below (T10.setTop (mkF m 42 #[.val (.int p1), .val (.int p2), .val (.int p3), .unset, .unset] [(.int (216 : Int32)), (.int (6 : Int32)), (.ref b4), (.ref b4)])) _
    refine st11 _ ?_
    show Steps p.tables e below (T11.setTop (mkF m 43 #[.val (.int p1), .val (.int p2), .val (.int p3), .unset, .unset] [(.ref b4)])) _
    refine XS.dup X11.here hx rfl (hb hby at_43) rfl rfl ?_
    show Steps p.tables e below (T11.setTop (mkF m 44 #[.val (.int p1), .val (.int p2), .val (.int p3), .unset, .unset] [(.ref b4), (.ref b4)])) _
    refine XS.bipush X11.here hx rfl (hb hby at_44) ?_
    show Steps p.tables e below (T11.setTop (mkF m 46 #[.val (.int p1), .val (.int p2), .val (.int p3), .unset, .unset] [(.int (7 : Int32)), (.ref b4), (.ref b4)])) _
    refine XS.sipush X11.here hx rfl (hb hby at_46) ?_
    show Steps p.tables e below (T11.setTop (mkF m 49 #[.val (.int p1), .val (.int p2), .val (.int p3), .unset, .unset] [(.int (246 : Int32)), (.int (7 : Int32)), (.ref b4), (.ref b4)])) _
    refine st12 _ ?_
    show Steps p.tables e below (T12.setTop (mkF m 50 #[.val (.int p1), .val (.int p2), .val (.int p3), .unset, .unset] [(.ref b4)])) _
    refine XS.dup X12.here hx rfl (hb hby at_50) rfl rfl ?_
    show Steps p.tables e below (T12.setTop (mkF m 51 #[.val (.int p1), .val (.int p2), .val (.int p3), .unset, .unset] [(.ref b4), (.ref b4)])) _
    refine XS.bipush X12.here hx rfl (hb hby at_51) ?_
    show Steps p.tables e below (T12.setTop (mkF m 53 #[.val (.int p1), .val (.int p2), .val (.int p3), .unset, .unset] [(.int (8 : Int32)), (.ref b4), (.ref b4)])) _
    refine XS.sipush X12.here hx rfl (hb hby at_53) ?_
    show Steps p.tables e below (T12.setTop (mkF m 56 #[.val (.int p1), .val (.int p2), .val (.int p3), .unset, .unset] [(.int (248 : Int32)), (.int (8 : Int32)), (.ref b4), (.ref b4)])) _
    refine st13 _ ?_
    show Steps p.tables e below (T13.setTop (mkF m 57 #[.val (.int p1), .val (.int p2), .val (.int p3), .unset, .unset] [(.ref b4)])) _
    refine XS.dup X13.here hx rfl (hb hby at_57) rfl rfl ?_
    show Steps p.tables e below (T13.setTop (mkF m 58 #[.val (.int p1), .val (.int p2), .val (.int p3), .unset, .unset] [(.ref b4), (.ref b4)])) _
    refine XS.bipush X13.here hx rfl (hb hby at_58) ?_
    show Steps p.tables e below (T13.setTop (mkF m 60 #[.val (.int p1), .val (.int p2), .val (.int p3), .unset, .unset] [(.int (9 : Int32)), (.ref b4), (.ref b4)])) _
    refine XS.sipush X13.here hx rfl (hb hby at_60) ?_
    show Steps p.tables e below (T13.setTop (mkF m 63 #[.val (.int p1), .val (.int p2), .val (.int p3), .unset, .unset] [(.int (767 : Int32)), (.int (9 : Int32)), (.ref b4), (.ref b4)])) _
    refine st14 _ ?_
    show Steps p.tables e below (T14.setTop (mkF m 64 #[.val (.int p1), .val (.int p2), .val (.int p3), .unset, .unset] [(.ref b4)])) _
    refine XS.dup X14.here hx rfl (hb hby at_64) rfl rfl ?_
    show Steps p.tables e below (T14.setTop (mkF m 65 #[.val (.int p1), .val (.int p2), .val (.int p3), .unset, .unset] [(.ref b4), (.ref b4)])) _
    refine XS.bipush X14.here hx rfl (hb hby at_65) ?_
    show Steps p.tables e below (T14.setTop (mkF m 67 #[.val (.int p1), .val (.int p2), .val (.int p3), .unset, .unset] [(.int (10 : Int32)), (.ref b4), (.ref b4)])) _
    refine XS.sipush X14.here hx rfl (hb hby at_67) ?_
    show Steps p.tables e below (T14.setTop (mkF m 70 #[.val (.int p1), .val (.int p2), .val (.int p3), .unset, .unset] [(.int (880 : Int32)), (.int (10 : Int32)), (.ref b4), (.ref b4)])) _
    refine st15 _ ?_
    show Steps p.tables e below (T15.setTop (mkF m 71 #[.val (.int p1), .val (.int p2), .val (.int p3), .unset, .unset] [(.ref b4)])) _
    refine XS.dup X15.here hx rfl (hb hby at_71) rfl rfl ?_
    show Steps p.tables e below (T15.setTop (mkF m 72 #[.val (.int p1), .val (.int p2), .val (.int p3), .unset, .unset] [(.ref b4), (.ref b4)])) _
    refine XS.bipush X15.here hx rfl (hb hby at_72) ?_
    show Steps p.tables e below (T15.setTop (mkF m 74 #[.val (.int p1), .val (.int p2), .val (.int p3), .unset, .unset] [(.int (11 : Int32)), (.ref b4), (.ref b4)])) _
    refine XS.sipush X15.here hx rfl (hb hby at_74) ?_
    show Steps p.tables e below (T15.setTop (mkF m 77 #[.val (.int p1), .val (.int p2), .val (.int p3), .unset, .unset] [(.int (893 : Int32)), (.int (11 : Int32)), (.ref b4), (.ref b4)])) _
    refine st16 _ ?_
    show Steps p.tables e below (T16.setTop (mkF m 78 #[.val (.int p1), .val (.int p2), .val (.int p3), .unset, .unset] [(.ref b4)])) _
    refine XS.dup X16.here hx rfl (hb hby at_78) rfl rfl ?_
    show Steps p.tables e below (T16.setTop (mkF m 79 #[.val (.int p1), .val (.int p2), .val (.int p3), .unset, .unset] [(.ref b4), (.ref b4)])) _
    refine XS.bipush X16.here hx rfl (hb hby at_79) ?_
    show Steps p.tables e below (T16.setTop (mkF m 81 #[.val (.int p1), .val (.int p2), .val (.int p3), .unset, .unset] [(.int (12 : Int32)), (.ref b4), (.ref b4)])) _
    refine XS.sipush X16.here hx rfl (hb hby at_81) ?_
    show Steps p.tables e below (T16.setTop (mkF m 84 #[.val (.int p1), .val (.int p2), .val (.int p3), .unset, .unset] [(.int (895 : Int32)), (.int (12 : Int32)), (.ref b4), (.ref b4)])) _
    refine st17 _ ?_
    show Steps p.tables e below (T17.setTop (mkF m 85 #[.val (.int p1), .val (.int p2), .val (.int p3), .unset, .unset] [(.ref b4)])) _
    refine XS.dup X17.here hx rfl (hb hby at_85) rfl rfl ?_
    show Steps p.tables e below (T17.setTop (mkF m 86 #[.val (.int p1), .val (.int p2), .val (.int p3), .unset, .unset] [(.ref b4), (.ref b4)])) _
    refine XS.bipush X17.here hx rfl (hb hby at_86) ?_
    show Steps p.tables e below (T17.setTop (mkF m 88 #[.val (.int p1), .val (.int p2), .val (.int p3), .unset, .unset] [(.int (13 : Int32)), (.ref b4), (.ref b4)])) _
    refine XS.sipush X17.here hx rfl (hb hby at_88) ?_
    show Steps p.tables e below (T17.setTop (mkF m 91 #[.val (.int p1), .val (.int p2), .val (.int p3), .unset, .unset] [(.int (8191 : Int32)), (.int (13 : Int32)), (.ref b4), (.ref b4)])) _
    refine st18 _ ?_
    show Steps p.tables e below (T18.setTop (mkF m 92 #[.val (.int p1), .val (.int p2), .val (.int p3), .unset, .unset] [(.ref b4)])) _
    refine XS.dup X18.here hx rfl (hb hby at_92) rfl rfl ?_
    show Steps p.tables e below (T18.setTop (mkF m 93 #[.val (.int p1), .val (.int p2), .val (.int p3), .unset, .unset] [(.ref b4), (.ref b4)])) _
    refine XS.bipush X18.here hx rfl (hb hby at_93) ?_
    show Steps p.tables e below (T18.setTop (mkF m 95 #[.val (.int p1), .val (.int p2), .val (.int p3), .unset, .unset] [(.int (14 : Int32)), (.ref b4), (.ref b4)])) _
    refine XS.sipush X18.here hx rfl (hb hby at_95) ?_
    show Steps p.tables e below (T18.setTop (mkF m 98 #[.val (.int p1), .val (.int p2), .val (.int p3), .unset, .unset] [(.int (8204 : Int32)), (.int (14 : Int32)), (.ref b4), (.ref b4)])) _
    refine st19 _ ?_
    show Steps p.tables e below (T19.setTop (mkF m 99 #[.val (.int p1), .val (.int p2), .val (.int p3), .unset, .unset] [(.ref b4)])) _
    refine XS.dup X19.here hx rfl (hb hby at_99) rfl rfl ?_
    show Steps p.tables e below (T19.setTop (mkF m 100 #[.val (.int p1), .val (.int p2), .val (.int p3), .unset, .unset] [(.ref b4), (.ref b4)])) _
    refine XS.bipush X19.here hx rfl (hb hby at_100) ?_
    show Steps p.tables e below (T19.setTop (mkF m 102 #[.val (.int p1), .val (.int p2), .val (.int p3), .unset, .unset] [(.int (15 : Int32)), (.ref b4), (.ref b4)])) _
    refine XS.sipush X19.here hx rfl (hb hby at_102) ?_
    show Steps p.tables e below (T19.setTop (mkF m 105 #[.val (.int p1), .val (.int p2), .val (.int p3), .unset, .unset] [(.int (8205 : Int32)), (.int (15 : Int32)), (.ref b4), (.ref b4)])) _
    refine st20 _ ?_
    show Steps p.tables e below (T20.setTop (mkF m 106 #[.val (.int p1), .val (.int p2), .val (.int p3), .unset, .unset] [(.ref b4)])) _
    refine XS.dup X20.here hx rfl (hb hby at_106) rfl rfl ?_
    show Steps p.tables e below (T20.setTop (mkF m 107 #[.val (.int p1), .val (.int p2), .val (.int p3), .unset, .unset] [(.ref b4), (.ref b4)])) _
    refine XS.bipush X20.here hx rfl (hb hby at_107) ?_
    show Steps p.tables e below (T20.setTop (mkF m 109 #[.val (.int p1), .val (.int p2), .val (.int p3), .unset, .unset] [(.int (16 : Int32)), (.ref b4), (.ref b4)])) _
    refine XS.sipush X20.here hx rfl (hb hby at_109) ?_
    show Steps p.tables e below (T20.setTop (mkF m 112 #[.val (.int p1), .val (.int p2), .val (.int p3), .unset, .unset] [(.int (8304 : Int32)), (.int (16 : Int32)), (.ref b4), (.ref b4)])) _
    refine st21 _ ?_
    show Steps p.tables e below (T21.setTop (mkF m 113 #[.val (.int p1), .val (.int p2), .val (.int p3), .unset, .unset] [(.ref b4)])) _
    refine XS.dup X21.here hx rfl (hb hby at_113) rfl rfl ?_
    show Steps p.tables e below (T21.setTop (mkF m 114 #[.val (.int p1), .val (.int p2), .val (.int p3), .unset, .unset] [(.ref b4), (.ref b4)])) _
    refine XS.bipush X21.here hx rfl (hb hby at_114) ?_
    show Steps p.tables e below (T21.setTop (mkF m 116 #[.val (.int p1), .val (.int p2), .val (.int p3), .unset, .unset] [(.int (17 : Int32)), (.ref b4), (.ref b4)])) _
    refine XS.sipush X21.here hx rfl (hb hby at_116) ?_
    show Steps p.tables e below (T21.setTop (mkF m 119 #[.val (.int p1), .val (.int p2), .val (.int p3), .unset, .unset] [(.int (8591 : Int32)), (.int (17 : Int32)), (.ref b4), (.ref b4)])) _
    refine st22 _ ?_
    show Steps p.tables e below (T22.setTop (mkF m 120 #[.val (.int p1), .val (.int p2), .val (.int p3), .unset, .unset] [(.ref b4)])) _
    refine XS.dup X22.here hx rfl (hb hby at_120) rfl rfl ?_
    show Steps p.tables e below (T22.setTop (mkF m 121 #[.val (.int p1), .val (.int p2), .val (.int p3), .unset, .unset] [(.ref b4), (.ref b4)])) _
    refine XS.bipush X22.here hx rfl (hb hby at_121) ?_
    show Steps p.tables e below (T22.setTop (mkF m 123 #[.val (.int p1), .val (.int p2), .val (.int p3), .unset, .unset] [(.int (18 : Int32)), (.ref b4), (.ref b4)])) _
    refine XS.sipush X22.here hx rfl (hb hby at_123) ?_
    show Steps p.tables e below (T22.setTop (mkF m 126 #[.val (.int p1), .val (.int p2), .val (.int p3), .unset, .unset] [(.int (11264 : Int32)), (.int (18 : Int32)), (.ref b4), (.ref b4)])) _
    refine st23 _ ?_
    show Steps p.tables e below (T23.setTop (mkF m 127 #[.val (.int p1), .val (.int p2), .val (.int p3), .unset, .unset] [(.ref b4)])) _
    refine XS.dup X23.here hx rfl (hb hby at_127) rfl rfl ?_
    show Steps p.tables e below (T23.setTop (mkF m 128 #[.val (.int p1), .val (.int p2), .val (.int p3), .unset, .unset] [(.ref b4), (.ref b4)])) _
    refine XS.bipush X23.here hx rfl (hb hby at_128) ?_
    show Steps p.tables e below (T23.setTop (mkF m 130 #[.val (.int p1), .val (.int p2), .val (.int p3), .unset, .unset] [(.int (19 : Int32)), (.ref b4), (.ref b4)])) _
    refine XS.sipush X23.here hx rfl (hb hby at_130) ?_
    show Steps p.tables e below (T23.setTop (mkF m 133 #[.val (.int p1), .val (.int p2), .val (.int p3), .unset, .unset] [(.int (12271 : Int32)), (.int (19 : Int32)), (.ref b4), (.ref b4)])) _
    refine st24 _ ?_
    show Steps p.tables e below (T24.setTop (mkF m 134 #[.val (.int p1), .val (.int p2), .val (.int p3), .unset, .unset] [(.ref b4)])) _
    refine XS.dup X24.here hx rfl (hb hby at_134) rfl rfl ?_
    show Steps p.tables e below (T24.setTop (mkF m 135 #[.val (.int p1), .val (.int p2), .val (.int p3), .unset, .unset] [(.ref b4), (.ref b4)])) _
    refine XS.bipush X24.here hx rfl (hb hby at_135) ?_
    show Steps p.tables e below (T24.setTop (mkF m 137 #[.val (.int p1), .val (.int p2), .val (.int p3), .unset, .unset] [(.int (20 : Int32)), (.ref b4), (.ref b4)])) _
    refine XS.sipush X24.here hx rfl (hb hby at_137) ?_
    show Steps p.tables e below (T24.setTop (mkF m 140 #[.val (.int p1), .val (.int p2), .val (.int p3), .unset, .unset] [(.int (12289 : Int32)), (.int (20 : Int32)), (.ref b4), (.ref b4)])) _
    refine st25 _ ?_
    show Steps p.tables e below (T25.setTop (mkF m 141 #[.val (.int p1), .val (.int p2), .val (.int p3), .unset, .unset] [(.ref b4)])) _
    refine XS.dup X25.here hx rfl (hb hby at_141) rfl rfl ?_
    show Steps p.tables e below (T25.setTop (mkF m 142 #[.val (.int p1), .val (.int p2), .val (.int p3), .unset, .unset] [(.ref b4), (.ref b4)])) _
    refine XS.bipush X25.here hx rfl (hb hby at_142) ?_
    show Steps p.tables e below (T25.setTop (mkF m 144 #[.val (.int p1), .val (.int p2), .val (.int p3), .unset, .unset] [(.int (21 : Int32)), (.ref b4), (.ref b4)])) _
    refine X25.ldcInt hx hown (mvT hZ (hw _ (List.mem_of_getElem? (i := 1) rfl))) (g := (mkF m 144 #[.val (.int p1), .val (.int p2), .val (.int p3), .unset, .unset] [(.int (21 : Int32)), (.ref b4), (.ref b4)])) rfl (hb hby at_144) _ ?_
    show Steps p.tables e below (T25.setTop (mkF m 146 #[.val (.int p1), .val (.int p2), .val (.int p3), .unset, .unset] [(.int (55295 : Int32)), (.int (21 : Int32)), (.ref b4), (.ref b4)])) _
    refine st26 _ ?_
    show Steps p.tables e below (T26.setTop (mkF m 147 #[.val (.int p1), .val (.int p2), .val (.int p3), .unset, .unset] [(.ref b4)])) _
    refine XS.dup X26.here hx rfl (hb hby at_147) rfl rfl ?_
    show Steps p.tables e below (T26.setTop (mkF m 148 #[.val (.int p1), .val (.int p2), .val (.int p3), .unset, .unset] [(.ref b4), (.ref b4)])) _
    refine XS.bipush X26.here hx rfl (hb hby at_148) ?_
    show Steps p.tables e below (T26.setTop (mkF m 150 #[.val (.int p1), .val (.int p2), .val (.int p3), .unset, .unset] [(.int (22 : Int32)), (.ref b4), (.ref b4)])) _
    refine X26.ldcInt hx hown (mvT hZ (hw _ (List.mem_of_getElem? (i := 2) rfl))) (g := (mkF m 150 #[.val (.int p1), .val (.int p2), .val (.int p3), .unset, .unset] [(.int (22 : Int32)), (.ref b4), (.ref b4)])) rfl (hb hby at_150) _ ?_
    show Steps p.tables e below (T26.setTop (mkF m 152 #[.val (.int p1), .val (.int p2), .val (.int p3), .unset, .unset] [(.int (63744 : Int32)), (.int (22 : Int32)), (.ref b4), (.ref b4)])) _
    refine st27 _ ?_
    show Steps p.tables e below (T27.setTop (mkF m 153 #[.val (.int p1), .val (.int p2), .val (.int p3), .unset, .unset] [(.ref b4)])) _
    refine XS.dup X27.here hx rfl (hb hby at_153) rfl rfl ?_
    show Steps p.tables e below (T27.setTop (mkF m 154 #[.val (.int p1), .val (.int p2), .val (.int p3), .unset, .unset] [(.ref b4), (.ref b4)])) _
    refine XS.bipush X27.here hx rfl (hb hby at_154) ?_
    show Steps p.tables e below (T27.setTop (mkF m 156 #[.val (.int p1), .val (.int p2), .val (.int p3), .unset, .unset] [(.int (23 : Int32)), (.ref b4), (.ref b4)])) _
    refine X27.ldcInt hx hown (mvT hZ (hw _ (List.mem_of_getElem? (i := 3) rfl))) (g := (mkF m 156 #[.val (.int p1), .val (.int p2), .val (.int p3), .unset, .unset] [(.int (23 : Int32)), (.ref b4), (.ref b4)])) rfl (hb hby at_156) _ ?_
    show Steps p.tables e below (T27.setTop (mkF m 158 #[.val (.int p1), .val (.int p2), .val (.int p3), .unset, .unset] [(.int (64975 : Int32)), (.int (23 : Int32)), (.ref b4), (.ref b4)])) _
    refine st28 _ ?_
    show Steps p.tables e below (T28.setTop (mkF m 159 #[.val (.int p1), .val (.int p2), .val (.int p3), .unset, .unset] [(.ref b4)])) _
    refine XS.dup X28.here hx rfl (hb hby at_159) rfl rfl ?_
    show Steps p.tables e below (T28.setTop (mkF m 160 #[.val (.int p1), .val (.int p2), .val (.int p3), .unset, .unset] [(.ref b4), (.ref b4)])) _
    refine XS.bipush X28.here hx rfl (hb hby at_160) ?_
    show Steps p.tables e below (T28.setTop (mkF m 162 #[.val (.int p1), .val (.int p2), .val (.int p3), .unset, .unset] [(.int (24 : Int32)), (.ref b4), (.ref b4)])) _
    refine X28.ldcInt hx hown (mvT hZ (hw _ (List.mem_of_getElem? (i := 4) rfl))) (g := (mkF m 162 #[.val (.int p1), .val (.int p2), .val (.int p3), .unset, .unset] [(.int (24 : Int32)), (.ref b4), (.ref b4)])) rfl (hb hby at_162) _ ?_
    show Steps p.tables e below (T28.setTop (mkF m 164 #[.val (.int p1), .val (.int p2), .val (.int p3), .unset, .unset] [(.int (65008 : Int32)), (.int (24 : Int32)), (.ref b4), (.ref b4)])) _
    refine st29 _ ?_
    show Steps p.tables e below (T29.setTop (mkF m 165 #[.val (.int p1), .val (.int p2), .val (.int p3), .unset, .unset] [(.ref b4)])) _
    refine XS.dup X29.here hx rfl (hb hby at_165) rfl rfl ?_
    show Steps p.tables e below (T29.setTop (mkF m 166 #[.val (.int p1), .val (.int p2), .val (.int p3), .unset, .unset] [(.ref b4), (.ref b4)])) _
    refine XS.bipush X29.here hx rfl (hb hby at_166) ?_
    show Steps p.tables e below (T29.setTop (mkF m 168 #[.val (.int p1), .val (.int p2), .val (.int p3), .unset, .unset] [(.int (25 : Int32)), (.ref b4), (.ref b4)])) _
    refine X29.ldcInt hx hown (mvT hZ (hw _ (List.mem_of_getElem? (i := 5) rfl))) (g := (mkF m 168 #[.val (.int p1), .val (.int p2), .val (.int p3), .unset, .unset] [(.int (25 : Int32)), (.ref b4), (.ref b4)])) rfl (hb hby at_168) _ ?_
    show Steps p.tables e below (T29.setTop (mkF m 170 #[.val (.int p1), .val (.int p2), .val (.int p3), .unset, .unset] [(.int (65533 : Int32)), (.int (25 : Int32)), (.ref b4), (.ref b4)])) _
    refine st30 _ ?_
    show Steps p.tables e below (T30.setTop (mkF m 171 #[.val (.int p1), .val (.int p2), .val (.int p3), .unset, .unset] [(.ref b4)])) _
    refine XS.dup X30.here hx rfl (hb hby at_171) rfl rfl ?_
    show Steps p.tables e below (T30.setTop (mkF m 172 #[.val (.int p1), .val (.int p2), .val (.int p3), .unset, .unset] [(.ref b4), (.ref b4)])) _
    refine XS.bipush X30.here hx rfl (hb hby at_172) ?_
    show Steps p.tables e below (T30.setTop (mkF m 174 #[.val (.int p1), .val (.int p2), .val (.int p3), .unset, .unset] [(.int (26 : Int32)), (.ref b4), (.ref b4)])) _
    refine X30.ldcInt hx hown (mvT hZ (hw _ (List.mem_of_getElem? (i := 6) rfl))) (g := (mkF m 174 #[.val (.int p1), .val (.int p2), .val (.int p3), .unset, .unset] [(.int (26 : Int32)), (.ref b4), (.ref b4)])) rfl (hb hby at_174) _ ?_
    show Steps p.tables e below (T30.setTop (mkF m 176 #[.val (.int p1), .val (.int p2), .val (.int p3), .unset, .unset] [(.int (65536 : Int32)), (.int (26 : Int32)), (.ref b4), (.ref b4)])) _
    refine st31 _ ?_
    show Steps p.tables e below (T31.setTop (mkF m 177 #[.val (.int p1), .val (.int p2), .val (.int p3), .unset, .unset] [(.ref b4)])) _
    refine XS.dup X31.here hx rfl (hb hby at_177) rfl rfl ?_
    show Steps p.tables e below (T31.setTop (mkF m 178 #[.val (.int p1), .val (.int p2), .val (.int p3), .unset, .unset] [(.ref b4), (.ref b4)])) _
    refine XS.bipush X31.here hx rfl (hb hby at_178) ?_
    show Steps p.tables e below (T31.setTop (mkF m 180 #[.val (.int p1), .val (.int p2), .val (.int p3), .unset, .unset] [(.int (27 : Int32)), (.ref b4), (.ref b4)])) _
    refine X31.ldcInt hx hown (mvT hZ (hw _ (List.mem_of_getElem? (i := 7) rfl))) (g := (mkF m 180 #[.val (.int p1), .val (.int p2), .val (.int p3), .unset, .unset] [(.int (27 : Int32)), (.ref b4), (.ref b4)])) rfl (hb hby at_180) _ ?_
    show Steps p.tables e below (T31.setTop (mkF m 182 #[.val (.int p1), .val (.int p2), .val (.int p3), .unset, .unset] [(.int (983039 : Int32)), (.int (27 : Int32)), (.ref b4), (.ref b4)])) _
    refine st32 _ ?_
    show Steps p.tables e below (T32.setTop (mkF m 183 #[.val (.int p1), .val (.int p2), .val (.int p3), .unset, .unset] [(.ref b4)])) _
    refine XS.astoreN X32.here hx rfl (hb hby at_183) rfl rfl (l' := #[.val (.int p1), .val (.int p2), .val (.int p3), .val (.ref b4), .unset]) rfl ?_
    show Steps p.tables e below (T32.setTop (mkF m 184 #[.val (.int p1), .val (.int p2), .val (.int p3), .val (.ref b4), .unset] [])) _
    refine XS.aloadN X32.here hx rfl (hb hby at_184) rfl rfl ?_
    show Steps p.tables e below (T32.setTop (mkF m 185 #[.val (.int p1), .val (.int p2), .val (.int p3), .val (.ref b4), .unset] [(.ref b4)])) _
    refine XS.iloadN X32.here hx rfl (hb hby at_185) rfl ?_
    show Steps p.tables e below (T32.setTop (mkF m 186 #[.val (.int p1), .val (.int p2), .val (.int p3), .val (.ref b4), .unset] [(.int p2), (.ref b4)])) _
    refine X32.ldcInt hx hown (mvT hZ (hw _ (List.mem_of_getElem? (i := 8) rfl))) (g := (mkF m 186 #[.val (.int p1), .val (.int p2), .val (.int p3), .val (.ref b4), .unset] [(.int p2), (.ref b4)])) rfl (hb hby at_186) _ ?_
    show Steps p.tables e below (T32.setTop (mkF m 188 #[.val (.int p1), .val (.int p2), .val (.int p3), .val (.ref b4), .unset] [(.int (2147483647 : Int32)), (.int p2), (.ref b4)])) _
    refine XS.iand X32.here hx rfl (hb hby at_188) rfl ?_
    show Steps p.tables e below (T32.setTop (mkF m 189 #[.val (.int p1), .val (.int p2), .val (.int p3), .val (.ref b4), .unset] [(.int (p2 &&& (2147483647 : Int32))), (.ref b4)])) _
    refine XS.bipush X32.here hx rfl (hb hby at_189) ?_
    show Steps p.tables e below (T32.setTop (mkF m 191 #[.val (.int p1), .val (.int p2), .val (.int p3), .val (.ref b4), .unset] [(.int (28 : Int32)), (.int (p2 &&& (2147483647 : Int32))), (.ref b4)])) _
    refine iremM X32 hx rfl (hb hby at_191) rfl (by decide) ?_
    show Steps p.tables e below (T32.setTop (mkF m 192 #[.val (.int p1), .val (.int p2), .val (.int p3), .val (.ref b4), .unset] [(.int ((p2 &&& (2147483647 : Int32)) % (28 : Int32))), (.ref b4)])) _
    refine X32.iaload hx (j := ((p2 &&& (2147483647 : Int32)) % (28 : Int32))) (v := (.int w33)) (by rw [e32]; exact Ar_b4.1) (State.isArrayOf_alike hZ.alike Ar_b4.2.1) Ar_b4.2.2 hin192 hat192 (g := (mkF m 192 #[.val (.int p1), .val (.int p2), .val (.int p3), .val (.ref b4), .unset] [(.int ((p2 &&& (2147483647 : Int32)) % (28 : Int32))), (.ref b4)])) rfl rfl (hb hby at_192) _ ?_
    show Steps p.tables e below (T32.setTop (mkF m 193 #[.val (.int p1), .val (.int p2), .val (.int p3), .val (.ref b4), .unset] [(.int w33)])) _
    refine XS.iloadN X32.here hx rfl (hb hby at_193) rfl ?_
    show Steps p.tables e below (T32.setTop (mkF m 194 #[.val (.int p1), .val (.int p2), .val (.int p3), .val (.ref b4), .unset] [(.int p3), (.int w33)])) _
    refine X32.ldcInt hx hown (mvT hZ (hw _ (List.mem_of_getElem? (i := 8) rfl))) (g := (mkF m 194 #[.val (.int p1), .val (.int p2), .val (.int p3), .val (.ref b4), .unset] [(.int p3), (.int w33)])) rfl (hb hby at_194) _ ?_
    show Steps p.tables e below (T32.setTop (mkF m 196 #[.val (.int p1), .val (.int p2), .val (.int p3), .val (.ref b4), .unset] [(.int (2147483647 : Int32)), (.int p3), (.int w33)])) _
    refine XS.iand X32.here hx rfl (hb hby at_196) rfl ?_
    show Steps p.tables e below (T32.setTop (mkF m 197 #[.val (.int p1), .val (.int p2), .val (.int p3), .val (.ref b4), .unset] [(.int (p3 &&& (2147483647 : Int32))), (.int w33)])) _
    refine XS.iconst X32.here hx rfl (hb hby at_197) ?_
    show Steps p.tables e below (T32.setTop (mkF m 198 #[.val (.int p1), .val (.int p2), .val (.int p3), .val (.ref b4), .unset] [(.int (3 : Int32)), (.int (p3 &&& (2147483647 : Int32))), (.int w33)])) _
    refine iremM X32 hx rfl (hb hby at_198) rfl (by decide) ?_
    show Steps p.tables e below (T32.setTop (mkF m 199 #[.val (.int p1), .val (.int p2), .val (.int p3), .val (.ref b4), .unset] [(.int ((p3 &&& (2147483647 : Int32)) % (3 : Int32))), (.int w33)])) _
    refine XS.iadd X32.here hx rfl (hb hby at_199) rfl ?_
    show Steps p.tables e below (T32.setTop (mkF m 200 #[.val (.int p1), .val (.int p2), .val (.int p3), .val (.ref b4), .unset] [(.int (w33 + ((p3 &&& (2147483647 : Int32)) % (3 : Int32))))])) _
    refine XS.iconst X32.here hx rfl (hb hby at_200) ?_
    show Steps p.tables e below (T32.setTop (mkF m 201 #[.val (.int p1), .val (.int p2), .val (.int p3), .val (.ref b4), .unset] [(.int (1 : Int32)), (.int (w33 + ((p3 &&& (2147483647 : Int32)) % (3 : Int32))))])) _
    refine XS.isub X32.here hx rfl (hb hby at_201) rfl ?_
    show Steps p.tables e below (T32.setTop (mkF m 202 #[.val (.int p1), .val (.int p2), .val (.int p3), .val (.ref b4), .unset] [(.int ((w33 + ((p3 &&& (2147483647 : Int32)) % (3 : Int32))) - (1 : Int32)))])) _
    refine XS.istore X32.here hx rfl (hb hby at_202) rfl (l' := #[.val (.int p1), .val (.int p2), .val (.int p3), .val (.ref b4), .val (.int ((w33 + ((p3 &&& (2147483647 : Int32)) % (3 : Int32))) - (1 : Int32)))]) rfl ?_
    show Steps p.tables e below (T32.setTop (mkF m 204 #[.val (.int p1), .val (.int p2), .val (.int p3), .val (.ref b4), .val (.int ((w33 + ((p3 &&& (2147483647 : Int32)) % (3 : Int32))) - (1 : Int32)))] [])) _
    refine XS.iloadN X32.here hx rfl (hb hby at_204) rfl ?_
    show Steps p.tables e below (T32.setTop (mkF m 205 #[.val (.int p1), .val (.int p2), .val (.int p3), .val (.ref b4), .val (.int ((w33 + ((p3 &&& (2147483647 : Int32)) % (3 : Int32))) - (1 : Int32)))] [(.int p1)])) _
    refine st34 _ ?_
    show Steps p.tables e below (T34.setTop (mkF m 208 #[.val (.int p1), .val (.int p2), .val (.int p3), .val (.ref b4), .val (.int ((w33 + ((p3 &&& (2147483647 : Int32)) % (3 : Int32))) - (1 : Int32)))] [(.int (own_bs own_L p1))])) _
    refine XS.iloadN X34.here hx rfl (hb hby at_208) rfl ?_
    show Steps p.tables e below (T34.setTop (mkF m 209 #[.val (.int p1), .val (.int p2), .val (.int p3), .val (.ref b4), .val (.int ((w33 + ((p3 &&& (2147483647 : Int32)) % (3 : Int32))) - (1 : Int32)))] [(.int p1), (.int (own_bs own_L p1))])) _
    refine st35 _ ?_
    show Steps p.tables e below (T35.setTop (mkF m 212 #[.val (.int p1), .val (.int p2), .val (.int p3), .val (.ref b4), .val (.int ((w33 + ((p3 &&& (2147483647 : Int32)) % (3 : Int32))) - (1 : Int32)))] [(.int (own_bs own_L p1)), (.int (own_bs own_L p1))])) _
    refine XS.icmpNo X35.here hx rfl (hb hby at_212) rfl (teq (rfl : (own_bs own_L p1) = (own_bs own_L p1))).2 ?_
    show Steps p.tables e below (T35.setTop (mkF m 215 #[.val (.int p1), .val (.int p2), .val (.int p3), .val (.ref b4), .val (.int ((w33 + ((p3 &&& (2147483647 : Int32)) % (3 : Int32))) - (1 : Int32)))] [])) _
    refine XS.iload X35.here hx rfl (hb hby at_215) rfl ?_
    show Steps p.tables e below (T35.setTop (mkF m 217 #[.val (.int p1), .val (.int p2), .val (.int p3), .val (.ref b4), .val (.int ((w33 + ((p3 &&& (2147483647 : Int32)) % (3 : Int32))) - (1 : Int32)))] [(.int ((w33 + ((p3 &&& (2147483647 : Int32)) % (3 : Int32))) - (1 : Int32)))])) _
    refine st36 _ ?_
    show Steps p.tables e below (T36.setTop (mkF m 220 #[.val (.int p1), .val (.int p2), .val (.int p3), .val (.ref b4), .val (.int ((w33 + ((p3 &&& (2147483647 : Int32)) % (3 : Int32))) - (1 : Int32)))] [(.int (own_bs own_L ((w33 + ((p3 &&& (2147483647 : Int32)) % (3 : Int32))) - (1 : Int32))))])) _
    refine XS.iload X36.here hx rfl (hb hby at_220) rfl ?_
    show Steps p.tables e below (T36.setTop (mkF m 222 #[.val (.int p1), .val (.int p2), .val (.int p3), .val (.ref b4), .val (.int ((w33 + ((p3 &&& (2147483647 : Int32)) % (3 : Int32))) - (1 : Int32)))] [(.int ((w33 + ((p3 &&& (2147483647 : Int32)) % (3 : Int32))) - (1 : Int32))), (.int (own_bs own_L ((w33 + ((p3 &&& (2147483647 : Int32)) % (3 : Int32))) - (1 : Int32))))])) _
    refine st37 _ ?_
    show Steps p.tables e below (T37.setTop (mkF m 225 #[.val (.int p1), .val (.int p2), .val (.int p3), .val (.ref b4), .val (.int ((w33 + ((p3 &&& (2147483647 : Int32)) % (3 : Int32))) - (1 : Int32)))] [(.int (own_bs own_L ((w33 + ((p3 &&& (2147483647 : Int32)) % (3 : Int32))) - (1 : Int32)))), (.int (own_bs own_L ((w33 + ((p3 &&& (2147483647 : Int32)) % (3 : Int32))) - (1 : Int32))))])) _
    refine XS.icmpNo X37.here hx rfl (hb hby at_225) rfl (teq (rfl : (own_bs own_L ((w33 + ((p3 &&& (2147483647 : Int32)) % (3 : Int32))) - (1 : Int32))) = (own_bs own_L ((w33 + ((p3 &&& (2147483647 : Int32)) % (3 : Int32))) - (1 : Int32))))).2 ?_
    show Steps p.tables e below (T37.setTop (mkF m 228 #[.val (.int p1), .val (.int p2), .val (.int p3), .val (.ref b4), .val (.int ((w33 + ((p3 &&& (2147483647 : Int32)) % (3 : Int32))) - (1 : Int32)))] [])) _
    refine XS.iconst X37.here hx rfl (hb hby at_228) ?_
    show Steps p.tables e below (T37.setTop (mkF m 229 #[.val (.int p1), .val (.int p2), .val (.int p3), .val (.ref b4), .val (.int ((w33 + ((p3 &&& (2147483647 : Int32)) % (3 : Int32))) - (1 : Int32)))] [(.int (1 : Int32))])) _
    refine XS.goto X37.here hx rfl (pc0 := 229) (pc' := 233) rfl (hb hby at_229) (by decide) (by decide) ?_
    show Steps p.tables e below (T37.setTop (mkF m 233 #[.val (.int p1), .val (.int p2), .val (.int p3), .val (.ref b4), .val (.int ((w33 + ((p3 &&& (2147483647 : Int32)) % (3 : Int32))) - (1 : Int32)))] [(.int (1 : Int32))])) _
    exact retN X37 hx (t := .boolean) Bd.returns (by simp) (hb hby at_233) hr
  · show Q0 Z p1 p2 p3 h0 n0 _ T37.heap _
    exact ⟨rfl, N37⟩

set_option maxRecDepth 65536 in
set_option maxHeartbeats 40000000 in
theorem comes_1 {Post : Tables → Env → Array Value → State → Outcome → State → Prop} (hpost : ∀ tb e args s v u, (limb_1_1.after args s (.returned v) u = true ∧ limb_1_2.after args s (.returned v) u = true ∧ True) → FrameEnd s (.returned v) u (Jvm.fieldLocs frame_1_writes args s ++ Jvm.arrayLocs frame_1_arrays args s ++ Jvm.staticLocs frame_1_statics s) 16 128 → Post tb e args s (.returned v) u) :
    ArmFor flags0 classFile x code maxLocals ret World_1 tables_1 room_1 Calls_1 rest_1 Pre_1 Post := by
  intro l hfl _ _ p e ha hc hk s m args below hf hA hF happ hP
  obtain ⟨hcalls, hrest, hpre⟩ := hP
  obtain ⟨-, -, -, hnamed, -, -, -, hat⟩ := (Spec.applies_iff hf).mp happ
  obtain ⟨hg, hn⟩ := and_e (Cond.before_iff.mp (show (Jvm.Cond.and given_1 narrow_1).before args s = true from hpre))
  obtain ⟨g38, g39⟩ := and_e hg
  obtain ⟨g40, g41⟩ := and_e g39
  obtain ⟨g42, g43⟩ := and_e g41
  obtain ⟨w0, w1, w2, rfl⟩ : ∃ w0 w1 w2 : Value, args = #[w0, w1, w2] := by
    have hs : args.size = 3 := by simpa [Cond.value, given_1] using g38
    obtain ⟨L⟩ := args
    match L, hs with
    | [w0, w1, w2], _ => exact ⟨w0, w1, w2, rfl⟩
  have hw := fun d (hd : d ∈ tables_1) => atoms_spec (ws := Jvm.Cond.code x code maxLocals ret :: tables_1) hat d (List.mem_cons_of_mem _ hd)
  have hfit : Fit s := fun {y c} hc i hi => by
    obtain ⟨ha, rfl⟩ := Array.getElem?_eq_some_iff.mp hc
    have q := List.all_eq_true.mp ((Array.all_eq_true_iff_forall_mem.mp hF) _ (Array.getElem_mem ha)) i (List.mem_range.mpr hi)
    simpa [Array.getElem?_eq_getElem hi] using q
  obtain ⟨i0, ei0⟩ := is_v g40
  obtain rfl : w0 = (.int i0) := Option.some.inj ei0
  obtain ⟨i1, ei1⟩ := is_v g42
  obtain rfl : w1 = (.int i1) := Option.some.inj ei1
  obtain ⟨i2, ei2⟩ := is_v g43
  obtain rfl : w2 = (.int i2) := Option.some.inj ei2
  obtain ⟨n, o, h1, h2, h3, _, L, rfl, ⟨rfl, N⟩, hq⟩ := rm0 l s _ hw tables_1 i0 i1 i2 s.heap s.heap.size (Nat.le_refl _) p e ha hc hk s m _ below hf ((Spec.applies_iff_loose hf).mp happ).1 ⟨rfl, State.Warmed39.refl s, rfl⟩ trivial
  refine ⟨n, _, h1, h2, h3, hpost _ _ _ _ _ _ ⟨Cond.after_iff.mpr rfl, Cond.after_iff.mpr (eq_i res_at (Term.int_eval (1)) rfl), trivial⟩ ⟨hq.1, hq.2.1, (hq.2.2.sift fun y hy => Or.inr (N y hy)).mono (by decide) (by decide)⟩⟩
theorem main_1_1 : Claimed_1_1 := comes_1 fun _ _ _ _ _ _ h hF => ⟨h.1, hF⟩
theorem main_1_2 : Claimed_1_2 := comes_1 fun _ _ _ _ _ _ h hF => ⟨h.2.1, hF⟩
end Jvm.Pilot.@@N@@
namespace Jvm.Pilot.@@N@@
open Jvm Jvm.ClassFile Sem Op Lib Jvm.Free Jvm.Stand Jvm.Pilot.@@N@@.Jvm.D
/-! MADE BY PROGRAM (witnessworld.py) out of the Statement's table words and the real class files: 9 classes; the members and pool entries that the words name. The judged class is class 1, her method 3. -/
namespace start1
open Jvm.ClassFile
def u (s : String) : CpInfo := .utf8 (stringToUtf16 s)
/-- a pool by its gaps: so many unusable entries, then the entry; so many at the end -/
def gap : Nat → List CpInfo → List CpInfo
  | 0, r => r
  | n + 1, r => .unusable :: gap n r
def poolList (es : List (Nat × CpInfo)) (last : Nat) : List CpInfo := es.foldr (fun e r => gap e.1 (e.2 :: r)) (gap last [])
def pool (es : List (Nat × CpInfo)) (last : Nat) : Array CpInfo := ⟨poolList es last⟩
def fileOf (pool : Array CpInfo) (this : Nat) (attrs : Array Attribute := #[]) (ms : Array MethodInfo := #[]) (fl : Nat := 33) (sup : Nat := 0) (ifs : Array Nat := #[]) (fds : Array FieldInfo := #[]) : ClassFile where
  minorVersion := 0
  majorVersion := 65
  constantPool := pool
  accessFlags := fl
  thisClass := this
  superClass := sup
  interfaces := ifs
  fields := fds
  methods := ms
  attributes := attrs
def plain (name : String) (sup : Option ClassId) : Class where
  name := name
  kind := .ordinary
  loader := none
  accessFlags := 33
  super := sup
  interfaces := #[]
  cf := none
  fields := #[]
  methods := #[]
  instanceTypes := #[]
  staticTypes := #[]
  resolved := #[]
  callSites := []
  init := .initialized
  statics := none
  mirror := none

def pool0 : Array CpInfo := pool [(5, u "<init>"), (0, u "()V"), (1, .class_ 10), (1, u "java/lang/Object")] 113

def k0m0 : Method := { name := "<init>", desc := "()V", sig := { parameters := [], returnType := none }, accessFlags := 1, code := none }
/-- java/lang/Object -/
def k0 : Class := { plain "java/lang/Object" none with
  accessFlags := 33
  interfaces := #[]
  cf := some (fileOf pool0 8 #[] #[{ accessFlags := 1, nameIndex := 5, descriptorIndex := 6, attributes := #[] }] 33 0 #[] #[])
  fields := #[]
  methods := #[k0m0]
  instanceTypes := #[]
  staticTypes := #[]
  resolved := Array.replicate 124 none
  statics := none }

def pool1 : Array CpInfo := pool [(2, .class_ 4), (1, u "java/lang/Object"), (0, u "<init>"), (0, u "()V"), (0, .integer 983039), (0, .methodref 9 10), (0, .class_ 11), (0, .nameAndType 12 13), (0, u "com/example/text_with_triples/textwithtriples/model/NameCharsIsBasePinLaw"), (0, u "in"), (0, u "(III)Z"), (0, .integer 55296), (0, .integer 63743), (0, .integer 64976), (0, .integer 65007), (0, .integer 65534), (0, .integer 65535), (0, .integer 55295), (0, .integer 63744), (0, .integer 64975), (0, .integer 65008), (0, .integer 65533), (0, .integer 65536), (0, .integer 2147483647), (0, .methodref 28 29), (0, .class_ 30), (0, .nameAndType 31 32), (0, u "com/example/text_with_triples/textwithtriples/model/NameChars"), (0, u "isBase"), (0, u "(I)Z"), (0, .methodref 9 34), (0, .nameAndType 35 32), (0, u "ref"), (3, u "law")] 4

def k1m0 : Method := { name := "<init>", desc := "()V", sig := { parameters := [], returnType := none }, accessFlags := 2, code := none }
def k1c1 : Code := { maxStack := 2, maxLocals := 3, code := method_2_code, exceptionTable := #[], attributes := #[] }
def k1m1 : Method := { name := "in", desc := "(III)Z", sig := { parameters := [.int, .int, .int], returnType := some .boolean }, accessFlags := 10, code := some k1c1 }
def k1c2 : Code := { maxStack := 3, maxLocals := 2, code := method_3_code, exceptionTable := #[], attributes := #[] }
def k1m2 : Method := { name := "ref", desc := "(I)Z", sig := { parameters := [.int], returnType := some .boolean }, accessFlags := 10, code := some k1c2 }
def k1c3 : Code := { maxStack := 4, maxLocals := 5, code := code, exceptionTable := #[], attributes := #[] }
def k1m3 : Method := { name := "law", desc := "(III)Z", sig := { parameters := [.int, .int, .int], returnType := some .boolean }, accessFlags := 9, code := some k1c3 }
/-- com/example/text_with_triples/textwithtriples/model/NameCharsIsBasePinLaw -/
def k1 : Class := { plain "com/example/text_with_triples/textwithtriples/model/NameCharsIsBasePinLaw" (some 0) with
  accessFlags := 49
  interfaces := #[]
  cf := some (fileOf pool1 9 #[] #[{ accessFlags := 2, nameIndex := 5, descriptorIndex := 6, attributes := #[] }, { accessFlags := 10, nameIndex := 12, descriptorIndex := 13, attributes := #[] }, { accessFlags := 10, nameIndex := 35, descriptorIndex := 32, attributes := #[] }, { accessFlags := 9, nameIndex := 39, descriptorIndex := 13, attributes := #[] }] 49 2 #[] #[])
  fields := #[]
  methods := #[k1m0, k1m1, k1m2, k1m3]
  instanceTypes := #[]
  staticTypes := #[]
  resolved := Array.replicate 44 none
  statics := none }

def pool2 : Array CpInfo := pool [(2, .class_ 4), (1, u "java/lang/Object"), (0, u "<init>"), (0, u "()V"), (0, .integer 55295), (0, .integer 63744), (0, .integer 64975), (0, .integer 65008), (0, .integer 65533), (0, .integer 65536), (0, .integer 983039), (1, .class_ 17), (1, u "com/example/text_with_triples/textwithtriples/model/NameChars"), (0, u "isBase"), (0, u "(I)Z")] 37

def k2m0 : Method := { name := "<init>", desc := "()V", sig := { parameters := [], returnType := none }, accessFlags := 2, code := none }
def k2c1 : Code := { maxStack := 2, maxLocals := 1, code := prog_45_method_2_code, exceptionTable := #[], attributes := #[] }
def k2m1 : Method := { name := "isBase", desc := "(I)Z", sig := { parameters := [.int], returnType := some .boolean }, accessFlags := 9, code := some k2c1 }
/-- com/example/text_with_triples/textwithtriples/model/NameChars -/
def k2 : Class := { plain "com/example/text_with_triples/textwithtriples/model/NameChars" (some 0) with
  accessFlags := 49
  interfaces := #[]
  cf := some (fileOf pool2 15 #[] #[{ accessFlags := 2, nameIndex := 5, descriptorIndex := 6, attributes := #[] }, { accessFlags := 9, nameIndex := 18, descriptorIndex := 19, attributes := #[] }] 49 2 #[] #[])
  fields := #[]
  methods := #[k2m0, k2m1]
  instanceTypes := #[]
  staticTypes := #[]
  resolved := Array.replicate 57 none
  statics := none }

def pool3 : Array CpInfo := pool [(1, u "java/lang/Cloneable"), (0, .class_ 1), (0, u "java/lang/Object"), (0, .class_ 3)] 3

/-- java/lang/Cloneable -/
def k3 : Class := { plain "java/lang/Cloneable" (some 0) with
  accessFlags := 1537
  interfaces := #[]
  cf := some (fileOf pool3 2 #[] #[] 1537 4 #[] #[])
  fields := #[]
  methods := #[]
  instanceTypes := #[]
  staticTypes := #[]
  resolved := Array.replicate 8 none
  statics := none }

def pool4 : Array CpInfo := pool [(1, u "java/io/Serializable"), (0, .class_ 1), (0, u "java/lang/Object"), (0, .class_ 3)] 3

/-- java/io/Serializable -/
def k4 : Class := { plain "java/io/Serializable" (some 0) with
  accessFlags := 1537
  interfaces := #[]
  cf := some (fileOf pool4 2 #[] #[] 1537 4 #[] #[])
  fields := #[]
  methods := #[]
  instanceTypes := #[]
  staticTypes := #[]
  resolved := Array.replicate 8 none
  statics := none }

/-- the primitive byte -/
def k5 : Class := { plain "byte" none with kind := .primitive 'B', accessFlags := 0x411 }
/-- [B -/
def k6 : Class := { plain "[B" (some 0) with kind := .array 5 .byte, interfaces := #[3, 4], accessFlags := 1041 }

/-- the primitive int -/
def k7 : Class := { plain "int" none with kind := .primitive 'I', accessFlags := 0x411 }
/-- [I -/
def k8 : Class := { plain "[I" (some 0) with kind := .array 7 .int, interfaces := #[3, 4], accessFlags := 1041 }

def heap : Heap := #[]
def classes : Array Class := #[k0, k1, k2, k3, k4, k5, k6, k7, k8]
def interned : List (Array UInt16 × Addr) := []
def slotsUsed : Nat := 0
def theMethod : MethodId := ⟨1, 3⟩
def args0 : Array Value := #[.int 5, .int 6, .int 7]
def aboutOver (below : List Frame) : State where
  vm := { classes := classes, interned := interned.toArray }
  heap := heap
  slotsUsed := slotsUsed
  threads := #[{ frames := .invoking theMethod args0 :: below }]
def below0 : List Frame := [.native { method := ⟨0, 0⟩, args := #[] }]
def about1 : State := aboutOver below0
def p0 : Program := .bare "" "" ""
def e0 : Env := launch0.env 0 0 0
theorem w_frames : about1.frames = Frame.invoking theMethod args0 :: below0 := rfl
set_option maxRecDepth 65536 in
theorem w_args : argsFit about1.vm theMethod args0 = true := by decide +kernel
set_option maxRecDepth 65536 in
theorem w_heap : heapFits about1 = true := by decide +kernel
set_option maxRecDepth 65536 in
theorem w_runnable : about1.curStatus? = some .runnable := by decide +kernel
set_option maxRecDepth 65536 in
theorem w_alone : about1.alone = true := by decide +kernel
set_option maxRecDepth 65536 in
theorem w_named : about1.methodNamed? x = some theMethod := by decide +kernel
set_option maxRecDepth 65536 in
theorem w_hears : about1.hears theMethod below0 = true := by decide +kernel
set_option maxRecDepth 65536 in
theorem w_ripe : about1.ripe theMethod args0 below0 = true := by decide +kernel
theorem w_running : about1.status = .running := rfl
set_option maxRecDepth 65536 in
theorem w_room : about1.hasRoom e0.platform room_1 = true :=
  launch0.hasRoom_least _ room_1 (by decide +kernel) (by decide +kernel) (by decide +kernel) (by decide +kernel) (by decide +kernel) (by decide +kernel)
theorem allAtoms_all (ts : List Jvm.Cond) (a : Array Jvm.Value) (st : Jvm.State) : (allAtoms ts).before a st = ts.all (fun c => c.before a st) := by
  induction ts with
  | nil => rfl
  | cons c t ih =>
    show (Jvm.Cond.and c (allAtoms t)).before a st = _
    rw [Jvm.Cond.before_and, ih, List.all_cons]
def words1 : List Jvm.Cond := Jvm.Cond.code x code maxLocals ret :: tables_1
/-- a 'code' word, met by the world's own term for the bytes: nothing is compared byte by byte -/
theorem code_word {y : MethodName} {bytes : ByteArray} {mx : Nat} {rt : Option FieldType} {a : Array Value} {s : State} {m : MethodId} {meth : Method} {c : Code} (h1 : s.methodNamed? y = some m) (h2 : s.vm.method? m = some meth) (h3 : meth.code = some c) (h4 : c.code = bytes)
    (h5 : (c.maxLocals == mx && c.exceptionTable.isEmpty && decide (c.maxStack ≤ mostOperands) && decide (meth.sig.returnType = rt) && !meth.locks && decide (parseMethodDescriptor y.desc = some meth.sig)) = true) : (Jvm.Cond.code y bytes mx rt).before a s = true := by
  simp only [Bool.and_eq_true, beq_iff_eq, Bool.not_eq_true', decide_eq_true_eq] at h5
  obtain ⟨⟨⟨⟨⟨g1, g2⟩, g3⟩, g4⟩, g5⟩, g6⟩ := h5
  simp [Cond.before, Cond.holds, Cond.value, h1, h2, h3, h4, g1, g2, g3, g4, g5, g6]
def isCode : Jvm.Cond → Bool
  | .code _ _ _ _ => true
  | _ => false
theorem all_split {L : List Jvm.Cond} {P : Jvm.Cond → Bool} (h1 : L.all (fun c => isCode c || P c) = true) (h2 : ∀ c ∈ L.filter isCode, P c = true) : L.all P = true := by
  refine List.all_eq_true.mpr fun c hc => ?_
  have h := List.all_eq_true.mp h1 c hc
  rcases Bool.eq_false_or_eq_true (isCode c) with hi | hi
  · exact h2 c (List.mem_filter.mpr ⟨hc, hi⟩)
  · simpa [hi] using h
set_option maxRecDepth 65536 in
theorem w_c0 : (Jvm.Cond.code x code maxLocals ret).before args0 about1 = true := code_word (m := ⟨1, 3⟩) (meth := k1m3) (c := k1c3) (by decide +kernel) rfl rfl rfl (by decide +kernel)
set_option maxRecDepth 65536 in
theorem w_c1 : (Jvm.Cond.code ({ cls := "com/example/text_with_triples/textwithtriples/model/NameChars", name := "isBase", desc := "(I)Z" } : Jvm.MethodName) prog_45_method_2_code (1 : Nat) (Option.some Jvm.ClassFile.FieldType.boolean)).before args0 about1 = true := code_word (m := ⟨2, 1⟩) (meth := k2m1) (c := k2c1) (by decide +kernel) rfl rfl rfl (by decide +kernel)
set_option maxRecDepth 65536 in
theorem w_c2 : (Jvm.Cond.code ({ cls := "com/example/text_with_triples/textwithtriples/model/NameCharsIsBasePinLaw", name := "ref", desc := "(I)Z" } : Jvm.MethodName) method_3_code (2 : Nat) (Option.some Jvm.ClassFile.FieldType.boolean)).before args0 about1 = true := code_word (m := ⟨1, 2⟩) (meth := k1m2) (c := k1c2) (by decide +kernel) rfl rfl rfl (by decide +kernel)
set_option maxRecDepth 65536 in
theorem w_c3 : (Jvm.Cond.code ({ cls := "com/example/text_with_triples/textwithtriples/model/NameCharsIsBasePinLaw", name := "in", desc := "(III)Z" } : Jvm.MethodName) method_2_code (3 : Nat) (Option.some Jvm.ClassFile.FieldType.boolean)).before args0 about1 = true := code_word (m := ⟨1, 1⟩) (meth := k1m1) (c := k1c1) (by decide +kernel) rfl rfl rfl (by decide +kernel)
def codes1 : List Jvm.Cond := [Jvm.Cond.code x code maxLocals ret, Jvm.Cond.code ({ cls := "com/example/text_with_triples/textwithtriples/model/NameChars", name := "isBase", desc := "(I)Z" } : Jvm.MethodName) prog_45_method_2_code (1 : Nat) (Option.some Jvm.ClassFile.FieldType.boolean), Jvm.Cond.code ({ cls := "com/example/text_with_triples/textwithtriples/model/NameCharsIsBasePinLaw", name := "ref", desc := "(I)Z" } : Jvm.MethodName) method_3_code (2 : Nat) (Option.some Jvm.ClassFile.FieldType.boolean), Jvm.Cond.code ({ cls := "com/example/text_with_triples/textwithtriples/model/NameCharsIsBasePinLaw", name := "in", desc := "(III)Z" } : Jvm.MethodName) method_2_code (3 : Nat) (Option.some Jvm.ClassFile.FieldType.boolean)]
set_option maxRecDepth 65536 in
theorem codes_eq : words1.filter isCode = codes1 := rfl
theorem w_codes : ∀ c ∈ words1.filter isCode, c.before args0 about1 = true := by
  rw [codes_eq]
  intro c hc
  simp only [codes1, List.mem_cons, List.not_mem_nil, or_false] at hc
  rcases hc with rfl | rfl | rfl | rfl
  · exact w_c0
  · exact w_c1
  · exact w_c2
  · exact w_c3
set_option maxRecDepth 65536 in
theorem w_t1 : (words1.take 24).all (fun c => isCode c || c.before args0 about1) = true := by decide +kernel
set_option maxRecDepth 65536 in
theorem w_t2 : (words1.drop 24).all (fun c => isCode c || c.before args0 about1) = true := by decide +kernel
theorem w_tables : (allAtoms (Jvm.Cond.code x code maxLocals ret :: tables_1)).before args0 about1 = true := by
  rw [allAtoms_all]
  show words1.all (fun c => c.before args0 about1) = true
  refine all_split ?_ w_codes
  rw [← List.take_append_drop 24 words1, List.all_append, w_t1, w_t2]
  rfl
set_option maxRecDepth 65536 in
theorem w_case : (Jvm.Cond.and given_1 narrow_1).before args0 about1 = true := by decide +kernel
theorem w_applies : (headSpec (Jvm.Cond.code x code maxLocals ret :: tables_1) room_1).applies x e0.platform about1 = true :=
  (Spec.applies_iff w_frames).mpr ⟨w_running, w_runnable, w_alone, w_named, w_hears, w_ripe, w_room, w_tables⟩
theorem atStart : AtStart classFile x code maxLocals ret World_1 tables_1 room_1 Calls_1 rest_1 Pre_1 launch0 p0 e0 about1 theMethod args0 below0 :=
  ⟨lists_1, trivial, launch0.admits_env _ _ _, launch0.least_env, fairChoices_fair.cas, fairChoices_fair.clock, w_frames, w_args, w_heap, w_applies, trivial, trivial, w_case⟩
end start1
theorem witness_1 : WitnessClaimed_1 := ⟨start1.p0, start1.e0, start1.about1, start1.theMethod, start1.args0, start1.below0, start1.atStart⟩
end Jvm.Pilot.@@N@@
