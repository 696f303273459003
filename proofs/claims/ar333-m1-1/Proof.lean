import JvmDerived
import JvmDerived.Pilot.@@N@@Statement
import JvmDerived.Pilot.@@N@@Code
set_option linter.unusedVariables false
set_option linter.unusedSimpArgs false
namespace Jvm.RoadKit
open Sem ClassFile Op Lib Jvm.Stand Jvm.Free Jvm.LawKit
section New
variable {p : Program} {l : Launch} {e : Env} {R : Room} {s : State} {m : MethodId} {args : Array Value} {below : List Frame} {meth : Method} {c : Code} {T : State} {locs : List Loc} {cells slots : Nat}
theorem retI (X : Stand p l e R s m args below meth c T locs cells slots) (hx : p.tables.exec = Jvm.exec) {pc : Nat} {Ls : Array Slot} {z : Int32} {rest : List Value} (hret : meth.sig.returnType = some .int) (hd : decode c.code pc = .ok (.ireturn, 1)) {fs : List Frame}
    (hl : ∀ (f : JFrame) (acts : List Action), f.method = m → f.locked = none → f.entered = [] → (doReturn e (T.setTop f) acts (some (.int z))).1 = T.setFrames fs) : Steps p.tables e below (T.setTop (mkF m pc Ls (.int z :: rest))) (T.setFrames fs) := by
  have hm' : T.vm.method? m = some meth := X.method'
  have hn : narrow .int (.int z) = .int z := rfl
  show Steps p.tables e below (T.setTop { method := m, pc := pc, locals := Ls, stack := _ :: rest, locked := none }) _
  jvm_step X.here [X.here.top, hx, hd, hm', hret, hn]
  first | (intro acts; rw [hl _ acts rfl rfl rfl]) | rw [hl _ _ rfl rfl rfl]
  exact Steps.refl _
end New
end Jvm.RoadKit
namespace Jvm.Pilot.@@N@@
open Jvm Jvm.ClassFile Sem Op Lib Jvm.Free Jvm.Stand Jvm.LawKit Jvm.RoadKit Bundle Jvm.Pilot.@@N@@.Jvm.D
def own_p (q : Int64) : Int64 := if lcmpW (q - (q / (10000 : Int64)) * (10000 : Int64)) (0 : Int64) = (0 : Int32) then (q / (10000 : Int64)) + ((0 : Int32).toInt64) else (q / (10000 : Int64)) + ((1 : Int32).toInt64)
theorem own_tdiv (q : Int64) (h : 0 ≤ q.toInt) : (q / (10000 : Int64)).toInt = q.toInt / 10000 := by
  have hq := Int64.toInt_lt q
  rw [Int64.toInt_div]
  have h1 : (10000 : Int64).toInt = 10000 := by decide
  rw [h1, Int.tdiv_eq_ediv_of_nonneg h]
  apply Int.bmod_eq_of_le <;> omega
theorem own_law (T : Int64) (h0 : 0 < T.toInt) : ¬ (lcmpW (own_p T) (1 : Int64) < (0 : Int32)) ∧ ¬ ((0 : Int32) < lcmpW (own_p T - (1 : Int64)) (922337203685477 : Int64)) ∧ ¬ (lcmpW (T - ((own_p T - (1 : Int64)) * (10000 : Int64))) (1 : Int64) < (0 : Int32)) ∧ ¬ ((0 : Int32) < lcmpW (T - ((own_p T - (1 : Int64)) * (10000 : Int64))) (10000 : Int64)) := by
  have hT := Int64.toInt_lt T
  have hd := own_tdiv T (by omega)
  have c1 : (1 : Int64).toInt = 1 := by decide
  have c2 : (922337203685477 : Int64).toInt = 922337203685477 := by decide
  have c3 : (10000 : Int64).toInt = 10000 := by decide
  have c0 : (0 : Int64).toInt = 0 := by decide
  have i0 : ((0 : Int32).toInt64).toInt = 0 := by decide
  have i1 : ((1 : Int32).toInt64).toInt = 1 := by decide
  have hm : ((T / (10000 : Int64)) * (10000 : Int64)).toInt = T.toInt / 10000 * 10000 := by
    rw [Int64.toInt_mul, hd, c3]; apply Int.bmod_eq_of_le <;> omega
  have hr : (T - (T / (10000 : Int64)) * (10000 : Int64)).toInt = T.toInt - T.toInt / 10000 * 10000 := by
    rw [Int64.toInt_sub, hm]; apply Int.bmod_eq_of_le <;> omega
  have hp : (own_p T).toInt = if T.toInt % 10000 = 0 then T.toInt / 10000 else T.toInt / 10000 + 1 := by
    unfold own_p
    by_cases hz : lcmpW (T - (T / (10000 : Int64)) * (10000 : Int64)) (0 : Int64) = (0 : Int32)
    · rw [if_pos hz]
      have hz' := (lw_eq _ _).mp hz
      rw [← Int64.toInt_inj, hr, c0] at hz'
      rw [if_pos (by omega), Int64.toInt_add, hd, i0]; apply (Int.bmod_eq_of_le _ _).trans <;> omega
    · rw [if_neg hz]
      have hz' : ¬ _ := fun q => hz ((lw_eq _ _).mpr q)
      rw [← Int64.toInt_inj, hr, c0] at hz'
      rw [if_neg (by omega), Int64.toInt_add, hd, i1]; apply Int.bmod_eq_of_le <;> omega
  generalize own_p T = P at hp
  have hb : 1 ≤ P.toInt ∧ P.toInt - 1 ≤ 922337203685477 ∧ 1 ≤ T.toInt - (P.toInt - 1) * 10000 ∧ T.toInt - (P.toInt - 1) * 10000 ≤ 10000 := by
    split at hp <;> omega
  have hp1 : (P - (1 : Int64)).toInt = P.toInt - 1 := by
    rw [Int64.toInt_sub, c1]; apply Int.bmod_eq_of_le <;> omega
  have hp2 : ((P - (1 : Int64)) * (10000 : Int64)).toInt = (P.toInt - 1) * 10000 := by
    rw [Int64.toInt_mul, hp1, c3]; apply Int.bmod_eq_of_le <;> omega
  have hp3 : (T - (P - (1 : Int64)) * (10000 : Int64)).toInt = T.toInt - (P.toInt - 1) * 10000 := by
    rw [Int64.toInt_sub, hp2]; apply Int.bmod_eq_of_le <;> omega
  refine ⟨?_, ?_, ?_, ?_⟩
  · rw [lw_lt, Int64.lt_iff_toInt_lt, c1]; omega
  · rw [lw_gt, Int64.lt_iff_toInt_lt, c2, hp1]; omega
  · rw [lw_lt, Int64.lt_iff_toInt_lt, c1, hp3]; omega
  · rw [lw_gt, Int64.lt_iff_toInt_lt, c3, hp3]; omega
theorem own_mask (q : Int64) : 0 ≤ (q &&& (9223372036854775807 : Int64)).toInt := by
  have h : (q &&& (9223372036854775807 : Int64)).toBitVec.msb = false := by
    rw [Int64.toBitVec_and, BitVec.msb_and]
    have : (9223372036854775807 : Int64).toBitVec.msb = false := by decide
    rw [this, Bool.and_false]
  rw [BitVec.msb_eq_toInt, decide_eq_false_iff_not] at h
  exact Int.not_lt.mp h
theorem own_pos (q : Int64) (h : ¬ (lcmpW (q &&& (9223372036854775807 : Int64)) (0 : Int64) = (0 : Int32))) : 0 < (q &&& (9223372036854775807 : Int64)).toInt := by
  have h1 := own_mask q
  have h2 : ¬ ((q &&& (9223372036854775807 : Int64)) = 0) := fun e => h ((lw_eq _ _).mpr e)
  rw [← Int64.toInt_inj] at h2
  have c0 : (0 : Int64).toInt = 0 := by decide
  rw [c0] at h2
  omega
theorem d1_0 : decode prog_23_method_8_code 0 = .ok (.lload_n 0, 1) := by decide +kernel
theorem d1_1 : decode prog_23_method_8_code 1 = .ok (.ldc2_w 108, 3) := by decide +kernel
theorem d1_4 : decode prog_23_method_8_code 4 = .ok (.ldiv, 1) := by decide +kernel
theorem d1_5 : decode prog_23_method_8_code 5 = .ok (.lload_n 0, 1) := by decide +kernel
theorem d1_6 : decode prog_23_method_8_code 6 = .ok (.ldc2_w 108, 3) := by decide +kernel
theorem d1_9 : decode prog_23_method_8_code 9 = .ok (.lrem, 1) := by decide +kernel
theorem d1_10 : decode prog_23_method_8_code 10 = .ok (.lconst 0, 1) := by decide +kernel
theorem d1_11 : decode prog_23_method_8_code 11 = .ok (.lcmp, 1) := by decide +kernel
theorem d1_12 : decode prog_23_method_8_code 12 = .ok (.ifCond .ne 7, 3) := by decide +kernel
theorem d1_19 : decode prog_23_method_8_code 19 = .ok (.iconst 1, 1) := by decide +kernel
theorem d1_20 : decode prog_23_method_8_code 20 = .ok (.i2l, 1) := by decide +kernel
theorem d1_21 : decode prog_23_method_8_code 21 = .ok (.ladd, 1) := by decide +kernel
theorem d1_22 : decode prog_23_method_8_code 22 = .ok (.lreturn, 1) := by decide +kernel
theorem pn_1 : plainName "com/example/quota2/quota2/Throughput" = true := by first | (simp [plainName, overriddenIn]; done) | decide +kernel
theorem ef_1 (m : MethodId) (x0 : Int64) : entryFrame m #[(.long x0)] 2 = mkF m 0 #[.val (.long x0), .second] [] := by first | (simp [entryFrame, mkF, argsToLocals, Value.category]; done) | rfl
def Q1 (Z : State) (q1 : Int64) (h0 : Heap) (n0 : Nat) (v : Option Value) (h : Heap) (L : List Loc) : Prop := v = some (.long (own_p q1)) ∧ Fr n0 L ∧ h = h0
set_option maxRecDepth 65536 in
set_option maxHeartbeats 40000000 in
theorem rm1_t (l : Launch) (Z : State) (a0 : Array Value) (hw : ∀ d ∈ tables_1, d.before a0 Z = true) (ws : List Jvm.Cond) (q1 : Int64) (h0 : Heap) (n0 : Nat) (Z0 : n0 ≤ h0.size) (hnz4 : ¬ ((10000 : Int64) = (0 : Int64))) (hnz9 : ¬ ((10000 : Int64) = (0 : Int64))) (hc12 : ¬ ((lcmpW (q1 - (q1 / (10000 : Int64)) * (10000 : Int64)) (0 : Int64)) = (0 : Int32))) :
    MetFree l (⟨"com/example/quota2/quota2/Throughput", "partitions", "(J)J"⟩ : MethodName) (head1 (Jvm.Cond.code (⟨"com/example/quota2/quota2/Throughput", "partitions", "(J)J"⟩ : MethodName) prog_23_method_8_code 2 (some .long) :: ws) ({ frames := 0, cells := 0, slots := 0, locals := 0 } : Room)) (fun a U => a = #[(.long q1)] ∧ Z.Warmed39 U.vm ∧ U.heap = h0) (fun _ _ _ _ _ => True) (fun _ U o U' => ∃ v L, o = .returned v ∧ Q1 Z q1 h0 n0 v U'.heap L ∧ FrameEnd U o U' L ({ frames := 0, cells := 0, slots := 0, locals := 0 } : Room).cells ({ frames := 0, cells := 0, slots := 0, locals := 0 } : Room).slots) := by
  refine MetFree.of_bodySF (plainFor_of_name pn_1) hisR ?_
  intro p e s m args below meth c s₁ Bd hml0 hP hK
  obtain ⟨rfl, hZ, hh⟩ := hP
  have hx := Bd.exec
  have hby := Bd.bytes
  have hml : c.maxLocals = 2 := hml0
  have hown : s.vm.findClass "com/example/quota2/quota2/Throughput" = some m.cls := findClass_of_methodNamed Bd.named
  have hnm := (name_of_methodNamed Bd.named Bd.method).1
  have X0 : Stand p l e ({ frames := 0, cells := 0, slots := 0, locals := 0 } : Room) s m #[(.long q1)] below meth c s₁ [] 0 0 := Stand.of_body Bd
  have e0 : s₁.heap = h0 := by rw [← hh, Bd.state]; rfl
  have N0 := Fr.nil n0
  have pre0 : ∀ t, Steps p.tables e below (s₁.setTop (mkF m 0 #[.val (.long q1), .second] [])) t → Steps p.tables e below (s₁.setTop (entryFrame m #[(.long q1)] 2)) t := fun t k => castTop (ef_1 m q1) k

  obtain ⟨fs, hr, hrun, hended, hW, hsame⟩ := X0.leave (v := some (.long ((q1 / (10000 : Int64)) + ((1 : Int32).toInt64)))) (fun h => by rw [Bd.returns] at h; cases h)
  refine ⟨_, _, pre0 _ ?_, hrun, hended, _, _, rfl, ?_, ⟨_, rfl⟩, hW, hsame.mono (by decide) (by decide)⟩
  · show Steps p.tables e below (s₁.setTop (mkF m 0 #[.val (.long q1), .second] [])) _
    refine XS.lloadN X0.here hx rfl (hb hby d1_0) rfl ?_
    show Steps p.tables e below (s₁.setTop (mkF m 1 #[.val (.long q1), .second] [(.long q1)])) _
    refine X0.ldc2Long hx hown (mvT hZ (hw _ (List.mem_of_getElem? (i := 5) rfl))) (g := (mkF m 1 #[.val (.long q1), .second] [(.long q1)])) rfl (hb hby d1_1) _ ?_
    show Steps p.tables e below (s₁.setTop (mkF m 4 #[.val (.long q1), .second] [(.long (10000 : Int64)), (.long q1)])) _
    refine XS.ldiv X0.here hx rfl (hb hby d1_4) rfl hnz4 ?_
    show Steps p.tables e below (s₁.setTop (mkF m 5 #[.val (.long q1), .second] [(.long (q1 / (10000 : Int64)))])) _
    refine XS.lloadN X0.here hx rfl (hb hby d1_5) rfl ?_
    show Steps p.tables e below (s₁.setTop (mkF m 6 #[.val (.long q1), .second] [(.long q1), (.long (q1 / (10000 : Int64)))])) _
    refine X0.ldc2Long hx hown (mvT hZ (hw _ (List.mem_of_getElem? (i := 5) rfl))) (g := (mkF m 6 #[.val (.long q1), .second] [(.long q1), (.long (q1 / (10000 : Int64)))])) rfl (hb hby d1_6) _ ?_
    show Steps p.tables e below (s₁.setTop (mkF m 9 #[.val (.long q1), .second] [(.long (10000 : Int64)), (.long q1), (.long (q1 / (10000 : Int64)))])) _
    refine XS.lrem X0.here hx rfl (hb hby d1_9) rfl hnz9 ?_
    show Steps p.tables e below (s₁.setTop (mkF m 10 #[.val (.long q1), .second] [(.long (q1 - (q1 / (10000 : Int64)) * (10000 : Int64))), (.long (q1 / (10000 : Int64)))])) _
    refine XS.lconst X0.here hx rfl (hb hby d1_10) ?_
    show Steps p.tables e below (s₁.setTop (mkF m 11 #[.val (.long q1), .second] [(.long (0 : Int64)), (.long (q1 - (q1 / (10000 : Int64)) * (10000 : Int64))), (.long (q1 / (10000 : Int64)))])) _
    refine XS.lcmp X0.here hx rfl (hb hby d1_11) rfl ?_
    show Steps p.tables e below (s₁.setTop (mkF m 12 #[.val (.long q1), .second] [(.int (lcmpW (q1 - (q1 / (10000 : Int64)) * (10000 : Int64)) (0 : Int64))), (.long (q1 / (10000 : Int64)))])) _
    refine XS.ifYes X0.here hx rfl (pc0 := 12) (pc' := 19) rfl (hb hby d1_12) rfl ((if0 _ _).trans (feq hc12).2) (by decide) (by decide) ?_
    show Steps p.tables e below (s₁.setTop (mkF m 19 #[.val (.long q1), .second] [(.long (q1 / (10000 : Int64)))])) _
    refine XS.iconst X0.here hx rfl (hb hby d1_19) ?_
    show Steps p.tables e below (s₁.setTop (mkF m 20 #[.val (.long q1), .second] [(.int (1 : Int32)), (.long (q1 / (10000 : Int64)))])) _
    refine XS.i2l X0.here hx rfl (hb hby d1_20) rfl ?_
    show Steps p.tables e below (s₁.setTop (mkF m 21 #[.val (.long q1), .second] [(.long ((1 : Int32).toInt64)), (.long (q1 / (10000 : Int64)))])) _
    refine XS.ladd X0.here hx rfl (hb hby d1_21) rfl ?_
    show Steps p.tables e below (s₁.setTop (mkF m 22 #[.val (.long q1), .second] [(.long ((q1 / (10000 : Int64)) + ((1 : Int32).toInt64)))])) _
    exact X0.lreturnOut hx Bd.returns (hb hby d1_22) hr
  · show Q1 Z q1 h0 n0 _ s₁.heap _
    rw [e0]
    exact ⟨by rw [own_p, if_neg hc12], N0, rfl⟩
theorem d1_15 : decode prog_23_method_8_code 15 = .ok (.iconst 0, 1) := by decide +kernel
theorem d1_16 : decode prog_23_method_8_code 16 = .ok (.goto 4, 3) := by decide +kernel
set_option maxRecDepth 65536 in
set_option maxHeartbeats 40000000 in
theorem rm1_f (l : Launch) (Z : State) (a0 : Array Value) (hw : ∀ d ∈ tables_1, d.before a0 Z = true) (ws : List Jvm.Cond) (q1 : Int64) (h0 : Heap) (n0 : Nat) (Z0 : n0 ≤ h0.size) (hnz4 : ¬ ((10000 : Int64) = (0 : Int64))) (hnz9 : ¬ ((10000 : Int64) = (0 : Int64))) (hc12 : (lcmpW (q1 - (q1 / (10000 : Int64)) * (10000 : Int64)) (0 : Int64)) = (0 : Int32)) :
    MetFree l (⟨"com/example/quota2/quota2/Throughput", "partitions", "(J)J"⟩ : MethodName) (head1 (Jvm.Cond.code (⟨"com/example/quota2/quota2/Throughput", "partitions", "(J)J"⟩ : MethodName) prog_23_method_8_code 2 (some .long) :: ws) ({ frames := 0, cells := 0, slots := 0, locals := 0 } : Room)) (fun a U => a = #[(.long q1)] ∧ Z.Warmed39 U.vm ∧ U.heap = h0) (fun _ _ _ _ _ => True) (fun _ U o U' => ∃ v L, o = .returned v ∧ Q1 Z q1 h0 n0 v U'.heap L ∧ FrameEnd U o U' L ({ frames := 0, cells := 0, slots := 0, locals := 0 } : Room).cells ({ frames := 0, cells := 0, slots := 0, locals := 0 } : Room).slots) := by
  refine MetFree.of_bodySF (plainFor_of_name pn_1) hisR ?_
  intro p e s m args below meth c s₁ Bd hml0 hP hK
  obtain ⟨rfl, hZ, hh⟩ := hP
  have hx := Bd.exec
  have hby := Bd.bytes
  have hml : c.maxLocals = 2 := hml0
  have hown : s.vm.findClass "com/example/quota2/quota2/Throughput" = some m.cls := findClass_of_methodNamed Bd.named
  have hnm := (name_of_methodNamed Bd.named Bd.method).1
  have X0 : Stand p l e ({ frames := 0, cells := 0, slots := 0, locals := 0 } : Room) s m #[(.long q1)] below meth c s₁ [] 0 0 := Stand.of_body Bd
  have e0 : s₁.heap = h0 := by rw [← hh, Bd.state]; rfl
  have N0 := Fr.nil n0
  have pre0 : ∀ t, Steps p.tables e below (s₁.setTop (mkF m 0 #[.val (.long q1), .second] [])) t → Steps p.tables e below (s₁.setTop (entryFrame m #[(.long q1)] 2)) t := fun t k => castTop (ef_1 m q1) k

  obtain ⟨fs, hr, hrun, hended, hW, hsame⟩ := X0.leave (v := some (.long ((q1 / (10000 : Int64)) + ((0 : Int32).toInt64)))) (fun h => by rw [Bd.returns] at h; cases h)
  refine ⟨_, _, pre0 _ ?_, hrun, hended, _, _, rfl, ?_, ⟨_, rfl⟩, hW, hsame.mono (by decide) (by decide)⟩
  · show Steps p.tables e below (s₁.setTop (mkF m 0 #[.val (.long q1), .second] [])) _
    refine XS.lloadN X0.here hx rfl (hb hby d1_0) rfl ?_
    show Steps p.tables e below (s₁.setTop (mkF m 1 #[.val (.long q1), .second] [(.long q1)])) _
    refine X0.ldc2Long hx hown (mvT hZ (hw _ (List.mem_of_getElem? (i := 5) rfl))) (g := (mkF m 1 #[.val (.long q1), .second] [(.long q1)])) rfl (hb hby d1_1) _ ?_
    show Steps p.tables e below (s₁.setTop (mkF m 4 #[.val (.long q1), .second] [(.long (10000 : Int64)), (.long q1)])) _
    refine XS.ldiv X0.here hx rfl (hb hby d1_4) rfl hnz4 ?_
    show Steps p.tables e below (s₁.setTop (mkF m 5 #[.val (.long q1), .second] [(.long (q1 / (10000 : Int64)))])) _
    refine XS.lloadN X0.here hx rfl (hb hby d1_5) rfl ?_
    show Steps p.tables e below (s₁.setTop (mkF m 6 #[.val (.long q1), .second] [(.long q1), (.long (q1 / (10000 : Int64)))])) _
    refine X0.ldc2Long hx hown (mvT hZ (hw _ (List.mem_of_getElem? (i := 5) rfl))) (g := (mkF m 6 #[.val (.long q1), .second] [(.long q1), (.long (q1 / (10000 : Int64)))])) rfl (hb hby d1_6) _ ?_
    show Steps p.tables e below (s₁.setTop (mkF m 9 #[.val (.long q1), .second] [(.long (10000 : Int64)), (.long q1), (.long (q1 / (10000 : Int64)))])) _
    refine XS.lrem X0.here hx rfl (hb hby d1_9) rfl hnz9 ?_
    show Steps p.tables e below (s₁.setTop (mkF m 10 #[.val (.long q1), .second] [(.long (q1 - (q1 / (10000 : Int64)) * (10000 : Int64))), (.long (q1 / (10000 : Int64)))])) _
    refine XS.lconst X0.here hx rfl (hb hby d1_10) ?_
    show Steps p.tables e below (s₁.setTop (mkF m 11 #[.val (.long q1), .second] [(.long (0 : Int64)), (.long (q1 - (q1 / (10000 : Int64)) * (10000 : Int64))), (.long (q1 / (10000 : Int64)))])) _
    refine XS.lcmp X0.here hx rfl (hb hby d1_11) rfl ?_
    show Steps p.tables e below (s₁.setTop (mkF m 12 #[.val (.long q1), .second] [(.int (lcmpW (q1 - (q1 / (10000 : Int64)) * (10000 : Int64)) (0 : Int64))), (.long (q1 / (10000 : Int64)))])) _
    refine XS.ifNo X0.here hx rfl (hb hby d1_12) rfl ((if0 _ _).trans (teq hc12).2) ?_
    show Steps p.tables e below (s₁.setTop (mkF m 15 #[.val (.long q1), .second] [(.long (q1 / (10000 : Int64)))])) _
    refine XS.iconst X0.here hx rfl (hb hby d1_15) ?_
    show Steps p.tables e below (s₁.setTop (mkF m 16 #[.val (.long q1), .second] [(.int (0 : Int32)), (.long (q1 / (10000 : Int64)))])) _
    refine XS.goto X0.here hx rfl (pc0 := 16) (pc' := 20) rfl (hb hby d1_16) (by decide) (by decide) ?_
    show Steps p.tables e below (s₁.setTop (mkF m 20 #[.val (.long q1), .second] [(.int (0 : Int32)), (.long (q1 / (10000 : Int64)))])) _
    refine XS.i2l X0.here hx rfl (hb hby d1_20) rfl ?_
    show Steps p.tables e below (s₁.setTop (mkF m 21 #[.val (.long q1), .second] [(.long ((0 : Int32).toInt64)), (.long (q1 / (10000 : Int64)))])) _
    refine XS.ladd X0.here hx rfl (hb hby d1_21) rfl ?_
    show Steps p.tables e below (s₁.setTop (mkF m 22 #[.val (.long q1), .second] [(.long ((q1 / (10000 : Int64)) + ((0 : Int32).toInt64)))])) _
    exact X0.lreturnOut hx Bd.returns (hb hby d1_22) hr
  · show Q1 Z q1 h0 n0 _ s₁.heap _
    rw [e0]
    exact ⟨by rw [own_p, if_pos hc12], N0, rfl⟩
set_option maxRecDepth 65536 in
set_option maxHeartbeats 40000000 in
theorem rm1 (l : Launch) (Z : State) (a0 : Array Value) (hw : ∀ d ∈ tables_1, d.before a0 Z = true) (ws : List Jvm.Cond) (q1 : Int64) (h0 : Heap) (n0 : Nat) (Z0 : n0 ≤ h0.size) :
    MetFree l (⟨"com/example/quota2/quota2/Throughput", "partitions", "(J)J"⟩ : MethodName) (head1 (Jvm.Cond.code (⟨"com/example/quota2/quota2/Throughput", "partitions", "(J)J"⟩ : MethodName) prog_23_method_8_code 2 (some .long) :: ws) ({ frames := 0, cells := 0, slots := 0, locals := 0 } : Room)) (fun a U => a = #[(.long q1)] ∧ Z.Warmed39 U.vm ∧ U.heap = h0) (fun _ _ _ _ _ => True) (fun _ U o U' => ∃ v L, o = .returned v ∧ Q1 Z q1 h0 n0 v U'.heap L ∧ FrameEnd U o U' L ({ frames := 0, cells := 0, slots := 0, locals := 0 } : Room).cells ({ frames := 0, cells := 0, slots := 0, locals := 0 } : Room).slots) := by
  by_cases hc : lcmpW (q1 - (q1 / (10000 : Int64)) * (10000 : Int64)) (0 : Int64) = (0 : Int32)
  · exact rm1_f l Z a0 hw ws q1 h0 n0 Z0 (by decide) (by decide) hc
  · exact rm1_t l Z a0 hw ws q1 h0 n0 Z0 (by decide) (by decide) hc
theorem pn_0 : plainName "com/example/quota2/quota2/ThroughputPartitionsPinLaw" = true := by first | (simp [plainName, overriddenIn]; done) | decide +kernel
theorem ef_0 (m : MethodId) (x0 : Int64) : entryFrame m #[(.long x0)] maxLocals = mkF m 0 #[.val (.long x0), .second, .unset, .unset, .unset, .unset, .unset, .unset, .unset, .unset] [] := by first | (simp [entryFrame, mkF, argsToLocals, Value.category, maxLocals]; done) | rfl
def Q0 (Z : State) (q1 : Int64) (h0 : Heap) (n0 : Nat) (v : Option Value) (h : Heap) (L : List Loc) : Prop := v = some (.int (1 : Int32)) ∧ Fr n0 L
set_option maxRecDepth 65536 in
set_option maxHeartbeats 40000000 in
theorem rm0_f (l : Launch) (Z : State) (a0 : Array Value) (hw : ∀ d ∈ tables_1, d.before a0 Z = true) (ws : List Jvm.Cond) (q1 : Int64) (h0 : Heap) (n0 : Nat) (Z0 : n0 ≤ h0.size) (hc9 : (lcmpW (q1 &&& (9223372036854775807 : Int64)) (0 : Int64)) = (0 : Int32)) :
    MetFree l x (head1 (Jvm.Cond.code x code maxLocals ret :: ws) room_1) (fun a U => a = #[(.long q1)] ∧ Z.Warmed39 U.vm ∧ U.heap = h0) (fun _ _ _ _ _ => True) (fun _ U o U' => ∃ v L, o = .returned v ∧ Q0 Z q1 h0 n0 v U'.heap L ∧ FrameEnd U o U' L room_1.cells room_1.slots) := by
  refine MetFree.of_bodySF (plainFor_of_name pn_0) hisR ?_
  intro p e s m args below meth c s₁ Bd hml0 hP hK
  obtain ⟨rfl, hZ, hh⟩ := hP
  have hx := Bd.exec
  have hby := Bd.bytes
  have hml : c.maxLocals = 10 := hml0
  have hown : s.vm.findClass "com/example/quota2/quota2/ThroughputPartitionsPinLaw" = some m.cls := findClass_of_methodNamed Bd.named
  have hnm := (name_of_methodNamed Bd.named Bd.method).1
  have X0 : Stand p l e room_1 s m #[(.long q1)] below meth c s₁ [] 0 0 := Stand.of_body Bd
  have e0 : s₁.heap = h0 := by rw [← hh, Bd.state]; rfl
  have N0 := Fr.nil n0
  have pre0 : ∀ t, Steps p.tables e below (s₁.setTop (mkF m 0 #[.val (.long q1), .second, .unset, .unset, .unset, .unset, .unset, .unset, .unset, .unset] [])) t → Steps p.tables e below (s₁.setTop (entryFrame m #[(.long q1)] maxLocals)) t := fun t k => castTop (ef_0 m q1) k

  obtain ⟨fs, hr, hrun, hended, hW, hsame⟩ := X0.leave (v := some (.int (1 : Int32))) (fun h => by rw [Bd.returns] at h; cases h)
  refine ⟨_, _, pre0 _ ?_, hrun, hended, _, _, rfl, ?_, ⟨_, rfl⟩, hW, hsame.mono (by decide) (by decide)⟩
  · show Steps p.tables e below (s₁.setTop (mkF m 0 #[.val (.long q1), .second, .unset, .unset, .unset, .unset, .unset, .unset, .unset, .unset] [])) _
    refine XS.lloadN X0.here hx rfl (hb hby at_0) rfl ?_
    show Steps p.tables e below (s₁.setTop (mkF m 1 #[.val (.long q1), .second, .unset, .unset, .unset, .unset, .unset, .unset, .unset, .unset] [(.long q1)])) _
    refine X0.ldc2Long hx hown (mvT hZ (hw _ (List.mem_of_getElem? (i := 0) rfl))) (g := (mkF m 1 #[.val (.long q1), .second, .unset, .unset, .unset, .unset, .unset, .unset, .unset, .unset] [(.long q1)])) rfl (hb hby at_1) _ ?_
    show Steps p.tables e below (s₁.setTop (mkF m 4 #[.val (.long q1), .second, .unset, .unset, .unset, .unset, .unset, .unset, .unset, .unset] [(.long (9223372036854775807 : Int64)), (.long q1)])) _
    refine XS.land X0.here hx rfl (hb hby at_4) rfl ?_
    show Steps p.tables e below (s₁.setTop (mkF m 5 #[.val (.long q1), .second, .unset, .unset, .unset, .unset, .unset, .unset, .unset, .unset] [(.long (q1 &&& (9223372036854775807 : Int64)))])) _
    refine XS.lstoreN X0.here hx rfl (hb hby at_5) rfl (l' := #[.val (.long q1), .second, .val (.long (q1 &&& (9223372036854775807 : Int64))), .second, .unset, .unset, .unset, .unset, .unset, .unset]) rfl ?_
    show Steps p.tables e below (s₁.setTop (mkF m 6 #[.val (.long q1), .second, .val (.long (q1 &&& (9223372036854775807 : Int64))), .second, .unset, .unset, .unset, .unset, .unset, .unset] [])) _
    refine XS.lloadN X0.here hx rfl (hb hby at_6) rfl ?_
    show Steps p.tables e below (s₁.setTop (mkF m 7 #[.val (.long q1), .second, .val (.long (q1 &&& (9223372036854775807 : Int64))), .second, .unset, .unset, .unset, .unset, .unset, .unset] [(.long (q1 &&& (9223372036854775807 : Int64)))])) _
    refine XS.lconst X0.here hx rfl (hb hby at_7) ?_
    show Steps p.tables e below (s₁.setTop (mkF m 8 #[.val (.long q1), .second, .val (.long (q1 &&& (9223372036854775807 : Int64))), .second, .unset, .unset, .unset, .unset, .unset, .unset] [(.long (0 : Int64)), (.long (q1 &&& (9223372036854775807 : Int64)))])) _
    refine XS.lcmp X0.here hx rfl (hb hby at_8) rfl ?_
    show Steps p.tables e below (s₁.setTop (mkF m 9 #[.val (.long q1), .second, .val (.long (q1 &&& (9223372036854775807 : Int64))), .second, .unset, .unset, .unset, .unset, .unset, .unset] [(.int (lcmpW (q1 &&& (9223372036854775807 : Int64)) (0 : Int64)))])) _
    refine XS.ifNo X0.here hx rfl (hb hby at_9) rfl ((if0 _ _).trans (teq hc9).2) ?_
    show Steps p.tables e below (s₁.setTop (mkF m 12 #[.val (.long q1), .second, .val (.long (q1 &&& (9223372036854775807 : Int64))), .second, .unset, .unset, .unset, .unset, .unset, .unset] [])) _
    refine XS.iconst X0.here hx rfl (hb hby at_12) ?_
    show Steps p.tables e below (s₁.setTop (mkF m 13 #[.val (.long q1), .second, .val (.long (q1 &&& (9223372036854775807 : Int64))), .second, .unset, .unset, .unset, .unset, .unset, .unset] [(.int (1 : Int32))])) _
    exact retN X0 hx (t := .boolean) Bd.returns (by simp) (hb hby at_13) hr
  · show Q0 Z q1 h0 n0 _ s₁.heap _
    rw [e0]
    exact ⟨rfl, N0⟩
theorem pd_0_0 : parseMethodDescriptor "(J)J" = some ⟨[.long], some .long⟩ := by decide +kernel
set_option maxRecDepth 65536 in
set_option maxHeartbeats 40000000 in
theorem rm0_t (l : Launch) (Z : State) (a0 : Array Value) (hw : ∀ d ∈ tables_1, d.before a0 Z = true) (ws : List Jvm.Cond) (q1 : Int64) (h0 : Heap) (n0 : Nat) (Z0 : n0 ≤ h0.size) (hc9 : ¬ ((lcmpW (q1 &&& (9223372036854775807 : Int64)) (0 : Int64)) = (0 : Int32))) :
    MetFree l x (head1 (Jvm.Cond.code x code maxLocals ret :: ws) room_1) (fun a U => a = #[(.long q1)] ∧ Z.Warmed39 U.vm ∧ U.heap = h0) (fun _ _ _ _ _ => True) (fun _ U o U' => ∃ v L, o = .returned v ∧ Q0 Z q1 h0 n0 v U'.heap L ∧ FrameEnd U o U' L room_1.cells room_1.slots) := by
  refine MetFree.of_bodySF (plainFor_of_name pn_0) hisR ?_
  intro p e s m args below meth c s₁ Bd hml0 hP hK
  obtain ⟨rfl, hZ, hh⟩ := hP
  have hx := Bd.exec
  have hby := Bd.bytes
  have hml : c.maxLocals = 10 := hml0
  have hown : s.vm.findClass "com/example/quota2/quota2/ThroughputPartitionsPinLaw" = some m.cls := findClass_of_methodNamed Bd.named
  have hnm := (name_of_methodNamed Bd.named Bd.method).1
  have X0 : Stand p l e room_1 s m #[(.long q1)] below meth c s₁ [] 0 0 := Stand.of_body Bd
  have e0 : s₁.heap = h0 := by rw [← hh, Bd.state]; rfl
  have N0 := Fr.nil n0
  have pre0 : ∀ t, Steps p.tables e below (s₁.setTop (mkF m 0 #[.val (.long q1), .second, .unset, .unset, .unset, .unset, .unset, .unset, .unset, .unset] [])) t → Steps p.tables e below (s₁.setTop (entryFrame m #[(.long q1)] maxLocals)) t := fun t k => castTop (ef_0 m q1) k
  obtain ⟨_, _, ⟨T2, L2, k2, n2⟩, -, X2, ⟨Lc2, hQ2, l2, y2, z2⟩, st2⟩ := Jvm.LawKit.callS X0 hx (y := (⟨"com/example/quota2/quota2/Throughput", "partitions", "(J)J"⟩ : MethodName)) hown (mvT hZ (hw _ (List.mem_of_getElem? (i := 1) rfl))) (mvT hZ (hw _ (List.mem_of_getElem? (i := 2) rfl))) (mvT hZ (hw _ (List.mem_of_getElem? (i := 3) rfl))) (mvT hZ (hw _ (List.mem_of_getElem? (i := 4) rfl))) (by decide) (backOf (W := 0) (rm1 l Z a0 hw [] (q1 &&& (9223372036854775807 : Int64)) h0 n0 Z0) hZ (hw _ (List.mem_of_getElem? (i := 4) rfl)) (hw _ (List.mem_of_getElem? (i := 3) rfl)) (by decide) (by decide)) (g := (mkF m 15 #[.val (.long q1), .second, .val (.long (q1 &&& (9223372036854775807 : Int64))), .second, .unset, .unset, .unset, .unset, .unset, .unset] [(.long (q1 &&& (9223372036854775807 : Int64)))])) rfl (by rw [hml]; rfl) (argsL := [(.long (q1 &&& (9223372036854775807 : Int64)))]) (rest := []) (lenOf pd_0_0 rfl) rfl (by show 2 * 0 + _ ≤ _; exact Nat.le_of_eq rfl) (hb hby at_15) (fun _ _ => ⟨rfl, e0, (by decide : 0 + 0 ≤ _), (by decide : 0 + 0 ≤ _)⟩)
  dsimp only [Pt.U, Pt.locs, Pt.cells, Pt.slots] at X2 l2 y2 z2 st2 hQ2
  subst l2 y2 z2
  obtain ⟨rfl, N2q, eh2⟩ := hQ2
  have N2 := Fr.app N0 N2q
  obtain ⟨fs, hr, hrun, hended, hW, hsame⟩ := X2.leave (v := some (.int (1 : Int32))) (fun h => by rw [Bd.returns] at h; cases h)
  refine ⟨_, _, pre0 _ ?_, hrun, hended, _, _, rfl, ?_, ⟨_, rfl⟩, hW, hsame.mono (by decide) (by decide)⟩
  · show Steps p.tables e below (s₁.setTop (mkF m 0 #[.val (.long q1), .second, .unset, .unset, .unset, .unset, .unset, .unset, .unset, .unset] [])) _
    refine XS.lloadN X0.here hx rfl (hb hby at_0) rfl ?_
    show Steps p.tables e below (s₁.setTop (mkF m 1 #[.val (.long q1), .second, .unset, .unset, .unset, .unset, .unset, .unset, .unset, .unset] [(.long q1)])) _
    refine X0.ldc2Long hx hown (mvT hZ (hw _ (List.mem_of_getElem? (i := 0) rfl))) (g := (mkF m 1 #[.val (.long q1), .second, .unset, .unset, .unset, .unset, .unset, .unset, .unset, .unset] [(.long q1)])) rfl (hb hby at_1) _ ?_
    show Steps p.tables e below (s₁.setTop (mkF m 4 #[.val (.long q1), .second, .unset, .unset, .unset, .unset, .unset, .unset, .unset, .unset] [(.long (9223372036854775807 : Int64)), (.long q1)])) _
    refine XS.land X0.here hx rfl (hb hby at_4) rfl ?_
    show Steps p.tables e below (s₁.setTop (mkF m 5 #[.val (.long q1), .second, .unset, .unset, .unset, .unset, .unset, .unset, .unset, .unset] [(.long (q1 &&& (9223372036854775807 : Int64)))])) _
    refine XS.lstoreN X0.here hx rfl (hb hby at_5) rfl (l' := #[.val (.long q1), .second, .val (.long (q1 &&& (9223372036854775807 : Int64))), .second, .unset, .unset, .unset, .unset, .unset, .unset]) rfl ?_
    show Steps p.tables e below (s₁.setTop (mkF m 6 #[.val (.long q1), .second, .val (.long (q1 &&& (9223372036854775807 : Int64))), .second, .unset, .unset, .unset, .unset, .unset, .unset] [])) _
    refine XS.lloadN X0.here hx rfl (hb hby at_6) rfl ?_
    show Steps p.tables e below (s₁.setTop (mkF m 7 #[.val (.long q1), .second, .val (.long (q1 &&& (9223372036854775807 : Int64))), .second, .unset, .unset, .unset, .unset, .unset, .unset] [(.long (q1 &&& (9223372036854775807 : Int64)))])) _
    refine XS.lconst X0.here hx rfl (hb hby at_7) ?_
    show Steps p.tables e below (s₁.setTop (mkF m 8 #[.val (.long q1), .second, .val (.long (q1 &&& (9223372036854775807 : Int64))), .second, .unset, .unset, .unset, .unset, .unset, .unset] [(.long (0 : Int64)), (.long (q1 &&& (9223372036854775807 : Int64)))])) _
    refine XS.lcmp X0.here hx rfl (hb hby at_8) rfl ?_
    show Steps p.tables e below (s₁.setTop (mkF m 9 #[.val (.long q1), .second, .val (.long (q1 &&& (9223372036854775807 : Int64))), .second, .unset, .unset, .unset, .unset, .unset, .unset] [(.int (lcmpW (q1 &&& (9223372036854775807 : Int64)) (0 : Int64)))])) _
    refine XS.ifYes X0.here hx rfl (pc0 := 9) (pc' := 14) rfl (hb hby at_9) rfl ((if0 _ _).trans (feq hc9).2) (by decide) (by decide) ?_
    show Steps p.tables e below (s₁.setTop (mkF m 14 #[.val (.long q1), .second, .val (.long (q1 &&& (9223372036854775807 : Int64))), .second, .unset, .unset, .unset, .unset, .unset, .unset] [])) _
    refine XS.lloadN X0.here hx rfl (hb hby at_14) rfl ?_
    show Steps p.tables e below (s₁.setTop (mkF m 15 #[.val (.long q1), .second, .val (.long (q1 &&& (9223372036854775807 : Int64))), .second, .unset, .unset, .unset, .unset, .unset, .unset] [(.long (q1 &&& (9223372036854775807 : Int64)))])) _
    refine st2 _ ?_
    show Steps p.tables e below (T2.setTop (mkF m 18 #[.val (.long q1), .second, .val (.long (q1 &&& (9223372036854775807 : Int64))), .second, .unset, .unset, .unset, .unset, .unset, .unset] [(.long (own_p (q1 &&& (9223372036854775807 : Int64))))])) _
    refine XS.lstore X2.here hx rfl (hb hby at_18) rfl (l' := #[.val (.long q1), .second, .val (.long (q1 &&& (9223372036854775807 : Int64))), .second, .val (.long (own_p (q1 &&& (9223372036854775807 : Int64)))), .second, .unset, .unset, .unset, .unset]) rfl ?_
    show Steps p.tables e below (T2.setTop (mkF m 20 #[.val (.long q1), .second, .val (.long (q1 &&& (9223372036854775807 : Int64))), .second, .val (.long (own_p (q1 &&& (9223372036854775807 : Int64)))), .second, .unset, .unset, .unset, .unset] [])) _
    refine XS.lload X2.here hx rfl (hb hby at_20) rfl ?_
    show Steps p.tables e below (T2.setTop (mkF m 22 #[.val (.long q1), .second, .val (.long (q1 &&& (9223372036854775807 : Int64))), .second, .val (.long (own_p (q1 &&& (9223372036854775807 : Int64)))), .second, .unset, .unset, .unset, .unset] [(.long (own_p (q1 &&& (9223372036854775807 : Int64))))])) _
    refine XS.lconst X2.here hx rfl (hb hby at_22) ?_
    show Steps p.tables e below (T2.setTop (mkF m 23 #[.val (.long q1), .second, .val (.long (q1 &&& (9223372036854775807 : Int64))), .second, .val (.long (own_p (q1 &&& (9223372036854775807 : Int64)))), .second, .unset, .unset, .unset, .unset] [(.long (1 : Int64)), (.long (own_p (q1 &&& (9223372036854775807 : Int64))))])) _
    refine XS.lcmp X2.here hx rfl (hb hby at_23) rfl ?_
    show Steps p.tables e below (T2.setTop (mkF m 24 #[.val (.long q1), .second, .val (.long (q1 &&& (9223372036854775807 : Int64))), .second, .val (.long (own_p (q1 &&& (9223372036854775807 : Int64)))), .second, .unset, .unset, .unset, .unset] [(.int (lcmpW (own_p (q1 &&& (9223372036854775807 : Int64))) (1 : Int64)))])) _
    refine XS.ifYes X2.here hx rfl (pc0 := 24) (pc' := 29) rfl (hb hby at_24) rfl ((if0 _ _).trans (flt ((own_law (q1 &&& (9223372036854775807 : Int64)) (own_pos _ hc9)).1 : ¬ ((lcmpW (own_p (q1 &&& (9223372036854775807 : Int64))) (1 : Int64)) < (0 : Int32)))).2.1) (by decide) (by decide) ?_
    show Steps p.tables e below (T2.setTop (mkF m 29 #[.val (.long q1), .second, .val (.long (q1 &&& (9223372036854775807 : Int64))), .second, .val (.long (own_p (q1 &&& (9223372036854775807 : Int64)))), .second, .unset, .unset, .unset, .unset] [])) _
    refine XS.lload X2.here hx rfl (hb hby at_29) rfl ?_
    show Steps p.tables e below (T2.setTop (mkF m 31 #[.val (.long q1), .second, .val (.long (q1 &&& (9223372036854775807 : Int64))), .second, .val (.long (own_p (q1 &&& (9223372036854775807 : Int64)))), .second, .unset, .unset, .unset, .unset] [(.long (own_p (q1 &&& (9223372036854775807 : Int64))))])) _
    refine XS.lconst X2.here hx rfl (hb hby at_31) ?_
    show Steps p.tables e below (T2.setTop (mkF m 32 #[.val (.long q1), .second, .val (.long (q1 &&& (9223372036854775807 : Int64))), .second, .val (.long (own_p (q1 &&& (9223372036854775807 : Int64)))), .second, .unset, .unset, .unset, .unset] [(.long (1 : Int64)), (.long (own_p (q1 &&& (9223372036854775807 : Int64))))])) _
    refine XS.lsub X2.here hx rfl (hb hby at_32) rfl ?_
    show Steps p.tables e below (T2.setTop (mkF m 33 #[.val (.long q1), .second, .val (.long (q1 &&& (9223372036854775807 : Int64))), .second, .val (.long (own_p (q1 &&& (9223372036854775807 : Int64)))), .second, .unset, .unset, .unset, .unset] [(.long ((own_p (q1 &&& (9223372036854775807 : Int64))) - (1 : Int64)))])) _
    refine X2.ldc2Long hx hown (mvT hZ (hw _ (List.mem_of_getElem? (i := 6) rfl))) (g := (mkF m 33 #[.val (.long q1), .second, .val (.long (q1 &&& (9223372036854775807 : Int64))), .second, .val (.long (own_p (q1 &&& (9223372036854775807 : Int64)))), .second, .unset, .unset, .unset, .unset] [(.long ((own_p (q1 &&& (9223372036854775807 : Int64))) - (1 : Int64)))])) rfl (hb hby at_33) _ ?_
    show Steps p.tables e below (T2.setTop (mkF m 36 #[.val (.long q1), .second, .val (.long (q1 &&& (9223372036854775807 : Int64))), .second, .val (.long (own_p (q1 &&& (9223372036854775807 : Int64)))), .second, .unset, .unset, .unset, .unset] [(.long (922337203685477 : Int64)), (.long ((own_p (q1 &&& (9223372036854775807 : Int64))) - (1 : Int64)))])) _
    refine XS.lcmp X2.here hx rfl (hb hby at_36) rfl ?_
    show Steps p.tables e below (T2.setTop (mkF m 37 #[.val (.long q1), .second, .val (.long (q1 &&& (9223372036854775807 : Int64))), .second, .val (.long (own_p (q1 &&& (9223372036854775807 : Int64)))), .second, .unset, .unset, .unset, .unset] [(.int (lcmpW ((own_p (q1 &&& (9223372036854775807 : Int64))) - (1 : Int64)) (922337203685477 : Int64)))])) _
    refine XS.ifYes X2.here hx rfl (pc0 := 37) (pc' := 42) rfl (hb hby at_37) rfl ((if0 _ _).trans (flt ((own_law (q1 &&& (9223372036854775807 : Int64)) (own_pos _ hc9)).2.1 : ¬ ((0 : Int32) < (lcmpW ((own_p (q1 &&& (9223372036854775807 : Int64))) - (1 : Int64)) (922337203685477 : Int64))))).2.2.2) (by decide) (by decide) ?_
    show Steps p.tables e below (T2.setTop (mkF m 42 #[.val (.long q1), .second, .val (.long (q1 &&& (9223372036854775807 : Int64))), .second, .val (.long (own_p (q1 &&& (9223372036854775807 : Int64)))), .second, .unset, .unset, .unset, .unset] [])) _
    refine XS.lload X2.here hx rfl (hb hby at_42) rfl ?_
    show Steps p.tables e below (T2.setTop (mkF m 44 #[.val (.long q1), .second, .val (.long (q1 &&& (9223372036854775807 : Int64))), .second, .val (.long (own_p (q1 &&& (9223372036854775807 : Int64)))), .second, .unset, .unset, .unset, .unset] [(.long (own_p (q1 &&& (9223372036854775807 : Int64))))])) _
    refine XS.lconst X2.here hx rfl (hb hby at_44) ?_
    show Steps p.tables e below (T2.setTop (mkF m 45 #[.val (.long q1), .second, .val (.long (q1 &&& (9223372036854775807 : Int64))), .second, .val (.long (own_p (q1 &&& (9223372036854775807 : Int64)))), .second, .unset, .unset, .unset, .unset] [(.long (1 : Int64)), (.long (own_p (q1 &&& (9223372036854775807 : Int64))))])) _
    refine XS.lsub X2.here hx rfl (hb hby at_45) rfl ?_
    show Steps p.tables e below (T2.setTop (mkF m 46 #[.val (.long q1), .second, .val (.long (q1 &&& (9223372036854775807 : Int64))), .second, .val (.long (own_p (q1 &&& (9223372036854775807 : Int64)))), .second, .unset, .unset, .unset, .unset] [(.long ((own_p (q1 &&& (9223372036854775807 : Int64))) - (1 : Int64)))])) _
    refine X2.ldc2Long hx hown (mvT hZ (hw _ (List.mem_of_getElem? (i := 7) rfl))) (g := (mkF m 46 #[.val (.long q1), .second, .val (.long (q1 &&& (9223372036854775807 : Int64))), .second, .val (.long (own_p (q1 &&& (9223372036854775807 : Int64)))), .second, .unset, .unset, .unset, .unset] [(.long ((own_p (q1 &&& (9223372036854775807 : Int64))) - (1 : Int64)))])) rfl (hb hby at_46) _ ?_
    show Steps p.tables e below (T2.setTop (mkF m 49 #[.val (.long q1), .second, .val (.long (q1 &&& (9223372036854775807 : Int64))), .second, .val (.long (own_p (q1 &&& (9223372036854775807 : Int64)))), .second, .unset, .unset, .unset, .unset] [(.long (10000 : Int64)), (.long ((own_p (q1 &&& (9223372036854775807 : Int64))) - (1 : Int64)))])) _
    refine XS.lmul X2.here hx rfl (hb hby at_49) rfl ?_
    show Steps p.tables e below (T2.setTop (mkF m 50 #[.val (.long q1), .second, .val (.long (q1 &&& (9223372036854775807 : Int64))), .second, .val (.long (own_p (q1 &&& (9223372036854775807 : Int64)))), .second, .unset, .unset, .unset, .unset] [(.long (((own_p (q1 &&& (9223372036854775807 : Int64))) - (1 : Int64)) * (10000 : Int64)))])) _
    refine XS.lstore X2.here hx rfl (hb hby at_50) rfl (l' := #[.val (.long q1), .second, .val (.long (q1 &&& (9223372036854775807 : Int64))), .second, .val (.long (own_p (q1 &&& (9223372036854775807 : Int64)))), .second, .val (.long (((own_p (q1 &&& (9223372036854775807 : Int64))) - (1 : Int64)) * (10000 : Int64))), .second, .unset, .unset]) rfl ?_
    show Steps p.tables e below (T2.setTop (mkF m 52 #[.val (.long q1), .second, .val (.long (q1 &&& (9223372036854775807 : Int64))), .second, .val (.long (own_p (q1 &&& (9223372036854775807 : Int64)))), .second, .val (.long (((own_p (q1 &&& (9223372036854775807 : Int64))) - (1 : Int64)) * (10000 : Int64))), .second, .unset, .unset] [])) _
    refine XS.lloadN X2.here hx rfl (hb hby at_52) rfl ?_
    show Steps p.tables e below (T2.setTop (mkF m 53 #[.val (.long q1), .second, .val (.long (q1 &&& (9223372036854775807 : Int64))), .second, .val (.long (own_p (q1 &&& (9223372036854775807 : Int64)))), .second, .val (.long (((own_p (q1 &&& (9223372036854775807 : Int64))) - (1 : Int64)) * (10000 : Int64))), .second, .unset, .unset] [(.long (q1 &&& (9223372036854775807 : Int64)))])) _
    refine XS.lload X2.here hx rfl (hb hby at_53) rfl ?_
    show Steps p.tables e below (T2.setTop (mkF m 55 #[.val (.long q1), .second, .val (.long (q1 &&& (9223372036854775807 : Int64))), .second, .val (.long (own_p (q1 &&& (9223372036854775807 : Int64)))), .second, .val (.long (((own_p (q1 &&& (9223372036854775807 : Int64))) - (1 : Int64)) * (10000 : Int64))), .second, .unset, .unset] [(.long (((own_p (q1 &&& (9223372036854775807 : Int64))) - (1 : Int64)) * (10000 : Int64))), (.long (q1 &&& (9223372036854775807 : Int64)))])) _
    refine XS.lsub X2.here hx rfl (hb hby at_55) rfl ?_
    show Steps p.tables e below (T2.setTop (mkF m 56 #[.val (.long q1), .second, .val (.long (q1 &&& (9223372036854775807 : Int64))), .second, .val (.long (own_p (q1 &&& (9223372036854775807 : Int64)))), .second, .val (.long (((own_p (q1 &&& (9223372036854775807 : Int64))) - (1 : Int64)) * (10000 : Int64))), .second, .unset, .unset] [(.long ((q1 &&& (9223372036854775807 : Int64)) - (((own_p (q1 &&& (9223372036854775807 : Int64))) - (1 : Int64)) * (10000 : Int64))))])) _
    refine XS.lstore X2.here hx rfl (hb hby at_56) rfl (l' := #[.val (.long q1), .second, .val (.long (q1 &&& (9223372036854775807 : Int64))), .second, .val (.long (own_p (q1 &&& (9223372036854775807 : Int64)))), .second, .val (.long (((own_p (q1 &&& (9223372036854775807 : Int64))) - (1 : Int64)) * (10000 : Int64))), .second, .val (.long ((q1 &&& (9223372036854775807 : Int64)) - (((own_p (q1 &&& (9223372036854775807 : Int64))) - (1 : Int64)) * (10000 : Int64)))), .second]) rfl ?_
    show Steps p.tables e below (T2.setTop (mkF m 58 #[.val (.long q1), .second, .val (.long (q1 &&& (9223372036854775807 : Int64))), .second, .val (.long (own_p (q1 &&& (9223372036854775807 : Int64)))), .second, .val (.long (((own_p (q1 &&& (9223372036854775807 : Int64))) - (1 : Int64)) * (10000 : Int64))), .second, .val (.long ((q1 &&& (9223372036854775807 : Int64)) - (((own_p (q1 &&& (9223372036854775807 : Int64))) - (1 : Int64)) * (10000 : Int64)))), .second] [])) _
    refine XS.lload X2.here hx rfl (hb hby at_58) rfl ?_
    show Steps p.tables e below (T2.setTop (mkF m 60 #[.val (.long q1), .second, .val (.long (q1 &&& (9223372036854775807 : Int64))), .second, .val (.long (own_p (q1 &&& (9223372036854775807 : Int64)))), .second, .val (.long (((own_p (q1 &&& (9223372036854775807 : Int64))) - (1 : Int64)) * (10000 : Int64))), .second, .val (.long ((q1 &&& (9223372036854775807 : Int64)) - (((own_p (q1 &&& (9223372036854775807 : Int64))) - (1 : Int64)) * (10000 : Int64)))), .second] [(.long ((q1 &&& (9223372036854775807 : Int64)) - (((own_p (q1 &&& (9223372036854775807 : Int64))) - (1 : Int64)) * (10000 : Int64))))])) _
    refine XS.lconst X2.here hx rfl (hb hby at_60) ?_
    show Steps p.tables e below (T2.setTop (mkF m 61 #[.val (.long q1), .second, .val (.long (q1 &&& (9223372036854775807 : Int64))), .second, .val (.long (own_p (q1 &&& (9223372036854775807 : Int64)))), .second, .val (.long (((own_p (q1 &&& (9223372036854775807 : Int64))) - (1 : Int64)) * (10000 : Int64))), .second, .val (.long ((q1 &&& (9223372036854775807 : Int64)) - (((own_p (q1 &&& (9223372036854775807 : Int64))) - (1 : Int64)) * (10000 : Int64)))), .second] [(.long (1 : Int64)), (.long ((q1 &&& (9223372036854775807 : Int64)) - (((own_p (q1 &&& (9223372036854775807 : Int64))) - (1 : Int64)) * (10000 : Int64))))])) _
    refine XS.lcmp X2.here hx rfl (hb hby at_61) rfl ?_
    show Steps p.tables e below (T2.setTop (mkF m 62 #[.val (.long q1), .second, .val (.long (q1 &&& (9223372036854775807 : Int64))), .second, .val (.long (own_p (q1 &&& (9223372036854775807 : Int64)))), .second, .val (.long (((own_p (q1 &&& (9223372036854775807 : Int64))) - (1 : Int64)) * (10000 : Int64))), .second, .val (.long ((q1 &&& (9223372036854775807 : Int64)) - (((own_p (q1 &&& (9223372036854775807 : Int64))) - (1 : Int64)) * (10000 : Int64)))), .second] [(.int (lcmpW ((q1 &&& (9223372036854775807 : Int64)) - (((own_p (q1 &&& (9223372036854775807 : Int64))) - (1 : Int64)) * (10000 : Int64))) (1 : Int64)))])) _
    refine XS.ifNo X2.here hx rfl (hb hby at_62) rfl ((if0 _ _).trans (flt ((own_law (q1 &&& (9223372036854775807 : Int64)) (own_pos _ hc9)).2.2.1 : ¬ ((lcmpW ((q1 &&& (9223372036854775807 : Int64)) - (((own_p (q1 &&& (9223372036854775807 : Int64))) - (1 : Int64)) * (10000 : Int64))) (1 : Int64)) < (0 : Int32)))).1) ?_
    show Steps p.tables e below (T2.setTop (mkF m 65 #[.val (.long q1), .second, .val (.long (q1 &&& (9223372036854775807 : Int64))), .second, .val (.long (own_p (q1 &&& (9223372036854775807 : Int64)))), .second, .val (.long (((own_p (q1 &&& (9223372036854775807 : Int64))) - (1 : Int64)) * (10000 : Int64))), .second, .val (.long ((q1 &&& (9223372036854775807 : Int64)) - (((own_p (q1 &&& (9223372036854775807 : Int64))) - (1 : Int64)) * (10000 : Int64)))), .second] [])) _
    refine XS.lload X2.here hx rfl (hb hby at_65) rfl ?_
    show Steps p.tables e below (T2.setTop (mkF m 67 #[.val (.long q1), .second, .val (.long (q1 &&& (9223372036854775807 : Int64))), .second, .val (.long (own_p (q1 &&& (9223372036854775807 : Int64)))), .second, .val (.long (((own_p (q1 &&& (9223372036854775807 : Int64))) - (1 : Int64)) * (10000 : Int64))), .second, .val (.long ((q1 &&& (9223372036854775807 : Int64)) - (((own_p (q1 &&& (9223372036854775807 : Int64))) - (1 : Int64)) * (10000 : Int64)))), .second] [(.long ((q1 &&& (9223372036854775807 : Int64)) - (((own_p (q1 &&& (9223372036854775807 : Int64))) - (1 : Int64)) * (10000 : Int64))))])) _
    refine X2.ldc2Long hx hown (mvT hZ (hw _ (List.mem_of_getElem? (i := 7) rfl))) (g := (mkF m 67 #[.val (.long q1), .second, .val (.long (q1 &&& (9223372036854775807 : Int64))), .second, .val (.long (own_p (q1 &&& (9223372036854775807 : Int64)))), .second, .val (.long (((own_p (q1 &&& (9223372036854775807 : Int64))) - (1 : Int64)) * (10000 : Int64))), .second, .val (.long ((q1 &&& (9223372036854775807 : Int64)) - (((own_p (q1 &&& (9223372036854775807 : Int64))) - (1 : Int64)) * (10000 : Int64)))), .second] [(.long ((q1 &&& (9223372036854775807 : Int64)) - (((own_p (q1 &&& (9223372036854775807 : Int64))) - (1 : Int64)) * (10000 : Int64))))])) rfl (hb hby at_67) _ ?_
    show Steps p.tables e below (T2.setTop (mkF m 70 #[.val (.long q1), .second, .val (.long (q1 &&& (9223372036854775807 : Int64))), .second, .val (.long (own_p (q1 &&& (9223372036854775807 : Int64)))), .second, .val (.long (((own_p (q1 &&& (9223372036854775807 : Int64))) - (1 : Int64)) * (10000 : Int64))), .second, .val (.long ((q1 &&& (9223372036854775807 : Int64)) - (((own_p (q1 &&& (9223372036854775807 : Int64))) - (1 : Int64)) * (10000 : Int64)))), .second] [(.long (10000 : Int64)), (.long ((q1 &&& (9223372036854775807 : Int64)) - (((own_p (q1 &&& (9223372036854775807 : Int64))) - (1 : Int64)) * (10000 : Int64))))])) _
    refine XS.lcmp X2.here hx rfl (hb hby at_70) rfl ?_
    show Steps p.tables e below (T2.setTop (mkF m 71 #[.val (.long q1), .second, .val (.long (q1 &&& (9223372036854775807 : Int64))), .second, .val (.long (own_p (q1 &&& (9223372036854775807 : Int64)))), .second, .val (.long (((own_p (q1 &&& (9223372036854775807 : Int64))) - (1 : Int64)) * (10000 : Int64))), .second, .val (.long ((q1 &&& (9223372036854775807 : Int64)) - (((own_p (q1 &&& (9223372036854775807 : Int64))) - (1 : Int64)) * (10000 : Int64)))), .second] [(.int (lcmpW ((q1 &&& (9223372036854775807 : Int64)) - (((own_p (q1 &&& (9223372036854775807 : Int64))) - (1 : Int64)) * (10000 : Int64))) (10000 : Int64)))])) _
    refine XS.ifNo X2.here hx rfl (hb hby at_71) rfl ((if0 _ _).trans (flt ((own_law (q1 &&& (9223372036854775807 : Int64)) (own_pos _ hc9)).2.2.2 : ¬ ((0 : Int32) < (lcmpW ((q1 &&& (9223372036854775807 : Int64)) - (((own_p (q1 &&& (9223372036854775807 : Int64))) - (1 : Int64)) * (10000 : Int64))) (10000 : Int64))))).2.2.1) ?_
    show Steps p.tables e below (T2.setTop (mkF m 74 #[.val (.long q1), .second, .val (.long (q1 &&& (9223372036854775807 : Int64))), .second, .val (.long (own_p (q1 &&& (9223372036854775807 : Int64)))), .second, .val (.long (((own_p (q1 &&& (9223372036854775807 : Int64))) - (1 : Int64)) * (10000 : Int64))), .second, .val (.long ((q1 &&& (9223372036854775807 : Int64)) - (((own_p (q1 &&& (9223372036854775807 : Int64))) - (1 : Int64)) * (10000 : Int64)))), .second] [])) _
    refine XS.iconst X2.here hx rfl (hb hby at_74) ?_
    show Steps p.tables e below (T2.setTop (mkF m 75 #[.val (.long q1), .second, .val (.long (q1 &&& (9223372036854775807 : Int64))), .second, .val (.long (own_p (q1 &&& (9223372036854775807 : Int64)))), .second, .val (.long (((own_p (q1 &&& (9223372036854775807 : Int64))) - (1 : Int64)) * (10000 : Int64))), .second, .val (.long ((q1 &&& (9223372036854775807 : Int64)) - (((own_p (q1 &&& (9223372036854775807 : Int64))) - (1 : Int64)) * (10000 : Int64)))), .second] [(.int (1 : Int32))])) _
    refine XS.goto X2.here hx rfl (pc0 := 75) (pc' := 79) rfl (hb hby at_75) (by decide) (by decide) ?_
    show Steps p.tables e below (T2.setTop (mkF m 79 #[.val (.long q1), .second, .val (.long (q1 &&& (9223372036854775807 : Int64))), .second, .val (.long (own_p (q1 &&& (9223372036854775807 : Int64)))), .second, .val (.long (((own_p (q1 &&& (9223372036854775807 : Int64))) - (1 : Int64)) * (10000 : Int64))), .second, .val (.long ((q1 &&& (9223372036854775807 : Int64)) - (((own_p (q1 &&& (9223372036854775807 : Int64))) - (1 : Int64)) * (10000 : Int64)))), .second] [(.int (1 : Int32))])) _
    exact retN X2 hx (t := .boolean) Bd.returns (by simp) (hb hby at_79) hr
  · show Q0 Z q1 h0 n0 _ T2.heap _
    exact ⟨rfl, N2⟩
set_option maxRecDepth 65536 in
set_option maxHeartbeats 40000000 in
theorem rm0 (l : Launch) (Z : State) (a0 : Array Value) (hw : ∀ d ∈ tables_1, d.before a0 Z = true) (ws : List Jvm.Cond) (q1 : Int64) (h0 : Heap) (n0 : Nat) (Z0 : n0 ≤ h0.size) :
    MetFree l x (head1 (Jvm.Cond.code x code maxLocals ret :: ws) room_1) (fun a U => a = #[(.long q1)] ∧ Z.Warmed39 U.vm ∧ U.heap = h0) (fun _ _ _ _ _ => True) (fun _ U o U' => ∃ v L, o = .returned v ∧ Q0 Z q1 h0 n0 v U'.heap L ∧ FrameEnd U o U' L room_1.cells room_1.slots) := by
  by_cases hc : lcmpW (q1 &&& (9223372036854775807 : Int64)) (0 : Int64) = (0 : Int32)
  · exact rm0_f l Z a0 hw ws q1 h0 n0 Z0 hc
  · exact rm0_t l Z a0 hw ws q1 h0 n0 Z0 hc

set_option maxRecDepth 65536 in
set_option maxHeartbeats 40000000 in
theorem comes_1 {Post : Tables → Env → Array Value → State → Outcome → State → Prop} (hpost : ∀ tb e args s v u, (limb_1_1.after args s (.returned v) u = true ∧ limb_1_2.after args s (.returned v) u = true ∧ True) → FrameEnd s (.returned v) u (Jvm.fieldLocs frame_1_writes args s ++ Jvm.arrayLocs frame_1_arrays args s ++ Jvm.staticLocs frame_1_statics s) 0 0 → Post tb e args s (.returned v) u) :
    ArmFor flags0 classFile x code maxLocals ret World_1 tables_1 room_1 Calls_1 rest_1 Pre_1 Post := by
  intro l hfl _ _ p e ha hc hk s m args below hf hA hF happ hP
  obtain ⟨hcalls, hrest, hpre⟩ := hP
  obtain ⟨-, -, -, hnamed, -, -, -, hat⟩ := (Spec.applies_iff hf).mp happ
  obtain ⟨hg, hn⟩ := and_e (Cond.before_iff.mp (show (Jvm.Cond.and given_1 narrow_1).before args s = true from hpre))
  obtain ⟨g3, g4⟩ := and_e hg
  obtain ⟨w0, rfl⟩ : ∃ w0 : Value, args = #[w0] := by
    have hs : args.size = 1 := by simpa [Cond.value, given_1] using g3
    obtain ⟨L⟩ := args
    match L, hs with
    | [w0], _ => exact ⟨w0, rfl⟩
  have hw := fun d (hd : d ∈ tables_1) => atoms_spec (ws := Jvm.Cond.code x code maxLocals ret :: tables_1) hat d (List.mem_cons_of_mem _ hd)
  have hfit : Fit s := fun {y c} hc i hi => by
    obtain ⟨ha, rfl⟩ := Array.getElem?_eq_some_iff.mp hc
    have q := List.all_eq_true.mp ((Array.all_eq_true_iff_forall_mem.mp hF) _ (Array.getElem_mem ha)) i (List.mem_range.mpr hi)
    simpa [Array.getElem?_eq_getElem hi] using q
  obtain ⟨i0, ei0⟩ := isL_v g4
  obtain rfl : w0 = (.long i0) := Option.some.inj ei0
  obtain ⟨n, o, h1, h2, h3, _, L, rfl, ⟨rfl, N⟩, hq⟩ := rm0 l s _ hw tables_1 i0 s.heap s.heap.size (Nat.le_refl _) p e ha hc hk s m _ below hf ((Spec.applies_iff_loose hf).mp happ).1 ⟨rfl, State.Warmed39.refl s, rfl⟩ trivial
  refine ⟨n, _, h1, h2, h3, hpost _ _ _ _ _ _ ⟨Cond.after_iff.mpr rfl, Cond.after_iff.mpr (eq_i res_at (Term.int_eval (1)) rfl), trivial⟩ ⟨hq.1, hq.2.1, (hq.2.2.sift fun y hy => Or.inr (N y hy)).mono (by decide) (by decide)⟩⟩
theorem main_1_1 : Claimed_1_1 := comes_1 fun _ _ _ _ _ _ h hF => ⟨h.1, hF⟩
theorem main_1_2 : Claimed_1_2 := comes_1 fun _ _ _ _ _ _ h hF => ⟨h.2.1, hF⟩
end Jvm.Pilot.@@N@@
namespace Jvm.Pilot.@@N@@
open Jvm Jvm.ClassFile Sem Op Lib Jvm.Free Jvm.Stand Jvm.Pilot.@@N@@.Jvm.D
/-! MADE BY PROGRAM (witnessworld.py) out of the Statement's table words and the real class files: 9 classes; the members and pool entries that the words name. The judged class is class 1, her method 1. -/
namespace start1
open Jvm.ClassFile
def u (s : String) : CpInfo := .utf8 (stringToUtf16 s)
/-- a pool by its gaps: so many unusable entries, then the entry; so many at the end -/
def gap : Nat → List CpInfo → List CpInfo
  | 0, r => r
  | n + 1, r => .unusable :: gap n r
def poolList (es : List (Nat × CpInfo)) (last : Nat) : List CpInfo := es.foldr (fun e r => gap e.1 (e.2 :: r)) (gap last [])
def pool (es : List (Nat × CpInfo)) (last : Nat) : Array CpInfo := ⟨poolList es last⟩
def fileOf (pool : Array CpInfo) (this : Nat) (attrs : Array Attribute := #[]) (ms : Array MethodInfo := #[]) (fl : Nat := 33) (sup : Nat := 0) (ifs : Array Nat := #[]) (fds : Array FieldInfo := #[]) : ClassFile where
  minorVersion := 0
  majorVersion := 65
  constantPool := pool
  accessFlags := fl
  thisClass := this
  superClass := sup
  interfaces := ifs
  fields := fds
  methods := ms
  attributes := attrs
def plain (name : String) (sup : Option ClassId) : Class where
  name := name
  kind := .ordinary
  loader := none
  accessFlags := 33
  super := sup
  interfaces := #[]
  cf := none
  fields := #[]
  methods := #[]
  instanceTypes := #[]
  staticTypes := #[]
  resolved := #[]
  callSites := []
  init := .initialized
  statics := none
  mirror := none

def pool0 : Array CpInfo := pool [(5, u "<init>"), (0, u "()V"), (1, .class_ 10), (1, u "java/lang/Object")] 113

def k0m0 : Method := { name := "<init>", desc := "()V", sig := { parameters := [], returnType := none }, accessFlags := 1, code := none }
/-- java/lang/Object -/
def k0 : Class := { plain "java/lang/Object" none with
  accessFlags := 33
  interfaces := #[]
  cf := some (fileOf pool0 8 #[] #[{ accessFlags := 1, nameIndex := 5, descriptorIndex := 6, attributes := #[] }] 33 0 #[] #[])
  fields := #[]
  methods := #[k0m0]
  instanceTypes := #[]
  staticTypes := #[]
  resolved := Array.replicate 124 none
  statics := none }

def pool1 : Array CpInfo := pool [(2, .class_ 4), (1, u "java/lang/Object"), (0, u "<init>"), (0, u "()V"), (0, .long 9223372036854775807), (1, .methodref 10 11), (0, .class_ 12), (0, .nameAndType 13 14), (0, u "com/example/quota2/quota2/Throughput"), (0, u "partitions"), (0, u "(J)J"), (0, .long 922337203685477), (1, .long 10000), (1, .class_ 20), (0, u "com/example/quota2/quota2/ThroughputPartitionsPinLaw"), (2, u "law"), (0, u "(J)Z")] 3

def k1m0 : Method := { name := "<init>", desc := "()V", sig := { parameters := [], returnType := none }, accessFlags := 2, code := none }
def k1c1 : Code := { maxStack := 4, maxLocals := 10, code := code, exceptionTable := #[], attributes := #[] }
def k1m1 : Method := { name := "law", desc := "(J)Z", sig := { parameters := [.long], returnType := some .boolean }, accessFlags := 9, code := some k1c1 }
/-- com/example/quota2/quota2/ThroughputPartitionsPinLaw -/
def k1 : Class := { plain "com/example/quota2/quota2/ThroughputPartitionsPinLaw" (some 0) with
  accessFlags := 49
  interfaces := #[]
  cf := some (fileOf pool1 19 #[] #[{ accessFlags := 2, nameIndex := 5, descriptorIndex := 6, attributes := #[] }, { accessFlags := 9, nameIndex := 23, descriptorIndex := 24, attributes := #[] }] 49 2 #[] #[])
  fields := #[]
  methods := #[k1m0, k1m1]
  instanceTypes := #[]
  staticTypes := #[]
  resolved := Array.replicate 28 none
  statics := none }

def pool2 : Array CpInfo := pool [(3, .class_ 4), (0, u "com/example/quota2/quota2/Throughput"), (1, .class_ 8), (1, u "java/lang/Object"), (0, u "<init>"), (0, u "()V"), (2, u "WHOLE_NUMBER"), (0, u "Ljava/util/regex/Pattern;"), (30, u "LONG_MIN"), (0, u "Ljava/math/BigInteger;"), (6, u "LONG_MAX"), (50, u "(J)J"), (3, .long 10000), (3, u "partitions"), (51, u "MINIMUM"), (0, u "J"), (1, u "STEP"), (0, u "MAXIMUM"), (0, u "MAX_SHARING_CONTAINERS"), (0, u "I"), (1, u "MAX_POOL_RANGE"), (2, u "MAX_POOLED"), (0, u "MAX_WITH_POOL"), (0, u "MAX_PER_PARTITION"), (0, u "FNV_OFFSET_BASIS"), (0, u "FNV_PRIME")] 19

def k2m0 : Method := { name := "<init>", desc := "()V", sig := { parameters := [], returnType := none }, accessFlags := 2, code := none }
def k2c1 : Code := { maxStack := 6, maxLocals := 2, code := prog_23_method_8_code, exceptionTable := #[], attributes := #[] }
def k2m1 : Method := { name := "partitions", desc := "(J)J", sig := { parameters := [.long], returnType := some .long }, accessFlags := 9, code := some k2c1 }
/-- com/example/quota2/quota2/Throughput -/
def k2 : Class := { plain "com/example/quota2/quota2/Throughput" (some 0) with
  accessFlags := 49
  interfaces := #[]
  cf := some (fileOf pool2 3 #[] #[{ accessFlags := 2, nameIndex := 9, descriptorIndex := 10, attributes := #[] }, { accessFlags := 9, nameIndex := 112, descriptorIndex := 104, attributes := #[] }] 49 6 #[] #[{ accessFlags := 25, nameIndex := 164, descriptorIndex := 165, attributes := #[] }, { accessFlags := 25, nameIndex := 167, descriptorIndex := 165, attributes := #[] }, { accessFlags := 25, nameIndex := 168, descriptorIndex := 165, attributes := #[] }, { accessFlags := 25, nameIndex := 169, descriptorIndex := 170, attributes := #[] }, { accessFlags := 25, nameIndex := 172, descriptorIndex := 165, attributes := #[] }, { accessFlags := 25, nameIndex := 175, descriptorIndex := 165, attributes := #[] }, { accessFlags := 25, nameIndex := 176, descriptorIndex := 165, attributes := #[] }, { accessFlags := 25, nameIndex := 177, descriptorIndex := 165, attributes := #[] }, { accessFlags := 26, nameIndex := 178, descriptorIndex := 165, attributes := #[] }, { accessFlags := 26, nameIndex := 179, descriptorIndex := 165, attributes := #[] }, { accessFlags := 26, nameIndex := 13, descriptorIndex := 14, attributes := #[] }, { accessFlags := 26, nameIndex := 45, descriptorIndex := 46, attributes := #[] }, { accessFlags := 26, nameIndex := 53, descriptorIndex := 46, attributes := #[] }])
  fields := #[{ name := "MINIMUM", type := .long, accessFlags := 25, slot := 0, constantValue := 0 }, { name := "STEP", type := .long, accessFlags := 25, slot := 1, constantValue := 0 }, { name := "MAXIMUM", type := .long, accessFlags := 25, slot := 2, constantValue := 0 }, { name := "MAX_SHARING_CONTAINERS", type := .int, accessFlags := 25, slot := 3, constantValue := 0 }, { name := "MAX_POOL_RANGE", type := .long, accessFlags := 25, slot := 4, constantValue := 0 }, { name := "MAX_POOLED", type := .long, accessFlags := 25, slot := 5, constantValue := 0 }, { name := "MAX_WITH_POOL", type := .long, accessFlags := 25, slot := 6, constantValue := 0 }, { name := "MAX_PER_PARTITION", type := .long, accessFlags := 25, slot := 7, constantValue := 0 }, { name := "FNV_OFFSET_BASIS", type := .long, accessFlags := 26, slot := 8, constantValue := 0 }, { name := "FNV_PRIME", type := .long, accessFlags := 26, slot := 9, constantValue := 0 }, { name := "WHOLE_NUMBER", type := (.object "java/util/regex/Pattern"), accessFlags := 26, slot := 10, constantValue := 0 }, { name := "LONG_MIN", type := (.object "java/math/BigInteger"), accessFlags := 26, slot := 11, constantValue := 0 }, { name := "LONG_MAX", type := (.object "java/math/BigInteger"), accessFlags := 26, slot := 12, constantValue := 0 }]
  methods := #[k2m0, k2m1]
  instanceTypes := #[]
  staticTypes := #[.long, .long, .long, .int, .long, .long, .long, .long, .long, .long, (.object "java/util/regex/Pattern"), (.object "java/math/BigInteger"), (.object "java/math/BigInteger")]
  resolved := Array.replicate 199 none
  statics := none }

def pool3 : Array CpInfo := pool [(1, u "java/lang/Cloneable"), (0, .class_ 1), (0, u "java/lang/Object"), (0, .class_ 3)] 3

/-- java/lang/Cloneable -/
def k3 : Class := { plain "java/lang/Cloneable" (some 0) with
  accessFlags := 1537
  interfaces := #[]
  cf := some (fileOf pool3 2 #[] #[] 1537 4 #[] #[])
  fields := #[]
  methods := #[]
  instanceTypes := #[]
  staticTypes := #[]
  resolved := Array.replicate 8 none
  statics := none }

def pool4 : Array CpInfo := pool [(1, u "java/io/Serializable"), (0, .class_ 1), (0, u "java/lang/Object"), (0, .class_ 3)] 3

/-- java/io/Serializable -/
def k4 : Class := { plain "java/io/Serializable" (some 0) with
  accessFlags := 1537
  interfaces := #[]
  cf := some (fileOf pool4 2 #[] #[] 1537 4 #[] #[])
  fields := #[]
  methods := #[]
  instanceTypes := #[]
  staticTypes := #[]
  resolved := Array.replicate 8 none
  statics := none }

/-- the primitive byte -/
def k5 : Class := { plain "byte" none with kind := .primitive 'B', accessFlags := 0x411 }
/-- [B -/
def k6 : Class := { plain "[B" (some 0) with kind := .array 5 .byte, interfaces := #[3, 4], accessFlags := 1041 }

/-- the primitive int -/
def k7 : Class := { plain "int" none with kind := .primitive 'I', accessFlags := 0x411 }
/-- [I -/
def k8 : Class := { plain "[I" (some 0) with kind := .array 7 .int, interfaces := #[3, 4], accessFlags := 1041 }

def heap : Heap := #[]
def classes : Array Class := #[k0, k1, k2, k3, k4, k5, k6, k7, k8]
def interned : List (Array UInt16 × Addr) := []
def slotsUsed : Nat := 0
def theMethod : MethodId := ⟨1, 1⟩
def args0 : Array Value := #[.long 5]
def aboutOver (below : List Frame) : State where
  vm := { classes := classes, interned := interned.toArray }
  heap := heap
  slotsUsed := slotsUsed
  threads := #[{ frames := .invoking theMethod args0 :: below }]
def below0 : List Frame := [.native { method := ⟨0, 0⟩, args := #[] }]
def about1 : State := aboutOver below0
def p0 : Program := .bare "" "" ""
def e0 : Env := launch0.env 0 0 0
theorem w_frames : about1.frames = Frame.invoking theMethod args0 :: below0 := rfl
set_option maxRecDepth 65536 in
theorem w_args : argsFit about1.vm theMethod args0 = true := by decide +kernel
set_option maxRecDepth 65536 in
theorem w_heap : heapFits about1 = true := by decide +kernel
set_option maxRecDepth 65536 in
theorem w_runnable : about1.curStatus? = some .runnable := by decide +kernel
set_option maxRecDepth 65536 in
theorem w_alone : about1.alone = true := by decide +kernel
set_option maxRecDepth 65536 in
theorem w_named : about1.methodNamed? x = some theMethod := by decide +kernel
set_option maxRecDepth 65536 in
theorem w_hears : about1.hears theMethod below0 = true := by decide +kernel
set_option maxRecDepth 65536 in
theorem w_ripe : about1.ripe theMethod args0 below0 = true := by decide +kernel
theorem w_running : about1.status = .running := rfl
set_option maxRecDepth 65536 in
theorem w_room : about1.hasRoom e0.platform room_1 = true :=
  launch0.hasRoom_least _ room_1 (by decide +kernel) (by decide +kernel) (by decide +kernel) (by decide +kernel) (by decide +kernel) (by decide +kernel)
theorem allAtoms_all (ts : List Jvm.Cond) (a : Array Jvm.Value) (st : Jvm.State) : (allAtoms ts).before a st = ts.all (fun c => c.before a st) := by
  induction ts with
  | nil => rfl
  | cons c t ih =>
    show (Jvm.Cond.and c (allAtoms t)).before a st = _
    rw [Jvm.Cond.before_and, ih, List.all_cons]
def words1 : List Jvm.Cond := Jvm.Cond.code x code maxLocals ret :: tables_1
/-- a 'code' word, met by the world's own term for the bytes: nothing is compared byte by byte -/
theorem code_word {y : MethodName} {bytes : ByteArray} {mx : Nat} {rt : Option FieldType} {a : Array Value} {s : State} {m : MethodId} {meth : Method} {c : Code} (h1 : s.methodNamed? y = some m) (h2 : s.vm.method? m = some meth) (h3 : meth.code = some c) (h4 : c.code = bytes)
    (h5 : (c.maxLocals == mx && c.exceptionTable.isEmpty && decide (c.maxStack ≤ mostOperands) && decide (meth.sig.returnType = rt) && !meth.locks && decide (parseMethodDescriptor y.desc = some meth.sig)) = true) : (Jvm.Cond.code y bytes mx rt).before a s = true := by
  simp only [Bool.and_eq_true, beq_iff_eq, Bool.not_eq_true', decide_eq_true_eq] at h5
  obtain ⟨⟨⟨⟨⟨g1, g2⟩, g3⟩, g4⟩, g5⟩, g6⟩ := h5
  simp [Cond.before, Cond.holds, Cond.value, h1, h2, h3, h4, g1, g2, g3, g4, g5, g6]
def isCode : Jvm.Cond → Bool
  | .code _ _ _ _ => true
  | _ => false
theorem all_split {L : List Jvm.Cond} {P : Jvm.Cond → Bool} (h1 : L.all (fun c => isCode c || P c) = true) (h2 : ∀ c ∈ L.filter isCode, P c = true) : L.all P = true := by
  refine List.all_eq_true.mpr fun c hc => ?_
  have h := List.all_eq_true.mp h1 c hc
  rcases Bool.eq_false_or_eq_true (isCode c) with hi | hi
  · exact h2 c (List.mem_filter.mpr ⟨hc, hi⟩)
  · simpa [hi] using h
set_option maxRecDepth 65536 in
theorem w_c0 : (Jvm.Cond.code x code maxLocals ret).before args0 about1 = true := code_word (m := ⟨1, 1⟩) (meth := k1m1) (c := k1c1) (by decide +kernel) rfl rfl rfl (by decide +kernel)
set_option maxRecDepth 65536 in
theorem w_c1 : (Jvm.Cond.code ({ cls := "com/example/quota2/quota2/Throughput", name := "partitions", desc := "(J)J" } : Jvm.MethodName) prog_23_method_8_code (2 : Nat) (Option.some Jvm.ClassFile.FieldType.long)).before args0 about1 = true := code_word (m := ⟨2, 1⟩) (meth := k2m1) (c := k2c1) (by decide +kernel) rfl rfl rfl (by decide +kernel)
def codes1 : List Jvm.Cond := [Jvm.Cond.code x code maxLocals ret, Jvm.Cond.code ({ cls := "com/example/quota2/quota2/Throughput", name := "partitions", desc := "(J)J" } : Jvm.MethodName) prog_23_method_8_code (2 : Nat) (Option.some Jvm.ClassFile.FieldType.long)]
set_option maxRecDepth 65536 in
theorem codes_eq : words1.filter isCode = codes1 := rfl
theorem w_codes : ∀ c ∈ words1.filter isCode, c.before args0 about1 = true := by
  rw [codes_eq]
  intro c hc
  simp only [codes1, List.mem_cons, List.not_mem_nil, or_false] at hc
  rcases hc with rfl | rfl
  · exact w_c0
  · exact w_c1
set_option maxRecDepth 65536 in
theorem w_t1 : words1.all (fun c => isCode c || c.before args0 about1) = true := by decide +kernel
theorem w_tables : (allAtoms (Jvm.Cond.code x code maxLocals ret :: tables_1)).before args0 about1 = true := by
  rw [allAtoms_all]
  show words1.all (fun c => c.before args0 about1) = true
  refine all_split ?_ w_codes
  rw [w_t1]
set_option maxRecDepth 65536 in
theorem w_case : (Jvm.Cond.and given_1 narrow_1).before args0 about1 = true := by decide +kernel
theorem w_applies : (headSpec (Jvm.Cond.code x code maxLocals ret :: tables_1) room_1).applies x e0.platform about1 = true :=
  (Spec.applies_iff w_frames).mpr ⟨w_running, w_runnable, w_alone, w_named, w_hears, w_ripe, w_room, w_tables⟩
theorem atStart : AtStart classFile x code maxLocals ret World_1 tables_1 room_1 Calls_1 rest_1 Pre_1 launch0 p0 e0 about1 theMethod args0 below0 :=
  ⟨lists_1, trivial, launch0.admits_env _ _ _, launch0.least_env, fairChoices_fair.cas, fairChoices_fair.clock, w_frames, w_args, w_heap, w_applies, trivial, trivial, w_case⟩
end start1
theorem witness_1 : WitnessClaimed_1 := ⟨start1.p0, start1.e0, start1.about1, start1.theMethod, start1.args0, start1.below0, start1.atStart⟩
end Jvm.Pilot.@@N@@
