import Derived.Test.YtlnpifmdjcnflaaGreatDoorS46
set_option linter.unusedVariables false
set_option linter.unusedSimpArgs false
namespace Go.Am
open Go.Proofs
set_option maxRecDepth 100000
set_option linter.unusedSimpArgs false
set_option linter.unusedVariables false
attribute [local irreducible] AC AL AW AD ARun
theorem ARun.e {P : Program} {f : FuncId} {args : List AV} {h : AH} {v : AV} (H : ARun P f args h v h) : ARunE P f args h fun r h' => r = v ∧ h' = h := ⟨v, h, ⟨rfl, rfl⟩, H⟩
abbrev cloN (k : Int) (fE : Bool) (ts : List Str) : AV := .clo 29 [.ref none [sch k fE ts]]
section
variable {h h0 : AH} {fE f1 f2 : Bool}
set_option maxHeartbeats 2000000 in
theorem errLT_run (ts : List Str) (hl : ts.length ≤ 2147483647) (hne : ts ≠ []) (v : JV) (hv : v.Fit) (hk : kindS v.k ∉ ts) (ns : List Str) (hn : ns.length ≤ 2147483647) (h1 : ∀ s ∈ ns, s ∈ ts) (h2 : ∀ s ∈ ts, s ∈ ns) : ∀ h0, ARun Tryz.prog 28 [.int .i64 2020, ndS 0 fE ts, cloN 0 fE ts, .agg v.cs, .agg (leafT [49] (kindS v.k) ns)] h0 (.bool true) h0 := by
  intro h0
  have hkd := kindT_run (fE := fE) ts hl hne v hv hk ns hn h1 h2
  have htk := takes_run (fE := fE) v hv ts hl
  rw [decide_eq_false (by simp [hne, hk])] at htk
  generalize kindS v.k = s at hkd ⊢
  obtain ⟨b, m, z1, z2, e⟩ := v.shape
  rw [e] at hkd htk ⊢
  refine ARun.pure (.bool _) ?_
  refine X.of (n := 103) (rs := [.tmp 10]) [] ⟨Tryz.func28, rfl, rfl, rfl⟩ rfl ?_
  have H : HI h0 [] h0 [] := HI.nil
  refine X.gm [6, 8, 9] [] H rfl fun h H nN => ?_
  refine X.call rfl Tryz.call46 (part_run _ _ _ _ _ _ h) ?_
  rintro _ h1 ⟨k1, rfl⟩
  replace H := H.same k1
  have hN := H.kp.n
  refine X.q 8 H rfl fun h H nN => ?_
  refine X.freeze 11 H rfl hN fun H => ?_
  refine X.gh [92] H rfl fun h H nN => ?_
  refine X.callQ rfl Tryz.call47 (pathT_run _ _) ?_
  refine X.gh [90] H rfl fun h H nN => ?_
  refine X.callV rfl rfl rfl Tryz.call29 rfl (clo1_run 0 ts h).e ?_
  rintro _ _ ⟨rfl, rfl⟩
  refine X.gh [] H rfl fun h H nN => ?_
  refine X.roll ?_
  refine X.gh [91, 92] H rfl fun h H nN => ?_
  refine X.freeD (StepD.indexAddr rfl rfl rfl rfl rfl rfl (by decide) rfl) rfl ?_
  refine X.gh [92] H rfl fun h H nN => ?_
  refine X.freeD (StepD.indexAddr rfl rfl rfl rfl rfl rfl (by decide) rfl) rfl ?_
  refine X.gh [] H rfl fun h H nN => ?_
  refine X.callQD rfl Tryz.call48 htk ?_
  refine X.gh [92] H rfl fun h H nN => ?_
  refine X.freeD (StepD.indexAddr rfl rfl rfl rfl rfl rfl (by decide) rfl) rfl ?_
  refine X.gh [] H rfl fun h H nN => ?_
  refine X.callQD rfl Tryz.call49 hkd ?_
  refine X.gh [] H rfl fun h H nN => ?_
  refine X.eqi 15 1 rfl (by decide) ?_
  refine X.rollN ?_
  refine X.gh [90] H rfl fun h H nN => ?_
  refine X.roll ?_
  refine X.gh [90] H rfl fun h H nN => ?_
  exact X.retV [] H rfl ⟨H.kp, fun _ _ _ h => h⟩
set_option maxHeartbeats 2000000 in
theorem errLF_run  : ∀ h0, ARun Tryz.prog 28 [.int .i64 2020, ndS 2 false [], cloN 2 false [], .agg jv0, .agg (leafF [49])] h0 (.bool true) h0 := by
  intro h0
  refine ARun.pure (.bool _) ?_
  refine X.of (n := 103) (rs := [.tmp 10]) [] ⟨Tryz.func28, rfl, rfl, rfl⟩ rfl ?_
  have H : HI h0 [] h0 [] := HI.nil
  refine X.gm [6, 8, 9] [] H rfl fun h H nN => ?_
  refine X.call rfl Tryz.call46 (part0_run h) ?_
  rintro _ h1 ⟨k1, rfl⟩
  replace H := H.same k1
  have hN := H.kp.n
  refine X.q 8 H rfl fun h H nN => ?_
  refine X.freeze 11 H rfl hN fun H => ?_
  refine X.gh [92] H rfl fun h H nN => ?_
  refine X.callQ rfl Tryz.call47 pathF_run ?_
  refine X.gh [90] H rfl fun h H nN => ?_
  refine X.callV rfl rfl rfl Tryz.call29 rfl (clo1_run 2 [] h).e ?_
  rintro _ _ ⟨rfl, rfl⟩
  refine X.gh [] H rfl fun h H nN => ?_
  refine X.roll ?_
  refine X.gh [91, 92] H rfl fun h H nN => ?_
  refine X.freeD (StepD.indexAddr rfl rfl rfl rfl rfl rfl (by decide) rfl) rfl ?_
  refine X.gh [92] H rfl fun h H nN => ?_
  refine X.freeD (StepD.indexAddr rfl rfl rfl rfl rfl rfl (by decide) rfl) rfl ?_
  refine X.gh [] H rfl fun h H nN => ?_
  refine X.callQD rfl Tryz.call48 takesF_run ?_
  refine X.gh [92] H rfl fun h H nN => ?_
  refine X.freeD (StepD.indexAddr rfl rfl rfl rfl rfl rfl (by decide) rfl) rfl ?_
  refine X.gh [] H rfl fun h H nN => ?_
  refine X.callQD rfl Tryz.call49 kindLF_run ?_
  refine X.gh [] H rfl fun h H nN => ?_
  refine X.eqi 15 1 rfl (by decide) ?_
  refine X.rollN ?_
  refine X.gh [90] H rfl fun h H nN => ?_
  refine X.roll ?_
  refine X.gh [90] H rfl fun h H nN => ?_
  exact X.retV [] H rfl ⟨H.kp, fun _ _ _ h => h⟩
set_option maxHeartbeats 2000000 in
theorem errRT2_run (ts : List Str) (hl : ts.length ≤ 2147483647) (hne : ts ≠ []) (v : JV) (hv : v.Fit) (hk : kindS v.k ∉ ts) (ns : List Str) (hn : ns.length ≤ 2147483647) (h1 : ∀ s ∈ ns, s ∈ ts) (h2 : ∀ s ∈ ts, s ∈ ns) : ∀ h0, ARun Tryz.prog 28 [.int .i64 2020, ndS 0 fE ts, cloN 0 fE ts, .agg v.cs, .agg (rootC [49] (leafT [49] (kindS v.k) ns))] h0 (.bool true) h0 := by
  intro h0
  have hkd := kindR_run (fE := fE) ts v (leafT [49] (kindS v.k) ns)
  have htk := takes_run (fE := fE) v hv ts hl
  rw [decide_eq_false (by simp [hne, hk])] at htk
  have hkid := errLT_run (fE := fE) ts hl hne v hv hk ns hn h1 h2
  generalize kindS v.k = s at hkd hkid ⊢
  obtain ⟨b, m, z1, z2, e⟩ := v.shape
  rw [e] at hkd htk hkid ⊢
  refine ARun.pure (.bool _) ?_
  refine X.of (n := 103) (rs := [.tmp 10]) [] ⟨Tryz.func28, rfl, rfl, rfl⟩ rfl ?_
  have H : HI h0 [] h0 [] := HI.nil
  refine X.gm [6, 8, 9] [] H rfl fun h H nN => ?_
  refine X.call rfl Tryz.call46 (part_run _ _ _ _ _ _ h) ?_
  rintro _ h1 ⟨k1, rfl⟩
  replace H := H.same k1
  have hN := H.kp.n
  refine X.q 8 H rfl fun h H nN => ?_
  refine X.freeze 11 H rfl hN fun H => ?_
  refine X.gh [92] H rfl fun h H nN => ?_
  refine X.callQ rfl Tryz.call47 (pathR_run _) ?_
  refine X.gh [90] H rfl fun h H nN => ?_
  refine X.callV rfl rfl rfl Tryz.call29 rfl (clo1_run 0 ts h).e ?_
  rintro _ _ ⟨rfl, rfl⟩
  refine X.gh [] H rfl fun h H nN => ?_
  refine X.roll ?_
  refine X.gh [91, 92] H rfl fun h H nN => ?_
  refine X.freeD (StepD.indexAddr rfl rfl rfl rfl rfl rfl (by decide) rfl) rfl ?_
  refine X.gh [92] H rfl fun h H nN => ?_
  refine X.freeD (StepD.indexAddr rfl rfl rfl rfl rfl rfl (by decide) rfl) rfl ?_
  refine X.gh [] H rfl fun h H nN => ?_
  refine X.callQD rfl Tryz.call48 htk ?_
  refine X.gh [92] H rfl fun h H nN => ?_
  refine X.freeD (StepD.indexAddr rfl rfl rfl rfl rfl rfl (by decide) rfl) rfl ?_
  refine X.gh [] H rfl fun h H nN => ?_
  refine X.callQD rfl Tryz.call49 hkd ?_
  refine X.gh [] H rfl fun h H nN => ?_
  refine X.eqi 15 1 rfl (by decide) ?_
  refine X.rollN ?_
  refine X.gh [90] H rfl fun h H nN => ?_
  refine X.roll ?_
  refine X.gh [] H rfl fun h H nN => ?_
  refine X.unO 73 rfl ?_
  refine X.gh [91, 92] H rfl fun h H nN => ?_
  refine X.freeD (fun h => StepD.un 81 rfl rfl rfl rfl (StepD.indexAddr rfl rfl rfl rfl rfl rfl (by decide) rfl h)) rfl ?_
  refine X.gh [] H rfl fun h H nN => ?_
  refine X.callQD rfl Tryz.call50 begins_run ?_
  refine X.gh [92] H rfl fun h H nN => ?_
  refine X.freeD (fun h => StepD.un 96 rfl rfl rfl rfl (StepD.indexAddr rfl rfl rfl rfl rfl rfl (by decide) rfl h)) rfl ?_
  refine X.gh [] H rfl fun h H nN => ?_
  refine X.callQD rfl Tryz.call28 hkid ?_
  refine X.gh [] H rfl fun h H nN => ?_
  refine X.eqi 16 1 rfl (by decide) ?_
  refine X.rollN ?_
  refine X.gh [] H rfl fun h H nN => ?_
  refine X.unO 73 rfl ?_
  refine X.gh [90] H rfl fun h H nN => ?_
  exact X.retV [] H rfl ⟨H.kp, fun _ _ _ h => h⟩
set_option maxHeartbeats 2000000 in
theorem errRF2_run  : ∀ h0, ARun Tryz.prog 28 [.int .i64 2020, ndS 2 false [], cloN 2 false [], .agg jv0, .agg (rootC [49] (leafF [49]))] h0 (.bool true) h0 := by
  intro h0
  refine ARun.pure (.bool _) ?_
  refine X.of (n := 103) (rs := [.tmp 10]) [] ⟨Tryz.func28, rfl, rfl, rfl⟩ rfl ?_
  have H : HI h0 [] h0 [] := HI.nil
  refine X.gm [6, 8, 9] [] H rfl fun h H nN => ?_
  refine X.call rfl Tryz.call46 (part0_run h) ?_
  rintro _ h1 ⟨k1, rfl⟩
  replace H := H.same k1
  have hN := H.kp.n
  refine X.q 8 H rfl fun h H nN => ?_
  refine X.freeze 11 H rfl hN fun H => ?_
  refine X.gh [92] H rfl fun h H nN => ?_
  refine X.callQ rfl Tryz.call47 (pathR_run _) ?_
  refine X.gh [90] H rfl fun h H nN => ?_
  refine X.callV rfl rfl rfl Tryz.call29 rfl (clo1_run 2 [] h).e ?_
  rintro _ _ ⟨rfl, rfl⟩
  refine X.gh [] H rfl fun h H nN => ?_
  refine X.roll ?_
  refine X.gh [91, 92] H rfl fun h H nN => ?_
  refine X.freeD (StepD.indexAddr rfl rfl rfl rfl rfl rfl (by decide) rfl) rfl ?_
  refine X.gh [92] H rfl fun h H nN => ?_
  refine X.freeD (StepD.indexAddr rfl rfl rfl rfl rfl rfl (by decide) rfl) rfl ?_
  refine X.gh [] H rfl fun h H nN => ?_
  refine X.callQD rfl Tryz.call48 takesF_run ?_
  refine X.gh [92] H rfl fun h H nN => ?_
  refine X.freeD (StepD.indexAddr rfl rfl rfl rfl rfl rfl (by decide) rfl) rfl ?_
  refine X.gh [] H rfl fun h H nN => ?_
  refine X.callQD rfl Tryz.call49 (kindRF_run _) ?_
  refine X.gh [] H rfl fun h H nN => ?_
  refine X.eqi 15 1 rfl (by decide) ?_
  refine X.rollN ?_
  refine X.gh [90] H rfl fun h H nN => ?_
  refine X.roll ?_
  refine X.gh [] H rfl fun h H nN => ?_
  refine X.unO 73 rfl ?_
  refine X.gh [91, 92] H rfl fun h H nN => ?_
  refine X.freeD (fun h => StepD.un 81 rfl rfl rfl rfl (StepD.indexAddr rfl rfl rfl rfl rfl rfl (by decide) rfl h)) rfl ?_
  refine X.gh [] H rfl fun h H nN => ?_
  refine X.callQD rfl Tryz.call50 begins_run ?_
  refine X.gh [92] H rfl fun h H nN => ?_
  refine X.freeD (fun h => StepD.un 96 rfl rfl rfl rfl (StepD.indexAddr rfl rfl rfl rfl rfl rfl (by decide) rfl h)) rfl ?_
  refine X.gh [] H rfl fun h H nN => ?_
  refine X.callQD rfl Tryz.call28 errLF_run ?_
  refine X.gh [] H rfl fun h H nN => ?_
  refine X.eqi 16 1 rfl (by decide) ?_
  refine X.rollN ?_
  refine X.gh [] H rfl fun h H nN => ?_
  refine X.unO 73 rfl ?_
  refine X.gh [90] H rfl fun h H nN => ?_
  exact X.retV [] H rfl ⟨H.kp, fun _ _ _ h => h⟩
end
end Go.Am
