import Derived.Test.YtlnpifmdjcnflaaGreatDoorS45
set_option linter.unusedVariables false
set_option linter.unusedSimpArgs false
section
namespace Go.Am
open Go.Proofs
set_option maxRecDepth 100000
set_option linter.unusedSimpArgs false
set_option linter.unusedVariables false
attribute [local irreducible] AC AL AW AD ARun
section
variable {h h0 : AH} {fE f1 f2 : Bool}
theorem takes_run (v : JV) (hv : v.Fit) (ts : List Str) (hl : ts.length ≤ 2147483647) : ∀ h0, ARun Tryz.prog 48 [.int .i64 2020, ndS 0 fE ts, .int .i64 1, .agg v.cs] h0 (.bool (decide (ts = [] ∨ kindS v.k ∈ ts))) h0 := by
  intro h0
  have hq := judge_run (fE := fE) v hv ts hl
  generalize decide (ts = [] ∨ kindS v.k ∈ ts) = c at hq ⊢
  obtain ⟨b, m, z1, z2, e⟩ := v.shape
  rw [e] at hq ⊢
  refine ARun.pure (.bool _) ?_
  refine X.of (n := 20) (rs := [.tmp 8]) [] ⟨Tryz.func48, rfl, rfl, rfl⟩ rfl ?_
  have H : HI h0 [] h0 [] := HI.nil
  refine X.gm [5, 7] [] H rfl fun h H nN => ?_
  refine X.call rfl Tryz.call26 (hq h) ?_
  rintro _ h1 ⟨k1, o, n, rfl⟩
  replace H := H.same k1
  refine X.g H rfl fun h H nN => ?_
  exact X.retV [] H rfl ⟨H.kp, fun _ _ _ h => h⟩
theorem valid_run (v : JV) (hv : v.Fit) (ts : List Str) (hl : ts.length ≤ 2147483647) : ∀ h0, ARun Tryz.prog 16 [sch 0 fE ts, .agg v.cs] h0 (.bool (decide (ts = [] ∨ kindS v.k ∈ ts))) h0 := by
  intro h0
  have hq := judge_run (fE := fE) v hv ts hl
  generalize decide (ts = [] ∨ kindS v.k ∈ ts) = c at hq ⊢
  obtain ⟨b, m, z1, z2, e⟩ := v.shape
  rw [e] at hq ⊢
  refine ARun.pure (.bool _) ?_
  refine X.of (n := 15) (rs := [.tmp 4]) [] ⟨Tryz.func16, rfl, rfl, rfl⟩ rfl ?_
  have H : HI h0 [] h0 [] := HI.nil
  refine X.gm [3] [] H rfl fun h H nN => ?_
  refine X.call rfl Tryz.call26 (hq h) ?_
  rintro _ h1 ⟨k1, o, n, rfl⟩
  replace H := H.same k1
  refine X.g H rfl fun h H nN => ?_
  exact X.retV [] H rfl ⟨H.kp, fun _ _ _ h => h⟩
theorem judgeF_run : ∀ h0, ARunE Tryz.prog 26 [.int .i64 2020, ndS 2 false [], .int .i64 1, .agg jv0] h0 fun r h' => Kp [] h0 h' ∧ isJ false r := by
  intro h0
  refine X.of (n := 108) (rs := [.tmp 8, .tmp 9]) [] ⟨Tryz.func26, rfl, rfl, rfl⟩ rfl ?_
  have H : HI h0 [] h0 [] := HI.nil
  refine X.gm [5, 7] [] H rfl fun h H nN => ?_
  refine X.free (StepD.indexAddr rfl rfl rfl rfl rfl rfl (by decide) rfl) rfl ?_
  refine X.gm [] [0] H rfl fun hR H nN => ?_
  have hl := H.at_.2
  have hlo := H.kp.n
  refine X.st (StepD.makeB (l := 0) (c := 0) rfl rfl rfl rfl rfl rfl rfl rfl rfl rfl (Nat.le_refl _) (by decide)) rfl ?_
  replace H := HI.pushO (x := nMarks 0) H
  refine X.gh [0, 91, 0] H rfl fun h H nN => ?_
  exact X.retV [] H rfl ⟨H.kp, _, _, rfl⟩
theorem takesF_run : ∀ h0, ARun Tryz.prog 48 [.int .i64 2020, ndS 2 false [], .int .i64 1, .agg jv0] h0 (.bool false) h0 := by
  intro h0
  refine ARun.pure (.bool _) ?_
  refine X.of (n := 20) (rs := [.tmp 8]) [] ⟨Tryz.func48, rfl, rfl, rfl⟩ rfl ?_
  have H : HI h0 [] h0 [] := HI.nil
  refine X.gm [5, 7] [] H rfl fun h H nN => ?_
  refine X.call rfl Tryz.call26 (judgeF_run h) ?_
  rintro _ h1 ⟨k1, o, n, rfl⟩
  replace H := H.same k1
  refine X.g H rfl fun h H nN => ?_
  exact X.retV [] H rfl ⟨H.kp, fun _ _ _ h => h⟩
end
end Go.Am
end
section
namespace Go.Am
open Go.Proofs
set_option maxRecDepth 100000
set_option linter.unusedSimpArgs false
set_option linter.unusedVariables false
attribute [local irreducible] AC AL AW AD ARun
section
variable {h h0 : AH} {fE f1 f2 : Bool}
theorem inPlR_run (ts : List Str) (v : JV) (kid : List AV) : ∀ h0, ARun Tryz.prog 86 [.int .i64 2020, ndS 0 fE ts, .agg (ndC 0 fE ts), .agg v.cs, .agg (rootC [49] kid)] h0 (.bool true) h0 := by
  intro h0
  obtain ⟨b, m, z1, z2, e⟩ := v.shape
  rw [e]
  refine ARun.pure (.bool _) ?_
  refine X.of (n := 136) (rs := [.tmp 10]) [] ⟨Tryz.func86, rfl, rfl, rfl⟩ rfl ?_
  have H : HI h0 [] h0 [] := HI.nil
  refine X.gm [6, 7, 8, 9] [91, 91] H rfl fun h H nN => ?_
  refine X.unO 17 rfl ?_
  refine X.g H rfl fun h H nN => ?_
  exact X.retV [] H rfl ⟨H.kp, fun _ _ _ h => h⟩
theorem inPlT_run (ts : List Str) (v : JV) (a : Str) (ns : List Str) : ∀ h0, ARun Tryz.prog 86 [.int .i64 2020, ndS 0 fE ts, .agg (ndC 0 fE ts), .agg v.cs, .agg (leafT [49] a ns)] h0 (.bool false) h0 := by
  intro h0
  obtain ⟨b, m, z1, z2, e⟩ := v.shape
  rw [e]
  refine ARun.pure (.bool _) ?_
  refine X.of (n := 136) (rs := [.tmp 10]) [] ⟨Tryz.func86, rfl, rfl, rfl⟩ rfl ?_
  have H : HI h0 [] h0 [] := HI.nil
  refine X.gm [6, 7, 8, 9] [90, 90, 90, 90, 90, 90, 90] H rfl fun h H nN => ?_
  exact X.retV [] H rfl ⟨H.kp, fun _ _ _ h => h⟩
set_option maxHeartbeats 1000000 in
theorem valueT_run (ts : List Str) (hl : ts.length ≤ 2147483647) (hne : ts ≠ []) (v : JV) (hv : v.Fit) (hk : kindS v.k ∉ ts) (ns : List Str) (hn : ns.length ≤ 2147483647) (h1 : ∀ s ∈ ns, s ∈ ts) (h2 : ∀ s ∈ ts, s ∈ ns) :
    ∀ h0, ARun Tryz.prog 87 [.agg (ndC 0 fE ts), .agg v.cs, .agg (leafT [49] (kindS v.k) ns)] h0 (.bool true) h0 := by
  intro h0
  have hk2 : v.k ≠ 2 := by obtain ⟨k, b, n, t, ns, xs, f1, f2⟩ := v; exact hv.nn.get.1
  have hq := typed_run (fE := fE) v hk2 ts hl
  rw [decide_eq_false hk] at hq
  have hkd := kind_run v
  have hsm : Am.Sm v.t := by obtain ⟨k, b, n, t, ns, xs, f1, f2⟩ := v; cases hv.sm; assumption
  have hsn := sameNames_run (fE := fE) ns ts hn hl h1 h2
  generalize kindS v.k = s at hkd ⊢
  obtain ⟨b, m, z1, z2, e⟩ := v.shape
  rw [e] at hq hkd ⊢
  have hE := slG_elems fE 1 (ts.map strCs)
  have hL : (ts.map strCs).length = ts.length := by simp
  have hpos : 0 < ts.length := List.length_pos_iff.2 hne
  refine ARun.pure (.bool _) ?_
  refine X.of (n := 150) (rs := [.tmp 6]) [] ⟨Tryz.func87, rfl, rfl, rfl⟩ rfl ?_
  have H : HI h0 [] h0 [] := HI.nil
  refine X.gm [3, 4, 5] [90] H rfl fun h H nN => ?_
  refine X.callT rfl Tryz.call42 (runes_run _ hsm) ?_
  rintro _ ⟨nr, rfl⟩
  refine X.gh [91] H rfl fun h H nN => ?_
  refine X.freeD (StepD.lenZ 1 rfl rfl rfl rfl rfl hE rfl rfl rfl) rfl ?_
  refine X.gh [] H rfl fun h H nN => ?_
  refine X.splitD rfl (fun hb => ?_) fun hb => absurd hb (by rw [hL]; simp; omega)
  refine X.gh [] H rfl fun h H nN => ?_
  refine X.callQD rfl Tryz.call65 hq ?_
  refine X.gh [92] H rfl fun h H nN => ?_
  refine X.callQD rfl Tryz.call117 hkd ?_
  refine X.gh [] H rfl fun h H nN => ?_
  refine X.splitD rfl (fun hb => ?_) fun hb => absurd hb (by simp)
  refine X.gh [] H rfl fun h H nN => ?_
  refine X.callQD rfl Tryz.call127 hsn ?_
  refine X.gh [] H rfl fun h H nN => ?_
  exact X.retV [] H rfl ⟨H.kp, fun _ _ _ h => h⟩
end
end Go.Am
end
section
namespace Go.Am
open Go.Proofs
set_option maxRecDepth 100000
set_option linter.unusedSimpArgs false
set_option linter.unusedVariables false
attribute [local irreducible] AC AL AW AD ARun
section
variable {h h0 : AH} {fE f1 f2 : Bool}
set_option maxHeartbeats 1000000 in
theorem kindR_run (ts : List Str) (v : JV) (kid : List AV) : ∀ h0, ARun Tryz.prog 49 [.int .i64 2020, ndS 0 fE ts, .int .i64 1, .agg v.cs, .agg (rootC [49] kid)] h0 (.bool true) h0 := by
  intro h0
  have hq := inPlR_run (fE := fE) ts v kid
  obtain ⟨b, m, z1, z2, e⟩ := v.shape
  rw [e] at hq ⊢
  refine ARun.pure (.bool _) ?_
  refine X.of (n := 76) (rs := [.tmp 10]) [] ⟨Tryz.func49, rfl, rfl, rfl⟩ rfl ?_
  have H : HI h0 [] h0 [] := HI.nil
  refine X.gm [6, 8, 9] [] H rfl fun h H nN => ?_
  refine X.free (StepD.indexAddr rfl rfl rfl rfl rfl rfl (by decide) rfl) rfl ?_
  have hN := H.kp.n
  refine X.gh [0] H rfl fun h H nN => ?_
  refine X.freeze 11 H rfl hN fun H => ?_
  refine X.gh [90, 90] H rfl fun h H nN => ?_
  refine X.callQD rfl Tryz.call86 hq ?_
  refine X.gh [92, 92, 92, 92] H rfl fun h H nN => ?_
  exact X.retV [] H rfl ⟨H.kp, fun _ _ _ h => h⟩
set_option maxHeartbeats 1000000 in
theorem kindT_run (ts : List Str) (hl : ts.length ≤ 2147483647) (hne : ts ≠ []) (v : JV) (hv : v.Fit) (hk : kindS v.k ∉ ts) (ns : List Str) (hn : ns.length ≤ 2147483647) (h1 : ∀ s ∈ ns, s ∈ ts) (h2 : ∀ s ∈ ts, s ∈ ns) :
    ∀ h0, ARun Tryz.prog 49 [.int .i64 2020, ndS 0 fE ts, .int .i64 1, .agg v.cs, .agg (leafT [49] (kindS v.k) ns)] h0 (.bool true) h0 := by
  intro h0
  have hq := inPlT_run (fE := fE) ts v (kindS v.k) ns
  have hq2 := valueT_run (fE := fE) ts hl hne v hv hk ns hn h1 h2
  generalize kindS v.k = s at hq hq2 ⊢
  obtain ⟨b, m, z1, z2, e⟩ := v.shape
  rw [e] at hq hq2 ⊢
  refine ARun.pure (.bool _) ?_
  refine X.of (n := 76) (rs := [.tmp 10]) [] ⟨Tryz.func49, rfl, rfl, rfl⟩ rfl ?_
  have H : HI h0 [] h0 [] := HI.nil
  refine X.gm [6, 8, 9] [] H rfl fun h H nN => ?_
  refine X.free (StepD.indexAddr rfl rfl rfl rfl rfl rfl (by decide) rfl) rfl ?_
  have hN := H.kp.n
  refine X.gh [0] H rfl fun h H nN => ?_
  refine X.freeze 11 H rfl hN fun H => ?_
  refine X.gh [90, 90] H rfl fun h H nN => ?_
  refine X.callQD rfl Tryz.call86 hq ?_
  refine X.gh [92] H rfl fun h H nN => ?_
  refine X.callQD rfl Tryz.call87 hq2 ?_
  refine X.gh [92, 92, 92] H rfl fun h H nN => ?_
  exact X.retV [] H rfl ⟨H.kp, fun _ _ _ h => h⟩
theorem kindRF_run (kid : List AV) : ∀ h0, ARun Tryz.prog 49 [.int .i64 2020, ndS 2 false [], .int .i64 1, .agg jv0, .agg (rootC [49] kid)] h0 (.bool true) h0 := by
  intro h0
  refine ARun.pure (.bool _) ?_
  refine X.of (n := 76) (rs := [.tmp 10]) [] ⟨Tryz.func49, rfl, rfl, rfl⟩ rfl ?_
  have H : HI h0 [] h0 [] := HI.nil
  refine X.gm [6, 8, 9] [] H rfl fun h H nN => ?_
  refine X.free (StepD.indexAddr rfl rfl rfl rfl rfl rfl (by decide) rfl) rfl ?_
  have hN := H.kp.n
  refine X.gh [0] H rfl fun h H nN => ?_
  refine X.freeze 11 H rfl hN fun H => ?_
  refine X.gh [90, 91, 92] H rfl fun h H nN => ?_
  refine X.unO 38 rfl ?_
  refine X.gh [] H rfl fun h H nN => ?_
  exact X.retV [] H rfl ⟨H.kp, fun _ _ _ h => h⟩
theorem kindLF_run : ∀ h0, ARun Tryz.prog 49 [.int .i64 2020, ndS 2 false [], .int .i64 1, .agg jv0, .agg (leafF [49])] h0 (.bool true) h0 := by
  intro h0
  refine ARun.pure (.bool _) ?_
  refine X.of (n := 76) (rs := [.tmp 10]) [] ⟨Tryz.func49, rfl, rfl, rfl⟩ rfl ?_
  have H : HI h0 [] h0 [] := HI.nil
  refine X.gm [6, 8, 9] [] H rfl fun h H nN => ?_
  refine X.free (StepD.indexAddr rfl rfl rfl rfl rfl rfl (by decide) rfl) rfl ?_
  have hN := H.kp.n
  refine X.gh [0] H rfl fun h H nN => ?_
  refine X.freeze 11 H rfl hN fun H => ?_
  refine X.gh [91, 92] H rfl fun h H nN => ?_
  exact X.retV [] H rfl ⟨H.kp, fun _ _ _ h => h⟩
end
end Go.Am
end
