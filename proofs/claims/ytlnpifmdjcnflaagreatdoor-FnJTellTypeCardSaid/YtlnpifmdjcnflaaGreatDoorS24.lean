import Derived.Test.YtlnpifmdjcnflaaGreatDoorS23
set_option linter.unusedVariables false
set_option linter.unusedSimpArgs false
namespace Go.Am
open Go.Proofs
set_option maxRecDepth 100000
set_option linter.unusedSimpArgs false
set_option linter.unusedVariables false
attribute [local irreducible] AC AL AW AD ARun
theorem Kp.drop {o : Nat} {h0 h : AH} (k : Kp [o] h0 h) (e : h.get o = h0.get o) : Kp [] h0 h :=
  ⟨k.n, fun i hi hn => by
    by_cases q : i = o
    · rw [q, e]
    · exact k.get i hi (by simpa using q), k.nt, k.tip, k.tabs⟩
section
variable {h h0 : AH} {fE f1 f2 : Bool}
set_option maxHeartbeats 1000000 in
theorem typeOf_run {k : Int} {x : AV} {hx : AH} (i : IVo k x hx) : ∀ h0, ARunE Tryz.prog 145 [x] h0 fun v h' => Kp [] h0 h' ∧ v = .int .i64 (tyB (kindS k)) := by
  intro h0
  refine X.of (n := 85) (rs := [.tmp 2]) [] ⟨Tryz.func145, rfl, rfl, rfl⟩ rfl ?_
  have H : HI h0 [] h0 [] := HI.nil
  rcases i with ⟨rfl, rfl⟩ | ⟨rfl, b, rfl⟩ | ⟨rfl, b, rfl⟩ | ⟨rfl, b, c, rfl⟩ | ⟨rfl, b, c, rfl, -⟩
  · refine X.gh [91] H rfl fun h H nN => ?_
    exact X.retV [] H rfl ⟨H.kp, rfl⟩
  · refine X.gh [90] H rfl fun h H nN => ?_
    refine X.op rfl rfl rfl ?_
    refine X.gh [91] H rfl fun h H nN => ?_
    exact X.retV [] H rfl ⟨H.kp, rfl⟩
  · refine X.gh [90] H rfl fun h H nN => ?_
    refine X.op rfl rfl rfl ?_
    refine X.gh [90] H rfl fun h H nN => ?_
    refine X.op rfl rfl rfl ?_
    refine X.gh [90] H rfl fun h H nN => ?_
    refine X.op rfl rfl rfl ?_
    refine X.gh [90] H rfl fun h H nN => ?_
    refine X.op rfl rfl rfl ?_
    refine X.gh [] H rfl fun h H nN => ?_
    refine X.op rfl rfl rfl ?_
    refine X.gh [] H rfl fun h H nN => ?_
    refine X.op rfl rfl rfl ?_
    refine X.gh [] H rfl fun h H nN => ?_
    refine X.op rfl rfl rfl ?_
    refine X.gh [] H rfl fun h H nN => ?_
    refine X.op rfl rfl rfl ?_
    refine X.gh [] H rfl fun h H nN => ?_
    refine X.op rfl rfl rfl ?_
    refine X.gh [] H rfl fun h H nN => ?_
    refine X.op rfl rfl rfl ?_
    refine X.gh [] H rfl fun h H nN => ?_
    refine X.op rfl rfl rfl ?_
    refine X.gh [] H rfl fun h H nN => ?_
    refine X.op rfl rfl rfl ?_
    refine X.gh [] H rfl fun h H nN => ?_
    refine X.op rfl rfl rfl ?_
    refine X.gh [90] H rfl fun h H nN => ?_
    refine X.op rfl rfl rfl ?_
    refine X.gh [91] H rfl fun h H nN => ?_
    exact X.retV [] H rfl ⟨H.kp, rfl⟩
  · refine X.gh [90] H rfl fun h H nN => ?_
    refine X.op rfl rfl rfl ?_
    refine X.gh [90] H rfl fun h H nN => ?_
    refine X.op rfl rfl rfl ?_
    refine X.gh [90] H rfl fun h H nN => ?_
    refine X.op rfl rfl rfl ?_
    refine X.gh [90] H rfl fun h H nN => ?_
    refine X.op rfl rfl rfl ?_
    refine X.gh [] H rfl fun h H nN => ?_
    refine X.op rfl rfl rfl ?_
    refine X.gh [] H rfl fun h H nN => ?_
    refine X.op rfl rfl rfl ?_
    refine X.gh [] H rfl fun h H nN => ?_
    refine X.op rfl rfl rfl ?_
    refine X.gh [] H rfl fun h H nN => ?_
    refine X.op rfl rfl rfl ?_
    refine X.gh [] H rfl fun h H nN => ?_
    refine X.op rfl rfl rfl ?_
    refine X.gh [] H rfl fun h H nN => ?_
    refine X.op rfl rfl rfl ?_
    refine X.gh [] H rfl fun h H nN => ?_
    refine X.op rfl rfl rfl ?_
    refine X.gh [] H rfl fun h H nN => ?_
    refine X.op rfl rfl rfl ?_
    refine X.gh [] H rfl fun h H nN => ?_
    refine X.op rfl rfl rfl ?_
    refine X.gh [90] H rfl fun h H nN => ?_
    refine X.op rfl rfl rfl ?_
    refine X.gh [90] H rfl fun h H nN => ?_
    refine X.op rfl rfl rfl ?_
    refine X.gh [91] H rfl fun h H nN => ?_
    exact X.retV [] H rfl ⟨H.kp, rfl⟩
  · refine X.gh [90] H rfl fun h H nN => ?_
    refine X.op rfl rfl rfl ?_
    refine X.gh [90] H rfl fun h H nN => ?_
    refine X.op rfl rfl rfl ?_
    refine X.gh [90] H rfl fun h H nN => ?_
    refine X.op rfl rfl rfl ?_
    refine X.gh [90] H rfl fun h H nN => ?_
    refine X.op rfl rfl rfl ?_
    refine X.gh [] H rfl fun h H nN => ?_
    refine X.op rfl rfl rfl ?_
    refine X.gh [] H rfl fun h H nN => ?_
    refine X.op rfl rfl rfl ?_
    refine X.gh [] H rfl fun h H nN => ?_
    refine X.op rfl rfl rfl ?_
    refine X.gh [] H rfl fun h H nN => ?_
    refine X.op rfl rfl rfl ?_
    refine X.gh [] H rfl fun h H nN => ?_
    refine X.op rfl rfl rfl ?_
    refine X.gh [] H rfl fun h H nN => ?_
    refine X.op rfl rfl rfl ?_
    refine X.gh [] H rfl fun h H nN => ?_
    refine X.op rfl rfl rfl ?_
    refine X.gh [] H rfl fun h H nN => ?_
    refine X.op rfl rfl rfl ?_
    refine X.gh [] H rfl fun h H nN => ?_
    refine X.op rfl rfl rfl ?_
    refine X.gh [90] H rfl fun h H nN => ?_
    refine X.op rfl rfl rfl ?_
    refine X.gh [90] H rfl fun h H nN => ?_
    refine X.op rfl rfl rfl ?_
    refine X.gh [90] H rfl fun h H nN => ?_
    refine X.op rfl rfl rfl ?_
    refine X.gh [91] H rfl fun h H nN => ?_
    exact X.retV [] H rfl ⟨H.kp, rfl⟩
/-- Nothing is to be watched for what was not evaluated. -/
theorem uneval_run {k : Int} {x : AV} {hx : AH} (i : IVo k x hx) (o : Nat) (s : Sc) (hg : h0.get o = some (.cells s.cs)) (ho : o < h0.n) : ARunE Tryz.prog 104 [x, .ptr o 0, .bool false] h0 fun v h' => Kp [] h0 h' ∧ ∃ u, v = .ptr u 0 ∧ h0.n ≤ u ∧ u < h'.n ∧ h'.get u = some (.cells [.nilm, .nilm]) := by
  refine X.of (n := 97) (rs := [.tmp 6]) [] ⟨Tryz.func104, rfl, rfl, rfl⟩ rfl ?_
  have H : HI h0 [] h0 [] := HI.nil
  have H1 : HI h0 [o] h0 [(o, s.cs)] := HI.one hg ho
  rcases i with ⟨rfl, rfl⟩ | ⟨rfl, b, rfl⟩ | ⟨rfl, b, rfl⟩ | ⟨rfl, b, c, rfl⟩ | ⟨rfl, b, c, rfl, -⟩
  · refine X.g H rfl fun h H nN => ?_
    refine X.op rfl rfl rfl ?_
    refine X.gh [90] H rfl fun h H nN => ?_
    refine X.op rfl rfl rfl ?_
    refine X.gh [90] H rfl fun h H nN => ?_
    exact X.retV [] H rfl ⟨H.kp, _, rfl, Nat.le_refl _, H.at_.2, H.at_.1⟩
  · refine X.g H rfl fun h H nN => ?_
    refine X.op rfl rfl rfl ?_
    refine X.gh [90] H rfl fun h H nN => ?_
    refine X.op rfl rfl rfl ?_
    refine X.gh [90] H rfl fun h H nN => ?_
    exact X.retV [] H rfl ⟨H.kp, _, rfl, Nat.le_refl _, H.at_.2, H.at_.1⟩
  · refine X.g H rfl fun h H nN => ?_
    refine X.op rfl rfl rfl ?_
    refine X.gh [90] H rfl fun h H nN => ?_
    refine X.op rfl rfl rfl ?_
    refine X.gh [90] H rfl fun h H nN => ?_
    exact X.retV [] H rfl ⟨H.kp, _, rfl, Nat.le_refl _, H.at_.2, H.at_.1⟩
  · refine X.g H1 rfl fun h H nN => ?_
    refine X.op rfl rfl rfl ?_
    refine X.gh [90] H rfl fun h H nN => ?_
    refine X.op rfl rfl rfl ?_
    refine X.gh [91, 92, 92, 92, 90] H rfl fun h H nN => ?_
    exact X.retV [] H rfl ⟨H.kp.drop (H.at_.1.trans hg.symm), _, rfl, Nat.le_refl _, H.at2.2, H.at2.1⟩
  · refine X.g H1 rfl fun h H nN => ?_
    refine X.op rfl rfl rfl ?_
    refine X.gh [91, 92, 92, 90] H rfl fun h H nN => ?_
    exact X.retV [] H rfl ⟨H.kp.drop (H.at_.1.trans hg.symm), _, rfl, Nat.le_refl _, H.at2.2, H.at2.1⟩
end
end Go.Am
