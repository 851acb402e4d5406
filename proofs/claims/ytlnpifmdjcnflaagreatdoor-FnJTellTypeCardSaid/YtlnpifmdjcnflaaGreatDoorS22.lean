import Derived.Test.YtlnpifmdjcnflaaGreatDoorS21
set_option linter.unusedVariables false
set_option linter.unusedSimpArgs false
section
namespace Go.Am
open Go.Proofs
set_option maxRecDepth 100000
set_option linter.unusedSimpArgs false
set_option linter.unusedVariables false
attribute [local irreducible] AC AL AW AD ARun
section
variable {h h0 : AH} {fE f1 f2 : Bool}
theorem evaluated_run (o : Nat) (s : Sc) (hd : s.draft = 2020) (hg : h0.get o = some (.cells s.cs)) (ho : o < h0.n) : ARunE Tryz.prog 57 [.ptr o 0] h0 fun v h' => Kp [o] h0 h' ∧ v = .tup [] ∧ h'.get o = some (.cells s.cs) := by
  obtain ⟨d, l, b, t, r, p, q, e1, e2, e3⟩ := s
  simp only at hd
  subst hd
  refine X.of (n := 59) (rs := []) [] ⟨Tryz.func57, rfl, rfl, rfl⟩ rfl ?_
  have H : HI h0 [o] h0 [(o, (⟨2020, l, b, t, r, p, q, e1, e2, e3⟩ : Sc).cs)] := HI.one hg ho
  refine X.gh [0, 0, 0, 90, 0, 0, 0, 0] H rfl fun h H nN => ?_
  exact X.endV [] H rfl ⟨H.kp, rfl, H.at_.1⟩
theorem at1_run (tk : Tk) (o : Nat) (c : List AV) (hc : c = [.ptr o 0]) (n : Int) (hn : n < 1) : ∀ h0, ARunE Tryz.prog 58 [.vec tk 1 [c], .int .i64 1, .int .i64 n] h0 fun v h' => Kp [] h0 h' ∧ v = .ptr o 0 := by
  subst hc
  intro h0
  refine X.of (n := 21) (rs := [.tmp 6]) [] ⟨Tryz.func58, rfl, rfl, rfl⟩ rfl ?_
  have H : HI h0 [] h0 [] := HI.nil
  refine X.g H rfl fun h H nN => ?_
  refine X.split rfl (fun hb => ?_) fun hb => ?_
  · have := of_decide_eq_true hb; omega
  refine X.gh [90] H rfl fun h H nN => ?_
  refine X.free (StepD.indexAddr rfl rfl rfl rfl rfl rfl (by decide) rfl) rfl ?_
  refine X.g H rfl fun h H nN => ?_
  exact X.retV [] H rfl ⟨H.kp, rfl⟩
/-- A schema that is a truth value. -/
theorem set2_run (x : AV) (o : Nat) (n d : Int) (hg : h0.get o = some (.cells ({} : Sc).cs)) (ho : o < h0.n) : ARunE Tryz.prog 55 [x, .ptr o 0, .agg (ndC 2 false []), .int .i64 n, .int .i64 d] h0 fun v h' => Kp [o] h0 h' ∧ v = .tup [] ∧
    ∃ m, h0.n ≤ m ∧ m < h'.n ∧ h'.get m = some (.cells [.bool false]) ∧ h'.get o = some (.cells ({ draft := d, bool := .ptr m 0 } : Sc).cs) := by
  refine X.of (n := 345) (rs := []) [] ⟨Tryz.func55, rfl, rfl, rfl⟩ rfl ?_
  have H : HI h0 [o] h0 [(o, ({} : Sc).cs)] := HI.one hg ho
  refine X.q 5 H rfl fun h H nN => ?_
  replace H : HI h0 [o] h [(h0.n, ndC 2 false []), (o, ({} : Sc).cs)] := H.swap
  refine X.freeze 7 H rfl (Nat.le_refl _) fun H => ?_
  have hA0 := H.kp.n
  refine X.gh [0, 92, 91, 1, 0] H rfl fun h H nN => ?_
  exact X.retV [] H rfl ⟨H.kp, rfl, _, hA0, H.at2.2, H.at2.1, H.at_.1⟩
end
end Go.Am
end
section
namespace Go.Am
open Go.Proofs
set_option maxRecDepth 100000
set_option linter.unusedSimpArgs false
set_option linter.unusedVariables false
attribute [local irreducible] AC AL AW AD ARun
section
variable {h h0 : AH} {fE f1 f2 : Bool}
theorem small1_run : ∀ h0, ARun Tryz.prog 175 [.int .i64 1] h0 (.str [49]) h0 := by
  intro h0
  refine ARun.pure (.str _) ?_
  refine X.of (n := 15) (rs := [.tmp 2]) [] ⟨Tryz.func175, rfl, rfl, rfl⟩ rfl ?_
  have H : HI h0 [] h0 [] := HI.nil
  refine X.gh [91] H rfl fun h H nN => ?_
  refine X.sliceS (a := 1) (b := 2) rfl rfl rfl rfl rfl rfl (by decide) (by decide) rfl ?_
  refine X.g H rfl fun h H nN => ?_
  exact X.retV [] H rfl ⟨H.kp, fun _ _ _ h => h⟩
theorem format1_run : ∀ h0, ARun Tryz.prog 141 [.int .i64 1, .int .i64 10] h0 (.str [49]) h0 := by
  intro h0
  refine ARun.pure (.str _) ?_
  refine X.of (n := 54) (rs := [.tmp 4]) [] ⟨Tryz.func141, rfl, rfl, rfl⟩ rfl ?_
  have H : HI h0 [] h0 [] := HI.nil
  refine X.gh [91, 92, 91] H rfl fun h H nN => ?_
  refine X.callQ rfl Tryz.call175 small1_run ?_
  refine X.g H rfl fun h H nN => ?_
  exact X.retV [] H rfl ⟨H.kp, fun _ _ _ h => h⟩
theorem itoa1i_run : ∀ h0, ARun Tryz.prog 103 [.int .i64 1] h0 (.str [49]) h0 := by
  intro h0
  refine ARun.pure (.str _) ?_
  refine X.of (n := 5) (rs := [.tmp 2]) [] ⟨Tryz.func103, rfl, rfl, rfl⟩ rfl ?_
  have H : HI h0 [] h0 [] := HI.nil
  refine X.g H rfl fun h H nN => ?_
  refine X.callQ rfl Tryz.call141 format1_run ?_
  refine X.g H rfl fun h H nN => ?_
  exact X.retV [] H rfl ⟨H.kp, fun _ _ _ h => h⟩
theorem itoa1_run : ∀ h0, ARun Tryz.prog 56 [.int .i64 1] h0 (.str [49]) h0 := by
  intro h0
  refine ARun.pure (.str _) ?_
  refine X.of (n := 5) (rs := [.tmp 2]) [] ⟨Tryz.func56, rfl, rfl, rfl⟩ rfl ?_
  have H : HI h0 [] h0 [] := HI.nil
  refine X.g H rfl fun h H nN => ?_
  refine X.callQ rfl Tryz.call103 itoa1i_run ?_
  refine X.g H rfl fun h H nN => ?_
  exact X.retV [] H rfl ⟨H.kp, fun _ _ _ h => h⟩
end
end Go.Am
end
