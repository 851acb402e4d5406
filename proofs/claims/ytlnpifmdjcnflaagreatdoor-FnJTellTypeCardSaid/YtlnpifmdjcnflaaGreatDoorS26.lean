import Derived.Test.YtlnpifmdjcnflaaGreatDoorS25
set_option linter.unusedVariables false
set_option linter.unusedSimpArgs false
section
namespace Go.Am
open Go.Proofs
set_option maxRecDepth 100000
set_option linter.unusedSimpArgs false
set_option linter.unusedVariables false
attribute [local irreducible] AC AL AW AD ARun
/-- A validator's cells: the instance, its path, the schema (frozen), scope, what is not evaluated, the errors. -/
def vdC (x vloc : AV) (s : Sc) (scp un errs : AV) : List AV := [x, .one vloc, .ref none s.cs, .one scp, .one un, .one errs, .bool false]
section
variable {h h0 : AH} {fE f1 f2 : Bool}
set_option maxHeartbeats 1000000 in
theorem str_run (o : Nat) (x vl : AV) (s : Sc) (sp un er : AV) (t : Str) (hg : h0.get o = some (.cells (vdC x vl s sp un er))) (ho : o < h0.n) : ARunE Tryz.prog 155 [.ptr o 0, .str t] h0 fun v h' => Kp [] h0 h' ∧ v = .tup [] := by
  refine X.of (n := 98) (rs := []) [] ⟨Tryz.func155, rfl, rfl, rfl⟩ rfl ?_
  have H : HI h0 [o] h0 [(o, vdC x vl s sp un er)] := HI.one hg ho
  refine X.gh [92, 90, 90, 90, 90] H rfl fun h H nN => ?_
  exact X.endV [] H rfl ⟨H.kp.drop (H.at_.1.trans hg.symm), rfl⟩
end
end Go.Am
end
section
namespace Go.Am
open Go.Proofs
set_option maxRecDepth 100000
set_option linter.unusedSimpArgs false
set_option linter.unusedVariables false
attribute [local irreducible] AC AL AW AD ARun
section
variable {h h0 : AH} {fE f1 f2 : Bool}
theorem min0_run (n : Nat) : ∀ h0, ARun Tryz.prog 188 [.int .i64 0, .int .i64 n] h0 (.int .i64 0) h0 := by
  intro h0
  refine ARun.pure (.int _ _) ?_
  refine X.of (n := 10) (rs := [.tmp 4]) [] ⟨Tryz.func188, rfl, rfl, rfl⟩ rfl ?_
  have H : HI h0 [] h0 [] := HI.nil
  refine X.g H rfl fun h H nN => ?_
  refine X.cond rfl (fun hb => ?_) fun hb => ?_
  · refine X.g H rfl fun h H nN => ?_
    exact X.retV [] H rfl ⟨H.kp, fun _ _ _ h => h⟩
  · refine X.g H rfl fun h H nN => ?_
    refine X.retV [] H rfl ⟨H.kp, fun _ _ _ h => vval h (congrArg (AV.int .i64) ?_)⟩
    have := of_decide_eq_false hb
    omega
set_option maxHeartbeats 1000000 in
theorem arr_run (o : Nat) (x vl : AV) (s : Sc) (hd : s.draft = 2020) (sp un er : AV) (tk : Tk) (es : List (List AV)) (hg : h0.get o = some (.cells (vdC x vl s sp un er))) (ho : o < h0.n) : ARunE Tryz.prog 154 [.ptr o 0, .vec tk 1 es] h0 fun v h' => Kp [] h0 h' ∧ v = .tup [] := by
  obtain ⟨d, l, b, t, r, p, q, e1, e2, e3⟩ := s
  simp only at hd
  subst hd
  refine X.of (n := 398) (rs := []) [] ⟨Tryz.func154, rfl, rfl, rfl⟩ rfl ?_
  have H : HI h0 [o] h0 [(o, vdC x vl ⟨2020, l, b, t, r, p, q, e1, e2, e3⟩ sp un er)] := HI.one hg ho
  refine X.gh [90, 90, 92, 90, 90] H rfl fun h H nN => ?_
  refine X.callQ rfl Tryz.call188 (min0_run es.length) ?_
  refine X.g H rfl fun h H nN => ?_
  refine X.op rfl rfl rfl ?_
  refine X.g H rfl fun h H nN => ?_
  refine X.roll ?_
  refine X.gh [90, 90, 90] H rfl fun h H nN => ?_
  exact X.endV [] H rfl ⟨H.kp.drop (H.at_.1.trans hg.symm), rfl⟩
end
end Go.Am
end
section
namespace Go.Am
open Go.Proofs
set_option maxRecDepth 100000
set_option linter.unusedSimpArgs false
set_option linter.unusedVariables false
attribute [local irreducible] AC AL AW AD ARun
section
variable {h h0 : AH} {fE f1 f2 : Bool}
set_option maxHeartbeats 1000000 in
theorem cond_run (o : Nat) (x vl : AV) (s : Sc) (sp un er : AV) (hg : h0.get o = some (.cells (vdC x vl s sp un er))) (ho : o < h0.n) : ARunE Tryz.prog 156 [.ptr o 0] h0 fun v h' => Kp [] h0 h' ∧ v = .tup [] := by
  refine X.of (n := 204) (rs := []) [] ⟨Tryz.func156, rfl, rfl, rfl⟩ rfl ?_
  have H : HI h0 [o] h0 [(o, vdC x vl s sp un er)] := HI.one hg ho
  refine X.gh [90, 90, 90, 90, 90, 90] H rfl fun h H nN => ?_
  exact X.endV [] H rfl ⟨H.kp.drop (H.at_.1.trans hg.symm), rfl⟩
set_option maxHeartbeats 1000000 in
theorem unevalV_run {k : Int} {x : AV} {hx : AH} (i : IVo k x hx) (o : Nat) (vl : AV) (s : Sc) (sp un er : AV) (hg : h0.get o = some (.cells (vdC x vl s sp un er))) (ho : o < h0.n) : ARunE Tryz.prog 157 [.ptr o 0] h0 fun v h' => Kp [] h0 h' ∧ v = .tup [] := by
  refine X.of (n := 114) (rs := []) [] ⟨Tryz.func157, rfl, rfl, rfl⟩ rfl ?_
  rcases i with ⟨rfl, rfl⟩ | ⟨rfl, b, rfl⟩ | ⟨rfl, b, rfl⟩ | ⟨rfl, b, c, rfl⟩ | ⟨rfl, b, c, rfl, -⟩
  · have H : HI h0 [o] h0 [(o, vdC _ vl s sp un er)] := HI.one hg ho
    refine X.g H rfl fun h H nN => ?_
    refine X.op rfl rfl rfl ?_
    refine X.gh [92, 90] H rfl fun h H nN => ?_
    refine X.op rfl rfl rfl ?_
    refine X.gh [92, 90] H rfl fun h H nN => ?_
    exact X.endV [] H rfl ⟨H.kp.drop (H.at_.1.trans hg.symm), rfl⟩
  · have H : HI h0 [o] h0 [(o, vdC _ vl s sp un er)] := HI.one hg ho
    refine X.g H rfl fun h H nN => ?_
    refine X.op rfl rfl rfl ?_
    refine X.gh [92, 90] H rfl fun h H nN => ?_
    refine X.op rfl rfl rfl ?_
    refine X.gh [92, 90] H rfl fun h H nN => ?_
    exact X.endV [] H rfl ⟨H.kp.drop (H.at_.1.trans hg.symm), rfl⟩
  · have H : HI h0 [o] h0 [(o, vdC _ vl s sp un er)] := HI.one hg ho
    refine X.g H rfl fun h H nN => ?_
    refine X.op rfl rfl rfl ?_
    refine X.gh [92, 90] H rfl fun h H nN => ?_
    refine X.op rfl rfl rfl ?_
    refine X.gh [92, 90] H rfl fun h H nN => ?_
    exact X.endV [] H rfl ⟨H.kp.drop (H.at_.1.trans hg.symm), rfl⟩
  · have H : HI h0 [o] h0 [(o, vdC _ vl s sp un er)] := HI.one hg ho
    refine X.g H rfl fun h H nN => ?_
    refine X.op rfl rfl rfl ?_
    refine X.gh [92, 90] H rfl fun h H nN => ?_
    refine X.op rfl rfl rfl ?_
    refine X.gh [92, 90] H rfl fun h H nN => ?_
    exact X.endV [] H rfl ⟨H.kp.drop (H.at_.1.trans hg.symm), rfl⟩
  · have H : HI h0 [o] h0 [(o, vdC _ vl s sp un er)] := HI.one hg ho
    refine X.g H rfl fun h H nN => ?_
    refine X.op rfl rfl rfl ?_
    refine X.gh [92, 90] H rfl fun h H nN => ?_
    refine X.op rfl rfl rfl ?_
    refine X.gh [92, 90] H rfl fun h H nN => ?_
    exact X.endV [] H rfl ⟨H.kp.drop (H.at_.1.trans hg.symm), rfl⟩
end
end Go.Am
end
