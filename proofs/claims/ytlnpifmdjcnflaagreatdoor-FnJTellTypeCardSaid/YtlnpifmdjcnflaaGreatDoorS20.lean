import Derived.Test.YtlnpifmdjcnflaaGreatDoorS19
set_option linter.unusedVariables false
set_option linter.unusedSimpArgs false
namespace Go.Am
open Go.Proofs
set_option maxRecDepth 100000
set_option linter.unusedSimpArgs false
set_option linter.unusedVariables false
attribute [local irreducible] AC AL AW AD ARun
/-- The bit of a kind. -/
def tyB (s : Str) : Int := if s = [110,117,108,108] then 2 else if s = [98,111,111,108,101,97,110] then 4 else if s = [110,117,109,98,101,114] then 8 else if s = [105,110,116,101,103,101,114] then 16 else if s = [115,116,114,105,110,103] then 32 else if s = [97,114,114,97,121] then 64 else if s = [111,98,106,101,99,116] then 128 else 0
section
variable {h h0 : AH} {fE f1 f2 : Bool}
theorem tyB_run (s : Str) : ∀ h0, ARun Tryz.prog 136 [.str s] h0 (.int .i64 (tyB s)) h0 := by
  intro h0
  refine ARun.pure (.int _ _) ?_
  refine X.of (n := 18) (rs := [.tmp 2]) [] ⟨Tryz.func136, rfl, rfl, rfl⟩ rfl ?_
  have H : HI h0 [] h0 [] := HI.nil
  refine X.g H rfl fun h H nN => ?_
  refine X.cond rfl (fun hb => ?_) fun hb0 => ?_
  · refine X.g H rfl fun h H nN => ?_
    refine X.retV [] H rfl ⟨H.kp, fun _ _ _ h => vval h (congrArg (AV.int .i64) ?_)⟩
    have := of_decide_eq_true hb
    subst this
    decide
  refine X.g H rfl fun h H nN => ?_
  refine X.cond rfl (fun hb => ?_) fun hb1 => ?_
  · refine X.g H rfl fun h H nN => ?_
    refine X.retV [] H rfl ⟨H.kp, fun _ _ _ h => vval h (congrArg (AV.int .i64) ?_)⟩
    have := of_decide_eq_true hb
    subst this
    decide
  refine X.g H rfl fun h H nN => ?_
  refine X.cond rfl (fun hb => ?_) fun hb2 => ?_
  · refine X.g H rfl fun h H nN => ?_
    refine X.retV [] H rfl ⟨H.kp, fun _ _ _ h => vval h (congrArg (AV.int .i64) ?_)⟩
    have := of_decide_eq_true hb
    subst this
    decide
  refine X.g H rfl fun h H nN => ?_
  refine X.cond rfl (fun hb => ?_) fun hb3 => ?_
  · refine X.g H rfl fun h H nN => ?_
    refine X.retV [] H rfl ⟨H.kp, fun _ _ _ h => vval h (congrArg (AV.int .i64) ?_)⟩
    have := of_decide_eq_true hb
    subst this
    decide
  refine X.g H rfl fun h H nN => ?_
  refine X.cond rfl (fun hb => ?_) fun hb4 => ?_
  · refine X.g H rfl fun h H nN => ?_
    refine X.retV [] H rfl ⟨H.kp, fun _ _ _ h => vval h (congrArg (AV.int .i64) ?_)⟩
    have := of_decide_eq_true hb
    subst this
    decide
  refine X.g H rfl fun h H nN => ?_
  refine X.cond rfl (fun hb => ?_) fun hb5 => ?_
  · refine X.g H rfl fun h H nN => ?_
    refine X.retV [] H rfl ⟨H.kp, fun _ _ _ h => vval h (congrArg (AV.int .i64) ?_)⟩
    have := of_decide_eq_true hb
    subst this
    decide
  refine X.g H rfl fun h H nN => ?_
  refine X.cond rfl (fun hb => ?_) fun hb6 => ?_
  · refine X.g H rfl fun h H nN => ?_
    refine X.retV [] H rfl ⟨H.kp, fun _ _ _ h => vval h (congrArg (AV.int .i64) ?_)⟩
    have := of_decide_eq_true hb
    subst this
    decide
  refine X.g H rfl fun h H nN => ?_
  refine X.retV [] H rfl ⟨H.kp, fun _ _ _ h => vval h (congrArg (AV.int .i64) ?_)⟩
  replace hb0 := of_decide_eq_false hb0
  replace hb1 := of_decide_eq_false hb1
  replace hb2 := of_decide_eq_false hb2
  replace hb3 := of_decide_eq_false hb3
  replace hb4 := of_decide_eq_false hb4
  replace hb5 := of_decide_eq_false hb5
  replace hb6 := of_decide_eq_false hb6
  unfold tyB
  rw [if_neg hb0, if_neg hb1, if_neg hb2, if_neg hb3, if_neg hb4, if_neg hb5, if_neg hb6]
/-- The bits of two masks together. -/
def orI (a b : Int) : Int := IntKind.i64.wrap ((BitVec.ofInt IntKind.i64.bits a ||| BitVec.ofInt IntKind.i64.bits b).toNat : Int)
theorem add_run (o : Nat) (a b : Int) (hg : h0.get o = some (.cells [.int .i64 a])) (ho : o < h0.n) : ARunE Tryz.prog 135 [.ptr o 0, .int .i64 b] h0 fun v h' => Kp [o] h0 h' ∧ v = .tup [] ∧ h'.get o = some (.cells [.int .i64 (orI a b)]) := by
  refine X.of (n := 11) (rs := []) [] ⟨Tryz.func135, rfl, rfl, rfl⟩ rfl ?_
  have H : HI h0 [o] h0 [(o, [.int .i64 a])] := HI.one hg ho
  refine X.gh [0] H rfl fun h H nN => ?_
  exact X.endV [] H rfl ⟨H.kp, rfl, H.at_.1⟩
theorem Add_run (o : Nat) (a : Int) (s : Str) (hg : h0.get o = some (.cells [.int .i64 a])) (ho : o < h0.n) : ARunE Tryz.prog 96 [.ptr o 0, .str s] h0 fun v h' => Kp [o] h0 h' ∧ v = .tup [] ∧ h'.get o = some (.cells [.int .i64 (orI a (tyB s))]) := by
  refine X.of (n := 8) (rs := []) [] ⟨Tryz.func96, rfl, rfl, rfl⟩ rfl ?_
  have H : HI h0 [o] h0 [(o, [.int .i64 a])] := HI.one hg ho
  refine X.g H rfl fun h H nN => ?_
  refine X.callT rfl Tryz.call136 (TQ.arun (tyB_run s)) ?_
  rintro _ rfl
  refine X.g H rfl fun h H nN => ?_
  refine X.call rfl Tryz.call135 (add_run o a (tyB s) H.at_.1 H.at_.2) ?_
  rintro _ h1 ⟨k1, rfl, g1⟩
  replace H := H.upd k1 g1
  refine X.g H rfl fun h H nN => ?_
  exact X.endV [] H rfl ⟨H.kp, rfl, H.at_.1⟩
/-- A compiled schema: its place, draft, truth value and types are given; everything else is as in a node with types alone. -/
structure Sc where
  draft : Int := 0
  loc : Str := []
  bool : AV := .nilp
  types : AV := .nilp
  req : AV := .nilsl
  props : AV := .nilm
  pats : AV := .nilm
  deps : AV := .nilm
  dreq : AV := .nilm
  dsch : AV := .nilm
def Sc.cs (s : Sc) : List AV :=
  [.bool false, .bool false, .int .i64 0, .int .i64 s.draft, .str s.loc, s.bool, .str [], .nilp, .str [], s.types, .nilp, .nilp, .nilp, .nilsl, .nilsl, .nilsl, .nilp, .nilp, .nilp, .nilp, .nilp, .nilp, s.req, .nilp, s.props, s.pats, .nili, s.deps, s.dreq, s.dsch, .nilp, .nilp, .nilp, .bool false, .nilp, .nilp, .nilp, .nili, .nili, .nilsl, .nilp, .nilp, .nilp, .nilp, .nili, .str [], .str [], .nilp, .str [], .bool false, .bool false, .nilsl, .bool false]
theorem zero_sc : zeroCs Tryz.prog 127 = some ({} : Sc).cs := by rfl
theorem older_run (x : AV) (o : Nat) (s : Sc) (ts : List Str) (n : Int) (hg : h0.get o = some (.cells s.cs)) (ho : o < h0.n) : ARunE Tryz.prog 102 [x, .ptr o 0, .agg (ndC 0 fE ts), .int .i64 n] h0 fun v h' => Kp [o] h0 h' ∧ v = .tup [] ∧ ∃ m, h0.n ≤ m ∧ m < h'.n ∧ h'.get m = some (.map []) ∧ h'.get o = some (.cells { s with deps := .map m }.cs) := by
  refine X.of (n := 80) (rs := []) [] ⟨Tryz.func102, rfl, rfl, rfl⟩ rfl ?_
  have H : HI h0 [o] h0 [(o, s.cs)] := HI.one hg ho
  refine X.gh [1] H rfl fun h H nN => ?_
  refine X.callQ rfl Tryz.call58 (at0_run x 0 (by decide)) ?_
  refine X.gh [90, 1, 90, 1] H rfl fun h H nN => ?_
  refine X.callQ rfl Tryz.call101 (more_run x) ?_
  refine X.gh [0] H rfl fun hM H nN => ?_
  have hM0 : h0.n ≤ hM.n := H.kp.n
  have hMo : o < hM.n := H.at_.2
  have hMb : h0.n < hM.n := H.at2.2
  refine X.op rfl rfl rfl ?_
  replace H := HI.pushO (x := .map []) H
  have G : (hM.push (.map [])).get hM.n = some (.map []) ∧ hM.n < (hM.push (.map [])).n := ⟨by simp [AH.push], by simp [AH.push]⟩
  refine X.rh [0, 1] H rfl fun h H nN kq => ?_
  have hne : hM.n ∉ ([(o, s.cs), (h0.n, ndC 0 fE ts)] : View).map (·.1) := by
    simp
    omega
  replace G : h.get hM.n = some (.map []) ∧ hM.n < h.n := ⟨(kq.get _ G.2 hne).trans G.1, Nat.lt_of_lt_of_le G.2 kq.n⟩
  refine X.roll ?_
  refine X.rh [90] H rfl fun h H nN kq => ?_
  replace G : h.get hM.n = some (.map []) ∧ hM.n < h.n := ⟨(kq.get _ G.2 hne).trans G.1, Nat.lt_of_lt_of_le G.2 kq.n⟩
  exact X.endV [] H rfl ⟨H.kp, rfl, _, hM0, G.2, G.1, H.at_.1⟩
end
end Go.Am
