import Derived.Test.YtlnpifmdjcnflaaGreatDoorS22
set_option linter.unusedVariables false
set_option linter.unusedSimpArgs false
section
namespace Go.Am
open Go.Proofs
set_option maxRecDepth 100000
set_option linter.unusedSimpArgs false
set_option linter.unusedVariables false
attribute [local irreducible] AC AL AW AD ARun
theorem EM.low {h1 h0 h : AH} {v : AV} (t : EM h1 h v) (hl : h0.n ≤ h1.n) : EM h0 h v := by
  obtain ⟨m, a, b, c, d⟩ := t
  exact ⟨m, a, by omega, c, d⟩
theorem TyOK.low {h1 h0 h : AH} {v : AV} {ts : List Str} (t : TyOK h1 v h ts) (hl : h0.n ≤ h1.n) : TyOK h0 v h ts := t.imp id fun ⟨a, p, b, c, d, e⟩ => ⟨a, p, b, by omega, d, e⟩
/-- The schema of a node with types alone. -/
def ScOK (h0 : AH) (A : Nat) (ts : List Str) (h' : AH) (s : Sc) : Prop :=
  h'.get A = some (.cells s.cs) ∧ (s.draft = 2020 ∧ s.loc = [49] ∧ s.bool = .nilp ∧ s.req = .vec .none 1 []) ∧ TyOK h0 s.types h' ts ∧ EM h0 h' s.props ∧ EM h0 h' s.pats ∧ EM h0 h' s.deps ∧ EM h0 h' s.dreq ∧ EM h0 h' s.dsch
section
variable {h h0 : AH} {fE f1 f2 : Bool}
set_option maxHeartbeats 4000000 in
theorem compiled_run (ts : List Str) (hl : ts.length ≤ 2147483647) : ∀ h0, ARunE Tryz.prog 33 [sch 0 fE ts, .int .i64 2020] h0 fun v h' => ∃ A s, v = .ptr A 0 ∧ Kp [] h0 h' ∧ h0.n ≤ A ∧ A < h'.n ∧ ScOK h0 A ts h' s := by
  intro h0
  refine X.of (n := 52) (rs := [.tmp 4]) [] ⟨Tryz.func33, rfl, rfl, rfl⟩ rfl ?_
  have H : HI h0 [] h0 [] := HI.nil
  refine X.g H rfl fun hA H nN => ?_
  have hA0 : h0.n ≤ hA.n := H.kp.n
  refine X.roll ?_
  refine X.gh [91] H rfl fun hB H nN => ?_
  refine X.app (by_ := 8) (es := []) (ys := [[.ptr hA.n 0]]) H rfl rfl rfl rfl rfl rfl rfl (.inl ⟨rfl, rfl⟩) (by simp) fun x h H G hnn => ?_
  obtain ⟨tk, rfl⟩ : ∃ tk, x = .vec tk 1 [[.ptr hA.n 0]] := by
    rcases G.form with rfl | h
    · have := G.elems; simp [elemsOf] at this
    · simpa using h
  clear G
  refine X.g H rfl fun h H nN => ?_
  refine X.eqi 10 1 rfl (by decide) ?_
  refine X.rollN ?_
  refine X.gh [90] H rfl fun h H nN => ?_
  refine X.roll ?_
  refine X.gh [91] H rfl fun hC H nN => ?_
  refine X.free (StepD.indexAddr rfl rfl rfl rfl rfl rfl (by decide) rfl) rfl ?_
  have hC0 : h0.n ≤ hC.n := H.kp.n
  refine X.qh 7 [1] H rfl fun h H nN => ?_
  replace H : HI h0 [] h [(hC.n, ndC 0 fE ts), (hA.n, ({} : Sc).cs)] := H.swap
  refine X.freeze 7 H rfl hC0 fun H => ?_
  refine X.g H rfl fun h H nN => ?_
  refine X.freeD (StepD.indexAddr rfl rfl rfl rfl rfl rfl (by decide) rfl) rfl ?_
  refine X.g H rfl fun hS H nN => ?_
  refine X.callD rfl Tryz.call55 (set_run _ hA.n ts hl _ 2020 (by decide) H.at_.1 H.at_.2) ?_
  rintro _ h1 ⟨k1, rfl, s, g1, ⟨sd, sl, sb, sr⟩, T, E1, E2, E3, E4, E5⟩
  have hS0 : h0.n ≤ hS.n := H.kp.n
  have hAS : hA.n < hS.n := H.at_.2
  obtain ⟨d, l, b, t, r, p, q, e1, e2, e3⟩ := s
  simp only at sd sl sb sr T E1 E2 E3 E4 E5
  subst sd sl sb sr
  replace H := H.upd k1 g1
  refine X.rh [] H rfl fun h H nN kq => ?_
  replace T := T.kp kq (by simpa using hAS)
  replace E1 := E1.kp kq (by simpa using hAS)
  replace E2 := E2.kp kq (by simpa using hAS)
  replace E3 := E3.kp kq (by simpa using hAS)
  replace E4 := E4.kp kq (by simpa using hAS)
  replace E5 := E5.kp kq (by simpa using hAS)
  refine X.freeD (StepD.indexAddr rfl rfl rfl rfl rfl rfl (by decide) rfl) rfl ?_
  refine X.rh [] H rfl fun h H nN kq => ?_
  replace T := T.kp kq (by simpa using hAS)
  replace E1 := E1.kp kq (by simpa using hAS)
  replace E2 := E2.kp kq (by simpa using hAS)
  replace E3 := E3.kp kq (by simpa using hAS)
  replace E4 := E4.kp kq (by simpa using hAS)
  replace E5 := E5.kp kq (by simpa using hAS)
  refine X.callQD rfl Tryz.call56 itoa1_run ?_
  refine X.rh [] H rfl fun h H nN kq => ?_
  replace T := T.kp kq (by simpa using hAS)
  replace E1 := E1.kp kq (by simpa using hAS)
  replace E2 := E2.kp kq (by simpa using hAS)
  replace E3 := E3.kp kq (by simpa using hAS)
  replace E4 := E4.kp kq (by simpa using hAS)
  replace E5 := E5.kp kq (by simpa using hAS)
  refine X.free (StepD.indexAddr rfl rfl rfl rfl rfl rfl (by decide) rfl) rfl ?_
  refine X.rh [] H rfl fun h H nN kq => ?_
  replace T := T.kp kq (by simpa using hAS)
  replace E1 := E1.kp kq (by simpa using hAS)
  replace E2 := E2.kp kq (by simpa using hAS)
  replace E3 := E3.kp kq (by simpa using hAS)
  replace E4 := E4.kp kq (by simpa using hAS)
  replace E5 := E5.kp kq (by simpa using hAS)
  refine X.call rfl Tryz.call57 (evaluated_run hA.n ⟨2020, [49], .nilp, t, .vec .none 1 [], p, q, e1, e2, e3⟩ rfl H.at_.1 H.at_.2) ?_
  rintro _ h1 ⟨k1, rfl, g1⟩
  replace T := T.kp k1 (by simpa using hAS)
  replace E1 := E1.kp k1 (by simpa using hAS)
  replace E2 := E2.kp k1 (by simpa using hAS)
  replace E3 := E3.kp k1 (by simpa using hAS)
  replace E4 := E4.kp k1 (by simpa using hAS)
  replace E5 := E5.kp k1 (by simpa using hAS)
  replace H := H.upd k1 g1
  refine X.rh [] H rfl fun h H nN kq => ?_
  replace T := T.kp kq (by simpa using hAS)
  replace E1 := E1.kp kq (by simpa using hAS)
  replace E2 := E2.kp kq (by simpa using hAS)
  replace E3 := E3.kp kq (by simpa using hAS)
  replace E4 := E4.kp kq (by simpa using hAS)
  replace E5 := E5.kp kq (by simpa using hAS)
  refine X.eqi 20 1 rfl (by decide) ?_
  refine X.rollN ?_
  refine X.rh [90] H rfl fun h H nN kq => ?_
  replace T := T.kp kq (by simpa using hAS)
  replace E1 := E1.kp kq (by simpa using hAS)
  replace E2 := E2.kp kq (by simpa using hAS)
  replace E3 := E3.kp kq (by simpa using hAS)
  replace E4 := E4.kp kq (by simpa using hAS)
  replace E5 := E5.kp kq (by simpa using hAS)
  refine X.call rfl Tryz.call58 (at1_run tk hA.n _ rfl 0 (by decide) _) ?_
  rintro _ h1 ⟨k1, rfl⟩
  replace T := T.kp k1 (by simp)
  replace E1 := E1.kp k1 (by simp)
  replace E2 := E2.kp k1 (by simp)
  replace E3 := E3.kp k1 (by simp)
  replace E4 := E4.kp k1 (by simp)
  replace E5 := E5.kp k1 (by simp)
  replace H := H.same k1
  refine X.rh [] H rfl fun h H nN kq => ?_
  replace T := T.kp kq (by simpa using hAS)
  replace E1 := E1.kp kq (by simpa using hAS)
  replace E2 := E2.kp kq (by simpa using hAS)
  replace E3 := E3.kp kq (by simpa using hAS)
  replace E4 := E4.kp kq (by simpa using hAS)
  replace E5 := E5.kp kq (by simpa using hAS)
  exact X.retV [] H rfl ⟨hA.n, _, rfl, H.kp, hA0, H.at_.2, H.at_.1, ⟨rfl, rfl, rfl, rfl⟩, T.low hS0, E1.low hS0, E2.low hS0, E3.low hS0, E4.low hS0, E5.low hS0⟩
end
end Go.Am
end
section
namespace Go.Am
open Go.Proofs
set_option maxRecDepth 100000
set_option linter.unusedSimpArgs false
set_option linter.unusedVariables false
attribute [local irreducible] AC AL AW AD ARun
/-- The schema that says no. -/
abbrev sc2 (m : Nat) : Sc := { draft := 2020, loc := [49], bool := .ptr m 0 }
section
variable {h h0 : AH} {fE f1 f2 : Bool}
set_option maxHeartbeats 4000000 in
theorem compiled2_run : ∀ h0, ARunE Tryz.prog 33 [sch 2 false [], .int .i64 2020] h0 fun v h' => ∃ A m, v = .ptr A 0 ∧ Kp [] h0 h' ∧ h0.n ≤ A ∧ A < h'.n ∧ h0.n ≤ m ∧ m < h'.n ∧ m ≠ A ∧ h'.get m = some (.cells [.bool false]) ∧ h'.get A = some (.cells (sc2 m).cs) := by
  intro h0
  refine X.of (n := 52) (rs := [.tmp 4]) [] ⟨Tryz.func33, rfl, rfl, rfl⟩ rfl ?_
  have H : HI h0 [] h0 [] := HI.nil
  refine X.g H rfl fun hA H nN => ?_
  have hA0 : h0.n ≤ hA.n := H.kp.n
  refine X.roll ?_
  refine X.gh [91] H rfl fun hB H nN => ?_
  refine X.app (by_ := 8) (es := []) (ys := [[.ptr hA.n 0]]) H rfl rfl rfl rfl rfl rfl rfl (.inl ⟨rfl, rfl⟩) (by simp) fun x h H G hnn => ?_
  obtain ⟨tk, rfl⟩ : ∃ tk, x = .vec tk 1 [[.ptr hA.n 0]] := by
    rcases G.form with rfl | h
    · have := G.elems; simp [elemsOf] at this
    · simpa using h
  clear G
  refine X.g H rfl fun h H nN => ?_
  refine X.eqi 10 1 rfl (by decide) ?_
  refine X.rollN ?_
  refine X.gh [90] H rfl fun h H nN => ?_
  refine X.roll ?_
  refine X.gh [91] H rfl fun hC H nN => ?_
  refine X.free (StepD.indexAddr rfl rfl rfl rfl rfl rfl (by decide) rfl) rfl ?_
  have hC0 : h0.n ≤ hC.n := H.kp.n
  refine X.qh 7 [1] H rfl fun h H nN => ?_
  replace H : HI h0 [] h [(hC.n, ndC 2 false []), (hA.n, ({} : Sc).cs)] := H.swap
  refine X.freeze 7 H rfl hC0 fun H => ?_
  refine X.g H rfl fun h H nN => ?_
  refine X.freeD (StepD.indexAddr rfl rfl rfl rfl rfl rfl (by decide) rfl) rfl ?_
  refine X.g H rfl fun hS H nN => ?_
  have hS0 : h0.n ≤ hS.n := H.kp.n
  have hAS : hA.n < hS.n := H.at_.2
  refine X.callD rfl Tryz.call55 (set2_run _ hA.n _ 2020 H.at_.1 H.at_.2) ?_
  rintro _ h1 ⟨k1, rfl, m, m1, m2, m3, g1⟩
  have T : m < h1.n ∧ h1.get m = some (.cells [.bool false]) := ⟨m2, m3⟩
  have hmA : m ≠ hA.n := by omega
  replace H := H.upd k1 g1
  refine X.rh [] H rfl fun h H nN kq => ?_
  replace T := And.intro (Nat.lt_of_lt_of_le T.1 kq.n) ((kq.get m T.1 (by simpa using hmA)).trans T.2)
  refine X.freeD (StepD.indexAddr rfl rfl rfl rfl rfl rfl (by decide) rfl) rfl ?_
  refine X.rh [] H rfl fun h H nN kq => ?_
  replace T := And.intro (Nat.lt_of_lt_of_le T.1 kq.n) ((kq.get m T.1 (by simpa using hmA)).trans T.2)
  refine X.callQD rfl Tryz.call56 itoa1_run ?_
  refine X.rh [] H rfl fun h H nN kq => ?_
  replace T := And.intro (Nat.lt_of_lt_of_le T.1 kq.n) ((kq.get m T.1 (by simpa using hmA)).trans T.2)
  refine X.free (StepD.indexAddr rfl rfl rfl rfl rfl rfl (by decide) rfl) rfl ?_
  refine X.rh [] H rfl fun h H nN kq => ?_
  replace T := And.intro (Nat.lt_of_lt_of_le T.1 kq.n) ((kq.get m T.1 (by simpa using hmA)).trans T.2)
  refine X.call rfl Tryz.call57 (evaluated_run hA.n (sc2 m) rfl H.at_.1 H.at_.2) ?_
  rintro _ h1 ⟨k1, rfl, g1⟩
  replace T := And.intro (Nat.lt_of_lt_of_le T.1 k1.n) ((k1.get m T.1 (by simpa using hmA)).trans T.2)
  replace H := H.upd k1 g1
  refine X.rh [] H rfl fun h H nN kq => ?_
  replace T := And.intro (Nat.lt_of_lt_of_le T.1 kq.n) ((kq.get m T.1 (by simpa using hmA)).trans T.2)
  refine X.eqi 20 1 rfl (by decide) ?_
  refine X.rollN ?_
  refine X.rh [90] H rfl fun h H nN kq => ?_
  replace T := And.intro (Nat.lt_of_lt_of_le T.1 kq.n) ((kq.get m T.1 (by simpa using hmA)).trans T.2)
  refine X.call rfl Tryz.call58 (at1_run tk hA.n _ rfl 0 (by decide) _) ?_
  rintro _ h1 ⟨k1, rfl⟩
  replace T := And.intro (Nat.lt_of_lt_of_le T.1 k1.n) ((k1.get m T.1 (by simp)).trans T.2)
  replace H := H.same k1
  refine X.rh [] H rfl fun h H nN kq => ?_
  replace T := And.intro (Nat.lt_of_lt_of_le T.1 kq.n) ((kq.get m T.1 (by simpa using hmA)).trans T.2)
  exact X.retV [] H rfl ⟨hA.n, m, rfl, H.kp, hA0, H.at_.2, by omega, T.1, hmA, T.2, H.at_.1⟩
end
end Go.Am
end
