import Derived.Test.YtlnpifmdjcnflaaGreatDoorS26
set_option linter.unusedVariables false
set_option linter.unusedSimpArgs false
section
namespace Go.Am
open Go.Proofs
set_option maxRecDepth 100000
set_option linter.unusedSimpArgs false
set_option linter.unusedVariables false
attribute [local irreducible] AC AL AW AD ARun
section
variable {h h0 : AH} {fE f1 f2 : Bool}
theorem copied_run (ts : List Str) (hl : ts.length ≤ 2147483647) : ∀ h0, ARun Tryz.prog 61 [sls fE ts] h0 (.vec .none 1 (ts.map strCs)) h0 := by
  intro h0
  refine ARun.pure (.vec _ _ fun c hc x hx => ?_) ?_
  · obtain ⟨a, _, rfl⟩ := List.mem_map.1 hc
    exact strCs_pure a x hx
  refine X.of (n := 6) (rs := [.tmp 2]) [] ⟨Tryz.func61, rfl, rfl, rfl⟩ rfl ?_
  have H : HI h0 [] h0 [] := HI.nil
  refine X.g H rfl fun h H nN => ?_
  refine X.unO 4 rfl ?_
  by_cases hne : ts = []
  · subst hne
    cases fE
    · refine X.free (StepD.app0 (sz := 1) (by_ := 16) rfl rfl rfl rfl rfl rfl rfl) rfl ?_
      refine X.g H rfl fun h H nN => ?_
      exact X.retV [] H rfl ⟨H.kp, fun g w v h => vecR_none g w v h⟩
    · refine X.free (StepD.app0 (sz := 1) (by_ := 16) rfl rfl rfl rfl rfl rfl rfl) rfl ?_
      refine X.g H rfl fun h H nN => ?_
      exact X.retV [] H rfl ⟨H.kp, fun g w v h => vecR_none g w v h⟩
  · refine X.appF (by_ := 16) (es := []) (ys := ts.map strCs) H rfl rfl rfl rfl rfl (slG_elems fE 1 _) (by simpa using hne) rfl (.inl rfl) (by simp; omega) fun x h H G => ?_
    refine X.g H rfl fun h H nN => ?_
    rcases G.vec with rfl | ⟨tk, rfl⟩
    · rcases G with h | h
      · cases h
      · have := h.elems
        simp [elemsOf] at this
        exact absurd this hne
    · refine X.retV [] H rfl ⟨H.kp, fun g w v h => vecR_none g w v (by simpa [tupOf] using h)⟩
end
end Go.Am
end
section
namespace Go.Am
open Go.Proofs
set_option maxRecDepth 100000
set_option linter.unusedSimpArgs false
set_option linter.unusedVariables false
attribute [local irreducible] AC AL AW AD ARun
section
variable {h h0 : AH} {fE f1 f2 : Bool}
theorem kwType_run (x : AV) : ∀ h0 : AH, ARun Tryz.prog 248 [x] h0 (.vec .none 1 [[.str [116,121,112,101]]]) h0 := by
  intro h0
  refine ARun.pure (.vec _ _ fun c hc x hx => ?_) ?_
  · rw [List.mem_singleton.1 hc] at hx
    rw [List.mem_singleton.1 hx]
    exact .str _
  refine X.of (n := 4) (rs := [.tmp 2]) [] ⟨Tryz.func248, rfl, rfl, rfl⟩ rfl ?_
  have H : HI h0 [] h0 [] := HI.nil
  refine X.g H rfl fun h H nN => ?_
  exact X.retV [] H rfl ⟨H.kp, fun g w v h => vecR_none g w v h⟩
theorem kindOf_run (a : Str) (ts : List Str) (hl : ts.length ≤ 2147483647) : ∀ h0 : AH, ARunE Tryz.prog 62 [.iface 196 (.ref none [.str a, sls fE ts])] h0 fun v h' => Kp [] h0 h' ∧ v = .tup [.str [84,121,112,101], .str a, .vec .none 1 (ts.map strCs), .nilsl] := by
  intro h0
  refine X.of (n := 163) (rs := [.tmp 2, .tmp 3, .tmp 4, .tmp 5]) [] ⟨Tryz.func62, rfl, rfl, rfl⟩ rfl ?_
  have H : HI h0 [] h0 [] := HI.nil
  refine X.g H rfl fun h H nN => ?_
  refine X.op rfl rfl rfl ?_
  refine X.gh [91] H rfl fun h H nN => ?_
  refine X.callQD rfl Tryz.call61 (copied_run ts hl) ?_
  refine X.g H rfl fun h H nN => ?_
  exact X.retV [] H rfl ⟨H.kp, rfl⟩
end
end Go.Am
end
section
namespace Go.Am
open Go.Proofs
set_option maxRecDepth 100000
set_option linter.unusedSimpArgs false
set_option linter.unusedVariables false
attribute [local irreducible] AC AL AW AD ARun
section
variable {h h0 : AH} {fE f1 f2 : Bool}
theorem len64_run (n : Int) (hn : n = 0 ∨ n = 1) : TQ 168 [.int .u64 n] isI := by
  refine TQ.i fun h0 => ?_
  rcases hn with rfl | rfl
  · refine X.of (n := 25) (rs := [.tmp 2]) [] ⟨Tryz.func168, rfl, rfl, rfl⟩ rfl ?_
    have H : HI h0 [] h0 [] := HI.nil
    refine X.jh [90, 90, 90] H rfl (by decide) fun h H nN => ?_
    exact X.retV [] H rfl ⟨H.kp, _, rfl⟩
  · refine X.of (n := 25) (rs := [.tmp 2]) [] ⟨Tryz.func168, rfl, rfl, rfl⟩ rfl ?_
    have H : HI h0 [] h0 [] := HI.nil
    refine X.jh [90, 90, 90] H rfl (by decide) fun h H nN => ?_
    exact X.retV [] H rfl ⟨H.kp, _, rfl⟩
theorem insert_run (x y : AV) (n : Int) (hn : n = 0 ∨ n = 1) : ∀ h0, ARunE Tryz.prog 159 [x, .int .i64 0, .int .i64 n, y] h0 fun v h' => Kp [] h0 h' ∧ v = .tup [] := by
  intro h0
  refine X.of (n := 53) (rs := []) [] ⟨Tryz.func159, rfl, rfl, rfl⟩ rfl ?_
  have H : HI h0 [] h0 [] := HI.nil
  refine X.g H rfl fun h H nN => ?_
  refine X.roll ?_
  refine X.g H rfl fun h H nN => ?_
  refine X.cond rfl (fun hb => ?_) fun hb => ?_
  · exfalso
    have e : IntKind.i64.wrap (0 + 1) = 1 := wI (by omega)
    have := of_decide_eq_true hb
    rw [e] at this
    omega
  refine X.g H rfl fun h H nN => ?_
  exact X.endV [] H rfl ⟨H.kp, rfl⟩
end
end Go.Am
end
section
namespace Go.Am
open Go.Proofs
set_option maxRecDepth 100000
set_option linter.unusedSimpArgs false
set_option linter.unusedVariables false
attribute [local irreducible] AC AL AW AD ARun
section
variable {h h0 : AH} {fE f1 f2 : Bool}
theorem len_run (n : Int) (hn : n = 0 ∨ n = 1) : TQ 111 [.int .u64 n] isI := by
  refine TQ.i fun h0 => ?_
  refine X.of (n := 8) (rs := [.tmp 2]) [] ⟨Tryz.func111, rfl, rfl, rfl⟩ rfl ?_
  have H : HI h0 [] h0 [] := HI.nil
  refine X.gh [90] H rfl fun h H nN => ?_
  refine X.callT rfl Tryz.call168 (len64_run n hn) ?_
  rintro _ ⟨m, rfl⟩
  refine X.g H rfl fun h H nN => ?_
  exact X.retV [] H rfl ⟨H.kp, _, rfl⟩
theorem pdq_run (x y : AV) (n m : Int) (hn : n = 0 ∨ n = 1) : ∀ h0, ARunE Tryz.prog 110 [x, .int .i64 0, .int .i64 n, .int .i64 m, y] h0 fun v h' => Kp [] h0 h' ∧ v = .tup [] := by
  intro h0
  refine X.of (n := 148) (rs := []) [] ⟨Tryz.func110, rfl, rfl, rfl⟩ rfl ?_
  have H : HI h0 [] h0 [] := HI.nil
  refine X.g H rfl fun h H nN => ?_
  refine X.roll ?_
  refine X.g H rfl fun h H nN => ?_
  refine X.cond rfl (fun hb => ?_) fun hb => ?_
  · refine X.g H rfl fun h H nN => ?_
    refine X.call rfl Tryz.call159 (insert_run x y n hn _) ?_
    rintro _ h1 ⟨k1, rfl⟩
    replace H := H.same k1
    refine X.g H rfl fun h H nN => ?_
    exact X.retV [] H rfl ⟨H.kp, rfl⟩
  · exfalso
    have e : IntKind.i64.wrap (n - 0) = n := wI (by omega)
    have := of_decide_eq_false hb
    rw [e] at this
    omega
theorem sort_nil (y : AV) : ∀ h0, ARunE Tryz.prog 63 [.nilsl, y] h0 fun v h' => Kp [] h0 h' ∧ v = .tup [] := by
  intro h0
  refine X.of (n := 14) (rs := []) [] ⟨Tryz.func63, rfl, rfl, rfl⟩ rfl ?_
  have H : HI h0 [] h0 [] := HI.nil
  refine X.g H rfl fun h H nN => ?_
  refine X.callT rfl Tryz.call111 (len_run 0 (.inl rfl)) ?_
  rintro _ ⟨m, rfl⟩
  refine X.g H rfl fun h H nN => ?_
  refine X.call rfl Tryz.call110 (pdq_run _ _ 0 m (.inl rfl) _) ?_
  rintro _ h1 ⟨k1, rfl⟩
  replace H := H.same k1
  refine X.g H rfl fun h H nN => ?_
  exact X.endV [] H rfl ⟨H.kp, rfl⟩
theorem sort_one (tk : Tk) (c : List AV) (y : AV) : ∀ h0, ARunE Tryz.prog 63 [.vec tk 8 [c], y] h0 fun v h' => Kp [] h0 h' ∧ v = .tup [] := by
  intro h0
  refine X.of (n := 14) (rs := []) [] ⟨Tryz.func63, rfl, rfl, rfl⟩ rfl ?_
  have H : HI h0 [] h0 [] := HI.nil
  refine X.g H rfl fun h H nN => ?_
  refine X.callT rfl Tryz.call111 (len_run 1 (.inr rfl)) ?_
  rintro _ ⟨m, rfl⟩
  refine X.g H rfl fun h H nN => ?_
  refine X.call rfl Tryz.call110 (pdq_run _ _ 1 m (.inr rfl) _) ?_
  rintro _ h1 ⟨k1, rfl⟩
  replace H := H.same k1
  refine X.g H rfl fun h H nN => ?_
  exact X.endV [] H rfl ⟨H.kp, rfl⟩
end
end Go.Am
end
