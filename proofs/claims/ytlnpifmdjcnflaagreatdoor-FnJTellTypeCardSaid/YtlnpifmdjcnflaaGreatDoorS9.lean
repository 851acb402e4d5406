import Derived.Test.YtlnpifmdjcnflaaGreatDoorS8
set_option linter.unusedVariables false
set_option linter.unusedSimpArgs false
namespace Go.Am
open Go.Proofs
set_option maxRecDepth 100000
set_option linter.unusedSimpArgs false
set_option linter.unusedVariables false
attribute [local irreducible] AC AL AW AD ARun
section
variable {h h0 : AH} {fE f1 f2 : Bool}
abbrev sch (k : Int) (fE : Bool) (ts : List Str) : AV := .vec .none 53 [ndC k fE ts]
theorem alone_run (ts : List Str) : ∀ h0 : AH, ARun Tryz.prog 6 [.agg (ndC 0 fE ts)] h0 (sch 0 fE ts) h0 := by
  intro h0
  have hp : PureL (ndC 0 fE ts) := fun x hx => by
    simp only [ndC, List.mem_cons, List.not_mem_nil, or_false] at hx
    repeat' (rcases hx with rfl | hx)
    all_goals first | exact .int _ _ | exact .nilsl | exact .bool _ | exact slN_pure fun a _ => strCs_pure a | (subst hx; exact .nilsl)
  refine ARun.pure (.vec _ _ fun c hc => by rw [List.mem_singleton.1 hc]; exact hp) ?_
  refine X.of (n := 5) (rs := [.tmp 2]) [] ⟨Tryz.func6, rfl, rfl, rfl⟩ rfl ?_
  have H : HI h0 [] h0 [] := HI.nil
  refine X.g H rfl fun h H nN => ?_
  exact X.retV [] H rfl ⟨H.kp, fun g w v h => vecR_none g w v h⟩
theorem X.roll {P : Program} {lt : LT} {C : Exit → AFr → AH → Prop} {c : Code} {ks : List Kt} {fr : AFr} (K : XS P lt C (.code c) (.lp c :: ks) fr h) : XS P lt C (.code (.loop c)) ks fr h := X.loop (X.round K)
theorem X.rollN {P : Program} {lt : LT} {C : Exit → AFr → AH → Prop} {c : Code} {ks : List Kt} {fr : AFr} (K : XS P lt C (.code c) (.lp c :: ks) fr h) : XS P lt C (.ext .normal) (.lp c :: ks) fr h := X.round K
theorem X.eqv {P : Program} {lt : LT} {C : Exit → AFr → AH → Prop} {cur : Cur} {ks : List Kt} {fr : AFr} (t : Tmp) {x y : AV} (ht : fr.f t = .v x) (e : x = y) (K : XS P lt C cur ks (fr.putD t (.v y)) h) : XS P lt C cur ks fr h := by
  subst e; rwa [putD_self ht] at K
theorem X.eqi {P : Program} {lt : LT} {C : Exit → AFr → AH → Prop} {cur : Cur} {ks : List Kt} {fr : AFr} (t : Tmp) (m : Nat) {n : Int} (ht : fr.f t = .v (.int .i64 n)) (e : n = m) (K : XS P lt C cur ks (fr.putD t (.v (.int .i64 m))) h) : XS P lt C cur ks fr h := X.eqv t ht (by rw [e]) K
theorem new_run (ts : List Str) : ∀ h0 : AH, ARun Tryz.prog 12 [.agg (ndC 0 fE ts)] h0 (.bool true) h0 := by
  intro h0
  refine ARun.pure (.bool _) ?_
  refine X.of (n := 35) (rs := [.tmp 2]) [] ⟨Tryz.func12, rfl, rfl, rfl⟩ rfl ?_
  have H : HI h0 [] h0 [] := HI.nil
  refine X.gh [92, 92, 92, 92, 92, 92] H rfl fun h H nN => ?_
  exact X.retV [] H rfl ⟨H.kp, fun _ _ _ h => h⟩
theorem limits_run (ts : List Str) : ∀ h0 : AH, ARun Tryz.prog 23 [.agg (ndC 0 fE ts)] h0 (.bool true) h0 := by
  intro h0
  refine ARun.pure (.bool _) ?_
  refine X.of (n := 41) (rs := [.tmp 2]) [] ⟨Tryz.func23, rfl, rfl, rfl⟩ rfl ?_
  have H : HI h0 [] h0 [] := HI.nil
  refine X.g H rfl fun h H nN => ?_
  refine X.roll ?_
  refine X.gh [91] H rfl fun h H nN => ?_
  refine X.free (StepD.indexAddr rfl rfl rfl rfl rfl rfl (by decide) rfl) rfl ?_
  refine X.gh [92, 90] H rfl fun h H nN => ?_
  refine X.eqi 4 1 rfl (by decide) ?_
  refine X.rollN ?_
  refine X.gh [91] H rfl fun h H nN => ?_
  refine X.free (StepD.indexAddr rfl rfl rfl rfl rfl rfl (by decide) rfl) rfl ?_
  refine X.gh [92, 90] H rfl fun h H nN => ?_
  refine X.eqi 4 2 rfl (by decide) ?_
  refine X.rollN ?_
  refine X.gh [91] H rfl fun h H nN => ?_
  refine X.free (StepD.indexAddr rfl rfl rfl rfl rfl rfl (by decide) rfl) rfl ?_
  refine X.gh [92, 90] H rfl fun h H nN => ?_
  refine X.eqi 4 3 rfl (by decide) ?_
  refine X.rollN ?_
  refine X.gh [91] H rfl fun h H nN => ?_
  refine X.free (StepD.indexAddr rfl rfl rfl rfl rfl rfl (by decide) rfl) rfl ?_
  refine X.gh [92, 90] H rfl fun h H nN => ?_
  refine X.eqi 4 4 rfl (by decide) ?_
  refine X.rollN ?_
  refine X.gh [91] H rfl fun h H nN => ?_
  refine X.free (StepD.indexAddr rfl rfl rfl rfl rfl rfl (by decide) rfl) rfl ?_
  refine X.gh [92, 90] H rfl fun h H nN => ?_
  refine X.eqi 4 5 rfl (by decide) ?_
  refine X.rollN ?_
  refine X.gh [91] H rfl fun h H nN => ?_
  refine X.free (StepD.indexAddr rfl rfl rfl rfl rfl rfl (by decide) rfl) rfl ?_
  refine X.gh [92, 90] H rfl fun h H nN => ?_
  refine X.eqi 4 6 rfl (by decide) ?_
  refine X.rollN ?_
  refine X.gh [91] H rfl fun h H nN => ?_
  refine X.free (StepD.indexAddr rfl rfl rfl rfl rfl rfl (by decide) rfl) rfl ?_
  refine X.gh [92, 90] H rfl fun h H nN => ?_
  refine X.eqi 4 7 rfl (by decide) ?_
  refine X.rollN ?_
  refine X.gh [91] H rfl fun h H nN => ?_
  refine X.free (StepD.indexAddr rfl rfl rfl rfl rfl rfl (by decide) rfl) rfl ?_
  refine X.gh [92, 90] H rfl fun h H nN => ?_
  refine X.eqi 4 8 rfl (by decide) ?_
  refine X.rollN ?_
  refine X.gh [90] H rfl fun h H nN => ?_
  exact X.retV [] H rfl ⟨H.kp, fun _ _ _ h => h⟩
theorem parts_run (x : AV) (n : Int) (ts : List Str) : ∀ h0 : AH, ARun Tryz.prog 22 [x, .int .i64 n, .agg (ndC 0 fE ts)] h0 (.bool true) h0 := by
  intro h0
  refine ARun.pure (.bool _) ?_
  refine X.of (n := 127) (rs := [.tmp 6]) [] ⟨Tryz.func22, rfl, rfl, rfl⟩ rfl ?_
  have H : HI h0 [] h0 [] := HI.nil
  refine X.g H rfl fun h H nN => ?_
  refine X.roll ?_
  refine X.gh [90] H rfl fun h H nN => ?_
  refine X.roll ?_
  refine X.gh [90] H rfl fun h H nN => ?_
  refine X.roll ?_
  refine X.gh [90] H rfl fun h H nN => ?_
  refine X.roll ?_
  refine X.gh [90, 92, 92, 92, 92] H rfl fun h H nN => ?_
  exact X.retV [] H rfl ⟨H.kp, fun _ _ _ h => h⟩
theorem whole_run (tk : Tk) : ∀ h0 : AH, ARun Tryz.prog 21 [.vec tk 1 [[.nilsl], [.nilsl], [.nilsl], [.nilsl]]] h0 (.bool true) h0 := by
  intro h0
  refine ARun.pure (.bool _) ?_
  refine X.of (n := 28) (rs := [.tmp 2]) [] ⟨Tryz.func21, rfl, rfl, rfl⟩ rfl ?_
  have H : HI h0 [] h0 [] := HI.nil
  refine X.g H rfl fun h H nN => ?_
  refine X.roll ?_
  refine X.gh [91] H rfl fun h H nN => ?_
  refine X.roll ?_
  refine X.g H rfl fun h H nN => ?_
  refine X.free (StepD.indexAddr rfl rfl rfl rfl rfl rfl (by decide) rfl) rfl ?_
  refine X.gh [90] H rfl fun h H nN => ?_
  refine X.eqi 3 1 rfl (by decide) ?_
  refine X.rollN ?_
  refine X.gh [91] H rfl fun h H nN => ?_
  refine X.roll ?_
  refine X.g H rfl fun h H nN => ?_
  refine X.free (StepD.indexAddr rfl rfl rfl rfl rfl rfl (by decide) rfl) rfl ?_
  refine X.gh [90] H rfl fun h H nN => ?_
  refine X.eqi 3 2 rfl (by decide) ?_
  refine X.rollN ?_
  refine X.gh [91] H rfl fun h H nN => ?_
  refine X.roll ?_
  refine X.g H rfl fun h H nN => ?_
  refine X.free (StepD.indexAddr rfl rfl rfl rfl rfl rfl (by decide) rfl) rfl ?_
  refine X.gh [90] H rfl fun h H nN => ?_
  refine X.eqi 3 3 rfl (by decide) ?_
  refine X.rollN ?_
  refine X.gh [91] H rfl fun h H nN => ?_
  refine X.roll ?_
  refine X.g H rfl fun h H nN => ?_
  refine X.free (StepD.indexAddr rfl rfl rfl rfl rfl rfl (by decide) rfl) rfl ?_
  refine X.gh [90] H rfl fun h H nN => ?_
  refine X.eqi 3 4 rfl (by decide) ?_
  refine X.rollN ?_
  refine X.gh [90] H rfl fun h H nN => ?_
  exact X.retV [] H rfl ⟨H.kp, fun _ _ _ h => h⟩
end
end Go.Am
