import Derived.Test.YtlnpifmdjcnflaaGreatDoorS43
set_option linter.unusedVariables false
set_option linter.unusedSimpArgs false
section
namespace Go.Am
open Go.Proofs
set_option maxRecDepth 100000
set_option linter.unusedSimpArgs false
set_option linter.unusedVariables false
attribute [local irreducible] AC AL AW AD ARun
section
variable {P : Program} {lt : LT} {ops : List Oper} {o : Oper} {fr : AFr}
theorem StepD.runeS {s d : TypeId} {x : Operand} {k : IntKind} {n : Int} {t : Str} (ho : o.op = .convert s d x) (hw : aWanted ops fr o.guard = some true) (hs : P.underlying s = some (.int k)) (hd : P.underlying d = some .string)
    (ex : fr.ev x = .v (.int k n)) (ht : (Utf8.encode n).data.toList = t) : ∀ h, StepD P lt ops o fr h (.v (.str t)) h := by
  subst ht
  intro h
  refine StepD.raw hw fun g w ρ R hx => ?_
  obtain ⟨r1, r2⟩ := cv_exec ho ρ
  have v1 := hx x r2 _ ex
  rw [r1]
  generalize ρ x = p at v1
  cases v1
  refine ⟨.string (Utf8.encode n), g, w, ?_, .refl g w, R, .str _⟩
  simp only [Sem.run_bind, convert, run_underlying hs, run_underlying hd, Result.andThen_ok]
  rfl
end
abbrev sType : Str := [84,121,112,101]
abbrev sSchema : Str := [83,99,104,101,109,97]
abbrev sFalse : Str := [70,97,108,115,101,83,99,104,101,109,97]
section
variable {h h0 : AH} {fE f1 f2 : Bool}
theorem keyS_run : ∀ h0, ARun Tryz.prog 85 [.str sSchema] h0 (.str []) h0 := by
  intro h0
  refine ARun.pure (.str _) ?_
  refine X.of (n := 19) (rs := [.tmp 2]) [] ⟨Tryz.func85, rfl, rfl, rfl⟩ rfl ?_
  have H : HI h0 [] h0 [] := HI.nil
  refine X.gh [90, 91, 91] H rfl fun h H nN => ?_
  exact X.retV [] H rfl ⟨H.kp, fun _ _ _ h => h⟩
theorem keyF_run : ∀ h0, ARun Tryz.prog 85 [.str sFalse] h0 (.str []) h0 := by
  intro h0
  refine ARun.pure (.str _) ?_
  refine X.of (n := 19) (rs := [.tmp 2]) [] ⟨Tryz.func85, rfl, rfl, rfl⟩ rfl ?_
  have H : HI h0 [] h0 [] := HI.nil
  refine X.gh [90, 90, 90, 91, 91] H rfl fun h H nN => ?_
  exact X.retV [] H rfl ⟨H.kp, fun _ _ _ h => h⟩
theorem keyT_run : ∀ h0, ARun Tryz.prog 85 [.str sType] h0 (.str [116,121,112,101]) h0 := by
  intro h0
  refine ARun.pure (.str _) ?_
  refine X.of (n := 19) (rs := [.tmp 2]) [] ⟨Tryz.func85, rfl, rfl, rfl⟩ rfl ?_
  have H : HI h0 [] h0 [] := HI.nil
  refine X.jh [90, 90, 90, 90, 90, 90, 90] H rfl (by decide) fun h H nN => ?_
  refine X.freeD (StepD.runeS (t := [116]) rfl rfl rfl rfl rfl (by decide)) rfl ?_
  refine X.g H rfl fun h H nN => ?_
  refine X.sliceSD (a := 1) (b := 4) rfl rfl rfl rfl rfl rfl (by decide) (by decide) rfl ?_
  refine X.g H rfl fun h H nN => ?_
  exact X.retV [] H rfl ⟨H.kp, fun _ _ _ h => h⟩
theorem pathR_run (kid : List AV) : ∀ h0, ARun Tryz.prog 47 [.agg (rootC [49] kid)] h0 (.bool true) h0 := by
  intro h0
  refine ARun.pure (.bool _) ?_
  refine X.of (n := 68) (rs := [.tmp 2]) [] ⟨Tryz.func47, rfl, rfl, rfl⟩ rfl ?_
  have H : HI h0 [] h0 [] := HI.nil
  refine X.gm [1] [] H rfl fun h H nN => ?_
  refine X.callQ rfl Tryz.call85 keyS_run ?_
  refine X.gh [90, 90, 90, 90, 91] H rfl fun h H nN => ?_
  exact X.retV [] H rfl ⟨H.kp, fun _ _ _ h => h⟩
theorem pathF_run : ∀ h0, ARun Tryz.prog 47 [.agg (leafF [49])] h0 (.bool true) h0 := by
  intro h0
  refine ARun.pure (.bool _) ?_
  refine X.of (n := 68) (rs := [.tmp 2]) [] ⟨Tryz.func47, rfl, rfl, rfl⟩ rfl ?_
  have H : HI h0 [] h0 [] := HI.nil
  refine X.gm [1] [] H rfl fun h H nN => ?_
  refine X.callQ rfl Tryz.call85 keyF_run ?_
  refine X.gh [90, 90, 90, 90, 91] H rfl fun h H nN => ?_
  exact X.retV [] H rfl ⟨H.kp, fun _ _ _ h => h⟩
theorem pathT_run (a : Str) (ns : List Str) : ∀ h0, ARun Tryz.prog 47 [.agg (leafT [49] a ns)] h0 (.bool true) h0 := by
  intro h0
  refine ARun.pure (.bool _) ?_
  refine X.of (n := 68) (rs := [.tmp 2]) [] ⟨Tryz.func47, rfl, rfl, rfl⟩ rfl ?_
  have H : HI h0 [] h0 [] := HI.nil
  refine X.gm [1] [] H rfl fun h H nN => ?_
  refine X.callQ rfl Tryz.call85 keyT_run ?_
  refine X.gh [90, 90, 90, 90, 90, 92] H rfl fun h H nN => ?_
  refine X.free (StepD.indexAddr rfl rfl rfl rfl rfl rfl (by decide) rfl) rfl ?_
  refine X.gh [] H rfl fun h H nN => ?_
  exact X.retV [] H rfl ⟨H.kp, fun _ _ _ h => h⟩
end
end Go.Am
end
section
namespace Go.Am
open Go.Proofs
set_option maxRecDepth 100000
set_option linter.unusedSimpArgs false
set_option linter.unusedVariables false
attribute [local irreducible] AC AL AW AD ARun
section
variable {h h0 : AH} {fE f1 f2 : Bool}
theorem inside_run (k n : Int) (b : Bool) (t : Str) (z1 z2 : AV) : ∀ h0, ARun Tryz.prog 84 [.agg [.int .i64 k, .bool b, .int .i64 n, .str t, .one z1, .one z2], .vec .none 1 []] h0 (.bool true) h0 := by
  intro h0
  refine ARun.pure (.bool _) ?_
  refine X.of (n := 57) (rs := [.tmp 4]) [] ⟨Tryz.func84, rfl, rfl, rfl⟩ rfl ?_
  have H : HI h0 [] h0 [] := HI.nil
  refine X.gm [2] [] H rfl fun h H nN => ?_
  refine X.roll ?_
  refine X.gh [90] H rfl fun h H nN => ?_
  exact X.retV [] H rfl ⟨H.kp, fun _ _ _ h => h⟩
theorem part_run (k n : Int) (b : Bool) (t : Str) (z1 z2 : AV) : ∀ h0, ARunE Tryz.prog 46 [.agg [.int .i64 k, .bool b, .int .i64 n, .str t, .one z1, .one z2], .vec .none 1 []] h0 fun r h' => Kp [] h0 h' ∧ r = .tup [.agg [.int .i64 k, .bool b, .int .i64 n, .str t, .one z1, .one z2], .bool true] := by
  intro h0
  refine X.of (n := 41) (rs := [.cell 4 25, .tmp 5]) [] ⟨Tryz.func46, rfl, rfl, rfl⟩ rfl ?_
  have H : HI h0 [] h0 [] := HI.nil
  refine X.gm [2] [] H rfl fun h H nN => ?_
  refine X.callQ rfl Tryz.call84 (inside_run k n b t z1 z2) ?_
  refine X.gh [90] H rfl fun h H nN => ?_
  refine X.roll ?_
  refine X.gh [90, 0] H rfl fun h H nN => ?_
  exact X.retV [0] H rfl ⟨H.kp, rfl⟩
theorem inside0_run : ∀ h0, ARun Tryz.prog 84 [.agg jv0, .vec .none 1 []] h0 (.bool true) h0 := by
  intro h0
  refine ARun.pure (.bool _) ?_
  refine X.of (n := 57) (rs := [.tmp 4]) [] ⟨Tryz.func84, rfl, rfl, rfl⟩ rfl ?_
  have H : HI h0 [] h0 [] := HI.nil
  refine X.gm [2] [] H rfl fun h H nN => ?_
  refine X.roll ?_
  refine X.gh [90] H rfl fun h H nN => ?_
  exact X.retV [] H rfl ⟨H.kp, fun _ _ _ h => h⟩
theorem part0_run : ∀ h0, ARunE Tryz.prog 46 [.agg jv0, .vec .none 1 []] h0 fun r h' => Kp [] h0 h' ∧ r = .tup [.agg jv0, .bool true] := by
  intro h0
  refine X.of (n := 41) (rs := [.cell 4 25, .tmp 5]) [] ⟨Tryz.func46, rfl, rfl, rfl⟩ rfl ?_
  have H : HI h0 [] h0 [] := HI.nil
  refine X.gm [2] [] H rfl fun h H nN => ?_
  refine X.callQ rfl Tryz.call84 inside0_run ?_
  refine X.gh [90] H rfl fun h H nN => ?_
  refine X.roll ?_
  refine X.gh [90, 0] H rfl fun h H nN => ?_
  exact X.retV [0] H rfl ⟨H.kp, rfl⟩
theorem begins_run : ∀ h0, ARun Tryz.prog 50 [.vec .none 1 [], .vec .none 1 []] h0 (.bool true) h0 := by
  intro h0
  refine ARun.pure (.bool _) ?_
  refine X.of (n := 27) (rs := [.tmp 4]) [] ⟨Tryz.func50, rfl, rfl, rfl⟩ rfl ?_
  have H : HI h0 [] h0 [] := HI.nil
  refine X.gm [] [] H rfl fun h H nN => ?_
  refine X.roll ?_
  refine X.gh [90] H rfl fun h H nN => ?_
  exact X.retV [] H rfl ⟨H.kp, fun _ _ _ h => h⟩
theorem digit1_run : ∀ h0, ARun Tryz.prog 133 [.int .u8 49] h0 (.bool true) h0 := by
  intro h0
  refine ARun.pure (.bool _) ?_
  refine X.of (n := 9) (rs := [.tmp 2]) [] ⟨Tryz.func133, rfl, rfl, rfl⟩ rfl ?_
  have H : HI h0 [] h0 [] := HI.nil
  refine X.gh [92] H rfl fun h H nN => ?_
  exact X.retV [] H rfl ⟨H.kp, fun _ _ _ h => h⟩
theorem digits1_run : ∀ h0, ARun Tryz.prog 91 [.str [49]] h0 (.bool true) h0 := by
  intro h0
  refine ARun.pure (.bool _) ?_
  refine X.of (n := 18) (rs := [.tmp 2]) [] ⟨Tryz.func91, rfl, rfl, rfl⟩ rfl ?_
  have H : HI h0 [] h0 [] := HI.nil
  refine X.gh [] H rfl fun h H nN => ?_
  refine X.roll ?_
  refine X.jh [91] H rfl (by decide) fun h H nN => ?_
  refine X.callQ rfl Tryz.call133 digit1_run ?_
  refine X.gh [90] H rfl fun h H nN => ?_
  refine X.eqi 3 1 rfl (by decide) ?_
  refine X.rollN ?_
  refine X.gh [90] H rfl fun h H nN => ?_
  exact X.retV [] H rfl ⟨H.kp, fun _ _ _ h => h⟩
theorem plain1_run : ∀ h0, ARun Tryz.prog 51 [.str [49]] h0 (.bool true) h0 := by
  intro h0
  refine ARun.pure (.bool _) ?_
  refine X.of (n := 15) (rs := [.tmp 2]) [] ⟨Tryz.func51, rfl, rfl, rfl⟩ rfl ?_
  have H : HI h0 [] h0 [] := HI.nil
  refine X.gh [] H rfl fun h H nN => ?_
  refine X.callQ rfl Tryz.call91 digits1_run ?_
  refine X.gh [92, 92] H rfl fun h H nN => ?_
  exact X.retV [] H rfl ⟨H.kp, fun _ _ _ h => h⟩
theorem number1_run : ∀ h0, ARun Tryz.prog 52 [.str [49]] h0 (.int .i64 1) h0 := by
  intro h0
  refine ARun.pure (.int _ _) ?_
  refine X.of (n := 20) (rs := [.tmp 2]) [] ⟨Tryz.func52, rfl, rfl, rfl⟩ rfl ?_
  have H : HI h0 [] h0 [] := HI.nil
  refine X.gh [] H rfl fun h H nN => ?_
  refine X.roll ?_
  refine X.jh [91] H rfl (by decide) fun h H nN => ?_
  refine X.eqi 4 1 rfl (by decide) ?_
  refine X.eqi 3 1 rfl (by decide) ?_
  refine X.rollN ?_
  refine X.gh [90] H rfl fun h H nN => ?_
  exact X.retV [] H rfl ⟨H.kp, fun _ _ _ h => h⟩
theorem named1_run (k : Int) (ts : List Str) : ∀ h0, ARun Tryz.prog 30 [sch k fE ts, .str [49]] h0 (.int .i64 1) h0 := by
  intro h0
  refine ARun.pure (.int _ _) ?_
  refine X.of (n := 22) (rs := [.tmp 4]) [] ⟨Tryz.func30, rfl, rfl, rfl⟩ rfl ?_
  have H : HI h0 [] h0 [] := HI.nil
  refine X.gh [92] H rfl fun h H nN => ?_
  refine X.callQ rfl Tryz.call51 plain1_run ?_
  refine X.gh [92] H rfl fun h H nN => ?_
  refine X.callQ rfl Tryz.call52 number1_run ?_
  refine X.gh [90] H rfl fun h H nN => ?_
  refine X.callQ rfl Tryz.call52 number1_run ?_
  refine X.gh [] H rfl fun h H nN => ?_
  exact X.retV [] H rfl ⟨H.kp, fun _ _ _ h => h⟩
theorem clo1_run (k : Int) (ts : List Str) : ∀ h0, ARun Tryz.prog 29 [.str [49], .ref none [sch k fE ts]] h0 (.vec .none 1 [[.int .i64 1]]) h0 := by
  intro h0
  refine ARun.pure (.vec _ _ fun c hc x hx => by rw [List.mem_singleton.1 hc] at hx; rw [List.mem_singleton.1 hx]; exact .int _ _) ?_
  refine X.of (n := 8) (rs := [.tmp 3]) [] ⟨Tryz.func29, rfl, rfl, rfl⟩ rfl ?_
  have H : HI h0 [] h0 [] := HI.nil
  refine X.gh [] H rfl fun h H nN => ?_
  refine X.callQ rfl Tryz.call30 (named1_run k ts) ?_
  refine X.gh [] H rfl fun h H nN => ?_
  exact X.retV [] H rfl ⟨H.kp, fun g w v h => vecR_none g w v h⟩
end
end Go.Am
end
