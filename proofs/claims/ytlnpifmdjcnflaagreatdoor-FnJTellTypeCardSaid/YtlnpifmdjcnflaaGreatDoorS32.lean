import Derived.Test.YtlnpifmdjcnflaaGreatDoorS31
set_option linter.unusedVariables false
set_option linter.unusedSimpArgs false
section
namespace Go.Am
open Go.Proofs
set_option maxRecDepth 100000
set_option linter.unusedSimpArgs false
set_option linter.unusedVariables false
attribute [local irreducible] AC AL AW AD ARun
section
variable {h h0 : AH} {fE f1 f2 : Bool}
theorem countS_run (l : Str) : ∀ h0 : AH, ARunE Tryz.prog 108 [.iface 193 (.ref none [.str l])] h0 fun v h' => Kp [] h0 h' ∧ v = .tup [.str [], .int .i64 0, .int .i64 0, .bool false] := by
  intro h0
  refine X.of (n := 79) (rs := [.tmp 2, .tmp 3, .tmp 4, .tmp 5]) [] ⟨Tryz.func108, rfl, rfl, rfl⟩ rfl ?_
  have H : HI h0 [] h0 [] := HI.nil
  refine X.g H rfl fun h H nN => ?_
  refine X.op rfl rfl rfl ?_
  refine X.gh [90] H rfl fun h H nN => ?_
  refine X.op rfl rfl rfl ?_
  refine X.gh [90] H rfl fun h H nN => ?_
  refine X.op rfl rfl rfl ?_
  refine X.gh [90] H rfl fun h H nN => ?_
  refine X.op rfl rfl rfl ?_
  refine X.gh [90] H rfl fun h H nN => ?_
  refine X.op rfl rfl rfl ?_
  refine X.gh [90] H rfl fun h H nN => ?_
  refine X.op rfl rfl rfl ?_
  refine X.gh [90] H rfl fun h H nN => ?_
  exact X.retV [] H rfl ⟨H.kp, rfl⟩
theorem plainS_run (l : Str) : ∀ h0 : AH, ARun Tryz.prog 109 [.iface 193 (.ref none [.str l])] h0 (.str [83,99,104,101,109,97]) h0 := by
  intro h0
  refine ARun.pure (.str _) ?_
  refine X.of (n := 43) (rs := [.tmp 2]) [] ⟨Tryz.func109, rfl, rfl, rfl⟩ rfl ?_
  have H : HI h0 [] h0 [] := HI.nil
  refine X.g H rfl fun h H nN => ?_
  refine X.op rfl rfl rfl ?_
  refine X.gh [90] H rfl fun h H nN => ?_
  refine X.op rfl rfl rfl ?_
  refine X.gh [91] H rfl fun h H nN => ?_
  exact X.retV [] H rfl ⟨H.kp, fun _ _ _ h => h⟩
theorem kindS_run (l : Str) : ∀ h0 : AH, ARunE Tryz.prog 62 [.iface 193 (.ref none [.str l])] h0 fun v h' => Kp [] h0 h' ∧ v = .tup [.str [83,99,104,101,109,97], .str [], .nilsl, .nilsl] := by
  intro h0
  refine X.of (n := 163) (rs := [.tmp 2, .tmp 3, .tmp 4, .tmp 5]) [] ⟨Tryz.func62, rfl, rfl, rfl⟩ rfl ?_
  have H : HI h0 [] h0 [] := HI.nil
  refine X.g H rfl fun h H nN => ?_
  refine X.op rfl rfl rfl ?_
  refine X.gh [90] H rfl fun h H nN => ?_
  refine X.op rfl rfl rfl ?_
  refine X.gh [90] H rfl fun h H nN => ?_
  refine X.op rfl rfl rfl ?_
  refine X.gh [90] H rfl fun h H nN => ?_
  refine X.op rfl rfl rfl ?_
  refine X.gh [90] H rfl fun h H nN => ?_
  refine X.op rfl rfl rfl ?_
  refine X.gh [90] H rfl fun h H nN => ?_
  refine X.op rfl rfl rfl ?_
  refine X.gh [90] H rfl fun h H nN => ?_
  refine X.op rfl rfl rfl ?_
  refine X.gh [90] H rfl fun h H nN => ?_
  refine X.op rfl rfl rfl ?_
  refine X.gh [90] H rfl fun h H nN => ?_
  refine X.op rfl rfl rfl ?_
  refine X.gh [90] H rfl fun h H nN => ?_
  refine X.op rfl rfl rfl ?_
  refine X.gh [90] H rfl fun h H nN => ?_
  refine X.op rfl rfl rfl ?_
  refine X.gh [90] H rfl fun h H nN => ?_
  refine X.op rfl rfl rfl ?_
  refine X.gh [90] H rfl fun h H nN => ?_
  refine X.call rfl Tryz.call108 (countS_run l _) ?_
  rintro _ h1 ⟨k1, rfl⟩
  replace H := H.same k1
  refine X.gh [90] H rfl fun h H nN => ?_
  refine X.callQ rfl Tryz.call109 (plainS_run l) ?_
  refine X.g H rfl fun h H nN => ?_
  exact X.retV [] H rfl ⟨H.kp, rfl⟩
theorem countF_run : ∀ h0 : AH, ARunE Tryz.prog 108 [.iface 273 (.ref none [])] h0 fun v h' => Kp [] h0 h' ∧ v = .tup [.str [], .int .i64 0, .int .i64 0, .bool false] := by
  intro h0
  refine X.of (n := 79) (rs := [.tmp 2, .tmp 3, .tmp 4, .tmp 5]) [] ⟨Tryz.func108, rfl, rfl, rfl⟩ rfl ?_
  have H : HI h0 [] h0 [] := HI.nil
  refine X.g H rfl fun h H nN => ?_
  refine X.op rfl rfl rfl ?_
  refine X.gh [90] H rfl fun h H nN => ?_
  refine X.op rfl rfl rfl ?_
  refine X.gh [90] H rfl fun h H nN => ?_
  refine X.op rfl rfl rfl ?_
  refine X.gh [90] H rfl fun h H nN => ?_
  refine X.op rfl rfl rfl ?_
  refine X.gh [90] H rfl fun h H nN => ?_
  refine X.op rfl rfl rfl ?_
  refine X.gh [90] H rfl fun h H nN => ?_
  refine X.op rfl rfl rfl ?_
  refine X.gh [90] H rfl fun h H nN => ?_
  exact X.retV [] H rfl ⟨H.kp, rfl⟩
theorem plainF_run : ∀ h0 : AH, ARun Tryz.prog 109 [.iface 273 (.ref none [])] h0 (.str [70,97,108,115,101,83,99,104,101,109,97]) h0 := by
  intro h0
  refine ARun.pure (.str _) ?_
  refine X.of (n := 43) (rs := [.tmp 2]) [] ⟨Tryz.func109, rfl, rfl, rfl⟩ rfl ?_
  have H : HI h0 [] h0 [] := HI.nil
  refine X.g H rfl fun h H nN => ?_
  refine X.op rfl rfl rfl ?_
  refine X.gh [90] H rfl fun h H nN => ?_
  refine X.op rfl rfl rfl ?_
  refine X.gh [90] H rfl fun h H nN => ?_
  refine X.op rfl rfl rfl ?_
  refine X.gh [90] H rfl fun h H nN => ?_
  refine X.op rfl rfl rfl ?_
  refine X.gh [90] H rfl fun h H nN => ?_
  refine X.op rfl rfl rfl ?_
  refine X.gh [90] H rfl fun h H nN => ?_
  refine X.op rfl rfl rfl ?_
  refine X.gh [90] H rfl fun h H nN => ?_
  refine X.op rfl rfl rfl ?_
  refine X.gh [91] H rfl fun h H nN => ?_
  exact X.retV [] H rfl ⟨H.kp, fun _ _ _ h => h⟩
theorem kindF_run : ∀ h0 : AH, ARunE Tryz.prog 62 [.iface 273 (.ref none [])] h0 fun v h' => Kp [] h0 h' ∧ v = .tup [.str [70,97,108,115,101,83,99,104,101,109,97], .str [], .nilsl, .nilsl] := by
  intro h0
  refine X.of (n := 163) (rs := [.tmp 2, .tmp 3, .tmp 4, .tmp 5]) [] ⟨Tryz.func62, rfl, rfl, rfl⟩ rfl ?_
  have H : HI h0 [] h0 [] := HI.nil
  refine X.g H rfl fun h H nN => ?_
  refine X.op rfl rfl rfl ?_
  refine X.gh [90] H rfl fun h H nN => ?_
  refine X.op rfl rfl rfl ?_
  refine X.gh [90] H rfl fun h H nN => ?_
  refine X.op rfl rfl rfl ?_
  refine X.gh [90] H rfl fun h H nN => ?_
  refine X.op rfl rfl rfl ?_
  refine X.gh [90] H rfl fun h H nN => ?_
  refine X.op rfl rfl rfl ?_
  refine X.gh [90] H rfl fun h H nN => ?_
  refine X.op rfl rfl rfl ?_
  refine X.gh [90] H rfl fun h H nN => ?_
  refine X.op rfl rfl rfl ?_
  refine X.gh [90] H rfl fun h H nN => ?_
  refine X.op rfl rfl rfl ?_
  refine X.gh [90] H rfl fun h H nN => ?_
  refine X.op rfl rfl rfl ?_
  refine X.gh [90] H rfl fun h H nN => ?_
  refine X.op rfl rfl rfl ?_
  refine X.gh [90] H rfl fun h H nN => ?_
  refine X.op rfl rfl rfl ?_
  refine X.gh [90] H rfl fun h H nN => ?_
  refine X.op rfl rfl rfl ?_
  refine X.gh [90] H rfl fun h H nN => ?_
  refine X.call rfl Tryz.call108 (countF_run _) ?_
  rintro _ h1 ⟨k1, rfl⟩
  replace H := H.same k1
  refine X.gh [90] H rfl fun h H nN => ?_
  refine X.callQ rfl Tryz.call109 (plainF_run) ?_
  refine X.g H rfl fun h H nN => ?_
  exact X.retV [] H rfl ⟨H.kp, rfl⟩
end
end Go.Am
end
section
namespace Go.Am
open Go.Proofs
set_option maxRecDepth 100000
set_option linter.unusedSimpArgs false
set_option linter.unusedVariables false
attribute [local irreducible] AC AL AW AD ARun
section
variable {P : Program} {lt : LT} {ops : List Oper} {o : Oper} {fr : AFr} {h h' : AH} {C : Exit → AFr → AH → Prop} {ks : List Kt}
theorem method_run {n : Nat} {t e : TypeId} {v : Value} {name : String} {f : FuncId} {i : TypeInfo} {m : Go.Method} {w : World} (hi : P.info? t = some i) (hm : i.methods.find? (·.name == name) = some m) (hp : m.path = #[]) (hf : m.func = some (f, true)) (hu : P.underlying t = some (.pointer e)) :
    (method (n + 1) t v name).run P w = .ok (f, v) w := by
  unfold method
  simp only [Sem.run_bind, run_typeInfo hi, Result.andThen_ok, hm, hp, follow, Sem.run_pure, hf, receiverAt, run_underlying hu, Place.get]
/-- A call by an interface: a method of a pointer, without arguments. -/
theorem StepD.callI {x : Operand} {name : String} {c : Call} {t e : TypeId} {y : AV} {f : FuncId} {i : TypeInfo} {m : Go.Method} {v : AV} (ho : o.op = .call c) (hcc : c.callee = .invoke x name) (hca : c.args = #[]) (hw : aWanted ops fr o.guard = some true) (ex : fr.ev x = .v (.iface t y)) (hi : P.info? t = some i) (hm : i.methods.find? (·.name == name) = some m) (hp : m.path = #[]) (hf : m.func = some (f, true)) (hu : P.underlying t = some (.pointer e))
    (hc : Callable P f) (H : ARun P f [y] h v h') : StepD P lt ops o fr h (.v v) h' := by
  intro fr' hn hl hff g0 w0 a w Q K S hK
  rw [← looks_guard hn hff] at hw
  rw [← looks_op hn hff x (by rw [ho]; simp [Op.operands, Call.operands, hcc])] at ex
  have hwt : Region.wanted o (yielded ops.toArray a.tmps) = true := by
    obtain ⟨g, lb, E, R, F⟩ := S
    exact aWanted_sound F hw
  rw [if_pos hwt]
  refine call_wp H rfl (fun g w lb base a F R => ?_) S hK
  have v1 := F.ev_v ex
  generalize hq : a.eval x = q at v1
  cases v1 with
  | iface _ _ u hu' =>
    obtain ⟨dst, op, ty, pos, after, guard⟩ := o
    simp only at ho
    subst ho
    obtain ⟨callee, args, argTypes⟩ := c
    simp only at hcc hca
    subst hcc hca
    refine ⟨#[u], ?_, rfl, fun j hj => ?_⟩
    · obtain ⟨n, hn⟩ : ∃ n, P.types.size + Made.depth = n + 1 := ⟨P.types.size + 99, rfl⟩
      simp only [execOp, resolve, Sem.run_bind, Sem.run_pure, Result.andThen_ok, invoke, hq]
      have e1 : (#[Value.iface t u] ++ Array.map a.eval #[])[0]? = some (Value.iface t u) := by simp
      have e2 : (#[Value.iface t u] ++ Array.map a.eval #[]).extract 1 (#[Value.iface t u] ++ Array.map a.eval #[]).size = #[] := by simp
      simp only [e1, e2, callMethod, Sem.run_bind]
      have e3 : (program).run P w = .ok P w := rfl
      simp only [e3, Result.andThen_ok, hn, method_run hi hm hp hf hu]
      exact hc _ w
    · match j, hj with
      | 0, _ => exact hu'
end
end Go.Am
end
