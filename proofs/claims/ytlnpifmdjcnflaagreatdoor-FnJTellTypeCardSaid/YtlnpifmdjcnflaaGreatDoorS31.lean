import Derived.Test.YtlnpifmdjcnflaaGreatDoorS30
set_option linter.unusedVariables false
set_option linter.unusedSimpArgs false
section
namespace Go.Am
open Go.Proofs
set_option maxRecDepth 100000
set_option linter.unusedSimpArgs false
set_option linter.unusedVariables false
attribute [local irreducible] AC AL AW AD ARun
section
variable {P : Program} {lt : LT} {ops : List Oper} {o : Oper} {fr : AFr}
theorem StepD.makeNone {t e : TypeId} {x y : Operand} {i : TypeInfo} {z : Value} {k k' : IntKind} {c : Nat} (ho : o.op = .makeSlice t x y) (hw : aWanted ops fr o.guard = some true) (ht : P.underlying t = some (.slice e)) (hi : P.info? e = some i) (hz : i.zero = some z)
    {m' : Int} (ex : fr.ev x = .v (.int k 0)) (ey : fr.ev y = .v (.int k' m')) (em' : m' = c) (hb : (i.bytes + 1) * c ≤ 140737488355328) :
    ∀ h, StepD P lt ops o fr h (.v (.vec .none 1 [])) h := by
  subst em'
  intro h
  refine StepD.raw hw fun g w ρ R hx => ?_
  obtain ⟨r1, r2, r3⟩ := mkSl_exec ho ρ
  have v1 := hx x r2 _ ex
  have v2 := hx y r3 _ ey
  rw [r1]
  generalize ρ x = p at v1
  generalize ρ y = q at v2
  cases v1
  cases v2
  rw [Nat.succ_mul] at hb
  have hr := run_make (P := P) w t e i z ht hi hz k k' (0 : Nat) c (by omega) (by omega) (by rw [← Int.natCast_mul]; omega) (by omega)
  simp only [Int.toNat_natCast, Int.toNat_zero] at hr
  obtain ⟨E, R'⟩ := alloc_ext R (.cells (madeCells z.cells (c * i.size)) e) 0 (fun h => absurd h (Nat.lt_irrefl 0))
  have hr' : (Instr.makeSlice t (.int k 0) (.int k' c)).run P w = .ok (.slice (some ⟨w.heap.size, 0, none⟩) 0 c) (w.alloc (.cells (madeCells z.cells (c * i.size)) e)) := hr
  refine ⟨.slice (some ⟨w.heap.size, 0, none⟩) 0 c, _, _, by simp only [Sem.run_bind, hr', Result.andThen_ok, Sem.run_pure], E, R', ?_⟩
  exact .vec .none 1 [] _ c (fun _ _ => undef) (fun i hi => by simp at hi) (fun i j hi _ => by simp at hi) (fun i j hi _ => by simp at hi) (fun i j hi _ => by simp at hi) (fun i j hi _ => by simp at hi) (Nat.zero_le _) (by omega) trivial (fun h => absurd rfl h)
end
section
variable {h h0 : AH} {fE f1 f2 : Bool}
/-- A schema's error, its cause within. -/
def scE (loc : Str) (kd : AV) : AV := .iface 84 (.ref none [.str loc, .nilsl, .iface 193 (.ref none [.str loc]), .vec .full 1 [[.ref none (veC loc kd .nilsl)]]])
def val1 (ts : List Str) (k : Int) (loc : Str) : AV := if ts = [] ∨ kindS k ∈ ts then .nili else scE loc (.iface 196 (.ref none [.str (kindS k), sls false (namesM (maskL ts) bits)]))
theorem IVo.form {k : Int} {x : AV} {h : AH} (i : IVo k x h) : x = .nili ∨ ∃ t y, x = .iface t y := by
  rcases i with ⟨_, rfl⟩ | ⟨_, b, rfl⟩ | ⟨_, b, rfl⟩ | ⟨_, b, c, rfl⟩ | ⟨_, b, c, rfl, -⟩
  · exact .inl rfl
  all_goals exact .inr ⟨_, _, rfl⟩
set_option maxHeartbeats 4000000 in
theorem val_run (ts : List Str) (hok : okB ts = true) {k : Int} {x : AV} (s : Sc) (hs : ScV h0 ts s) (hx : IVo k x h0) : ARunE Tryz.prog 59 [.ref none s.cs, x] h0 fun v h' => Kp [] h0 h' ∧ v = val1 ts k s.loc := by
  have hs' := hs
  obtain ⟨d, l, bb, t, r, p, pq, e1, e2, e3⟩ := s
  rcases hx.form with rfl | ⟨tt, y, rfl⟩
  · refine X.of (n := 60) (rs := [.tmp 4]) [] ⟨Tryz.func59, rfl, rfl, rfl⟩ rfl ?_
    have H : HI h0 [] h0 [] := HI.nil
    refine X.g H rfl fun h H nN => ?_
    refine X.freeD (StepD.makeNone (c := 8) rfl rfl rfl rfl rfl rfl rfl rfl (by decide)) rfl ?_
    refine X.gm [17] [] H rfl fun h H nN => ?_
    refine X.callQD rfl Tryz.call104 (uneval2_run hx ⟨d, l, bb, t, r, p, pq, e1, e2, e3⟩) ?_
    refine X.gm [17] [] H rfl fun h H nN => ?_
    refine X.sayO 0 (vdC .nili (.vec .none 1 []) ⟨d, l, bb, t, r, p, pq, e1, e2, e3⟩ (.ref none [.ref none (⟨d, l, bb, t, r, p, pq, e1, e2, e3⟩ : Sc).cs, .str [], .int .i64 0, .nilp]) (.ref none [.nilm, .nilm]) .nilsl) H rfl rfl ⟨.refl _, .one _, .refl _, .one _, .one _, .one _, .refl _, trivial⟩ fun h H nN => ?_
    have hN := H.kp.n
    refine X.call rfl Tryz.call105 (vd_run ts hok _ _ _ _ _ _ (hs.kp H.kp) (hx.kp H.kp) H.at_.1 H.at_.2) ?_
    rintro _ h1 ⟨k1, rfl⟩
    replace H := H.same k1
    by_cases hin : ts = [] ∨ kindS k ∈ ts
    · simp only [vRes, val1, hin, if_true]
      refine X.gh [90] H rfl fun h H nN => ?_
      exact X.retV [] H rfl ⟨H.kp, rfl⟩
    · simp only [vRes, val1, hin, if_false]
      refine X.gh [91] H rfl fun h H nN => ?_
      refine X.op rfl rfl rfl ?_
      refine X.gh [] H rfl fun h H nN => ?_
      refine X.op rfl rfl rfl ?_
      refine X.gm [54, 58] [90] H rfl fun h H nN => ?_
      exact X.retV [] H rfl ⟨H.kp, rfl⟩
  · refine X.of (n := 60) (rs := [.tmp 4]) [] ⟨Tryz.func59, rfl, rfl, rfl⟩ rfl ?_
    have H : HI h0 [] h0 [] := HI.nil
    refine X.g H rfl fun h H nN => ?_
    refine X.freeD (StepD.makeNone (c := 8) rfl rfl rfl rfl rfl rfl rfl rfl (by decide)) rfl ?_
    refine X.gm [17] [] H rfl fun h H nN => ?_
    refine X.callQD rfl Tryz.call104 (uneval2_run hx ⟨d, l, bb, t, r, p, pq, e1, e2, e3⟩) ?_
    refine X.gm [17] [] H rfl fun h H nN => ?_
    refine X.sayO 0 (vdC (.iface tt y) (.vec .none 1 []) ⟨d, l, bb, t, r, p, pq, e1, e2, e3⟩ (.ref none [.ref none (⟨d, l, bb, t, r, p, pq, e1, e2, e3⟩ : Sc).cs, .str [], .int .i64 0, .nilp]) (.ref none [.nilm, .nilm]) .nilsl) H rfl rfl ⟨.refl _, .one _, .refl _, .one _, .one _, .one _, .refl _, trivial⟩ fun h H nN => ?_
    have hN := H.kp.n
    refine X.call rfl Tryz.call105 (vd_run ts hok _ _ _ _ _ _ (hs.kp H.kp) (hx.kp H.kp) H.at_.1 H.at_.2) ?_
    rintro _ h1 ⟨k1, rfl⟩
    replace H := H.same k1
    by_cases hin : ts = [] ∨ kindS k ∈ ts
    · simp only [vRes, val1, hin, if_true]
      refine X.gh [90] H rfl fun h H nN => ?_
      exact X.retV [] H rfl ⟨H.kp, rfl⟩
    · simp only [vRes, val1, hin, if_false]
      refine X.gh [91] H rfl fun h H nN => ?_
      refine X.op rfl rfl rfl ?_
      refine X.gh [] H rfl fun h H nN => ?_
      refine X.op rfl rfl rfl ?_
      refine X.gm [54, 58] [90] H rfl fun h H nN => ?_
      exact X.retV [] H rfl ⟨H.kp, rfl⟩
end
end Go.Am
end
section
namespace Go.Am
open Go.Proofs
set_option maxRecDepth 100000
set_option linter.unusedSimpArgs false
set_option linter.unusedVariables false
attribute [local irreducible] AC AL AW AD ARun
section
variable {h h0 : AH} {fE f1 f2 : Bool}
def falseE (loc : Str) : AV := scE loc (.iface 273 (.ref none []))
set_option maxHeartbeats 4000000 in
theorem valF_run (m : Nat) (s : Sc) (hs : s.bool = .ptr m 0) (hm : h0.get m = some (.cells [.bool false])) (hml : m < h0.n) : ARunE Tryz.prog 59 [.ref none s.cs, .nili] h0 fun v h' => Kp [] h0 h' ∧ v = falseE s.loc := by
  have hs' := hs
  obtain ⟨d, l, bb, t, r, p, pq, e1, e2, e3⟩ := s
  refine X.of (n := 60) (rs := [.tmp 4]) [] ⟨Tryz.func59, rfl, rfl, rfl⟩ rfl ?_
  have H : HI h0 [] h0 [] := HI.nil
  refine X.g H rfl fun h H nN => ?_
  refine X.freeD (StepD.makeNone (c := 8) rfl rfl rfl rfl rfl rfl rfl rfl (by decide)) rfl ?_
  refine X.gm [17] [] H rfl fun h H nN => ?_
  refine X.callQD rfl Tryz.call104 (uneval2_run (k := 0) (hx := h0) (.inl ⟨rfl, rfl⟩) ⟨d, l, bb, t, r, p, pq, e1, e2, e3⟩) ?_
  refine X.gm [17] [] H rfl fun h H nN => ?_
  refine X.sayO 0 (vdC .nili (.vec .none 1 []) ⟨d, l, bb, t, r, p, pq, e1, e2, e3⟩ (.ref none [.ref none (⟨d, l, bb, t, r, p, pq, e1, e2, e3⟩ : Sc).cs, .str [], .int .i64 0, .nilp]) (.ref none [.nilm, .nilm]) .nilsl) H rfl rfl ⟨.refl _, .one _, .refl _, .one _, .one _, .one _, .refl _, trivial⟩ fun h H nN => ?_
  refine X.call rfl Tryz.call105 (vfalse_run _ m _ _ hs _ _ _ H.at_.1 H.at_.2 ((H.kp.get m hml (by simp)).trans hm) (Nat.lt_of_lt_of_le hml H.kp.n)) ?_
  rintro _ h1 ⟨k1, rfl⟩
  replace H := H.same k1
  refine X.gh [91] H rfl fun h H nN => ?_
  refine X.op rfl rfl rfl ?_
  refine X.gh [] H rfl fun h H nN => ?_
  refine X.op rfl rfl rfl ?_
  refine X.gm [54, 58] [90] H rfl fun h H nN => ?_
  exact X.retV [] H rfl ⟨H.kp, rfl⟩
theorem Val_run (ts : List Str) (hok : okB ts = true) {k : Int} {x : AV} (s : Sc) (hs : ScV h0 ts s) (hx : IVo k x h0) : ARunE Tryz.prog 34 [.ref none s.cs, x] h0 fun v h' => Kp [] h0 h' ∧ v = val1 ts k s.loc := by
  rcases hx.form with rfl | ⟨tt, y, rfl⟩
  · refine X.of (n := 8) (rs := [.tmp 4]) [] ⟨Tryz.func34, rfl, rfl, rfl⟩ rfl ?_
    have H : HI h0 [] h0 [] := HI.nil
    refine X.g H rfl fun h H nN => ?_
    refine X.call rfl Tryz.call59 (val_run ts hok s (hs.kp H.kp) (hx.kp H.kp)) ?_
    rintro _ h1 ⟨k1, rfl⟩
    replace H := H.same k1
    unfold val1
    split
    · refine X.g H rfl fun h H nN => ?_
      exact X.retV [] H rfl ⟨H.kp, rfl⟩
    · refine X.g H rfl fun h H nN => ?_
      exact X.retV [] H rfl ⟨H.kp, rfl⟩
  · refine X.of (n := 8) (rs := [.tmp 4]) [] ⟨Tryz.func34, rfl, rfl, rfl⟩ rfl ?_
    have H : HI h0 [] h0 [] := HI.nil
    refine X.g H rfl fun h H nN => ?_
    refine X.call rfl Tryz.call59 (val_run ts hok s (hs.kp H.kp) (hx.kp H.kp)) ?_
    rintro _ h1 ⟨k1, rfl⟩
    replace H := H.same k1
    unfold val1
    split
    · refine X.g H rfl fun h H nN => ?_
      exact X.retV [] H rfl ⟨H.kp, rfl⟩
    · refine X.g H rfl fun h H nN => ?_
      exact X.retV [] H rfl ⟨H.kp, rfl⟩
theorem ValF_run (m : Nat) (s : Sc) (hs : s.bool = .ptr m 0) (hm : h0.get m = some (.cells [.bool false])) (hml : m < h0.n) : ARunE Tryz.prog 34 [.ref none s.cs, .nili] h0 fun v h' => Kp [] h0 h' ∧ v = falseE s.loc := by
  refine X.of (n := 8) (rs := [.tmp 4]) [] ⟨Tryz.func34, rfl, rfl, rfl⟩ rfl ?_
  have H : HI h0 [] h0 [] := HI.nil
  refine X.g H rfl fun h H nN => ?_
  refine X.call rfl Tryz.call59 (valF_run m s hs ((H.kp.get m hml (by simp)).trans hm) (Nat.lt_of_lt_of_le hml H.kp.n)) ?_
  rintro _ h1 ⟨k1, rfl⟩
  replace H := H.same k1
  refine X.g H rfl fun h H nN => ?_
  exact X.retV [] H rfl ⟨H.kp, rfl⟩
end
end Go.Am
end
