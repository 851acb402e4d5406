import Derived.Test.YtlnpifmdjcnflaaGreatDoorS13
set_option linter.unusedVariables false
set_option linter.unusedSimpArgs false
namespace Go.Am
open Go.Proofs
set_option maxRecDepth 100000
set_option linter.unusedSimpArgs false
set_option linter.unusedVariables false
attribute [local irreducible] AC AL AW AD ARun
section
variable {P : Program} {lt : LT} {h : AH} {fr : AFr} {ops : List Oper} {o : Oper}
theorem StepD.addS {t u : TypeId} {x y : Operand} {a b : Str} (ho : o.op = .binOp .add t x y u) (hw : aWanted ops fr o.guard = some true) (ex : fr.ev x = .v (.str a)) (ey : fr.ev y = .v (.str b)) (hl : a.length + b.length < 9223372036854775808) : ∀ h, StepD P lt ops o fr h (.v (.str (a ++ b))) h :=
  StepD.pure hw (fun h => by rw [ho]; simp only [aPure, aBin, ex, ey, aBinStr, if_pos hl]) rfl (fun h => by rw [ho]; rfl)
end
abbrev isD (v : AV) : Prop := ∃ m t e b, v = .tup [.agg [.bool m, .str t, .int .i64 e], .bool b]
section
variable {h h0 : AH} {fE f1 f2 : Bool}
set_option maxHeartbeats 2000000 in
theorem decimal_run (s : Str) : TQ 54 [.str s] isD := by
  refine TQ.of (fun r ⟨m, t, e, b, q⟩ => q ▸ .tup _ fun x hx => ?_) fun h0 => ?_
  · simp only [List.mem_cons, List.not_mem_nil, or_false] at hx
    rcases hx with rfl | rfl
    · refine .agg _ fun x hx => ?_
      simp only [List.mem_cons, List.not_mem_nil, or_false] at hx
      rcases hx with rfl | rfl | rfl
      · exact .bool _
      · exact .str _
      · exact .int _ _
    · exact .bool _
  refine X.of (n := 87) (rs := [.cell 2 108, .tmp 3]) [] ⟨Tryz.func54, rfl, rfl, rfl⟩ rfl ?_
  have H : HI h0 [] h0 [] := HI.nil
  refine X.g H rfl fun h H nN => ?_
  refine X.cond rfl (fun hb1 => ?_) fun hb1 => ?_
  · refine X.gh [0] H rfl fun h H nN => ?_
    exact X.retV [0] H rfl ⟨H.kp, _, _, _, _, rfl⟩
  have hl : s.length ≤ 40 := by have := of_decide_eq_false hb1; simp at this; omega
  have hs : Sm s := by unfold Sm; omega
  refine X.q 7 H rfl fun h H nN => ?_
  refine X.seqJ 87 (fun k : Nat => [(0, .str s), (2, .ptr h0.n 0), (4, .int .i64 (k : Nat))]) (fun k h => HI h0 [] h [(h0.n, [.bool false, .str [], .int .i64 0])] ∧ k ≤ s.length) (fun J => ?_) ?_
  · refine X.g H rfl fun h H nN => ?_
    refine X.split rfl (fun hb2 => ?_) fun hb2 => ?_
    · have hlt : s ≠ [] := by simpa using hb2
      have := List.length_pos_iff.2 hlt
      refine X.j H rfl (by simp; omega) fun h H nN => ?_
      refine X.cond rfl (fun hb3 => ?_) fun hb3 => ?_
      · refine X.g H rfl fun h H nN => ?_
        exact J 1 rfl ⟨H, by omega⟩
      · refine X.g H rfl fun h H nN => ?_
        exact J 0 rfl ⟨H, by omega⟩
    · refine X.gh [90] H rfl fun h H nN => ?_
      exact J 0 rfl ⟨H, by omega⟩
  clear H
  rintro k h ⟨H, hk⟩
  refine X.g H rfl fun h H nN => ?_
  refine X.callT rfl Tryz.call92 (run_run s hs k hk) ?_
  rintro _ ⟨j, rfl, hj1, hj⟩
  refine X.g H rfl fun h H nN => ?_
  refine X.sliceS rfl rfl rfl rfl (bnd_at rfl (by omega)) (bnd_at rfl (by omega)) (by omega) (by omega) rfl ?_
  refine X.g H rfl fun h H nN => ?_
  refine X.callT rfl Tryz.call51 (plain_run _ (by unfold Sm; simp; omega)) ?_
  rintro _ ⟨b, rfl⟩
  refine X.g H rfl fun h H nN => ?_
  refine X.cond rfl (fun hb1 => ?_) fun hb1 => ?_
  · refine X.gh [0] H rfl fun h H nN => ?_
    exact X.retV [0] H rfl ⟨H.kp, _, _, _, _, rfl⟩
  refine X.q 8 H rfl fun h H nN => ?_
  refine X.seqJ 87 (fun m : Nat => [(0, .str s), (2, .ptr h0.n 0), (4, .int .i64 (k : Nat)), (5, .int .i64 (j : Nat)), (6, .int .i64 (m : Nat))]) (fun m h => HI h0 [] h [(h0.n, [.bool false, .str [], .int .i64 0])] ∧ j ≤ m ∧ m ≤ s.length) (fun J => ?_) ?_
  · refine X.g H rfl fun h H nN => ?_
    refine X.split rfl (fun hb2 => ?_) fun hb2 => ?_
    · have hlt : j < s.length := by have := of_decide_eq_true hb2; omega
      have e1 : IntKind.i64.wrap ((j : Int) + 1) = (j + 1 : Nat) := wI (by omega)
      refine X.j H rfl (by simp; omega) fun h H nN => ?_
      refine X.cond rfl (fun hb3 => ?_) fun hb3 => ?_
      · refine X.g H rfl fun h H nN => ?_
        refine X.eqi 44 (j + 1) rfl e1 ?_
        refine X.callT rfl Tryz.call92 (run_run s hs (j + 1) (by omega)) ?_
        rintro _ ⟨m, rfl, hm1, hm⟩
        refine X.g H rfl fun h H nN => ?_
        refine X.cond rfl (fun hb4 => ?_) fun hb4 => ?_
        · refine X.gh [0] H rfl fun h H nN => ?_
          exact X.retV [0] H rfl ⟨H.kp, _, _, _, _, rfl⟩
        · refine X.g H rfl fun h H nN => ?_
          exact J m rfl ⟨H, by omega, hm⟩
      · refine X.g H rfl fun h H nN => ?_
        exact J j rfl ⟨H, by omega, hj⟩
    · refine X.gh [90] H rfl fun h H nN => ?_
      exact J j rfl ⟨H, by omega, hj⟩
  clear H
  rintro m h ⟨H, hm1, hm⟩
  refine X.g H rfl fun h H nN => ?_
  refine X.sliceS rfl rfl rfl rfl (bnd_at rfl (by omega)) rfl (by omega) (Nat.le_refl _) rfl ?_
  refine X.g H rfl fun h H nN => ?_
  refine X.callT rfl Tryz.call93 (exponent_run _ (by unfold Sm; simp; omega)) ?_
  rintro _ ⟨e, be, rfl⟩
  refine X.g H rfl fun h H nN => ?_
  refine X.cond rfl (fun hb1 => ?_) fun hb1 => ?_
  · refine X.gh [0] H rfl fun h H nN => ?_
    exact X.retV [0] H rfl ⟨H.kp, _, _, _, _, rfl⟩
  refine X.g H rfl fun h H nN => ?_
  refine X.sliceS rfl rfl rfl rfl (bnd_at rfl (by omega)) (bnd_at rfl (by omega)) (by omega) (by omega) rfl ?_
  refine X.g H rfl fun h H nN => ?_
  refine X.cond rfl (fun hb1 => ?_) fun hb1 => ?_
  · have e1 : IntKind.i64.wrap ((j : Int) + 1) = (j + 1 : Nat) := wI (by omega)
    have : j < m := by have := of_decide_eq_true hb1; omega
    refine X.g H rfl fun h H nN => ?_
    refine X.sliceS rfl rfl rfl rfl (bnd_at rfl (by rw [e1]; omega)) (bnd_at rfl (by omega)) (by rw [e1]; omega) (by omega) rfl ?_
    refine X.free (StepD.addS rfl rfl rfl rfl (by simp; omega)) rfl ?_
    refine X.g H rfl fun h H nN => ?_
    refine X.callT rfl Tryz.call94 (lean_run _ _ (by unfold Sm; simp; omega) _) ?_
    rintro _ ⟨b2, t2, n2, rfl⟩
    refine X.gh [0] H rfl fun h H nN => ?_
    exact X.retV [0] H rfl ⟨H.kp, _, _, _, _, rfl⟩
  · refine X.g H rfl fun h H nN => ?_
    refine X.callT rfl Tryz.call94 (lean_run _ _ (by unfold Sm; simp; omega) _) ?_
    rintro _ ⟨b2, t2, n2, rfl⟩
    refine X.gh [0] H rfl fun h H nN => ?_
    exact X.retV [0] H rfl ⟨H.kp, _, _, _, _, rfl⟩
end
end Go.Am
