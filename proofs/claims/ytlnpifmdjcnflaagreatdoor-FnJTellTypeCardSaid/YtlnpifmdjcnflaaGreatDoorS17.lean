import Derived.Test.YtlnpifmdjcnflaaGreatDoorS16
set_option linter.unusedVariables false
set_option linter.unusedSimpArgs false
namespace Go.Am
open Go.Proofs
set_option maxRecDepth 100000
set_option linter.unusedSimpArgs false
set_option linter.unusedVariables false
attribute [local irreducible] AC AL AW AD ARun
/-- No number, nowhere. -/
inductive JV.Nn : JV → Prop where
  | mk {k b n t ns xs f1 f2} (h0 : k ≠ 2) (hxs : ∀ x ∈ xs, JV.Nn x) : JV.Nn (.mk k b n t ns xs f1 f2)
section
variable {h h0 : AH} {fE f1 f2 : Bool}
theorem proper_run (v : JV) (hv : v.Sm) : TQ 13 [.agg v.cs] fun r => ∃ b, r = .bool b ∧ (b = true → v.Ok) := by
  refine TQ.of (fun r ⟨b, e, _⟩ => e ▸ .bool b) fun h0 => ?_
  have hq := properIn_run 1000 (by decide) v hv
  obtain ⟨b, n, z1, z2, e⟩ := v.shape
  rw [e] at hq ⊢
  refine X.of (n := 5) (rs := [.tmp 2]) [] ⟨Tryz.func13, rfl, rfl, rfl⟩ rfl ?_
  have H : HI h0 [] h0 [] := HI.nil
  refine X.g H rfl fun h H nN => ?_
  refine X.callT rfl Tryz.call24 hq ?_
  rintro _ ⟨b5, rfl, h5⟩
  refine X.g H rfl fun h H nN => ?_
  exact X.retV [] H rfl ⟨H.kp, _, rfl, h5⟩
set_option maxHeartbeats 1000000 in
theorem counts_run : ∀ (N : Nat) (v : JV), SizeOf.sizeOf v < N → v.Sm → TQ 14 [.agg v.cs] fun r => ∃ b, r = .bool b ∧ (b = true → v.Nn) := by
  intro N
  induction N with
  | zero => intro v h; omega
  | succ N ih =>
  intro v hN hv
  refine TQ.of (fun r ⟨b, e, _⟩ => e ▸ .bool b) fun h0 => ?_
  obtain ⟨ht, hn, hns, hx, hxs⟩ := hv
  rename_i k b n t ns xs f1 f2
  rw [JV.cs_mk]
  refine X.of (n := 21) (rs := [.tmp 2]) [] ⟨Tryz.func14, rfl, rfl, rfl⟩ rfl ?_
  have H : HI h0 [] h0 [] := HI.nil
  have hE6 := slG_elems f2 6 (xs.map JV.cs)
  have hL6 : (xs.map JV.cs).length = xs.length := by simp
  refine X.g H rfl fun h H nN => ?_
  refine X.cond rfl (fun hb => ?_) fun hb => ?_
  · refine X.g H rfl fun h H nN => ?_
    exact X.retV [] H rfl ⟨H.kp, false, rfl, fun h => by cases h⟩
  have hk2 : k ≠ 2 := of_decide_eq_false hb
  refine X.g H rfl fun h H nN => ?_
  refine X.whileJ 21 (fun i : Nat => xs.length - i) (fun i => [(1, .ptr h0.n 0), (3, .int .i64 (i : Nat))])
    (fun i h' => HI h0 [] h' [(h0.n, [AV.int .i64 k, .bool b, .int .i64 n, .str t, .one (slG f1 1 (ns.map strCs)), .one (slG f2 6 (xs.map JV.cs))])] ∧ i ≤ xs.length ∧ ∀ j < i, ∀ x, xs[j]? = some x → x.Nn) (fun _ : Unit => [])
    (fun _ h' => HI h0 [] h' [(h0.n, [AV.int .i64 k, .bool b, .int .i64 n, .str t, .one (slG f1 1 (ns.map strCs)), .one (slG f2 6 (xs.map JV.cs))])] ∧ ∀ x ∈ xs, x.Nn) 0 rfl ⟨H, by omega, fun j h => by omega⟩ ?_ ?_
  · clear H
    rintro i h ⟨H, hi, ho⟩ again done
    refine X.g H rfl fun h H nN => ?_
    refine X.lenZ 6 rfl rfl rfl rfl rfl hE6 rfl rfl rfl ?_
    refine X.g H rfl fun h H nN => ?_
    refine X.cond rfl (fun hb3 => ?_) fun hb3 => ?_
    · have hlt : i < xs.length := by have := of_decide_eq_true hb3; rw [hL6] at this; omega
      have hc : (xs.map JV.cs)[i]? = some (xs[i].cs) := by simp [hlt]
      refine X.g H rfl fun h H nN => ?_
      refine X.unO 15 rfl ?_
      rw [slG_vec (sz := 6) (by rw [hL6]; exact hlt)] at again H ⊢
      refine X.free (StepD.indexAddr rfl rfl rfl rfl rfl rfl (Int.natCast_nonneg _) (by rw [Int.toNat_natCast]; exact hc)) rfl ?_
      have hlt2 : SizeOf.sizeOf xs[i] < N := by
        have := List.sizeOf_lt_of_mem (List.getElem_mem hlt)
        simp at hN
        omega
      have hq := ih xs[i] hlt2 (hxs _ (List.getElem_mem hlt))
      obtain ⟨b7, n7, z1, z2, e7⟩ := xs[i].shape
      rw [e7] at hq ⊢
      refine X.g H rfl fun h H nN => ?_
      refine X.callT rfl Tryz.call14 hq ?_
      rintro _ ⟨b5, rfl, h5⟩
      refine X.g H rfl fun h H nN => ?_
      refine X.cond rfl (fun hb4 => ?_) fun hb4 => ?_
      · refine X.g H rfl fun h H nN => ?_
        exact X.retV [] H rfl ⟨H.kp, false, rfl, fun h => by cases h⟩
      · refine X.g H rfl fun h H nN => ?_
        refine again (i + 1) (by omega) (HQ.mk rfl ⟨rfl, vi (wI (by omega)), trivial⟩) ⟨H, by omega, fun j hj x hx => ?_⟩
        by_cases e : j = i
        · subst e; rw [List.getElem?_eq_getElem hlt] at hx; injection hx with hx; subst hx; exact h5 (by simpa using hb4)
        · exact ho j (by omega) x hx
    · have : i = xs.length := by have := of_decide_eq_false hb3; rw [hL6] at this; omega
      subst this
      refine X.g H rfl fun h H nN => ?_
      refine done () rfl ⟨H, fun x hx => ?_⟩
      obtain ⟨j, hj, rfl⟩ := List.mem_iff_getElem.1 hx
      exact ho j hj _ (List.getElem?_eq_getElem hj)
  clear H
  rintro ⟨⟩ h ⟨H, hok⟩
  refine X.g H rfl fun h H nN => ?_
  exact X.retV [] H rfl ⟨H.kp, true, rfl, fun _ => ⟨hk2, hok⟩⟩
set_option maxHeartbeats 1000000 in
theorem countless_run (tk : Tk) (v : JV) (hv : v.Sm) : TQ 8 [.vec tk 6 [v.cs]] fun r => ∃ b, r = .bool b ∧ (b = true → v.Ok ∧ v.Nn) := by
  refine TQ.of (fun r ⟨b, e, _⟩ => e ▸ .bool b) fun h0 => ?_
  have hq1 := proper_run v hv
  have hq2 := counts_run _ v (Nat.lt_succ_self _) hv
  obtain ⟨b, n, z1, z2, e⟩ := v.shape
  rw [e] at hq1 hq2 ⊢
  refine X.of (n := 24) (rs := [.tmp 2]) [] ⟨Tryz.func8, rfl, rfl, rfl⟩ rfl ?_
  have H : HI h0 [] h0 [] := HI.nil
  refine X.g H rfl fun h H nN => ?_
  refine X.roll ?_
  refine X.gh [91] H rfl fun h H nN => ?_
  refine X.free (StepD.indexAddr rfl rfl rfl rfl rfl rfl (by decide) rfl) rfl ?_
  refine X.g H rfl fun h H nN => ?_
  refine X.callT rfl Tryz.call13 hq1 ?_
  rintro _ ⟨b5, rfl, h5⟩
  refine X.g H rfl fun h H nN => ?_
  refine X.split rfl (fun hb => ?_) fun hb => ?_
  · refine X.gh [91] H rfl fun h H nN => ?_
    exact X.retV [] H rfl ⟨H.kp, false, rfl, fun h => by cases h⟩
  refine X.g H rfl fun h H nN => ?_
  refine X.free (StepD.indexAddr rfl rfl rfl rfl rfl rfl (by decide) rfl) rfl ?_
  refine X.g H rfl fun h H nN => ?_
  refine X.callT rfl Tryz.call14 hq2 ?_
  rintro _ ⟨b6, rfl, h6⟩
  refine X.g H rfl fun h H nN => ?_
  refine X.cond rfl (fun hb4 => ?_) fun hb4 => ?_
  · refine X.g H rfl fun h H nN => ?_
    exact X.retV [] H rfl ⟨H.kp, false, rfl, fun h => by cases h⟩
  refine X.g H rfl fun h H nN => ?_
  refine X.eqi 3 1 rfl (by decide) ?_
  refine X.rollN ?_
  refine X.gh [90] H rfl fun h H nN => ?_
  exact X.retV [] H rfl ⟨H.kp, true, rfl, fun _ => ⟨h5 (by simpa using hb), h6 (by simpa using hb4)⟩⟩
end
end Go.Am
