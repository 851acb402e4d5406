import Derived.Test.YtlnpifmdjcnflaaGreatDoorS42
set_option linter.unusedVariables false
set_option linter.unusedSimpArgs false
namespace Go.Am
open Go.Proofs
set_option maxRecDepth 100000
set_option linter.unusedSimpArgs false
set_option linter.unusedVariables false
attribute [local irreducible] AC AL AW AD ARun
theorem HI.tl {h0 h : AH} {ids : List Nat} {a : Nat × List AV} {V : View} (H : HI h0 ids h (a :: V)) : HI h0 ids h V := ⟨H.hv.2, H.kp, fun e he => H.new e (List.mem_cons_of_mem _ he)⟩
/-- A verdict, and marks. -/
abbrev isJ (c : Bool) (v : AV) : Prop := ∃ o n : Nat, v = .tup [.bool c, .sl o 0 n n true]
section
variable {h h0 : AH} {fE f1 f2 : Bool}
set_option maxHeartbeats 8000000 in
theorem judge_run (v : JV) (hv : v.Fit) (ts : List Str) (hl : ts.length ≤ 2147483647) : ∀ h0, ARunE Tryz.prog 26 [.int .i64 2020, ndS 0 fE ts, .int .i64 1, .agg v.cs] h0 fun r h' => Kp [] h0 h' ∧ isJ (decide (ts = [] ∨ kindS v.k ∈ ts)) r := by
  intro h0
  have hk2 : v.k ≠ 2 := by obtain ⟨k, b, n, t, ns, xs, f1, f2⟩ := v; exact hv.nn.get.1
  have hvals := values_run (fE := fE) v hk2 ts hl
  generalize decide (ts = [] ∨ kindS v.k ∈ ts) = c at hvals ⊢
  have hpl := fun o a n m ex => inPlace_run (fE := fE) 2020 0 ts v o a n m ex
  have harr := fun h o hg ho => arrayS_run (h0 := h) (fE := fE) v hv ts o hg ho
  have hobj := fun h5 o a n m ex => objectS_run (fE := fE) v hv h5 ts o a n m ex
  obtain ⟨k, b, n, t, ns, xs, f1, f2⟩ := v
  have hrun := runes_run t (by cases hv.sm; assumption)
  obtain ⟨hn, hx, -⟩ := hv.sm.get
  simp only [JV.k, JV.xs, JV.cs_mk] at hk2 hvals hpl harr hobj ⊢
  have hE6 := slG_elems f2 6 (xs.map JV.cs)
  have hL6 : (xs.map JV.cs).length = xs.length := by simp
  refine X.of (n := 108) (rs := [.tmp 8, .tmp 9]) [] ⟨Tryz.func26, rfl, rfl, rfl⟩ rfl ?_
  have H : HI h0 [] h0 [] := HI.nil
  refine X.gm [5, 7] [] H rfl fun h H nN => ?_
  refine X.free (StepD.indexAddr rfl rfl rfl rfl rfl rfl (by decide) rfl) rfl ?_
  have hN := H.kp.n
  refine X.gm [] [0] H rfl fun h H nN => ?_
  refine X.freezeO 10 H.tl rfl H.at_.1 (fun e he => by cases he) hN fun H => ?_
  refine X.lenZ 6 rfl rfl rfl rfl rfl hE6 rfl rfl rfl ?_
  refine X.g H rfl fun hR H nN => ?_
  rw [hL6]
  have pR := H.kp.n
  refine X.st (StepD.makeB (l := xs.length) (c := xs.length) rfl rfl rfl rfl rfl rfl rfl rfl rfl rfl (Nat.le_refl _) (by show 2 * xs.length ≤ _; omega)) rfl ?_
  have R : RI (hR.push (nMarks xs.length)) hR.n xs.length (hR.push (nMarks xs.length)) := ⟨HI.nil, by simp [AH.push], by simp [AH.push]⟩
  replace H := HI.pushO (x := nMarks xs.length) H
  have hK : Kp [] h0 (hR.push (nMarks xs.length)) := H.kp
  clear H
  refine X.w [] [90] R rfl fun h R => ?_
  refine X.callQ rfl Tryz.call37 hvals ?_
  refine X.w [] [] R rfl fun h R => ?_
  refine X.callQ rfl Tryz.call38 (hpl _ _ _ _ _) ?_
  refine X.w [] [90] R rfl fun h R => ?_
  refine X.cond rfl (fun hb => absurd (of_decide_eq_true hb) hk2) fun hb2 => ?_
  refine X.w [] [] R rfl fun h R => ?_
  refine X.cond rfl (fun hb => ?_) fun hb3 => ?_
  · refine X.w [] [] R rfl fun h R => ?_
    refine X.splitD rfl (fun hbc => ?_) fun hbc => ?_
    · refine X.w [] [] R rfl fun h R => ?_
      refine X.callTD rfl Tryz.call42 hrun ?_
      rintro _ ⟨nr, rfl⟩
      refine X.w [] [] R rfl fun h R => ?_
      refine X.callQD rfl Tryz.call41 (bounded_run _) ?_
      refine X.w [] [92] R rfl fun h R => ?_
      refine X.callQD rfl Tryz.call43 (taken_run _) ?_
      refine X.w [] [92] R rfl fun h R => ?_
      refine X.callQD rfl Tryz.call43 (taken_run _) ?_
      refine X.w [] [] R rfl fun h R => ?_
      refine X.cond rfl (fun hb => ?_) fun hb => ?_
      · have hc : c = false := by rw [hbc]; simp at hb
        refine X.w [] [] R rfl fun h R => ?_
        refine X.freeD (StepD.lenZ 6 rfl rfl rfl rfl rfl hE6 rfl rfl rfl) rfl ?_
        refine X.w [] [] R rfl fun h R => ?_
        rw [hL6]
        refine X.stD (StepD.makeB (l := xs.length) (c := xs.length) rfl rfl rfl rfl rfl rfl rfl rfl rfl rfl (Nat.le_refl _) (by show 2 * xs.length ≤ _; omega)) rfl ?_
        have H2 := HI.pushO (x := nMarks xs.length) R.hi
        refine X.g H2 rfl fun h H2 nN => ?_
        exact X.retV [] H2 rfl ⟨hK.step H2.kp (by simp; omega), _, _, by rw [hc]; rfl⟩
      · have hc : c = true := hbc
        refine X.w [] [] R rfl fun h R => ?_
        exact X.retV [] R.hi rfl ⟨hK.step R.hi.kp (by simp; omega), _, _, by rw [hc]; rfl⟩
    · refine X.w [] [92, 92] R rfl fun h R => ?_
      refine X.cond rfl (fun hb => ?_) fun hb => ?_
      · have hc : c = false := hbc
        refine X.w [] [] R rfl fun h R => ?_
        refine X.freeD (StepD.lenZ 6 rfl rfl rfl rfl rfl hE6 rfl rfl rfl) rfl ?_
        refine X.w [] [] R rfl fun h R => ?_
        rw [hL6]
        refine X.stD (StepD.makeB (l := xs.length) (c := xs.length) rfl rfl rfl rfl rfl rfl rfl rfl rfl rfl (Nat.le_refl _) (by show 2 * xs.length ≤ _; omega)) rfl ?_
        have H2 := HI.pushO (x := nMarks xs.length) R.hi
        refine X.g H2 rfl fun h H2 nN => ?_
        exact X.retV [] H2 rfl ⟨hK.step H2.kp (by simp; omega), _, _, by rw [hc]; rfl⟩
      · have hc : c = true := by rw [hbc]; simp at hb
        refine X.w [] [] R rfl fun h R => ?_
        exact X.retV [] R.hi rfl ⟨hK.step R.hi.kp (by simp; omega), _, _, by rw [hc]; rfl⟩
  refine X.w [] [] R rfl fun h R => ?_
  refine X.cond rfl (fun hb => ?_) fun hb4 => ?_
  · refine X.w [] [] R rfl fun h R => ?_
    refine X.call rfl Tryz.call44 (harr h _ R.g R.l) ?_
    rintro _ h1 ⟨k1, rfl⟩
    replace R := R.kp k1
    refine X.w [] [92] R rfl fun h R => ?_
    refine X.cond rfl (fun hb => ?_) fun hb => ?_
    · have hc : c = false := by simpa using hb
      refine X.w [] [] R rfl fun h R => ?_
      refine X.freeD (StepD.lenZ 6 rfl rfl rfl rfl rfl hE6 rfl rfl rfl) rfl ?_
      refine X.w [] [] R rfl fun h R => ?_
      rw [hL6]
      refine X.stD (StepD.makeB (l := xs.length) (c := xs.length) rfl rfl rfl rfl rfl rfl rfl rfl rfl rfl (Nat.le_refl _) (by show 2 * xs.length ≤ _; omega)) rfl ?_
      have H2 := HI.pushO (x := nMarks xs.length) R.hi
      refine X.g H2 rfl fun h H2 nN => ?_
      exact X.retV [] H2 rfl ⟨hK.step H2.kp (by simp; omega), _, _, by rw [hc]; rfl⟩
    · have hc : c = true := by simpa using hb
      refine X.w [] [] R rfl fun h R => ?_
      exact X.retV [] R.hi rfl ⟨hK.step R.hi.kp (by simp; omega), _, _, by rw [hc]; rfl⟩
  refine X.w [] [] R rfl fun h R => ?_
  refine X.cond rfl (fun hb => ?_) fun hb5 => ?_
  · refine X.w [] [] R rfl fun h R => ?_
    refine X.callQ rfl Tryz.call45 (hobj (of_decide_eq_true hb) _ _ _ _ _) ?_
    refine X.w [] [92] R rfl fun h R => ?_
    refine X.cond rfl (fun hb => ?_) fun hb => ?_
    · have hc : c = false := by simpa using hb
      refine X.w [] [] R rfl fun h R => ?_
      refine X.freeD (StepD.lenZ 6 rfl rfl rfl rfl rfl hE6 rfl rfl rfl) rfl ?_
      refine X.w [] [] R rfl fun h R => ?_
      rw [hL6]
      refine X.stD (StepD.makeB (l := xs.length) (c := xs.length) rfl rfl rfl rfl rfl rfl rfl rfl rfl rfl (Nat.le_refl _) (by show 2 * xs.length ≤ _; omega)) rfl ?_
      have H2 := HI.pushO (x := nMarks xs.length) R.hi
      refine X.g H2 rfl fun h H2 nN => ?_
      exact X.retV [] H2 rfl ⟨hK.step H2.kp (by simp; omega), _, _, by rw [hc]; rfl⟩
    · have hc : c = true := by simpa using hb
      refine X.w [] [] R rfl fun h R => ?_
      exact X.retV [] R.hi rfl ⟨hK.step R.hi.kp (by simp; omega), _, _, by rw [hc]; rfl⟩
  refine X.w [] [] R rfl fun h R => ?_
  refine X.cond rfl (fun hb => ?_) fun hb => ?_
  · have hc : c = false := by simpa using hb
    refine X.w [] [] R rfl fun h R => ?_
    refine X.freeD (StepD.lenZ 6 rfl rfl rfl rfl rfl hE6 rfl rfl rfl) rfl ?_
    refine X.w [] [] R rfl fun h R => ?_
    rw [hL6]
    refine X.stD (StepD.makeB (l := xs.length) (c := xs.length) rfl rfl rfl rfl rfl rfl rfl rfl rfl rfl (Nat.le_refl _) (by show 2 * xs.length ≤ _; omega)) rfl ?_
    have H2 := HI.pushO (x := nMarks xs.length) R.hi
    refine X.g H2 rfl fun h H2 nN => ?_
    exact X.retV [] H2 rfl ⟨hK.step H2.kp (by simp; omega), _, _, by rw [hc]; rfl⟩
  · have hc : c = true := by simpa using hb
    refine X.w [] [] R rfl fun h R => ?_
    exact X.retV [] R.hi rfl ⟨hK.step R.hi.kp (by simp; omega), _, _, by rw [hc]; rfl⟩
end
end Go.Am
