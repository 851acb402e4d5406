import Derived.Test.YtlnpifmdjcnflaaGreatDoorS24
set_option linter.unusedVariables false
set_option linter.unusedSimpArgs false
section
namespace Go.Am
open Go.Proofs
set_option maxRecDepth 100000
set_option linter.unusedSimpArgs false
set_option linter.unusedVariables false
attribute [local irreducible] AC AL AW AD ARun
/-- The kind of a bit. -/
def tyS (n : Int) : Str := if n = 2 then [110,117,108,108] else if n = 4 then [98,111,111,108,101,97,110] else if n = 8 then [110,117,109,98,101,114] else if n = 16 then [105,110,116,101,103,101,114] else if n = 32 then [115,116,114,105,110,103] else if n = 64 then [97,114,114,97,121] else if n = 128 then [111,98,106,101,99,116] else []
/-- What two masks share. -/
def andI (a b : Int) : Int := IntKind.i64.wrap ((BitVec.ofInt IntKind.i64.bits a &&& BitVec.ofInt IntKind.i64.bits b).toNat : Int)
section
variable {h h0 : AH} {fE f1 f2 : Bool}
theorem isEmpty_run (n : Int) : ∀ h0, ARun Tryz.prog 146 [.int .i64 n] h0 (.bool (decide (n = 0))) h0 := by
  intro h0
  refine ARun.pure (.bool _) ?_
  refine X.of (n := 5) (rs := [.tmp 2]) [] ⟨Tryz.func146, rfl, rfl, rfl⟩ rfl ?_
  have H : HI h0 [] h0 [] := HI.nil
  refine X.g H rfl fun h H nN => ?_
  exact X.retV [] H rfl ⟨H.kp, fun _ _ _ h => h⟩
theorem contains_run (n m : Int) : ∀ h0, ARun Tryz.prog 147 [.int .i64 n, .int .i64 m] h0 (.bool (!decide (andI n m = 0))) h0 := by
  intro h0
  refine ARun.pure (.bool _) ?_
  refine X.of (n := 9) (rs := [.tmp 4]) [] ⟨Tryz.func147, rfl, rfl, rfl⟩ rfl ?_
  have H : HI h0 [] h0 [] := HI.nil
  refine X.g H rfl fun h H nN => ?_
  exact X.retV [] H rfl ⟨H.kp, fun _ _ _ h => h⟩
theorem tyS_run (n : Int) : ∀ h0, ARun Tryz.prog 148 [.int .i64 n] h0 (.str (tyS n)) h0 := by
  intro h0
  refine ARun.pure (.str _) ?_
  refine X.of (n := 18) (rs := [.tmp 2]) [] ⟨Tryz.func148, rfl, rfl, rfl⟩ rfl ?_
  have H : HI h0 [] h0 [] := HI.nil
  refine X.g H rfl fun h H nN => ?_
  refine X.cond rfl (fun hb => ?_) fun hb0 => ?_
  · refine X.g H rfl fun h H nN => ?_
    refine X.retV [] H rfl ⟨H.kp, fun _ _ _ h => vval h (congrArg AV.str ?_)⟩
    have := of_decide_eq_true hb
    subst this
    decide
  refine X.g H rfl fun h H nN => ?_
  refine X.cond rfl (fun hb => ?_) fun hb1 => ?_
  · refine X.g H rfl fun h H nN => ?_
    refine X.retV [] H rfl ⟨H.kp, fun _ _ _ h => vval h (congrArg AV.str ?_)⟩
    have := of_decide_eq_true hb
    subst this
    decide
  refine X.g H rfl fun h H nN => ?_
  refine X.cond rfl (fun hb => ?_) fun hb2 => ?_
  · refine X.g H rfl fun h H nN => ?_
    refine X.retV [] H rfl ⟨H.kp, fun _ _ _ h => vval h (congrArg AV.str ?_)⟩
    have := of_decide_eq_true hb
    subst this
    decide
  refine X.g H rfl fun h H nN => ?_
  refine X.cond rfl (fun hb => ?_) fun hb3 => ?_
  · refine X.g H rfl fun h H nN => ?_
    refine X.retV [] H rfl ⟨H.kp, fun _ _ _ h => vval h (congrArg AV.str ?_)⟩
    have := of_decide_eq_true hb
    subst this
    decide
  refine X.g H rfl fun h H nN => ?_
  refine X.cond rfl (fun hb => ?_) fun hb4 => ?_
  · refine X.g H rfl fun h H nN => ?_
    refine X.retV [] H rfl ⟨H.kp, fun _ _ _ h => vval h (congrArg AV.str ?_)⟩
    have := of_decide_eq_true hb
    subst this
    decide
  refine X.g H rfl fun h H nN => ?_
  refine X.cond rfl (fun hb => ?_) fun hb5 => ?_
  · refine X.g H rfl fun h H nN => ?_
    refine X.retV [] H rfl ⟨H.kp, fun _ _ _ h => vval h (congrArg AV.str ?_)⟩
    have := of_decide_eq_true hb
    subst this
    decide
  refine X.g H rfl fun h H nN => ?_
  refine X.cond rfl (fun hb => ?_) fun hb6 => ?_
  · refine X.g H rfl fun h H nN => ?_
    refine X.retV [] H rfl ⟨H.kp, fun _ _ _ h => vval h (congrArg AV.str ?_)⟩
    have := of_decide_eq_true hb
    subst this
    decide
  refine X.g H rfl fun h H nN => ?_
  refine X.retV [] H rfl ⟨H.kp, fun _ _ _ h => vval h (congrArg AV.str ?_)⟩
  replace hb0 := of_decide_eq_false hb0
  replace hb1 := of_decide_eq_false hb1
  replace hb2 := of_decide_eq_false hb2
  replace hb3 := of_decide_eq_false hb3
  replace hb4 := of_decide_eq_false hb4
  replace hb5 := of_decide_eq_false hb5
  replace hb6 := of_decide_eq_false hb6
  unfold tyS
  rw [if_neg hb0, if_neg hb1, if_neg hb2, if_neg hb3, if_neg hb4, if_neg hb5, if_neg hb6]
/-- A scope without a parent has no cycle. -/
theorem cycle_run (o : Nat) (a b c : AV) (hg : h0.get o = some (.cells [a, b, c, .nilp])) (ho : o < h0.n) : ARunE Tryz.prog 143 [.ptr o 0] h0 fun v h' => Kp [] h0 h' ∧ v = .nilp := by
  refine X.of (n := 33) (rs := [.tmp 2]) [] ⟨Tryz.func143, rfl, rfl, rfl⟩ rfl ?_
  have H : HI h0 [o] h0 [(o, [a, b, c, .nilp])] := HI.one hg ho
  refine X.g H rfl fun h H nN => ?_
  refine X.roll ?_
  refine X.gh [90] H rfl fun h H nN => ?_
  exact X.retV [] H rfl ⟨H.kp.drop (H.at_.1.trans hg.symm), rfl⟩
end
end Go.Am
end
section
namespace Go.Am
open Go.Proofs
set_option maxRecDepth 100000
set_option linter.unusedSimpArgs false
set_option linter.unusedVariables false
attribute [local irreducible] AC AL AW AD ARun
def bits : List Int := [2, 4, 8, 16, 32, 64, 128]
/-- The names of a mask. -/
def namesM (n : Int) (bs : List Int) : List Str := (bs.filter fun b => !decide (andI n b = 0)).map tyS
section
variable {h h0 : AH} {fE f1 f2 : Bool}
theorem namesM_len (n : Int) (bs : List Int) : (namesM n bs).length ≤ bs.length := by
  simp only [namesM, List.length_map]; exact List.length_filter_le _ _
set_option maxHeartbeats 1000000 in
theorem toStrings_run (n : Int) : ∀ h0, ARun Tryz.prog 149 [.int .i64 n] h0 (sls false (namesM n bits)) h0 := by
  intro h0
  refine ARun.pure (slN_pure fun a _ => strCs_pure a) ?_
  refine X.of (n := 24) (rs := [.tmp 2]) [] ⟨Tryz.func149, rfl, rfl, rfl⟩ rfl ?_
  have H : HI h0 [] h0 [] := HI.nil
  refine X.g H rfl fun h H nN => ?_
  refine X.whileJ 24 (fun p : Nat × AV => 7 - p.1) (fun p => [(0, .int .i64 n), (4, p.2), (8, .vec .full 1 (bits.map fun b => [.int .i64 b])), (9, .int .i64 (7 : Nat)), (10, .int .i64 (p.1 : Nat))])
    (fun p h' => HI h0 [] h' [] ∧ p.1 ≤ 7 ∧ Grows h0 h' 1 p.2 ((namesM n (bits.take p.1)).map strCs) ∧ (p.2 = .nilsl ∨ namesM n (bits.take p.1) ≠ [])) (fun x : AV => [(4, x)]) (fun x h' => HI h0 [] h' [] ∧ Grows h0 h' 1 x ((namesM n bits).map strCs) ∧ (x = .nilsl ∨ namesM n bits ≠ [])) (0, .nilsl) rfl ⟨H, by simp, .inl ⟨rfl, rfl⟩, .inl rfl⟩ ?_ ?_
  · clear H
    rintro ⟨i, x⟩ h ⟨H, hi, G, hz⟩ again done
    simp only at hi G hz again done
    refine X.r H rfl fun h H nN kq => ?_
    replace G := G.kp kq
    refine X.cond rfl (fun hb3 => ?_) fun hb3 => ?_
    · have hlt : i < 7 := by have := of_decide_eq_true hb3; omega
      have hbl : i < bits.length := by simpa [bits] using hlt
      have hc : (bits.map fun b => [AV.int .i64 b])[i]? = some [.int .i64 bits[i]] := by rw [List.getElem?_map, List.getElem?_eq_getElem hbl]; rfl
      have hst : bits.take (i + 1) = bits.take i ++ [bits[i]] := List.take_succ_eq_append_getElem hbl
      refine X.r H rfl fun h H nN kq => ?_
      replace G := G.kp kq
      refine X.free (StepD.indexAddr rfl rfl rfl rfl rfl rfl (Int.natCast_nonneg _) (by rw [Int.toNat_natCast]; exact hc)) rfl ?_
      refine X.r H rfl fun h H nN kq => ?_
      replace G := G.kp kq
      refine X.callQ rfl Tryz.call147 (contains_run n bits[i]) ?_
      refine X.r H rfl fun h H nN kq => ?_
      replace G := G.kp kq
      refine X.cond rfl (fun hb4 => ?_) fun hb4 => ?_
      · refine X.r H rfl fun h H nN kq => ?_
        replace G := G.kp kq
        refine X.callQ rfl Tryz.call148 (tyS_run bits[i]) ?_
        refine X.r H rfl fun h H nN kq => ?_
        replace G := G.kp kq
        have hnl := namesM_len n (bits.take i)
        have htl : (bits.take i).length ≤ 7 := by simp; omega
        refine X.app (by_ := 16) (es := (namesM n (bits.take i)).map strCs) (ys := [strCs (tyS bits[i])]) H rfl rfl rfl rfl rfl rfl rfl G (by simp; omega) fun x' h H G _ => ?_
        refine X.r H rfl fun h H nN kq => ?_
        replace G := G.kp kq
        refine again (i + 1, x') (by simp; omega) (HQ.mk rfl ⟨rfl, rfl, rfl, rfl, vi (wI (by omega)), trivial⟩) ⟨H, by simp; omega, ?_⟩
        have : namesM n (bits.take (i + 1)) = namesM n (bits.take i) ++ [tyS bits[i]] := by
          simp only [namesM, hst, List.filter_append, List.map_append]
          simp [List.filter, hb4]
        exact ⟨by simpa [this] using G, .inr (by simp [this])⟩
      · refine X.r H rfl fun h H nN kq => ?_
        replace G := G.kp kq
        refine again (i + 1, x) (by simp; omega) (HQ.mk rfl ⟨rfl, rfl, rfl, rfl, vi (wI (by omega)), trivial⟩) ⟨H, by simp; omega, ?_⟩
        have : namesM n (bits.take (i + 1)) = namesM n (bits.take i) := by
          simp only [namesM, hst, List.filter_append, List.map_append]
          simp [List.filter, hb4]
        exact ⟨by simpa [this] using G, by simpa [this] using hz⟩
    · have : i = 7 := by have := of_decide_eq_false hb3; omega
      subst this
      refine X.r H rfl fun h H nN kq => ?_
      exact done x rfl ⟨H, G.kp kq, hz⟩
  · clear H
    rintro x h ⟨H, G, hz⟩
    refine X.r H rfl fun h H nN kq => ?_
    replace G := G.kp kq
    refine X.retV [] H rfl ⟨H.kp, oneR_sl (G.sayR fun tk e => ?_) G.isSl⟩
    rcases hz with hz | hz
    · rw [hz] at e; cases e
    · simpa using hz
end
end Go.Am
end
