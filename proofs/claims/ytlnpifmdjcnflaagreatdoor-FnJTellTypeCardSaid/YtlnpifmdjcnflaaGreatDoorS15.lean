import Derived.Test.YtlnpifmdjcnflaaGreatDoorS14
set_option linter.unusedVariables false
set_option linter.unusedSimpArgs false
namespace Go.Am
open Go.Proofs
set_option maxRecDepth 100000
set_option linter.unusedSimpArgs false
set_option linter.unusedVariables false
attribute [local irreducible] AC AL AW AD ARun
section
variable {h h0 : AH} {fE f1 f2 : Bool}
theorem isDec_run (s : Str) : TQ 32 [.str s] isB := by
  refine TQ.b fun h0 => ?_
  refine X.of (n := 11) (rs := [.tmp 2]) [] ⟨Tryz.func32, rfl, rfl, rfl⟩ rfl ?_
  have H : HI h0 [] h0 [] := HI.nil
  refine X.g H rfl fun h H nN => ?_
  refine X.callT rfl Tryz.call54 (decimal_run s) ?_
  rintro _ ⟨m, t, e, b, rfl⟩
  refine X.gh [0] H rfl fun h H nN => ?_
  exact X.retV [] H rfl ⟨H.kp, _, rfl⟩
set_option maxHeartbeats 4000000 in
theorem width_run (s : Str) (hs : Sm s) (i : Nat) (hi : i < s.length) : TQ 53 [.str s, .int .i64 i] fun r => ∃ n : Nat, r = .int .i64 n ∧ (n = 0 ∨ i + n ≤ s.length) := by
  refine TQ.of (fun r ⟨b, e, _⟩ => e ▸ .int _ _) fun h0 => ?_
  refine X.of (n := 87) (rs := [.tmp 4]) [] ⟨Tryz.func53, rfl, rfl, rfl⟩ rfl ?_
  have H : HI h0 [] h0 [] := HI.nil
  refine X.o 24 H rfl (by simp; omega) fun h H nN _ => ?_
  obtain ⟨c, hc⟩ : ∃ c : Int, c = (s.getD (Int.toNat (i : Int)) 0).toNat := ⟨_, rfl⟩
  rw [← hc]
  clear hc
  refine X.seqJ 87 (fun p : Nat × Int × Int => [(0, .str s), (1, .int .i64 (i : Nat)), (6, .int .i64 (p.1 : Nat)), (7, .int .u8 p.2.1), (8, .int .u8 p.2.2)]) (fun p h => HI h0 [] h [] ∧ 2 ≤ p.1 ∧ p.1 ≤ 4) (fun J => ?_) ?_
  · refine X.g H rfl fun h H nN => ?_
    refine X.cond rfl (fun hb => ?_) fun hb => ?_
    · refine X.g H rfl fun h H nN => ?_
      exact X.retV [] H rfl ⟨H.kp, 1, rfl, by omega⟩
    refine X.seqJ 87 (fun b : Bool => [(0, .str s), (1, .int .i64 (i : Nat)), (5, .int .u8 c), (7, .int .u8 128), (8, .int .u8 191), (16, .bool b)]) (fun _ h => HI h0 [] h []) (fun J2 => ?_) ?_
    · refine X.g H rfl fun h H nN => ?_
      refine X.split rfl (fun _ => ?_) fun _ => ?_
      · refine X.g H rfl fun h H nN => ?_
        exact J2 _ rfl H
      · refine X.g H rfl fun h H nN => ?_
        exact J2 _ rfl H
    clear H
    rintro b h H
    refine X.cond rfl (fun hb => ?_) fun hb => ?_
    · refine X.g H rfl fun h H nN => ?_
      exact J (2, _, _) rfl ⟨H, by simp⟩
    refine X.seqJ 87 (fun b : Bool => [(0, .str s), (1, .int .i64 (i : Nat)), (5, .int .u8 c), (7, .int .u8 128), (8, .int .u8 191), (23, .bool b)]) (fun _ h => HI h0 [] h []) (fun J2 => ?_) ?_
    · refine X.g H rfl fun h H nN => ?_
      refine X.split rfl (fun _ => ?_) fun _ => ?_
      · refine X.g H rfl fun h H nN => ?_
        exact J2 _ rfl H
      · refine X.g H rfl fun h H nN => ?_
        exact J2 _ rfl H
    clear H
    rintro b h H
    refine X.cond rfl (fun hb => ?_) fun hb => ?_
    · refine X.g H rfl fun h H nN => ?_
      refine X.cond rfl (fun hb => ?_) fun hb => ?_
      · refine X.g H rfl fun h H nN => ?_
        refine X.cond rfl (fun hb => ?_) fun hb => ?_
        · refine X.g H rfl fun h H nN => ?_
          exact J (3, _, _) rfl ⟨H, by simp⟩
        · refine X.g H rfl fun h H nN => ?_
          exact J (3, _, _) rfl ⟨H, by simp⟩
      · refine X.g H rfl fun h H nN => ?_
        refine X.cond rfl (fun hb => ?_) fun hb => ?_
        · refine X.g H rfl fun h H nN => ?_
          exact J (3, _, _) rfl ⟨H, by simp⟩
        · refine X.g H rfl fun h H nN => ?_
          exact J (3, _, _) rfl ⟨H, by simp⟩
    refine X.seqJ 87 (fun b : Bool => [(0, .str s), (1, .int .i64 (i : Nat)), (5, .int .u8 c), (7, .int .u8 128), (8, .int .u8 191), (34, .bool b)]) (fun _ h => HI h0 [] h []) (fun J2 => ?_) ?_
    · refine X.g H rfl fun h H nN => ?_
      refine X.split rfl (fun _ => ?_) fun _ => ?_
      · refine X.g H rfl fun h H nN => ?_
        exact J2 _ rfl H
      · refine X.g H rfl fun h H nN => ?_
        exact J2 _ rfl H
    clear H
    rintro b h H
    refine X.cond rfl (fun hb => ?_) fun hb => ?_
    · refine X.g H rfl fun h H nN => ?_
      refine X.cond rfl (fun hb => ?_) fun hb => ?_
      · refine X.g H rfl fun h H nN => ?_
        refine X.cond rfl (fun hb => ?_) fun hb => ?_
        · refine X.g H rfl fun h H nN => ?_
          exact J (4, _, _) rfl ⟨H, by simp⟩
        · refine X.g H rfl fun h H nN => ?_
          exact J (4, _, _) rfl ⟨H, by simp⟩
      · refine X.g H rfl fun h H nN => ?_
        refine X.cond rfl (fun hb => ?_) fun hb => ?_
        · refine X.g H rfl fun h H nN => ?_
          exact J (4, _, _) rfl ⟨H, by simp⟩
        · refine X.g H rfl fun h H nN => ?_
          exact J (4, _, _) rfl ⟨H, by simp⟩
    refine X.g H rfl fun h H nN => ?_
    exact X.retV [] H rfl ⟨H.kp, 0, rfl, .inl rfl⟩
  clear H
  rintro ⟨w, a, b⟩ h ⟨H, hw1, hw2⟩
  simp only at hw1 hw2 H ⊢
  have e0 : IntKind.i64.wrap ((i : Int) + (w : Nat)) = (i + w : Nat) := wI (by omega)
  have e1 : IntKind.i64.wrap ((i : Int) + 1) = (i + 1 : Nat) := wI (by omega)
  refine X.seqJ 87 (fun _ : Unit => [(0, .str s), (1, .int .i64 (i : Nat)), (6, .int .i64 (w : Nat))]) (fun _ h => HI h0 [] h [] ∧ i + w ≤ s.length) (fun J => ?_) ?_
  · refine X.g H rfl fun h H nN => ?_
    refine X.split rfl (fun hb => ?_) fun hb => ?_
    · refine X.gh [92, 91] H rfl fun h H nN => ?_
      exact X.retV [] H rfl ⟨H.kp, 0, rfl, .inl rfl⟩
    have hle : i + w ≤ s.length := by have := of_decide_eq_false hb; rw [e0] at this; omega
    refine X.j H rfl (by simp [e1]; omega) fun h H nN => ?_
    refine X.split rfl (fun hb => ?_) fun hb => ?_
    · refine X.gh [91] H rfl fun h H nN => ?_
      exact X.retV [] H rfl ⟨H.kp, 0, rfl, .inl rfl⟩
    refine X.j H rfl (by simp [e1]; omega) fun h H nN => ?_
    refine X.cond rfl (fun hb => ?_) fun hb => ?_
    · refine X.g H rfl fun h H nN => ?_
      exact X.retV [] H rfl ⟨H.kp, 0, rfl, .inl rfl⟩
    refine X.g H rfl fun h H nN => ?_
    exact J () rfl ⟨H, hle⟩
  clear H
  rintro ⟨⟩ h ⟨H, hle⟩
  refine X.g H rfl fun h H nN => ?_
  refine X.whileJ 87 (fun k : Nat => w - k) (fun k : Nat => [(0, .str s), (1, .int .i64 (i : Nat)), (6, .int .i64 (w : Nat)), (9, .int .i64 (k : Nat))])
    (fun k h' => HI h0 [] h' [] ∧ 2 ≤ k ∧ k ≤ w) (fun _ : Unit => [(6, .int .i64 (w : Nat))]) (fun _ h' => HI h0 [] h' []) 2 rfl ⟨H, by omega, by omega⟩ ?_ ?_
  · clear H
    rintro k h ⟨H, hk1, hk2⟩ again done
    refine X.g H rfl fun h H nN => ?_
    refine X.cond rfl (fun hb3 => ?_) fun hb3 => ?_
    · have hlt : k < w := by have := of_decide_eq_true hb3; omega
      have e2 : IntKind.i64.wrap ((i : Int) + (k : Nat)) = (i + k : Nat) := wI (by omega)
      refine X.j H rfl (by simp [e2]; omega) fun h H nN => ?_
      refine X.split rfl (fun hb => ?_) fun hb => ?_
      · refine X.gh [91] H rfl fun h H nN => ?_
        exact X.retV [] H rfl ⟨H.kp, 0, rfl, .inl rfl⟩
      refine X.j H rfl (by simp [e2]; omega) fun h H nN => ?_
      refine X.cond rfl (fun hb => ?_) fun hb => ?_
      · refine X.g H rfl fun h H nN => ?_
        exact X.retV [] H rfl ⟨H.kp, 0, rfl, .inl rfl⟩
      refine X.g H rfl fun h H nN => ?_
      exact again (k + 1) (by omega) (HQ.mk rfl ⟨rfl, rfl, rfl, vi (wI (by omega)), trivial⟩) ⟨H, by omega, by omega⟩
    · refine X.g H rfl fun h H nN => ?_
      exact done () rfl H
  · clear H
    rintro ⟨⟩ h H
    refine X.g H rfl fun h H nN => ?_
    exact X.retV [] H rfl ⟨H.kp, w, rfl, .inr hle⟩
end
end Go.Am
