import Derived.Test.YtlnpifmdjcnflaaGreatDoorS11
set_option linter.unusedVariables false
set_option linter.unusedSimpArgs false
namespace Go.Am
open Go.Proofs
set_option maxRecDepth 100000
set_option linter.unusedSimpArgs false
set_option linter.unusedVariables false
attribute [local irreducible] AC AL AW AD ARun
abbrev isI (v : AV) : Prop := ∃ n, v = .int .i64 n
theorem TQ.i {f : FuncId} {args : List AV} (H : ∀ h0, ARunE Tryz.prog f args h0 fun v h' => Kp [] h0 h' ∧ isI v) : TQ f args isI := TQ.of (fun v ⟨b, e⟩ => e ▸ .int _ b) H
section
variable {h h0 : AH} {fE f1 f2 : Bool}
theorem digit_run (n : Int) : TQ 133 [.int .u8 n] isB := by
  refine TQ.b fun h0 => ?_
  refine X.of (n := 9) (rs := [.tmp 2]) [] ⟨Tryz.func133, rfl, rfl, rfl⟩ rfl ?_
  have H : HI h0 [] h0 [] := HI.nil
  refine X.g H rfl fun h H nN => ?_
  refine X.split rfl (fun hb => ?_) fun hb => ?_
  · refine X.g H rfl fun h H nN => ?_
    exact X.retV [] H rfl ⟨H.kp, _, rfl⟩
  · refine X.g H rfl fun h H nN => ?_
    exact X.retV [] H rfl ⟨H.kp, _, rfl⟩
abbrev Sm (s : Str) : Prop := s.length ≤ 4611686018427387904
theorem digits_run (s : Str) (hs : Sm s) : TQ 91 [.str s] fun r => ∃ b, r = .bool b ∧ (b = true → s ≠ []) := by
  refine TQ.of (fun r ⟨b, e, _⟩ => e ▸ .bool b) fun h0 => ?_
  refine X.of (n := 18) (rs := [.tmp 2]) [] ⟨Tryz.func91, rfl, rfl, rfl⟩ rfl ?_
  have H : HI h0 [] h0 [] := HI.nil
  refine X.g H rfl fun h H nN => ?_
  refine X.whileJ 18 (fun i : Nat => s.length - i) (fun i => [(0, .str s), (3, .int .i64 (i : Nat))])
    (fun i h' => HI h0 [] h' [] ∧ i ≤ s.length) (fun _ : Unit => [(0, .str s)]) (fun _ h' => HI h0 [] h' []) 0 rfl ⟨H, by omega⟩ ?_ ?_
  · clear H
    rintro i h ⟨H, hi⟩ again done
    refine X.g H rfl fun h H nN => ?_
    refine X.cond rfl (fun hb3 => ?_) fun hb3 => ?_
    · have hlt : i < s.length := by have := of_decide_eq_true hb3; omega
      refine X.j H rfl (by simp; omega) fun h H nN => ?_
      refine X.callT rfl Tryz.call133 (digit_run _) ?_
      rintro _ ⟨b, rfl⟩
      refine X.g H rfl fun h H nN => ?_
      refine X.cond rfl (fun hb4 => ?_) fun hb4 => ?_
      · refine X.g H rfl fun h H nN => ?_
        exact X.retV [] H rfl ⟨H.kp, false, rfl, fun h => by cases h⟩
      · refine X.g H rfl fun h H nN => ?_
        exact again (i + 1) (by omega) (HQ.mk rfl ⟨rfl, vi (wI (by omega)), trivial⟩) ⟨H, by omega⟩
    · refine X.g H rfl fun h H nN => ?_
      exact done () rfl H
  · clear H
    rintro ⟨⟩ h H
    refine X.g H rfl fun h H nN => ?_
    refine X.retV [] H rfl ⟨H.kp, _, rfl, fun h => ?_⟩
    rintro rfl
    simp at h
theorem run_run (s : Str) (hs : Sm s) (i0 : Nat) (hi0 : i0 ≤ s.length) : TQ 92 [.str s, .int .i64 i0] fun r => ∃ j : Nat, r = .int .i64 j ∧ i0 ≤ j ∧ j ≤ s.length := by
  refine TQ.of (fun r ⟨b, e, _⟩ => e ▸ .int _ _) fun h0 => ?_
  refine X.of (n := 18) (rs := [.tmp 4]) [] ⟨Tryz.func92, rfl, rfl, rfl⟩ rfl ?_
  have H : HI h0 [] h0 [] := HI.nil
  refine X.g H rfl fun h H nN => ?_
  refine X.whileJ 18 (fun i : Nat => s.length - i) (fun i => [(0, .str s), (1, .int .i64 (i : Nat))])
    (fun i h' => HI h0 [] h' [] ∧ i0 ≤ i ∧ i ≤ s.length) (fun i : Nat => [(0, .str s), (1, .int .i64 (i : Nat))]) (fun i h' => HI h0 [] h' [] ∧ i0 ≤ i ∧ i ≤ s.length) i0 rfl ⟨H, by omega, by omega⟩ ?_ ?_
  · clear H
    rintro i h ⟨H, hi1, hi⟩ again done
    refine X.g H rfl fun h H nN => ?_
    refine X.split rfl (fun hb3 => ?_) fun hb3 => ?_
    · have hlt : i < s.length := by have := of_decide_eq_true hb3; omega
      refine X.j H rfl (by simp; omega) fun h H nN => ?_
      refine X.callT rfl Tryz.call133 (digit_run _) ?_
      rintro _ ⟨b, rfl⟩
      refine X.g H rfl fun h H nN => ?_
      refine X.cond rfl (fun hb4 => ?_) fun hb4 => ?_
      · refine X.g H rfl fun h H nN => ?_
        exact again (i + 1) (by omega) (HQ.mk rfl ⟨rfl, vi (wI (by omega)), trivial⟩) ⟨H, by omega, by omega⟩
      · refine X.g H rfl fun h H nN => ?_
        exact done i rfl ⟨H, by omega, by omega⟩
    · refine X.gh [90] H rfl fun h H nN => ?_
      exact done i rfl ⟨H, by omega, by omega⟩
  · clear H
    rintro j h ⟨H, h1, h2⟩
    refine X.g H rfl fun h H nN => ?_
    exact X.retV [] H rfl ⟨H.kp, j, rfl, h1, h2⟩
theorem plain_run (s : Str) (hs : Sm s) : TQ 51 [.str s] isB := by
  refine TQ.b fun h0 => ?_
  refine X.of (n := 15) (rs := [.tmp 2]) [] ⟨Tryz.func51, rfl, rfl, rfl⟩ rfl ?_
  have H : HI h0 [] h0 [] := HI.nil
  refine X.g H rfl fun h H nN => ?_
  refine X.callT rfl Tryz.call91 (digits_run s hs) ?_
  rintro _ ⟨b, rfl, hb⟩
  refine X.g H rfl fun h H nN => ?_
  refine X.split rfl (fun hb1 => ?_) fun hb1 => ?_
  · have hne := List.length_pos_iff.2 (hb hb1)
    refine X.g H rfl fun h H nN => ?_
    refine X.split rfl (fun hb2 => ?_) fun hb2 => ?_
    · refine X.gh [92] H rfl fun h H nN => ?_
      exact X.retV [] H rfl ⟨H.kp, _, rfl⟩
    · refine X.jh [92] H rfl (by simp; omega) fun h H nN => ?_
      exact X.retV [] H rfl ⟨H.kp, _, rfl⟩
  · refine X.gh [92, 92] H rfl fun h H nN => ?_
    exact X.retV [] H rfl ⟨H.kp, _, rfl⟩
theorem number_run (s : Str) (hs : Sm s) : TQ 52 [.str s] isI := by
  refine TQ.i fun h0 => ?_
  refine X.of (n := 20) (rs := [.tmp 2]) [] ⟨Tryz.func52, rfl, rfl, rfl⟩ rfl ?_
  have H : HI h0 [] h0 [] := HI.nil
  refine X.g H rfl fun h H nN => ?_
  refine X.whileJ 20 (fun p : Nat × Int => s.length - p.1) (fun p => [(0, .str s), (3, .int .i64 p.2), (4, .int .i64 (p.1 : Nat))])
    (fun p h' => HI h0 [] h' [] ∧ p.1 ≤ s.length) (fun n : Int => [(3, .int .i64 n)]) (fun _ h' => HI h0 [] h' []) (0, 0) rfl ⟨H, by simp⟩ ?_ ?_
  · clear H
    rintro ⟨i, n⟩ h ⟨H, hi⟩ again done
    simp only at hi again done
    refine X.g H rfl fun h H nN => ?_
    refine X.cond rfl (fun hb3 => ?_) fun hb3 => ?_
    · have hlt : i < s.length := by have := of_decide_eq_true hb3; omega
      refine X.j H rfl (by simp; omega) fun h H nN => ?_
      exact again (i + 1, _) (by simp; omega) (HQ.mk rfl ⟨rfl, rfl, vi (wI (by omega)), trivial⟩) ⟨H, by simp; omega⟩
    · refine X.g H rfl fun h H nN => ?_
      exact done n rfl H
  · clear H
    rintro n h H
    refine X.g H rfl fun h H nN => ?_
    exact X.retV [] H rfl ⟨H.kp, _, rfl⟩
end
end Go.Am
