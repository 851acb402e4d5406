import Derived.Test.YtlnpifmdjcnflaaGreatDoorS12
set_option linter.unusedVariables false
set_option linter.unusedSimpArgs false
section
namespace Go.Am
open Go.Proofs
set_option maxRecDepth 100000
set_option linter.unusedSimpArgs false
set_option linter.unusedVariables false
attribute [local irreducible] AC AL AW AD ARun
abbrev isS (s : Str) (v : AV) : Prop := ∃ t : Str, v = .str t ∧ t.length ≤ s.length
section
variable {h h0 : AH} {fE f1 f2 : Bool}
theorem bare_run (s : Str) : TQ 134 [.str s] (isS s) := by
  refine TQ.of (fun r ⟨b, e, _⟩ => e ▸ .str _) fun h0 => ?_
  refine X.of (n := 13) (rs := [.tmp 2]) [] ⟨Tryz.func134, rfl, rfl, rfl⟩ rfl ?_
  have H : HI h0 [] h0 [] := HI.nil
  refine X.g H rfl fun h H nN => ?_
  refine X.whileJ 13 (fun t : Str => t.length) (fun t => [(0, .str t)])
    (fun t h' => HI h0 [] h' [] ∧ t.length ≤ s.length) (fun t : Str => [(0, .str t)]) (fun t h' => HI h0 [] h' [] ∧ t.length ≤ s.length) s rfl ⟨H, by omega⟩ ?_ ?_
  · clear H
    rintro t h ⟨H, hi⟩ again done
    refine X.g H rfl fun h H nN => ?_
    refine X.split rfl (fun hb3 => ?_) fun hb3 => ?_
    · have hlt : t ≠ [] := by simpa using hb3
      have := List.length_pos_iff.2 hlt
      refine X.j H rfl (by simp; omega) fun h H nN => ?_
      refine X.cond rfl (fun hb4 => ?_) fun hb4 => ?_
      · refine X.g H rfl fun h H nN => ?_
        refine X.sliceS rfl rfl rfl rfl (bnd_at rfl (by decide)) rfl (by simp; omega) (Nat.le_refl _) rfl ?_
        refine X.g H rfl fun h H nN => ?_
        exact again _ (by simp; omega) (HQ.mk rfl ⟨rfl, trivial⟩) ⟨H, by simp; omega⟩
      · refine X.g H rfl fun h H nN => ?_
        exact done t rfl ⟨H, hi⟩
    · refine X.gh [90] H rfl fun h H nN => ?_
      exact done t rfl ⟨H, hi⟩
  · clear H
    rintro j h ⟨H, h1⟩
    refine X.g H rfl fun h H nN => ?_
    exact X.retV [] H rfl ⟨H.kp, j, rfl, h1⟩
theorem lean_run (b : Bool) (s : Str) (hs : Sm s) (n : Int) : TQ 94 [.agg [.bool b, .str s, .int .i64 n]] fun r => ∃ b t m, r = .agg [.bool b, .str t, .int .i64 m] := by
  refine TQ.of (fun r ⟨b, t, m, e⟩ => e ▸ .agg _ fun x hx => ?_) fun h0 => ?_
  · simp only [List.mem_cons, List.not_mem_nil, or_false] at hx
    rcases hx with rfl | rfl | rfl
    · exact .bool _
    · exact .str _
    · exact .int _ _
  refine X.of (n := 37) (rs := [.cell 2 108]) [] ⟨Tryz.func94, rfl, rfl, rfl⟩ rfl ?_
  have H : HI h0 [] h0 [] := HI.nil
  refine X.g H rfl fun h H nN => ?_
  refine X.callT rfl Tryz.call134 (bare_run s) ?_
  rintro _ ⟨t0, rfl, ht0⟩
  refine X.gh [0] H rfl fun h H nN => ?_
  refine X.whileJ 37 (fun p : Str × Int => p.1.length) (fun _ => [(1, .ptr h0.n 0), (2, .ptr (h0.n + 1) 0)])
    (fun p h' => HI h0 [] h' [(h0.n, [.bool b, .str p.1, .int .i64 p.2]), (h0.n + 1, [.bool false, .str [], .int .i64 0])] ∧ p.1.length ≤ s.length)
    (fun _ : Str × Int => [(1, .ptr h0.n 0), (2, .ptr (h0.n + 1) 0)])
    (fun p h' => HI h0 [] h' [(h0.n, [.bool b, .str p.1, .int .i64 p.2]), (h0.n + 1, [.bool false, .str [], .int .i64 0])]) (t0, n) rfl ⟨H, ht0⟩ ?_ ?_
  · clear H
    rintro ⟨t, m⟩ h ⟨H, hi⟩ again done
    simp only at H hi again done
    refine X.g H rfl fun h H nN => ?_
    refine X.split rfl (fun hb3 => ?_) fun hb3 => ?_
    · have hlt : t ≠ [] := by simpa using hb3
      have := List.length_pos_iff.2 hlt
      have e1 : IntKind.i64.wrap ((t.length : Int) - 1) = (t.length - 1 : Nat) := wI (by omega)
      refine X.j H rfl (by simp [e1]; omega) fun h H nN => ?_
      refine X.cond rfl (fun hb4 => ?_) fun hb4 => ?_
      · refine X.g H rfl fun h H nN => ?_
        refine X.sliceS rfl rfl rfl rfl rfl (bnd_at rfl (by rw [e1]; omega)) (by omega) (by rw [e1]; omega) rfl ?_
        refine X.gh [0, 0] H rfl fun h H nN => ?_
        exact again (_, _) (by simp [e1]; omega) rfl ⟨H, by simp [e1]; omega⟩
      · refine X.g H rfl fun h H nN => ?_
        exact done (t, m) rfl H
    · refine X.gh [90] H rfl fun h H nN => ?_
      exact done (t, m) rfl H
  · clear H
    rintro ⟨t, m⟩ h H
    simp only at H
    refine X.g H rfl fun h H nN => ?_
    refine X.cond rfl (fun hb4 => ?_) fun hb4 => ?_
    · refine X.gh [1] H rfl fun h H nN => ?_
      exact X.retV [1] H rfl ⟨H.kp, _, _, _, rfl⟩
    · refine X.gh [0, 1] H rfl fun h H nN => ?_
      exact X.retV [1] H rfl ⟨H.kp, _, _, _, rfl⟩
end
end Go.Am
end
section
namespace Go.Am
open Go.Proofs
set_option maxRecDepth 100000
set_option linter.unusedSimpArgs false
set_option linter.unusedVariables false
attribute [local irreducible] AC AL AW AD ARun
abbrev isX (v : AV) : Prop := ∃ n b, v = .tup [.int .i64 n, .bool b]
section
variable {h h0 : AH} {fE f1 f2 : Bool}
set_option maxHeartbeats 1000000 in
theorem exponent_run (s : Str) (hs : Sm s) : TQ 93 [.str s] isX := by
  refine TQ.of (fun r ⟨n, b, e⟩ => e ▸ .tup _ fun x hx => ?_) fun h0 => ?_
  · simp only [List.mem_cons, List.not_mem_nil, or_false] at hx
    rcases hx with rfl | rfl
    · exact .int _ _
    · exact .bool _
  refine X.of (n := 50) (rs := [.tmp 2, .tmp 3]) [] ⟨Tryz.func93, rfl, rfl, rfl⟩ rfl ?_
  have H : HI h0 [] h0 [] := HI.nil
  refine X.g H rfl fun h H nN => ?_
  refine X.cond rfl (fun hb1 => ?_) fun hb1 => ?_
  · refine X.g H rfl fun h H nN => ?_
    exact X.retV [] H rfl ⟨H.kp, _, _, rfl⟩
  have hne : s ≠ [] := by simpa using hb1
  have hpos := List.length_pos_iff.2 hne
  refine X.q 3 H rfl fun h H nN => ?_
  refine X.seqJ 50 (fun b : Bool => [(0, .str s), (14, .bool b)]) (fun _ h => HI h0 [] h []) (fun J => ?_) ?_
  · refine X.j H rfl (by simp; omega) fun h H nN => ?_
    refine X.split rfl (fun hb2 => ?_) fun hb2 => ?_
    · refine X.j H rfl (by simp; omega) fun h H nN => ?_
      exact J _ rfl H
    · refine X.g H rfl fun h H nN => ?_
      exact J _ rfl H
  clear H
  rintro b14 h H
  refine X.g H rfl fun h H nN => ?_
  refine X.cond rfl (fun hb3 => ?_) fun hb3 => ?_
  · refine X.g H rfl fun h H nN => ?_
    exact X.retV [] H rfl ⟨H.kp, _, _, rfl⟩
  refine X.g H rfl fun h H nN => ?_
  refine X.sliceS rfl rfl rfl rfl (bnd_at rfl (by decide)) rfl (by simp; omega) (Nat.le_refl _) rfl ?_
  refine X.q 3 H rfl fun h H nN => ?_
  obtain ⟨u, hu⟩ : ∃ u : Str, u = (s.take s.length).drop (Int.toNat 1) := ⟨_, rfl⟩
  rw [← hu]
  have hul : u.length ≤ s.length := by rw [hu]; simp
  refine X.seqJ 50 (fun b : Bool => [(0, .str u), (4, .bool b)]) (fun b h => HI h0 [] h [] ∧ (b = true → u ≠ [])) (fun J => ?_) ?_
  · refine X.g H rfl fun h H nN => ?_
    refine X.split rfl (fun hb2 => ?_) fun hb2 => ?_
    · have hlt : u ≠ [] := by simpa using hb2
      have := List.length_pos_iff.2 hlt
      refine X.j H rfl (by simp; omega) fun h H nN => ?_
      exact J _ rfl ⟨H, fun _ => hlt⟩
    · refine X.g H rfl fun h H nN => ?_
      exact J _ rfl ⟨H, fun h => by simp at h⟩
  clear H
  rintro b4 h ⟨H, hu4⟩
  refine X.seqJ 50 (fun t : Str => [(0, .str t), (4, .bool b4)]) (fun t h => HI h0 [] h [] ∧ t.length ≤ s.length) (fun J => ?_) ?_
  · refine X.g H rfl fun h H nN => ?_
    refine X.split rfl (fun hb2 => ?_) fun hb2 => ?_
    · refine X.gh [92] H rfl fun h H nN => ?_
      refine X.cond rfl (fun hb3 => ?_) fun hb3 => ?_
      · have := List.length_pos_iff.2 (hu4 hb2)
        refine X.g H rfl fun h H nN => ?_
        refine X.sliceS rfl rfl rfl rfl (bnd_at rfl (by decide)) rfl (by simp; omega) (Nat.le_refl _) rfl ?_
        refine X.g H rfl fun h H nN => ?_
        exact J _ rfl ⟨H, by simp; omega⟩
      · cases hb3
    · refine X.g H rfl fun h H nN => ?_
      refine X.split rfl (fun hb2 => ?_) fun hb2 => ?_
      · have hlt : u ≠ [] := by simpa using hb2
        have := List.length_pos_iff.2 hlt
        refine X.j H rfl (by simp; omega) fun h H nN => ?_
        refine X.cond rfl (fun hb3 => ?_) fun hb3 => ?_
        · refine X.g H rfl fun h H nN => ?_
          refine X.sliceS rfl rfl rfl rfl (bnd_at rfl (by decide)) rfl (by simp; omega) (Nat.le_refl _) rfl ?_
          refine X.g H rfl fun h H nN => ?_
          exact J _ rfl ⟨H, by simp; omega⟩
        · refine X.g H rfl fun h H nN => ?_
          exact J u rfl ⟨H, hul⟩
      · refine X.gh [90] H rfl fun h H nN => ?_
        exact J u rfl ⟨H, hul⟩
  clear H
  rintro t h ⟨H, ht⟩
  refine X.g H rfl fun h H nN => ?_
  refine X.callT rfl Tryz.call91 (digits_run t (by unfold Sm; omega)) ?_
  rintro _ ⟨b, rfl, -⟩
  refine X.g H rfl fun h H nN => ?_
  refine X.split rfl (fun hb2 => ?_) fun hb2 => ?_
  · refine X.gh [91] H rfl fun h H nN => ?_
    exact X.retV [] H rfl ⟨H.kp, _, _, rfl⟩
  refine X.g H rfl fun h H nN => ?_
  refine X.cond rfl (fun hb3 => ?_) fun hb3 => ?_
  · refine X.g H rfl fun h H nN => ?_
    exact X.retV [] H rfl ⟨H.kp, _, _, rfl⟩
  refine X.g H rfl fun h H nN => ?_
  refine X.cond rfl (fun hb3 => ?_) fun hb3 => ?_
  · refine X.g H rfl fun h H nN => ?_
    refine X.callT rfl Tryz.call52 (number_run t (by unfold Sm; omega)) ?_
    rintro _ ⟨n, rfl⟩
    refine X.g H rfl fun h H nN => ?_
    exact X.retV [] H rfl ⟨H.kp, _, _, rfl⟩
  · refine X.g H rfl fun h H nN => ?_
    refine X.callT rfl Tryz.call52 (number_run t (by unfold Sm; omega)) ?_
    rintro _ ⟨n, rfl⟩
    refine X.g H rfl fun h H nN => ?_
    exact X.retV [] H rfl ⟨H.kp, _, _, rfl⟩
end
end Go.Am
end
