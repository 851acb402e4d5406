import Derived.Test.YtlnpifmdjcnflaaGreatDoorS39
set_option linter.unusedVariables false
set_option linter.unusedSimpArgs false
section
namespace Go.Am
open Go.Proofs
set_option maxRecDepth 100000
set_option linter.unusedSimpArgs false
set_option linter.unusedVariables false
attribute [local irreducible] AC AL AW AD ARun
theorem JV.mem_lt {u x : JV} (h : x ∈ u.xs) : SizeOf.sizeOf x < SizeOf.sizeOf u := by
  obtain ⟨k, b, n, t, ns, xs, f1, f2⟩ := u
  have := List.sizeOf_lt_of_mem h
  simp [JV.xs] at this ⊢
  omega
theorem equals_run : ∀ (N : Nat) (u v : JV), SizeOf.sizeOf u < N → u.Fit → v.Fit → u.Eqs v
  | 0, u, v, h, _, _ => by omega
  | N + 1, u, v, h, hu, hv => equals_step u v hu hv fun x hx y hy => equals_run N x y (by have := JV.mem_lt hx; omega) (hu.mem hx) (hv.mem hy)
abbrev isII (v : AV) : Prop := ∃ i j, v = .tup [.int .i64 i, .int .i64 j]
section
variable {h h0 : AH} {fE f1 f2 : Bool}
set_option maxHeartbeats 2000000 in
theorem twins_run (xs : List JV) (hl : xs.length ≤ 1700000000000) (hf : ∀ x ∈ xs, x.Fit) : TQ 77 [.one (slG f2 6 (xs.map JV.cs))] isII := by
  refine TQ.of (fun r ⟨i, j, e⟩ => e ▸ .tup _ fun x hx => ?_) fun h0 => ?_
  · simp only [List.mem_cons, List.not_mem_nil, or_false] at hx
    rcases hx with rfl | rfl <;> exact .int _ _
  have hE6 := slG_elems f2 6 (xs.map JV.cs)
  have hL6 : (xs.map JV.cs).length = xs.length := by simp
  refine X.of (n := 28) (rs := [.tmp 2, .tmp 3]) [] ⟨Tryz.func77, rfl, rfl, rfl⟩ rfl ?_
  have H : HI h0 [] h0 [] := HI.nil
  refine X.g H rfl fun h H nN => ?_
  refine X.whileJ 28 (fun k : Nat => xs.length + 1 - k) (fun k => [(0, .one (slG f2 6 (xs.map JV.cs))), (4, .int .i64 (k : Nat))]) (fun k h' => HI h0 [] h' [] ∧ k ≤ xs.length + 1 ∧ 1 ≤ k) (fun _ : Unit => []) (fun _ h' => HI h0 [] h' []) 1 rfl ⟨H, by omega, by omega⟩ ?_ ?_
  · clear H
    rintro k h ⟨H, hk, hk1⟩ again done
    refine X.g H rfl fun h H nN => ?_
    refine X.lenZ 6 rfl rfl rfl rfl rfl hE6 rfl rfl rfl ?_
    refine X.g H rfl fun h H nN => ?_
    refine X.cond rfl (fun hb3 => ?_) fun hb3 => ?_
    · have hlt : k < xs.length := by have := of_decide_eq_true hb3; rw [hL6] at this; omega
      refine X.g H rfl fun h H nN => ?_
      refine X.while (fun i : Nat => k - i) 28 (fun i => [(0, .one (slG f2 6 (xs.map JV.cs))), (4, .int .i64 (k : Nat)), (5, .int .i64 (i : Nat))]) (fun i h' => HI h0 [] h' [] ∧ i ≤ k) 0 rfl ⟨H, by omega⟩ ?_
      clear H
      rintro i h ⟨H, hi⟩ again2
      refine X.g H rfl fun h H nN => ?_
      refine X.cond rfl (fun hb4 => ?_) fun hb4 => ?_
      · have hik : i < k := by have := of_decide_eq_true hb4; omega
        have hix : i < xs.length := by omega
        have hq := equals_run _ xs[i] xs[k] (Nat.lt_succ_self _) (hf _ (List.getElem_mem hix)) (hf _ (List.getElem_mem hlt))
        have hc6 : (xs.map JV.cs)[i]? = some (xs[i].cs) := by simp [hix]
        have hc6' : (xs.map JV.cs)[k]? = some (xs[k].cs) := by simp [hlt]
        unfold JV.Eqs at hq
        obtain ⟨b7, n7, y1, y2, e7⟩ := xs[i].shape
        obtain ⟨b8, n8, y3, y4, e8⟩ := xs[k].shape
        rw [e7] at hq hc6
        rw [e8] at hq hc6'
        refine X.gh [] H rfl fun h H nN => ?_
        refine X.freeD (fun h => StepD.un 17 rfl (slG_vec (by rw [hL6]; exact hix)) rfl rfl (StepD.indexAddr rfl rfl rfl rfl rfl rfl (Int.natCast_nonneg _) (by rw [Int.toNat_natCast]; exact hc6) h)) rfl ?_
        refine X.gh [] H rfl fun h H nN => ?_
        refine X.freeD (fun h => StepD.un 21 rfl (slG_vec (by rw [hL6]; exact hlt)) rfl rfl (StepD.indexAddr rfl rfl rfl rfl rfl rfl (Int.natCast_nonneg _) (by rw [Int.toNat_natCast]; exact hc6') h)) rfl ?_
        refine X.gh [] H rfl fun h H nN => ?_
        refine X.callTD rfl Tryz.call67 hq ?_
        rintro _ ⟨b9, rfl⟩
        refine X.gh [] H rfl fun h H nN => ?_
        refine X.cond rfl (fun hb6 => ?_) fun hb6 => ?_
        · refine X.g H rfl fun h H nN => ?_
          exact X.retV [] H rfl ⟨H.kp, _, _, rfl⟩
        · refine X.g H rfl fun h H nN => ?_
          exact again2 (i + 1) (by omega) (HQ.mk rfl ⟨rfl, rfl, vi (wI (by omega)), trivial⟩) ⟨H, by omega⟩
      · refine X.g H rfl fun h H nN => ?_
        exact again (k + 1) (by omega) (HQ.mk rfl ⟨rfl, vi (wI (by omega)), trivial⟩) ⟨H, by omega, by omega⟩
    · refine X.g H rfl fun h H nN => ?_
      exact done () rfl H
  · clear H
    rintro ⟨⟩ h H
    refine X.g H rfl fun h H nN => ?_
    exact X.retV [] H rfl ⟨H.kp, _, _, rfl⟩
end
end Go.Am
end
section
namespace Go.Am
open Go.Proofs
set_option maxRecDepth 100000
set_option linter.unusedSimpArgs false
set_option linter.unusedVariables false
attribute [local irreducible] AC AL AW AD ARun
section
variable {h h0 : AH} {fE f1 f2 : Bool}
theorem there_run (v : JV) : ∀ h0, ARun Tryz.prog 122 [.agg v.cs, .nilsl] h0 (.bool true) h0 := by
  intro h0
  obtain ⟨b, m, z1, z2, e⟩ := v.shape
  rw [e]
  refine ARun.pure (.bool _) ?_
  refine X.of (n := 19) (rs := [.tmp 4]) [] ⟨Tryz.func122, rfl, rfl, rfl⟩ rfl ?_
  have H : HI h0 [] h0 [] := HI.nil
  refine X.gm [2] [] H rfl fun h H nN => ?_
  refine X.roll ?_
  refine X.gh [90] H rfl fun h H nN => ?_
  exact X.retV [] H rfl ⟨H.kp, fun _ _ _ h => h⟩
theorem needs_run (v : JV) (ts : List Str) : ∀ h0, ARun Tryz.prog 81 [.agg (ndC 0 fE ts), .agg v.cs] h0 (.bool true) h0 := by
  intro h0
  have hq := there_run v
  obtain ⟨b, m, z1, z2, e⟩ := v.shape
  rw [e] at hq ⊢
  refine ARun.pure (.bool _) ?_
  refine X.of (n := 68) (rs := [.tmp 4]) [] ⟨Tryz.func81, rfl, rfl, rfl⟩ rfl ?_
  have H : HI h0 [] h0 [] := HI.nil
  refine X.gm [2, 3] [] H rfl fun h H nN => ?_
  refine X.callQ rfl Tryz.call122 hq ?_
  refine X.gh [90] H rfl fun h H nN => ?_
  refine X.roll ?_
  refine X.gh [90] H rfl fun h H nN => ?_
  exact X.retV [] H rfl ⟨H.kp, fun _ _ _ h => h⟩
theorem moreS_run (d k : Int) (ts : List Str) (v : JV) : ∀ h0, ARun Tryz.prog 124 [.int .i64 d, ndS k fE ts, .agg [.int .i64 0, .int .i64 0], .agg v.cs] h0 (.tup [.bool true, .bool false]) h0 := by
  intro h0
  obtain ⟨b, m, z1, z2, e⟩ := v.shape
  rw [e]
  refine ARun.pure (.tup _ fun x hx => by simp only [List.mem_cons, List.not_mem_nil, or_false] at hx; rcases hx with rfl | rfl <;> exact .bool _) ?_
  refine X.of (n := 30) (rs := [.tmp 8, .tmp 9]) [] ⟨Tryz.func124, rfl, rfl, rfl⟩ rfl ?_
  have H : HI h0 [] h0 [] := HI.nil
  refine X.gm [5, 6, 7] [90, 90, 90] H rfl fun h H nN => ?_
  exact X.retV [] H rfl ⟨H.kp, fun _ _ _ h => h⟩
theorem memberS_run (d k : Int) (ts : List Str) (s : Str) (v : JV) : ∀ h0, ARun Tryz.prog 82 [.int .i64 d, ndS k fE ts, .agg (ndC 0 fE ts), .str s, .agg v.cs] h0 (.tup [.bool true, .bool false]) h0 := by
  intro h0
  have hq := moreS_run (fE := fE) d k ts v
  obtain ⟨b, m, z1, z2, e⟩ := v.shape
  rw [e] at hq ⊢
  refine ARun.pure (.tup _ fun x hx => by simp only [List.mem_cons, List.not_mem_nil, or_false] at hx; rcases hx with rfl | rfl <;> exact .bool _) ?_
  refine X.of (n := 93) (rs := [.tmp 10, .tmp 11]) [] ⟨Tryz.func82, rfl, rfl, rfl⟩ rfl ?_
  have H : HI h0 [] h0 [] := HI.nil
  refine X.gm [6, 7, 9] [] H rfl fun h H nN => ?_
  refine X.eqv 14 (y := .int .i64 (-1)) rfl (congrArg (AV.int .i64) (by decide)) ?_
  refine X.roll ?_
  refine X.gh [92, 90] H rfl fun h H nN => ?_
  refine X.roll ?_
  refine X.gh [90, 90] H rfl fun h H nN => ?_
  refine X.callQ rfl Tryz.call124 hq ?_
  refine X.gh [] H rfl fun h H nN => ?_
  exact X.retV [] H rfl ⟨H.kp, fun _ _ _ h => h⟩
theorem elementS_run (k : Int) (ts : List Str) (i : Nat) (v : JV) : ∀ h0, ARun Tryz.prog 78 [.int .i64 2020, ndS k fE ts, .agg (ndC 0 fE ts), .int .i64 (i : Nat), .agg v.cs] h0 (.tup [.bool true, .bool false]) h0 := by
  intro h0
  obtain ⟨b, m, z1, z2, e⟩ := v.shape
  rw [e]
  refine ARun.pure (.tup _ fun x hx => by simp only [List.mem_cons, List.not_mem_nil, or_false] at hx; rcases hx with rfl | rfl <;> exact .bool _) ?_
  refine X.of (n := 66) (rs := [.tmp 10, .tmp 11]) [] ⟨Tryz.func78, rfl, rfl, rfl⟩ rfl ?_
  have H : HI h0 [] h0 [] := HI.nil
  refine X.gm [6, 7, 9] [] H rfl fun h H nN => ?_
  refine X.cond rfl (fun hb => ?_) fun hb => ?_
  · exfalso
    have := of_decide_eq_true hb
    simp at this
    omega
  refine X.gh [90, 91] H rfl fun h H nN => ?_
  exact X.retV [] H rfl ⟨H.kp, fun _ _ _ h => h⟩
end
end Go.Am
end
