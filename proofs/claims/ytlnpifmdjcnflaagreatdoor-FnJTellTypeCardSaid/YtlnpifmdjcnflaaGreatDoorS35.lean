import Derived.Test.YtlnpifmdjcnflaaGreatDoorS34
set_option linter.unusedVariables false
set_option linter.unusedSimpArgs false
section
namespace Go.Am
open Go.Proofs
set_option maxRecDepth 100000
set_option linter.unusedSimpArgs false
set_option linter.unusedVariables false
attribute [local irreducible] AC AL AW AD ARun
/-- The nodes of a schema of one node. -/
abbrev ndS (k : Int) (fE : Bool) (ts : List Str) : AV := .agg [sch k fE ts, .nilsl]
section
variable {h h0 : AH} {fE f1 f2 : Bool}
theorem several_run (d : Int) (k : Int) (ts : List Str) (v : JV) (o a n c : Nat) (ex : Bool) : ∀ h0, ARun Tryz.prog 69 [.int .i64 d, ndS k fE ts, .nilsl, .agg v.cs, .sl o a n c ex] h0 (.int .i64 0) h0 := by
  intro h0
  obtain ⟨b, m, z1, z2, e⟩ := v.shape
  rw [e]
  refine ARun.pure (.int _ _) ?_
  refine X.of (n := 39) (rs := [.tmp 10]) [] ⟨Tryz.func69, rfl, rfl, rfl⟩ rfl ?_
  have H : HI h0 [] h0 [] := HI.nil
  refine X.gm [6, 8] [] H rfl fun h H nN => ?_
  refine X.roll ?_
  refine X.gh [90] H rfl fun h H nN => ?_
  exact X.retV [] H rfl ⟨H.kp, fun _ _ _ h => h⟩
theorem depends_run (d : Int) (k : Int) (ts : List Str) (v : JV) (o a n c : Nat) (ex : Bool) : ∀ h0, ARun Tryz.prog 73 [.int .i64 d, ndS k fE ts, .agg (ndC 0 fE ts), .agg v.cs, .sl o a n c ex] h0 (.bool true) h0 := by
  intro h0
  obtain ⟨b, m, z1, z2, e⟩ := v.shape
  rw [e]
  refine ARun.pure (.bool _) ?_
  refine X.of (n := 104) (rs := [.tmp 10]) [] ⟨Tryz.func73, rfl, rfl, rfl⟩ rfl ?_
  have H : HI h0 [] h0 [] := HI.nil
  refine X.gm [6, 7, 8] [] H rfl fun h H nN => ?_
  refine X.roll ?_
  refine X.gh [92, 90] H rfl fun h H nN => ?_
  exact X.retV [] H rfl ⟨H.kp, fun _ _ _ h => h⟩
theorem bounded_run (n : Int) : ∀ h0, ARun Tryz.prog 41 [.int .i64 n, .agg [.bool false, .int .i64 0], .agg [.bool false, .int .i64 0]] h0 (.bool true) h0 := by
  intro h0
  refine ARun.pure (.bool _) ?_
  refine X.of (n := 27) (rs := [.tmp 6]) [] ⟨Tryz.func41, rfl, rfl, rfl⟩ rfl ?_
  have H : HI h0 [] h0 [] := HI.nil
  refine X.gm [4, 5] [92, 92, 92] H rfl fun h H nN => ?_
  exact X.retV [] H rfl ⟨H.kp, fun _ _ _ h => h⟩
theorem taken_run (s : Str) : ∀ h0, ARun Tryz.prog 43 [.str s, .agg [.bool false, .nilsl]] h0 (.bool true) h0 := by
  intro h0
  refine ARun.pure (.bool _) ?_
  refine X.of (n := 14) (rs := [.tmp 4]) [] ⟨Tryz.func43, rfl, rfl, rfl⟩ rfl ?_
  have H : HI h0 [] h0 [] := HI.nil
  refine X.gm [3] [92] H rfl fun h H nN => ?_
  exact X.retV [] H rfl ⟨H.kp, fun _ _ _ h => h⟩
theorem inPlace_run (d : Int) (k : Int) (ts : List Str) (v : JV) (o a n c : Nat) (ex : Bool) : ∀ h0, ARun Tryz.prog 38 [.int .i64 d, ndS k fE ts, .agg (ndC 0 fE ts), .agg v.cs, .sl o a n c ex] h0 (.bool true) h0 := by
  intro h0
  have hq := several_run (fE := fE) d k ts v o a n c ex
  have hq2 := depends_run (fE := fE) d k ts v o a n c ex
  obtain ⟨b, m, z1, z2, e⟩ := v.shape
  rw [e] at hq hq2 ⊢
  refine ARun.pure (.bool _) ?_
  refine X.of (n := 165) (rs := [.tmp 10]) [] ⟨Tryz.func38, rfl, rfl, rfl⟩ rfl ?_
  have H : HI h0 [] h0 [] := HI.nil
  refine X.gm [6, 7, 8] [90] H rfl fun h H nN => ?_
  refine X.callQ rfl Tryz.call69 hq ?_
  refine X.gh [90] H rfl fun h H nN => ?_
  refine X.callQ rfl Tryz.call69 hq ?_
  refine X.gh [92, 90] H rfl fun h H nN => ?_
  refine X.callQ rfl Tryz.call69 hq ?_
  refine X.gh [92, 90, 90, 90] H rfl fun h H nN => ?_
  refine X.roll ?_
  refine X.gh [92, 90] H rfl fun h H nN => ?_
  refine X.callQ rfl Tryz.call73 hq2 ?_
  refine X.gh [92] H rfl fun h H nN => ?_
  exact X.retV [] H rfl ⟨H.kp, fun _ _ _ h => h⟩
end
end Go.Am
end
section
namespace Go.Am
open Go.Proofs
set_option maxRecDepth 100000
set_option linter.unusedSimpArgs false
set_option linter.unusedVariables false
attribute [local irreducible] AC AL AW AD ARun
theorem kindS_num {k : Int} (hk : k ≠ 2) : kindS k ≠ [110,117,109,98,101,114] := by
  unfold kindS
  repeat' split
  all_goals first | decide | (exact fun _ => hk ‹_›)
section
variable {h h0 : AH} {fE f1 f2 : Bool}
theorem runes_run (s : Str) (hs : Am.Sm s) : TQ 42 [.str s] isI := by
  refine TQ.i fun h0 => ?_
  refine X.of (n := 24) (rs := [.tmp 2]) [] ⟨Tryz.func42, rfl, rfl, rfl⟩ rfl ?_
  have H : HI h0 [] h0 [] := HI.nil
  refine X.g H rfl fun h H nN => ?_
  refine X.whileJ 24 (fun p : Nat × Int => s.length - p.1) (fun p => [(0, .str s), (3, .int .i64 p.2), (4, .int .i64 (p.1 : Nat))])
    (fun p h' => HI h0 [] h' [] ∧ p.1 ≤ s.length) (fun n : Int => [(3, .int .i64 n)]) (fun _ h' => HI h0 [] h' []) (0, 0) rfl ⟨H, by simp⟩ ?_ ?_
  · clear H
    rintro ⟨i, n⟩ h ⟨H, hi⟩ again done
    simp only at hi again done
    refine X.g H rfl fun h H nN => ?_
    refine X.cond rfl (fun hb3 => ?_) fun hb3 => ?_
    · have hlt : i < s.length := by have := of_decide_eq_true hb3; omega
      refine X.j H rfl (by simp; omega) fun h H nN => ?_
      refine X.split rfl (fun hb4 => ?_) fun hb4 => ?_
      · refine X.gh [91] H rfl fun h H nN => ?_
        exact again (i + 1, _) (by simp; omega) (HQ.mk rfl ⟨rfl, rfl, vi (wI (by omega)), trivial⟩) ⟨H, by simp; omega⟩
      · refine X.j H rfl (by simp; omega) fun h H nN => ?_
        refine X.cond rfl (fun hb5 => ?_) fun hb5 => ?_
        · refine X.g H rfl fun h H nN => ?_
          exact again (i + 1, _) (by simp; omega) (HQ.mk rfl ⟨rfl, rfl, vi (wI (by omega)), trivial⟩) ⟨H, by simp; omega⟩
        · refine X.g H rfl fun h H nN => ?_
          exact again (i + 1, _) (by simp; omega) (HQ.mk rfl ⟨rfl, rfl, vi (wI (by omega)), trivial⟩) ⟨H, by simp; omega⟩
    · refine X.g H rfl fun h H nN => ?_
      exact done n rfl H
  · clear H
    rintro n h H
    refine X.g H rfl fun h H nN => ?_
    exact X.retV [] H rfl ⟨H.kp, _, rfl⟩
theorem typed_run (v : JV) (hk : v.k ≠ 2) (ts : List Str) (hl : ts.length ≤ 2147483647) : ∀ h0, ARun Tryz.prog 65 [.agg v.cs, sls fE ts] h0 (.bool (decide (kindS v.k ∈ ts))) h0 := by
  intro h0
  have hq := kind_run v
  have hE := slG_elems fE 1 (ts.map strCs)
  have hL : (ts.map strCs).length = ts.length := by simp
  have hnum := kindS_num hk
  generalize kindS v.k = s at hq hnum ⊢
  obtain ⟨b, m, z1, z2, e⟩ := v.shape
  rw [e] at hq ⊢
  refine ARun.pure (.bool _) ?_
  refine X.of (n := 37) (rs := [.tmp 4]) [] ⟨Tryz.func65, rfl, rfl, rfl⟩ rfl ?_
  have H : HI h0 [] h0 [] := HI.nil
  refine X.gm [2] [] H rfl fun h H nN => ?_
  refine X.callQ rfl Tryz.call117 hq ?_
  refine X.gm [] [] H rfl fun h H nN => ?_
  refine X.whileJ 37 (fun i : Nat => ts.length - i) (fun i => [(1, sls fE ts), (2, .ref none [.int .i64 v.k, .bool b, .int .i64 m, .str v.t, .one z1, .one z2]), (5, .str s), (6, .int .i64 (i : Nat))])
    (fun i h' => HI h0 [] h' [] ∧ i ≤ ts.length ∧ ∀ j < i, ts[j]? ≠ some s) (fun _ : Unit => []) (fun _ h' => HI h0 [] h' [] ∧ s ∉ ts) 0 rfl ⟨H, by omega, fun j h => by omega⟩ ?_ ?_
  · clear H
    rintro i h ⟨H, hi, hs⟩ again done
    refine X.g H rfl fun h H nN => ?_
    refine X.lenZ 1 rfl rfl rfl rfl rfl hE rfl rfl rfl ?_
    refine X.g H rfl fun h H nN => ?_
    refine X.cond rfl (fun hb3 => ?_) fun hb3 => ?_
    · have hlt : i < ts.length := by have := of_decide_eq_true hb3; rw [hL] at this; omega
      have hc : (ts.map strCs)[i]? = some (strCs ts[i]) := by simp [hlt]
      refine X.g H rfl fun h H nN => ?_
      refine X.unO 15 rfl ?_
      rw [slG_vec (by rw [hL]; exact hlt)]
      refine X.free (StepD.indexAddr rfl rfl rfl rfl rfl rfl (Int.natCast_nonneg _) (by rw [Int.toNat_natCast]; exact hc)) rfl ?_
      refine X.g H rfl fun h H nN => ?_
      refine X.split rfl (fun hb4 => ?_) fun hb4 => ?_
      · refine X.gh [91] H rfl fun h H nN => ?_
        refine X.retV [] H rfl ⟨H.kp, fun _ _ _ h => vbool h ?_⟩
        have : ts[i] = s := of_decide_eq_true hb4
        rw [← this]
        simp
      · refine X.gh [] H rfl fun h H nN => ?_
        refine X.unO 22 rfl ?_
        rw [slG_vec (by rw [hL]; exact hlt)]
        refine X.free (StepD.indexAddr rfl rfl rfl rfl rfl rfl (Int.natCast_nonneg _) (by rw [Int.toNat_natCast]; exact hc)) rfl ?_
        refine X.gh [] H rfl fun h H nN => ?_
        refine X.split rfl (fun hb5 => ?_) fun hb5 => ?_
        · refine X.gh [] H rfl fun h H nN => ?_
          refine X.split rfl (fun hb6 => absurd (of_decide_eq_true hb6) hnum) fun hb6 => ?_
          refine X.gh [90] H rfl fun h H nN => ?_
          refine again (i + 1) (by omega) (HQ.mk rfl ⟨rfl, rfl, rfl, vi (wI (by omega)), trivial⟩) ⟨H, by omega, fun j hj ht => ?_⟩
          by_cases e : j = i
          · subst e; rw [List.getElem?_eq_getElem hlt] at ht; injection ht with ht; exact of_decide_eq_false hb4 ht
          · exact hs j (by omega) ht
        · refine X.gh [92, 90] H rfl fun h H nN => ?_
          refine again (i + 1) (by omega) (HQ.mk rfl ⟨rfl, rfl, rfl, vi (wI (by omega)), trivial⟩) ⟨H, by omega, fun j hj ht => ?_⟩
          by_cases e : j = i
          · subst e; rw [List.getElem?_eq_getElem hlt] at ht; injection ht with ht; exact of_decide_eq_false hb4 ht
          · exact hs j (by omega) ht
    · have : i = ts.length := by have := of_decide_eq_false hb3; rw [hL] at this; omega
      subst this
      refine X.g H rfl fun h H nN => ?_
      refine done () rfl ⟨H, fun ht => ?_⟩
      obtain ⟨j, hj, e⟩ := List.mem_iff_getElem.1 ht
      exact hs j hj (by rw [List.getElem?_eq_getElem hj, e])
  · clear H
    rintro ⟨⟩ h ⟨H, ha⟩
    refine X.g H rfl fun h H nN => ?_
    exact X.retV [] H rfl ⟨H.kp, fun _ _ _ h => vbool h (by simp [ha])⟩
end
end Go.Am
end
