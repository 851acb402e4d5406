import Derived.Test.YtlnpifmdjcnflaaGreatDoorS9
set_option linter.unusedVariables false
set_option linter.unusedSimpArgs false
section
namespace Go.Am
open Go.Proofs
set_option maxRecDepth 100000
set_option linter.unusedSimpArgs false
set_option linter.unusedVariables false
attribute [local irreducible] AC AL AW AD ARun
section
variable {h h0 : AH} {fE f1 f2 : Bool}
theorem later_nil (k n : Int) (ts : List Str) : ∀ h0 : AH, ARun Tryz.prog 19 [sch k fE ts, .int .i64 n, .nilsl] h0 (.bool true) h0 := by
  intro h0
  refine ARun.pure (.bool _) ?_
  refine X.of (n := 43) (rs := [.tmp 6]) [] ⟨Tryz.func19, rfl, rfl, rfl⟩ rfl ?_
  have H : HI h0 [] h0 [] := HI.nil
  refine X.g H rfl fun h H nN => ?_
  refine X.roll ?_
  refine X.gh [90] H rfl fun h H nN => ?_
  exact X.retV [] H rfl ⟨H.kp, fun _ _ _ h => h⟩
abbrev zs (n : Nat) : List (List AV) := List.replicate n [.int .i64 0]
theorem zs_at {n i : Nat} (h : i < n) : (zs n)[i]? = some [.int .i64 0] := by simp [zs, h]
set_option maxHeartbeats 1000000 in
theorem later_run (k n : Int) (ts : List Str) (m : Nat) (hm : m < 100) : ∀ h0 : AH, ARun Tryz.prog 19 [sch k fE ts, .int .i64 n, .vec .full 1 (zs m)] h0 (.bool true) h0 := by
  intro h0
  refine ARun.pure (.bool _) ?_
  refine X.of (n := 43) (rs := [.tmp 6]) [] ⟨Tryz.func19, rfl, rfl, rfl⟩ rfl ?_
  have H : HI h0 [] h0 [] := HI.nil
  have hz : (zs m).length = m := by simp
  refine X.g H rfl fun h H nN => ?_
  refine X.whileJ 43 (fun i : Nat => m - i) (fun i => [(0, sch k fE ts), (1, .int .i64 n), (2, .vec .full 1 (zs m)), (7, .int .i64 (i : Nat))])
    (fun i h' => HI h0 [] h' [] ∧ i ≤ m) (fun _ : Unit => []) (fun _ h' => HI h0 [] h' []) 0 rfl ⟨H, by omega⟩ ?_ ?_
  · clear H
    rintro i h ⟨H, hi⟩ again done
    refine X.g H rfl fun h H nN => ?_
    refine X.cond rfl (fun hb3 => ?_) fun hb3 => ?_
    · have hlt : i < m := by have := of_decide_eq_true hb3; rw [hz] at this; omega
      refine X.g H rfl fun h H nN => ?_
      refine X.free (StepD.indexAddr rfl rfl rfl rfl rfl rfl (Int.natCast_nonneg _) (by rw [Int.toNat_natCast]; exact zs_at hlt)) rfl ?_
      refine X.gh [92, 92] H rfl fun h H nN => ?_
      refine X.free (StepD.indexAddr rfl rfl rfl rfl rfl rfl (Int.natCast_nonneg _) (by rw [Int.toNat_natCast]; exact zs_at hlt)) rfl ?_
      refine X.gh [92] H rfl fun h H nN => ?_
      refine X.free (StepD.indexAddr rfl rfl rfl rfl rfl rfl (Int.natCast_nonneg _) (by rw [Int.toNat_natCast]; exact zs_at hlt)) rfl ?_
      refine X.gh [90] H rfl fun h H nN => ?_
      exact again (i + 1) (by omega) (HQ.mk rfl ⟨rfl, rfl, rfl, vi (wI (by omega)), trivial⟩) ⟨H, by omega⟩
    · refine X.g H rfl fun h H nN => ?_
      exact done () rfl H
  · clear H
    rintro ⟨⟩ h H
    refine X.g H rfl fun h H nN => ?_
    exact X.retV [] H rfl ⟨H.kp, fun _ _ _ h => h⟩
end
end Go.Am
end
section
namespace Go.Am
open Go.Proofs
set_option maxRecDepth 100000
set_option linter.unusedSimpArgs false
set_option linter.unusedVariables false
attribute [local irreducible] AC AL AW AD ARun
section
variable {h h0 : AH} {fE f1 f2 : Bool}
def kinds : List Str := [[110,117,108,108], [98,111,111,108,101,97,110], [111,98,106,101,99,116], [97,114,114,97,121], [110,117,109,98,101,114], [115,116,114,105,110,103], [105,110,116,101,103,101,114]]
theorem isKind_run (s : Str) : ∀ h0 : AH, ARun Tryz.prog 20 [.str s] h0 (.bool (decide (s ∈ kinds))) h0 := by
  intro h0
  refine ARun.pure (.bool _) ?_
  refine X.of (n := 12) (rs := [.tmp 2]) [] ⟨Tryz.func20, rfl, rfl, rfl⟩ rfl ?_
  have H : HI h0 [] h0 [] := HI.nil
  refine X.g H rfl fun h H nN => ?_
  refine X.cond rfl (fun hb => ?_) fun hb0 => ?_
  · refine X.eqv 4 rfl (congrArg AV.bool hb) ?_
    refine X.gh [91] H rfl fun h H nN => ?_
    refine X.retV [] H rfl ⟨H.kp, fun _ _ _ h => vbool h ?_⟩
    have := of_decide_eq_true hb
    simp_all [kinds]
  refine X.g H rfl fun h H nN => ?_
  refine X.cond rfl (fun hb => ?_) fun hb1 => ?_
  · refine X.eqv 4 rfl (congrArg AV.bool hb) ?_
    refine X.gh [91] H rfl fun h H nN => ?_
    refine X.retV [] H rfl ⟨H.kp, fun _ _ _ h => vbool h ?_⟩
    have := of_decide_eq_true hb
    simp_all [kinds]
  refine X.g H rfl fun h H nN => ?_
  refine X.cond rfl (fun hb => ?_) fun hb2 => ?_
  · refine X.eqv 4 rfl (congrArg AV.bool hb) ?_
    refine X.gh [91] H rfl fun h H nN => ?_
    refine X.retV [] H rfl ⟨H.kp, fun _ _ _ h => vbool h ?_⟩
    have := of_decide_eq_true hb
    simp_all [kinds]
  refine X.g H rfl fun h H nN => ?_
  refine X.cond rfl (fun hb => ?_) fun hb3 => ?_
  · refine X.eqv 4 rfl (congrArg AV.bool hb) ?_
    refine X.gh [91] H rfl fun h H nN => ?_
    refine X.retV [] H rfl ⟨H.kp, fun _ _ _ h => vbool h ?_⟩
    have := of_decide_eq_true hb
    simp_all [kinds]
  refine X.g H rfl fun h H nN => ?_
  refine X.cond rfl (fun hb => ?_) fun hb4 => ?_
  · refine X.eqv 4 rfl (congrArg AV.bool hb) ?_
    refine X.gh [91] H rfl fun h H nN => ?_
    refine X.retV [] H rfl ⟨H.kp, fun _ _ _ h => vbool h ?_⟩
    have := of_decide_eq_true hb
    simp_all [kinds]
  refine X.g H rfl fun h H nN => ?_
  refine X.cond rfl (fun hb => ?_) fun hb5 => ?_
  · refine X.eqv 4 rfl (congrArg AV.bool hb) ?_
    refine X.gh [91] H rfl fun h H nN => ?_
    refine X.retV [] H rfl ⟨H.kp, fun _ _ _ h => vbool h ?_⟩
    have := of_decide_eq_true hb
    simp_all [kinds]
  refine X.g H rfl fun h H nN => ?_
  refine X.cond rfl (fun hb => ?_) fun hb6 => ?_
  · refine X.g H rfl fun h H nN => ?_
    refine X.retV [] H rfl ⟨H.kp, fun _ _ _ h => vbool h ?_⟩
    have := of_decide_eq_true hb
    simp_all [kinds]
  refine X.g H rfl fun h H nN => ?_
  refine X.retV [] H rfl ⟨H.kp, fun _ _ _ h => vbool h ?_⟩
  simp_all [kinds]
end
end Go.Am
end
section
namespace Go.Am
open Go.Proofs
set_option maxRecDepth 100000
set_option linter.unusedSimpArgs false
set_option linter.unusedVariables false
attribute [local irreducible] AC AL AW AD ARun
def okB (ts : List Str) : Bool := ts.all fun t => decide (t ∈ kinds)
section
variable {h h0 : AH} {fE f1 f2 : Bool}
set_option maxHeartbeats 2000000 in
theorem node_run (ts : List Str) (hl : ts.length ≤ 2147483647) : ∀ h0 : AH, ARun Tryz.prog 11 [sch 0 fE ts, .int .i64 1] h0 (.bool (okB ts)) h0 := by
  intro h0
  refine ARun.pure (.bool _) ?_
  refine X.of (n := 135) (rs := [.tmp 4]) [] ⟨Tryz.func11, rfl, rfl, rfl⟩ rfl ?_
  have H : HI h0 [] h0 [] := HI.nil
  have hL : (ts.map strCs).length = ts.length := by simp
  refine X.g H rfl fun hA H nN => ?_
  refine X.free (StepD.indexAddr rfl rfl rfl rfl rfl rfl (by decide) rfl) rfl ?_
  refine X.gh [92, 92, 92, 92, 90] H rfl fun h H nN => ?_
  refine X.callQ rfl Tryz.call19 (later_run 0 1 ts 5 (by decide)) ?_
  refine X.gh [92] H rfl fun h H nN => ?_
  refine X.callQ rfl Tryz.call19 (later_nil 0 1 ts) ?_
  refine X.gh [92] H rfl fun h H nN => ?_
  refine X.callQ rfl Tryz.call19 (later_nil 0 1 ts) ?_
  refine X.gh [92] H rfl fun h H nN => ?_
  refine X.callQ rfl Tryz.call19 (later_nil 0 1 ts) ?_
  refine X.gh [90] H rfl fun h H nN => ?_
  refine X.callQ rfl Tryz.call19 (later_run 0 0 ts 6 (by decide)) ?_
  refine X.gh [92] H rfl fun h H nN => ?_
  refine X.callQ rfl Tryz.call19 (later_nil 0 0 ts) ?_
  refine X.gh [90] H rfl fun h H nN => ?_
  have hE := slG_elems fE 1 (ts.map strCs)
  refine X.whileJ 135 (fun i : Nat => ts.length - i) (fun i => [(0, sch 0 fE ts), (1, .int .i64 1), (5, .ptr hA.n 0), (6, .int .i64 (i : Nat))])
    (fun i h' => HI h0 [] h' [(hA.n, ndC 0 fE ts)] ∧ i ≤ ts.length ∧ ∀ j < i, ∀ t, ts[j]? = some t → t ∈ kinds) (fun _ : Unit => [(0, sch 0 fE ts), (1, .int .i64 1), (5, .ptr hA.n 0)]) (fun _ h' => HI h0 [] h' [(hA.n, ndC 0 fE ts)] ∧ okB ts = true) 0 rfl ⟨H, by omega, fun j h => by omega⟩ ?_ ?_
  · clear H
    rintro i h ⟨H, hi, hs⟩ again done
    refine X.g H rfl fun h H nN => ?_
    refine X.lenZ 1 rfl rfl rfl rfl rfl hE rfl rfl rfl ?_
    refine X.g H rfl fun h H nN => ?_
    refine X.cond rfl (fun hb3 => ?_) fun hb3 => ?_
    · have hlt : i < ts.length := by have := of_decide_eq_true hb3; rw [hL] at this; omega
      have hc : (ts.map strCs)[i]? = some (strCs ts[i]) := by simp [hlt]
      refine X.g H rfl fun h H nN => ?_
      refine X.unO 109 rfl ?_
      rw [slG_vec (by rw [hL]; exact hlt)]
      refine X.free (StepD.indexAddr rfl rfl rfl rfl rfl rfl (Int.natCast_nonneg _) (by rw [Int.toNat_natCast]; exact hc)) rfl ?_
      refine X.g H rfl fun h H nN => ?_
      refine X.callQ rfl Tryz.call20 (isKind_run ts[i]) ?_
      refine X.g H rfl fun h H nN => ?_
      refine X.cond rfl (fun hb4 => ?_) fun hb4 => ?_
      · refine X.g H rfl fun h H nN => ?_
        refine X.retV [] H rfl ⟨H.kp, fun _ _ _ h => vbool h ?_⟩
        symm
        rw [okB, List.all_eq_false]
        exact ⟨_, List.getElem_mem hlt, by simpa using hb4⟩
      · refine X.g H rfl fun h H nN => ?_
        refine again (i + 1) (by omega) (HQ.mk rfl ⟨rfl, rfl, rfl, vi (wI (by omega)), trivial⟩) ⟨H, by omega, fun j hj t ht => ?_⟩
        by_cases e : j = i
        · subst e; rw [List.getElem?_eq_getElem hlt] at ht; injection ht with ht; subst ht; simpa using hb4
        · exact hs j (by omega) t ht
    · have : i = ts.length := by have := of_decide_eq_false hb3; rw [hL] at this; omega
      subst this
      refine X.g H rfl fun h H nN => ?_
      refine done () rfl ⟨H, ?_⟩
      rw [okB, List.all_eq_true]
      intro t ht
      obtain ⟨j, hj, rfl⟩ := List.mem_iff_getElem.1 ht
      simpa using hs j hj _ (List.getElem?_eq_getElem hj)
  · clear H
    rintro ⟨⟩ h ⟨H, ha⟩
    refine X.g H rfl fun h H nN => ?_
    refine X.callQ rfl Tryz.call21 (whole_run _) ?_
    refine X.gh [92] H rfl fun h H nN => ?_
    refine X.callQ rfl Tryz.call22 (parts_run _ 1 ts) ?_
    refine X.gh [92] H rfl fun h H nN => ?_
    refine X.callQ rfl Tryz.call23 (limits_run ts) ?_
    refine X.g H rfl fun h H nN => ?_
    exact X.retV [] H rfl ⟨H.kp, fun _ _ _ h => vbool h ha.symm⟩
set_option maxHeartbeats 2000000 in
theorem schema_run (ts : List Str) (hl : ts.length ≤ 2147483647) : ∀ h0 : AH, ARun Tryz.prog 7 [sch 0 fE ts] h0 (.bool (okB ts)) h0 := by
  intro h0
  refine ARun.pure (.bool _) ?_
  refine X.of (n := 26) (rs := [.tmp 2]) [] ⟨Tryz.func7, rfl, rfl, rfl⟩ rfl ?_
  have H : HI h0 [] h0 [] := HI.nil
  refine X.g H rfl fun h H nN => ?_
  refine X.roll ?_
  refine X.gh [91] H rfl fun h H nN => ?_
  refine X.callQ rfl Tryz.call11 (node_run ts hl) ?_
  refine X.g H rfl fun h H nN => ?_
  refine X.split rfl (fun hb => ?_) fun hb => ?_
  · refine X.gh [91] H rfl fun h H nN => ?_
    exact X.retV [] H rfl ⟨H.kp, fun _ _ _ h => vbool h (by simpa using hb.symm)⟩
  · refine X.g H rfl fun h H nN => ?_
    refine X.free (StepD.indexAddr rfl rfl rfl rfl rfl rfl (by decide) rfl) rfl ?_
    refine X.g H rfl fun h H nN => ?_
    refine X.callQ rfl Tryz.call12 (new_run ts) ?_
    refine X.gh [90] H rfl fun h H nN => ?_
    refine X.eqi 3 1 rfl (by decide) ?_
    refine X.rollN ?_
    refine X.gh [90] H rfl fun h H nN => ?_
    exact X.retV [] H rfl ⟨H.kp, fun _ _ _ h => vbool h (by simpa using hb)⟩
end
end Go.Am
end
