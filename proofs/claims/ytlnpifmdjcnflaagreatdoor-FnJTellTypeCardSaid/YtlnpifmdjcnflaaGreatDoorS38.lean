import Derived.Test.YtlnpifmdjcnflaaGreatDoorS37
set_option linter.unusedVariables false
set_option linter.unusedSimpArgs false
namespace Go.Am
open Go.Proofs
set_option maxRecDepth 100000
set_option linter.unusedSimpArgs false
set_option linter.unusedVariables false
attribute [local irreducible] AC AL AW AD ARun
section
variable {h h0 : AH} {fE f1 f2 : Bool}
set_option maxHeartbeats 1000000 in
theorem has_run (u v : JV) (hu : u.Sm) (hv : v.Sm) : TQ 120 [.agg u.cs, .agg v.cs] isB := by
  refine TQ.b fun h0 => ?_
  have hm := member_run v hv
  obtain ⟨k, b, n, t, ns, xs, f1, f2⟩ := u
  have hn := hu.get.1
  obtain ⟨b', n', z1, z2, e⟩ := v.shape
  rw [e] at hm ⊢
  rw [JV.cs_mk]
  have hE1 := slG_elems f1 1 (ns.map strCs)
  have hL1 : (ns.map strCs).length = ns.length := by simp
  refine X.of (n := 21) (rs := [.tmp 4]) [] ⟨Tryz.func120, rfl, rfl, rfl⟩ rfl ?_
  have H : HI h0 [] h0 [] := HI.nil
  refine X.gm [2, 3] [] H rfl fun h H nN => ?_
  refine X.whileJ 21 (fun i : Nat => ns.length - i) (fun i => [(2, .ref none [.int .i64 k, .bool b, .int .i64 n, .str t, .one (slG f1 1 (ns.map strCs)), .one (slG f2 6 (xs.map JV.cs))]), (3, .ref none [.int .i64 v.k, .bool b', .int .i64 n', .str v.t, .one z1, .one z2]), (5, .int .i64 (i : Nat))])
    (fun i h' => HI h0 [] h' [] ∧ i ≤ ns.length) (fun _ : Unit => []) (fun _ h' => HI h0 [] h' []) 0 rfl ⟨H, by omega⟩ ?_ ?_
  · clear H
    rintro i h ⟨H, hi⟩ again done
    refine X.g H rfl fun h H nN => ?_
    refine X.lenZ 1 rfl rfl rfl rfl rfl hE1 rfl rfl rfl ?_
    refine X.g H rfl fun h H nN => ?_
    refine X.cond rfl (fun hb3 => ?_) fun hb3 => ?_
    · have hlt : i < ns.length := by have := of_decide_eq_true hb3; rw [hL1] at this; omega
      have hc : (ns.map strCs)[i]? = some (strCs ns[i]) := by simp [hlt]
      refine X.g H rfl fun h H nN => ?_
      refine X.freeD (fun h => StepD.un 15 rfl (slG_vec (by rw [hL1]; exact hlt)) rfl rfl (StepD.indexAddr rfl rfl rfl rfl rfl rfl (Int.natCast_nonneg _) (by rw [Int.toNat_natCast]; exact hc) h)) rfl ?_
      refine X.g H rfl fun h H nN => ?_
      refine X.callTD rfl Tryz.call71 (hm ns[i]) ?_
      rintro _ ⟨m, rfl, _⟩
      refine X.g H rfl fun h H nN => ?_
      refine X.cond rfl (fun hb4 => ?_) fun hb4 => ?_
      · refine X.g H rfl fun h H nN => ?_
        exact X.retV [] H rfl ⟨H.kp, _, rfl⟩
      · refine X.g H rfl fun h H nN => ?_
        exact again (i + 1) (by omega) (HQ.mk rfl ⟨rfl, rfl, vi (wI (by omega)), trivial⟩) ⟨H, by omega⟩
    · refine X.g H rfl fun h H nN => ?_
      exact done () rfl H
  · clear H
    rintro ⟨⟩ h H
    refine X.g H rfl fun h H nN => ?_
    exact X.retV [] H rfl ⟨H.kp, _, rfl⟩
/-- Nothing is asked of the values that are compared but these. -/
structure JV.Fit (v : JV) : Prop where
  sm : v.Sm
  ok : v.Ok
  nn : v.Nn
theorem JV.Fit.mem {v x : JV} (h : v.Fit) (hx : x ∈ v.xs) : x.Fit := by
  obtain ⟨k, b, n, t, ns, xs, f1, f2⟩ := v
  exact ⟨h.sm.get.2.2 x hx, h.ok.get.2.2.2 x hx, h.nn.get.2 x hx⟩
abbrev JV.Eqs (u v : JV) : Prop := TQ 67 [.agg u.cs, .agg v.cs] isB
set_option maxHeartbeats 2000000 in
theorem within_run (u v : JV) (hu : u.Fit) (hv : v.Fit) (ku : u.k = 5) (kv : v.k = 5) (ih : ∀ x ∈ u.xs, ∀ y ∈ v.xs, x.Eqs y) : TQ 121 [.agg u.cs, .agg v.cs] isB := by
  refine TQ.b fun h0 => ?_
  have hm := member_run v hv.sm
  have hms := members_run u hu.sm
  obtain ⟨k, b, n, t, ns, xs, f1, f2⟩ := u
  obtain ⟨k', b', n', t', ns', xs', f1', f2'⟩ := v
  obtain ⟨hn, hx, -⟩ := hu.sm.get
  have hnx := hu.ok.get.2.2.1 ku
  have hnx' := hv.ok.get.2.2.1 kv
  simp only [JV.ns] at hms hm
  replace hms := hms (by omega)
  simp only [JV.xs] at ih
  rw [JV.cs_mk] at hm hms ⊢
  rw [JV.cs_mk]
  have hL1 : (ns.map strCs).length = ns.length := by simp
  have hL6 : (xs.map JV.cs).length = xs.length := by simp
  have hL6' : (xs'.map JV.cs).length = xs'.length := by simp
  refine X.of (n := 45) (rs := [.tmp 4]) [] ⟨Tryz.func121, rfl, rfl, rfl⟩ rfl ?_
  have H : HI h0 [] h0 [] := HI.nil
  refine X.gm [2, 3] [] H rfl fun h H nN => ?_
  refine X.callT rfl Tryz.call80 hms ?_
  rintro _ ⟨l, rfl, hl, hll⟩
  have hE := slG_elems false 1 (l.map fun i => [AV.int .i64 (i : Nat)])
  have hLl : (l.map fun i => [AV.int .i64 (i : Nat)]).length = l.length := by simp
  refine X.g H rfl fun h H nN => ?_
  refine X.whileJ 45 (fun i : Nat => l.length - i) (fun i => [(2, .ref none [.int .i64 k, .bool b, .int .i64 n, .str t, .one (slG f1 1 (ns.map strCs)), .one (slG f2 6 (xs.map JV.cs))]), (3, .ref none [.int .i64 k', .bool b', .int .i64 n', .str t', .one (slG f1' 1 (ns'.map strCs)), .one (slG f2' 6 (xs'.map JV.cs))]), (5, .one (slC 1 (l.map fun i => [.int .i64 (i : Nat)]))), (6, .int .i64 (i : Nat))])
    (fun i h' => HI h0 [] h' [] ∧ i ≤ l.length) (fun _ : Unit => []) (fun _ h' => HI h0 [] h' []) 0 rfl ⟨H, by omega⟩ ?_ ?_
  · clear H
    rintro i h ⟨H, hi⟩ again done
    refine X.g H rfl fun h H nN => ?_
    refine X.lenZ 1 rfl rfl rfl rfl rfl hE rfl rfl rfl ?_
    refine X.g H rfl fun h H nN => ?_
    refine X.cond rfl (fun hb3 => ?_) fun hb3 => ?_
    · have hlt : i < l.length := by have := of_decide_eq_true hb3; rw [hLl] at this; omega
      have hcl : (l.map fun i => [AV.int .i64 (i : Nat)])[i]? = some [.int .i64 (l[i] : Nat)] := by simp [hlt]
      have hli := hl l[i] (List.getElem_mem hlt)
      have hc : (ns.map strCs)[l[i]]? = some (strCs ns[l[i]]) := by simp [hli]
      refine X.g H rfl fun h H nN => ?_
      refine X.freeD (fun h => StepD.un 19 rfl (slG_vec (by rw [hLl]; exact hlt)) rfl rfl (StepD.indexAddr rfl rfl rfl rfl rfl rfl (Int.natCast_nonneg _) (by rw [Int.toNat_natCast]; exact hcl) h)) rfl ?_
      refine X.g H rfl fun h H nN => ?_
      refine X.freeD (fun h => StepD.un 18 rfl (slG_vec (by rw [hL1]; exact hli)) rfl rfl (StepD.indexAddr rfl rfl rfl rfl rfl rfl (Int.natCast_nonneg _) (by rw [Int.toNat_natCast]; exact hc) h)) rfl ?_
      refine X.g H rfl fun h H nN => ?_
      refine X.callTD rfl Tryz.call71 (hm ns[l[i]]) ?_
      rintro _ ⟨m, rfl, hm1, hm2⟩
      refine X.g H rfl fun h H nN => ?_
      refine X.splitD rfl (fun hb4 => ?_) fun hb4 => ?_
      · refine X.gh [91] H rfl fun h H nN => ?_
        exact X.retV [] H rfl ⟨H.kp, _, rfl⟩
      have hm0 : 0 ≤ m := by have := of_decide_eq_false hb4; omega
      have hlx : l[i] < xs.length := by omega
      have hmx : m.toNat < xs'.length := by omega
      have hq := ih xs[l[i]] (List.getElem_mem hlx) xs'[m.toNat] (List.getElem_mem hmx)
      have hc6 : (xs.map JV.cs)[l[i]]? = some (xs[l[i]].cs) := by simp [hlx]
      have hc6' : (xs'.map JV.cs)[m.toNat]? = some (xs'[m.toNat].cs) := by simp [hmx]
      unfold JV.Eqs at hq
      obtain ⟨b7, n7, y1, y2, e7⟩ := xs[l[i]].shape
      obtain ⟨b8, n8, y3, y4, e8⟩ := xs'[m.toNat].shape
      rw [e7] at hq hc6
      rw [e8] at hq hc6'
      refine X.gh [] H rfl fun h H nN => ?_
      refine X.freeD (fun h => StepD.un 31 rfl (slG_vec (by rw [hLl]; exact hlt)) rfl rfl (StepD.indexAddr rfl rfl rfl rfl rfl rfl (Int.natCast_nonneg _) (by rw [Int.toNat_natCast]; exact hcl) h)) rfl ?_
      refine X.gh [] H rfl fun h H nN => ?_
      refine X.freeD (fun h => StepD.un 30 rfl (slG_vec (by rw [hL6]; exact hlx)) rfl rfl (StepD.indexAddr rfl rfl rfl rfl rfl rfl (Int.natCast_nonneg _) (by rw [Int.toNat_natCast]; exact hc6) h)) rfl ?_
      refine X.gh [] H rfl fun h H nN => ?_
      refine X.freeD (fun h => StepD.un 38 rfl (slG_vec (by rw [hL6']; exact hmx)) rfl rfl (StepD.indexAddr rfl rfl rfl rfl rfl rfl hm0 hc6' h)) rfl ?_
      refine X.gh [] H rfl fun h H nN => ?_
      refine X.callTD rfl Tryz.call67 hq ?_
      rintro _ ⟨b9, rfl⟩
      refine X.gh [] H rfl fun h H nN => ?_
      refine X.cond rfl (fun hb5 => ?_) fun hb5 => ?_
      · refine X.g H rfl fun h H nN => ?_
        exact X.retV [] H rfl ⟨H.kp, _, rfl⟩
      · refine X.g H rfl fun h H nN => ?_
        exact again (i + 1) (by omega) (HQ.mk rfl ⟨rfl, rfl, rfl, vi (wI (by omega)), trivial⟩) ⟨H, by omega⟩
    · refine X.g H rfl fun h H nN => ?_
      exact done () rfl H
  · clear H
    rintro ⟨⟩ h H
    refine X.g H rfl fun h H nN => ?_
    exact X.retV [] H rfl ⟨H.kp, _, rfl⟩
end
end Go.Am
