import Derived.Test.YtlnpifmdjcnflaaGreatDoorS41
set_option linter.unusedVariables false
set_option linter.unusedSimpArgs false
namespace Go.Am
open Go.Proofs
set_option maxRecDepth 100000
set_option linter.unusedSimpArgs false
set_option linter.unusedVariables false
attribute [local irreducible] AC AL AW AD ARun
section
variable {h h0 : AH} {fE f1 f2 : Bool}
set_option maxHeartbeats 4000000 in
theorem objectS_run (v : JV) (hv : v.Fit) (kv : v.k = 5) (ts : List Str) (o a m c : Nat) (ex : Bool) : ∀ h0, ARun Tryz.prog 45 [.int .i64 2020, ndS 0 fE ts, .agg (ndC 0 fE ts), .agg v.cs, .sl o a m c ex] h0 (.bool true) h0 := by
  intro h0
  refine ARun.pure (.bool _) ?_
  have hms := members_run v hv.sm
  have hnd := needs_run (fE := fE) v ts
  obtain ⟨k, b, n, t, ns, xs, f1, f2⟩ := v
  obtain ⟨hn, hx, -⟩ := hv.sm.get
  have hnx := hv.ok.get.2.2.1 kv
  simp only [JV.ns] at hms
  replace hms := hms (by omega)
  rw [JV.cs_mk] at hms hnd ⊢
  have hL1 : (ns.map strCs).length = ns.length := by simp
  have hL6 : (xs.map JV.cs).length = xs.length := by simp
  refine X.of (n := 143) (rs := [.tmp 10]) [] ⟨Tryz.func45, rfl, rfl, rfl⟩ rfl ?_
  have H : HI h0 [] h0 [] := HI.nil
  refine X.gm [6, 7, 8] [] H rfl fun h H nN => ?_
  refine X.callT rfl Tryz.call80 hms ?_
  rintro _ ⟨l, rfl, hl, hll⟩
  have hE := slG_elems false 1 (l.map fun i => [AV.int .i64 (i : Nat)])
  have hLl : (l.map fun i => [AV.int .i64 (i : Nat)]).length = l.length := by simp
  refine X.g H rfl fun h H nN => ?_
  refine X.lenZ 1 rfl rfl rfl rfl rfl hE rfl rfl rfl ?_
  refine X.g H rfl fun h H nN => ?_
  refine X.callQ rfl Tryz.call41 (bounded_run _) ?_
  refine X.gh [92] H rfl fun h H nN => ?_
  refine X.callQ rfl Tryz.call81 hnd ?_
  refine X.gh [] H rfl fun h H nN => ?_
  refine X.whileJ 143 (fun i : Nat => l.length - i) (fun i => [(0, .int .i64 2020), (4, .sl o a m c ex), (6, .ref none [sch 0 fE ts, .nilsl]), (7, .ref none (ndC 0 fE ts)), (8, .ref none [.int .i64 k, .bool b, .int .i64 n, .str t, .one (slG f1 1 (ns.map strCs)), .one (slG f2 6 (xs.map JV.cs))]), (11, .one (slC 1 (l.map fun i => [.int .i64 (i : Nat)]))), (12, .bool true), (13, .int .i64 (i : Nat))])
    (fun i h' => HI h0 [] h' [] ∧ i ≤ l.length) (fun _ : Unit => [(7, .ref none (ndC 0 fE ts)), (11, .one (slC 1 (l.map fun i => [.int .i64 (i : Nat)]))), (12, .bool true)]) (fun _ h' => HI h0 [] h' []) 0 rfl ⟨H, by omega⟩ ?_ ?_
  · clear H
    rintro i h ⟨H, hi⟩ again done
    refine X.g H rfl fun h H nN => ?_
    refine X.lenZ 1 rfl rfl rfl rfl rfl hE rfl rfl rfl ?_
    refine X.g H rfl fun h H nN => ?_
    refine X.cond rfl (fun hb3 => ?_) fun hb3 => ?_
    · have hlt : i < l.length := by have := of_decide_eq_true hb3; rw [hLl] at this; omega
      have hcl : (l.map fun i => [AV.int .i64 (i : Nat)])[i]? = some [.int .i64 (l[i] : Nat)] := by simp [hlt]
      have hli := hl l[i] (List.getElem_mem hlt)
      have hlx : l[i] < xs.length := by omega
      have hc : (ns.map strCs)[l[i]]? = some (strCs ns[l[i]]) := by simp [hli]
      have hc6 : (xs.map JV.cs)[l[i]]? = some (xs[l[i]].cs) := by simp [hlx]
      have hq := memberS_run (fE := fE) 2020 0 ts ns[l[i]] xs[l[i]]
      obtain ⟨b7, n7, y1, y2, e7⟩ := xs[l[i]].shape
      rw [e7] at hc6 hq
      refine X.g H rfl fun h H nN => ?_
      refine X.freeD (fun h => StepD.un 44 rfl (slG_vec (by rw [hLl]; exact hlt)) rfl rfl (StepD.indexAddr rfl rfl rfl rfl rfl rfl (Int.natCast_nonneg _) (by rw [Int.toNat_natCast]; exact hcl) h)) rfl ?_
      refine X.g H rfl fun h H nN => ?_
      refine X.freeD (fun h => StepD.un 43 rfl (slG_vec (by rw [hL1]; exact hli)) rfl rfl (StepD.indexAddr rfl rfl rfl rfl rfl rfl (Int.natCast_nonneg _) (by rw [Int.toNat_natCast]; exact hc) h)) rfl ?_
      refine X.gh [90] H rfl fun h H nN => ?_
      refine X.freeD (fun h => StepD.un 74 rfl (slG_vec (by rw [hLl]; exact hlt)) rfl rfl (StepD.indexAddr rfl rfl rfl rfl rfl rfl (Int.natCast_nonneg _) (by rw [Int.toNat_natCast]; exact hcl) h)) rfl ?_
      refine X.g H rfl fun h H nN => ?_
      refine X.freeD (fun h => StepD.un 73 rfl (slG_vec (by rw [hL6]; exact hlx)) rfl rfl (StepD.indexAddr rfl rfl rfl rfl rfl rfl (Int.natCast_nonneg _) (by rw [Int.toNat_natCast]; exact hc6) h)) rfl ?_
      refine X.g H rfl fun h H nN => ?_
      refine X.callQD rfl Tryz.call82 hq ?_
      refine X.gh [92, 90] H rfl fun h H nN => ?_
      exact again (i + 1) (by omega) (HQ.mk rfl ⟨rfl, rfl, rfl, rfl, rfl, rfl, rfl, vi (wI (by omega)), trivial⟩) ⟨H, by omega⟩
    · refine X.g H rfl fun h H nN => ?_
      exact done () rfl H
  · clear H
    rintro ⟨⟩ h H
    refine X.g H rfl fun h H nN => ?_
    refine X.roll ?_
    refine X.g H rfl fun h H nN => ?_
    refine X.lenZ 1 rfl rfl rfl rfl rfl hE rfl rfl rfl ?_
    refine X.g H rfl fun h H nN => ?_
    refine X.split rfl (fun hb => ?_) fun hb => ?_
    · refine X.gh [90] H rfl fun h H nN => ?_
      exact X.retV [] H rfl ⟨H.kp, fun _ _ _ h => h⟩
    · refine X.gh [90] H rfl fun h H nN => ?_
      exact X.retV [] H rfl ⟨H.kp, fun _ _ _ h => h⟩
end
end Go.Am
