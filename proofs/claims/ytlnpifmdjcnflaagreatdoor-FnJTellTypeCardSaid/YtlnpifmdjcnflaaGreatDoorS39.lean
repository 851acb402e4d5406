import Derived.Test.YtlnpifmdjcnflaaGreatDoorS38
set_option linter.unusedVariables false
set_option linter.unusedSimpArgs false
namespace Go.Am
open Go.Proofs
set_option maxRecDepth 100000
set_option linter.unusedSimpArgs false
set_option linter.unusedVariables false
attribute [local irreducible] AC AL AW AD ARun
section
variable {h h0 : AH} {fE f1 f2 : Bool}
set_option maxHeartbeats 4000000 in
theorem equals_step (u v : JV) (hu : u.Fit) (hv : v.Fit) (ih : ∀ x ∈ u.xs, ∀ y ∈ v.xs, x.Eqs y) : u.Eqs v := by
  refine TQ.b fun h0 => ?_
  have hw := within_run u v hu hv
  have hh1 := has_run u v hu.sm hv.sm
  have hh2 := has_run v u hv.sm hu.sm
  obtain ⟨k, b, n, t, ns, xs, f1, f2⟩ := u
  obtain ⟨k', b', n', t', ns', xs', f1', f2'⟩ := v
  simp only [JV.k] at hw
  simp only [JV.xs] at ih
  obtain ⟨hn, hx, -⟩ := hu.sm.get
  have k2 := hu.nn.get.1
  replace hw := fun a b => hw a b ih
  rw [JV.cs_mk] at hh1 hh2 ⊢
  rw [JV.cs_mk] at hh1 hh2 ⊢
  simp only [JV.cs_mk] at hw
  have hE6 := slG_elems f2 6 (xs.map JV.cs)
  have hE6' := slG_elems f2' 6 (xs'.map JV.cs)
  have hL6 : (xs.map JV.cs).length = xs.length := by simp
  have hL6' : (xs'.map JV.cs).length = xs'.length := by simp
  refine X.of (n := 78) (rs := [.tmp 4]) [] ⟨Tryz.func67, rfl, rfl, rfl⟩ rfl ?_
  have H : HI h0 [] h0 [] := HI.nil
  refine X.gm [2, 3] [] H rfl fun h H nN => ?_
  refine X.cond rfl (fun hb => ?_) fun hb0 => ?_
  · refine X.g H rfl fun h H nN => ?_
    exact X.retV [] H rfl ⟨H.kp, _, rfl⟩
  have hkk : k = k' := by simpa using hb0
  refine X.g H rfl fun h H nN => ?_
  refine X.cond rfl (fun hb => ?_) fun hb1 => ?_
  · refine X.g H rfl fun h H nN => ?_
    exact X.retV [] H rfl ⟨H.kp, _, rfl⟩
  refine X.g H rfl fun h H nN => ?_
  refine X.cond rfl (fun hb => absurd (of_decide_eq_true hb) k2) fun hb2 => ?_
  refine X.g H rfl fun h H nN => ?_
  refine X.cond rfl (fun hb => ?_) fun hb3 => ?_
  · refine X.g H rfl fun h H nN => ?_
    exact X.retV [] H rfl ⟨H.kp, _, rfl⟩
  refine X.g H rfl fun h H nN => ?_
  refine X.cond rfl (fun hb => ?_) fun hb4 => ?_
  · refine X.g H rfl fun h H nN => ?_
    refine X.lenZ 6 rfl rfl rfl rfl rfl hE6 rfl rfl rfl ?_
    refine X.g H rfl fun h H nN => ?_
    refine X.lenZ 6 rfl rfl rfl rfl rfl hE6' rfl rfl rfl ?_
    refine X.g H rfl fun h H nN => ?_
    refine X.cond rfl (fun hbl => ?_) fun hbl => ?_
    · refine X.g H rfl fun h H nN => ?_
      exact X.retV [] H rfl ⟨H.kp, _, rfl⟩
    have hll : xs.length = xs'.length := by
      rw [hL6, hL6'] at hbl
      have : ((xs.length : Nat) : Int) = (xs'.length : Nat) := by simpa using hbl
      omega
    refine X.g H rfl fun h H nN => ?_
    refine X.while (fun i : Nat => xs.length - i) 78 (fun i => [(2, .ref none [.int .i64 k, .bool b, .int .i64 n, .str t, .one (slG f1 1 (ns.map strCs)), .one (slG f2 6 (xs.map JV.cs))]), (3, .ref none [.int .i64 k', .bool b', .int .i64 n', .str t', .one (slG f1' 1 (ns'.map strCs)), .one (slG f2' 6 (xs'.map JV.cs))]), (5, .int .i64 (i : Nat))])
      (fun i h' => HI h0 [] h' [] ∧ i ≤ xs.length) 0 rfl ⟨H, by omega⟩ ?_
    clear H
    rintro i h ⟨H, hi⟩ again
    refine X.g H rfl fun h H nN => ?_
    refine X.lenZ 6 rfl rfl rfl rfl rfl hE6 rfl rfl rfl ?_
    refine X.g H rfl fun h H nN => ?_
    refine X.cond rfl (fun hb5 => ?_) fun hb5 => ?_
    · have hlt : i < xs.length := by have := of_decide_eq_true hb5; rw [hL6] at this; omega
      have hlt' : i < xs'.length := by omega
      have hq := ih xs[i] (List.getElem_mem hlt) xs'[i] (List.getElem_mem hlt')
      have hc6 : (xs.map JV.cs)[i]? = some (xs[i].cs) := by simp [hlt]
      have hc6' : (xs'.map JV.cs)[i]? = some (xs'[i].cs) := by simp [hlt']
      unfold JV.Eqs at hq
      obtain ⟨b7, n7, y1, y2, e7⟩ := xs[i].shape
      obtain ⟨b8, n8, y3, y4, e8⟩ := xs'[i].shape
      rw [e7] at hq hc6
      rw [e8] at hq hc6'
      refine X.gh [] H rfl fun h H nN => ?_
      refine X.freeD (fun h => StepD.un 52 rfl (slG_vec (by rw [hL6]; exact hlt)) rfl rfl (StepD.indexAddr rfl rfl rfl rfl rfl rfl (Int.natCast_nonneg _) (by rw [Int.toNat_natCast]; exact hc6) h)) rfl ?_
      refine X.gh [] H rfl fun h H nN => ?_
      refine X.freeD (fun h => StepD.un 57 rfl (slG_vec (by rw [hL6']; exact hlt')) rfl rfl (StepD.indexAddr rfl rfl rfl rfl rfl rfl (Int.natCast_nonneg _) (by rw [Int.toNat_natCast]; exact hc6') h)) rfl ?_
      refine X.gh [] H rfl fun h H nN => ?_
      refine X.callTD rfl Tryz.call67 hq ?_
      rintro _ ⟨b9, rfl⟩
      refine X.gh [] H rfl fun h H nN => ?_
      refine X.cond rfl (fun hb6 => ?_) fun hb6 => ?_
      · refine X.g H rfl fun h H nN => ?_
        exact X.retV [] H rfl ⟨H.kp, _, rfl⟩
      · refine X.g H rfl fun h H nN => ?_
        exact again (i + 1) (by omega) (HQ.mk rfl ⟨rfl, rfl, vi (wI (by omega)), trivial⟩) ⟨H, by omega⟩
    · refine X.g H rfl fun h H nN => ?_
      exact X.retV [] H rfl ⟨H.kp, _, rfl⟩
  refine X.g H rfl fun h H nN => ?_
  refine X.cond rfl (fun hb => ?_) fun hb5 => ?_
  · refine X.g H rfl fun h H nN => ?_
    refine X.callT rfl Tryz.call120 hh1 ?_
    rintro _ ⟨b9, rfl⟩
    refine X.g H rfl fun h H nN => ?_
    cases b9
    · refine X.gh [92, 92] H rfl fun h H nN => ?_
      exact X.retV [] H rfl ⟨H.kp, _, rfl⟩
    refine X.gh [92] H rfl fun h H nN => ?_
    refine X.callT rfl Tryz.call120 hh2 ?_
    rintro _ ⟨b9, rfl⟩
    refine X.g H rfl fun h H nN => ?_
    cases b9
    · refine X.gh [92] H rfl fun h H nN => ?_
      exact X.retV [] H rfl ⟨H.kp, _, rfl⟩
    refine X.gh [92] H rfl fun h H nN => ?_
    refine X.callT rfl Tryz.call121 (hw (of_decide_eq_true hb) (hkk ▸ of_decide_eq_true hb)) ?_
    rintro _ ⟨b9, rfl⟩
    refine X.g H rfl fun h H nN => ?_
    exact X.retV [] H rfl ⟨H.kp, _, rfl⟩
  · refine X.g H rfl fun h H nN => ?_
    exact X.retV [] H rfl ⟨H.kp, _, rfl⟩
end
end Go.Am
