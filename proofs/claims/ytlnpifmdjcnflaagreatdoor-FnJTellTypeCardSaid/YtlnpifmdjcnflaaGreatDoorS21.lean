import Derived.Test.YtlnpifmdjcnflaaGreatDoorS20
set_option linter.unusedVariables false
set_option linter.unusedSimpArgs false
namespace Go.Am
open Go.Proofs
set_option maxRecDepth 100000
set_option linter.unusedSimpArgs false
set_option linter.unusedVariables false
attribute [local irreducible] AC AL AW AD ARun
/-- The mask of some kinds. -/
def maskL (ts : List Str) : Int := ts.foldl (fun a t => orI a (tyB t)) 0
/-- What the schema's Types points at. -/
def TyOK (h0 : AH) (tv : AV) (h' : AH) (ts : List Str) : Prop := (ts = [] ∧ tv = .nilp) ∨ (ts ≠ [] ∧ ∃ p, tv = .ptr p 0 ∧ h0.n ≤ p ∧ p < h'.n ∧ h'.get p = some (.cells [.int .i64 (maskL ts)]))
theorem TyOK.kp {h0 h h' : AH} {tv : AV} {ts : List Str} {ids : List Nat} (t : TyOK h0 tv h ts) (k : Kp ids h h') (hi : ∀ i ∈ ids, i < h0.n) : TyOK h0 tv h' ts := t.imp id fun ⟨a, p, b, c, d, e⟩ => ⟨a, p, b, c, Nat.lt_of_lt_of_le d k.n, (k.get p d (fun h => by have := hi p h; omega)).trans e⟩
/-- An empty map, made since. -/
def EM (h0 h' : AH) (v : AV) : Prop := ∃ m, v = .map m ∧ h0.n ≤ m ∧ m < h'.n ∧ h'.get m = some (.map [])
theorem EM.kp {h0 h h' : AH} {v : AV} {ids : List Nat} (t : EM h0 h v) (k : Kp ids h h') (hi : ∀ i ∈ ids, i < h0.n) : EM h0 h' v := by
  obtain ⟨m, a, b, c, d⟩ := t
  exact ⟨m, a, b, Nat.lt_of_lt_of_le c k.n, (k.get m c (fun h => by have := hi m h; omega)).trans d⟩
theorem EM.push {h0 h : AH} (hn : h0.n ≤ h.n) : EM h0 (h.push (.map [])) (.map h.n) := ⟨_, rfl, hn, by simp [AH.push], by simp [AH.push]⟩
theorem Kp.pushM {h : AH} {x : AObj} : Kp [] h (h.push x) := (HI.pushO (ids := []) HI.nil).kp
theorem mask_snoc (ts : List Str) (i : Nat) (h : i < ts.length) : maskL (ts.take (i + 1)) = orI (maskL (ts.take i)) (tyB ts[i]) := by
  rw [List.take_succ_eq_append_getElem h, maskL, List.foldl_append]
  rfl
theorem HI.swap {h0 h : AH} {ids : List Nat} {a b : Nat × List AV} {V : View} (H : HI h0 ids h (a :: b :: V)) : HI h0 ids h (b :: a :: V) := by
  have e : ∀ x, x ∈ b :: a :: V → x ∈ a :: b :: V := fun x hx => by
    simp only [List.mem_cons] at hx ⊢
    rcases hx with h | h | h <;> simp [h]
  refine ⟨HV.of (fun x hx => H.hv.get (e x hx)) ?_, H.kp, fun x hx => H.new x (e x hx)⟩
  have := H.hv.nodup
  simp only [List.map_cons, List.nodup_cons, List.mem_cons, not_or] at this ⊢
  exact ⟨⟨fun h => this.1.1 h.symm, this.2.1⟩, this.1.2, this.2.2⟩
section
variable {h h0 : AH} {fE f1 f2 : Bool}
set_option maxHeartbeats 4000000 in
theorem set_run (x : AV) (o : Nat) (ts : List Str) (hl : ts.length ≤ 2147483647) (n d : Int) (hn : 0 ≤ n) (hg : h0.get o = some (.cells ({} : Sc).cs)) (ho : o < h0.n) : ARunE Tryz.prog 55 [x, .ptr o 0, .agg (ndC 0 fE ts), .int .i64 n, .int .i64 d] h0 fun v h' => Kp [o] h0 h' ∧ v = .tup [] ∧
    ∃ s : Sc, h'.get o = some (.cells s.cs) ∧ (s.draft = d ∧ s.loc = [] ∧ s.bool = .nilp ∧ s.req = .vec .none 1 []) ∧ TyOK h0 s.types h' ts ∧ EM h0 h' s.props ∧ EM h0 h' s.pats ∧ EM h0 h' s.deps ∧ EM h0 h' s.dreq ∧ EM h0 h' s.dsch := by
  refine X.of (n := 345) (rs := []) [] ⟨Tryz.func55, rfl, rfl, rfl⟩ rfl ?_
  have H : HI h0 [o] h0 [(o, ({} : Sc).cs)] := HI.one hg ho
  refine X.q 5 H rfl fun h H nN => ?_
  replace H : HI h0 [o] h [(h0.n, ndC 0 fE ts), (o, ({} : Sc).cs)] := H.swap
  refine X.freeze 7 H rfl (Nat.le_refl _) fun H => ?_
  refine X.gh [0, 92, 90] H rfl fun h H nN => ?_
  refine X.callQ rfl Tryz.call58 (at0_run x n hn) ?_
  refine X.gh [0] H rfl fun h H nN => ?_
  refine X.callQD rfl Tryz.call95 (all_run x n) ?_
  refine X.g H rfl fun h H nN => ?_
  refine X.callQD rfl Tryz.call95 (all_run x n) ?_
  refine X.g H rfl fun h H nN => ?_
  refine X.callQD rfl Tryz.call95 (all_run x n) ?_
  refine X.gh [0, 0, 0] H rfl fun h H nN => ?_
  refine X.callQD rfl Tryz.call58 (at0_run x n hn) ?_
  refine X.g H rfl fun h H nN => ?_
  refine X.callQD rfl Tryz.call58 (at0_run x n hn) ?_
  refine X.g H rfl fun h H nN => ?_
  refine X.callQD rfl Tryz.call58 (at0_run x n hn) ?_
  refine X.g H rfl fun h H nN => ?_
  refine X.callQD rfl Tryz.call58 (at0_run x n hn) ?_
  refine X.q 13 H rfl fun h H nN => ?_
  have hE := slG_elems fE 1 (ts.map strCs)
  have hL : (ts.map strCs).length = ts.length := by simp
  refine X.seqJ 345 (fun _ : AV => [(0, x), (1, .ptr o 0), (3, .int .i64 n), (7, .ref none (ndC 0 fE ts))]) (fun tv h' => HI h0 [o] h' [(o, ({ draft := d, types := tv } : Sc).cs)] ∧ TyOK h0 tv h' ts) (fun J => ?_) ?_
  · refine X.g H rfl fun h H nN => ?_
    refine X.lenZ 1 rfl rfl rfl rfl rfl hE rfl rfl rfl ?_
    refine X.g H rfl fun hA H nN => ?_
    refine X.cond rfl (fun hb => ?_) fun hb => ?_
    · have hpos : 0 < ts.length := by have := of_decide_eq_true hb; rw [hL] at this; omega
      have hA0 : h0.n ≤ hA.n := H.kp.n
      have hAo : o < hA.n := H.at_.2
      refine X.gh [0] H rfl fun h H nN => ?_
      refine X.lenZ 1 rfl rfl rfl rfl rfl hE rfl rfl rfl ?_
      refine X.unO 110 rfl ?_
      refine X.g H rfl fun h H nN => ?_
      rw [hL]
      refine X.while (fun i : Nat => ts.length - i) 345 (fun i => [(0, x), (1, .ptr o 0), (3, .int .i64 n), (7, .ref none (ndC 0 fE ts)), (110, slG fE 1 (ts.map strCs)), (111, .int .i64 (ts.length : Nat)), (112, .int .i64 (i : Nat))])
        (fun i h' => HI h0 [o] h' [(o, ({ draft := d, types := .ptr hA.n 0 } : Sc).cs), (hA.n, [.int .i64 (maskL (ts.take i))])] ∧ i ≤ ts.length) 0 rfl ⟨H, by omega⟩ ?_
      clear H
      rintro i h ⟨H, hi⟩ again
      refine X.g H rfl fun h H nN => ?_
      refine X.cond rfl (fun hb3 => ?_) fun hb3 => ?_
      · have hlt : i < ts.length := by have := of_decide_eq_true hb3; omega
        have hc : (ts.map strCs)[i]? = some (strCs ts[i]) := by simp [hlt]
        rw [slG_vec (es := ts.map strCs) (by rw [hL]; exact hlt)] at again ⊢
        refine X.g H rfl fun h H nN => ?_
        refine X.free (StepD.indexAddr rfl rfl rfl rfl rfl rfl (Int.natCast_nonneg _) (by rw [Int.toNat_natCast]; exact hc)) rfl ?_
        refine X.gh [0] H rfl fun h H nN => ?_
        refine X.call rfl Tryz.call96 (Add_run hA.n (maskL (ts.take i)) ts[i] H.at2.1 H.at2.2) ?_
        rintro _ h1 ⟨k1, rfl, g1⟩
        rw [← mask_snoc ts i hlt] at g1
        replace H := (H.swap.upd k1 g1).swap
        refine X.g H rfl fun h H nN => ?_
        exact again (i + 1) (by omega) (HQ.mk rfl ⟨rfl, rfl, rfl, rfl, rfl, rfl, vi (wI (by omega)), trivial⟩) ⟨H, by omega⟩
      · have : i = ts.length := by have := of_decide_eq_false hb3; omega
        subst this
        rw [List.take_length] at H
        refine X.g H rfl fun h H nN => ?_
        exact J (.ptr hA.n 0) rfl ⟨H.take (k := 1), .inr ⟨by rintro rfl; simp at hpos, hA.n, rfl, hA0, H.at2.2, H.at2.1⟩⟩
    · have : ts = [] := by
        have := of_decide_eq_false hb
        rw [hL] at this
        exact List.eq_nil_of_length_eq_zero (by omega)
      refine X.g H rfl fun h H nN => ?_
      exact J .nilp rfl ⟨H, .inl ⟨this, rfl⟩⟩
  clear H
  rintro tv h ⟨H, T⟩
  refine X.rh [90, 90] H rfl fun h H nN kq => ?_
  replace T := T.kp kq (by simpa using ho)
  refine X.callQD rfl Tryz.call98 (limit_run) ?_
  refine X.rh [] H rfl fun h H nN kq => ?_
  replace T := T.kp kq (by simpa using ho)
  refine X.callQD rfl Tryz.call98 (limit_run) ?_
  refine X.rh [0, 0, 90, 90] H rfl fun h H nN kq => ?_
  replace T := T.kp kq (by simpa using ho)
  refine X.callQD rfl Tryz.call98 (limit_run) ?_
  refine X.rh [] H rfl fun h H nN kq => ?_
  replace T := T.kp kq (by simpa using ho)
  refine X.callQD rfl Tryz.call98 (limit_run) ?_
  refine X.rh [] H rfl fun h H nN kq => ?_
  replace T := T.kp kq (by simpa using ho)
  refine X.callQD rfl Tryz.call98 (limit_run) ?_
  refine X.rh [] H rfl fun h H nN kq => ?_
  replace T := T.kp kq (by simpa using ho)
  refine X.callQD rfl Tryz.call98 (limit_run) ?_
  refine X.rh [] H rfl fun h H nN kq => ?_
  replace T := T.kp kq (by simpa using ho)
  refine X.callQ rfl Tryz.call95 (all_run x 0) ?_
  refine X.rh [] H rfl fun h H nN kq => ?_
  replace T := T.kp kq (by simpa using ho)
  refine X.callQD rfl Tryz.call58 (at0_run x 0 (by decide)) ?_
  refine X.rh [] H rfl fun h H nN kq => ?_
  replace T := T.kp kq (by simpa using ho)
  refine X.callQD rfl Tryz.call58 (at0_run x 0 (by decide)) ?_
  refine X.rh [] H rfl fun h H nN kq => ?_
  replace T := T.kp kq (by simpa using ho)
  refine X.callQD rfl Tryz.call58 (at0_run x 0 (by decide)) ?_
  refine X.rh [] H rfl fun h H nN kq => ?_
  replace T := T.kp kq (by simpa using ho)
  refine X.callQD rfl Tryz.call98 (limit_run) ?_
  refine X.rh [] H rfl fun h H nN kq => ?_
  replace T := T.kp kq (by simpa using ho)
  refine X.callQD rfl Tryz.call98 (limit_run) ?_
  refine X.rh [] H rfl fun h H nN kq => ?_
  replace T := T.kp kq (by simpa using ho)
  refine X.callQ rfl Tryz.call61 (copied_nil) ?_
  refine X.rh [] H rfl fun h H nN kq => ?_
  replace T := T.kp kq (by simpa using ho)
  have E1 : EM h0 (h.push (.map [])) (.map h.n) := EM.push H.kp.n
  replace T := T.kp (Kp.pushM (h := h) (x := .map [])) (by simp)
  refine X.op rfl rfl rfl ?_
  replace H := HI.pushO (x := .map []) H
  refine X.rh [] H rfl fun h H nN kq => ?_
  replace T := T.kp kq (by simpa using ho)
  replace E1 := E1.kp kq (by simpa using ho)
  refine X.roll ?_
  refine X.rh [90] H rfl fun h H nN kq => ?_
  replace T := T.kp kq (by simpa using ho)
  replace E1 := E1.kp kq (by simpa using ho)
  refine X.call rfl Tryz.call100 (props_run x n h) ?_
  rintro _ h1 ⟨mE2, rfl, k1, a1, b1, c1⟩
  have E2 : EM h0 h1 (.map mE2) := ⟨_, rfl, Nat.le_trans H.kp.n a1, b1, c1⟩
  replace T := T.kp k1 (by simp)
  replace E1 := E1.kp k1 (by simp)
  replace H := H.same k1
  refine X.rh [] H rfl fun h H nN kq => ?_
  replace T := T.kp kq (by simpa using ho)
  replace E1 := E1.kp kq (by simpa using ho)
  replace E2 := E2.kp kq (by simpa using ho)
  refine X.call rfl Tryz.call100 (props_run x 0 h) ?_
  rintro _ h1 ⟨mE3, rfl, k1, a1, b1, c1⟩
  have E3 : EM h0 h1 (.map mE3) := ⟨_, rfl, Nat.le_trans H.kp.n a1, b1, c1⟩
  replace T := T.kp k1 (by simp)
  replace E1 := E1.kp k1 (by simp)
  replace E2 := E2.kp k1 (by simp)
  replace H := H.same k1
  refine X.rh [] H rfl fun h H nN kq => ?_
  replace T := T.kp kq (by simpa using ho)
  replace E1 := E1.kp kq (by simpa using ho)
  replace E2 := E2.kp kq (by simpa using ho)
  replace E3 := E3.kp kq (by simpa using ho)
  have E4 : EM h0 (h.push (.map [])) (.map h.n) := EM.push H.kp.n
  replace T := T.kp (Kp.pushM (h := h) (x := .map [])) (by simp)
  replace E1 := E1.kp (Kp.pushM (h := h) (x := .map [])) (by simp)
  replace E2 := E2.kp (Kp.pushM (h := h) (x := .map [])) (by simp)
  replace E3 := E3.kp (Kp.pushM (h := h) (x := .map [])) (by simp)
  refine X.op rfl rfl rfl ?_
  replace H := HI.pushO (x := .map []) H
  refine X.rh [] H rfl fun h H nN kq => ?_
  replace T := T.kp kq (by simpa using ho)
  replace E1 := E1.kp kq (by simpa using ho)
  replace E2 := E2.kp kq (by simpa using ho)
  replace E3 := E3.kp kq (by simpa using ho)
  replace E4 := E4.kp kq (by simpa using ho)
  refine X.roll ?_
  refine X.rh [90] H rfl fun h H nN kq => ?_
  replace T := T.kp kq (by simpa using ho)
  replace E1 := E1.kp kq (by simpa using ho)
  replace E2 := E2.kp kq (by simpa using ho)
  replace E3 := E3.kp kq (by simpa using ho)
  replace E4 := E4.kp kq (by simpa using ho)
  refine X.callQD rfl Tryz.call58 (at0_run x 0 (by decide)) ?_
  refine X.rh [] H rfl fun h H nN kq => ?_
  replace T := T.kp kq (by simpa using ho)
  replace E1 := E1.kp kq (by simpa using ho)
  replace E2 := E2.kp kq (by simpa using ho)
  replace E3 := E3.kp kq (by simpa using ho)
  replace E4 := E4.kp kq (by simpa using ho)
  refine X.callQD rfl Tryz.call58 (at0_run x 0 (by decide)) ?_
  refine X.rh [] H rfl fun h H nN kq => ?_
  replace T := T.kp kq (by simpa using ho)
  replace E1 := E1.kp kq (by simpa using ho)
  replace E2 := E2.kp kq (by simpa using ho)
  replace E3 := E3.kp kq (by simpa using ho)
  replace E4 := E4.kp kq (by simpa using ho)
  refine X.callQ rfl Tryz.call101 (more_run x) ?_
  refine X.rh [] H rfl fun h H nN kq => ?_
  replace T := T.kp kq (by simpa using ho)
  replace E1 := E1.kp kq (by simpa using ho)
  replace E2 := E2.kp kq (by simpa using ho)
  replace E3 := E3.kp kq (by simpa using ho)
  replace E4 := E4.kp kq (by simpa using ho)
  refine X.call rfl Tryz.call102 (older_run x o ⟨d, [], .nilp, tv, .vec .none 1 [], _, _, .nilm, _, _⟩ ts n H.at_.1 H.at_.2) ?_
  rintro _ h1 ⟨k1, rfl, m, a1, b1, c1, g1⟩
  have E5 : EM h0 h1 (.map m) := ⟨_, rfl, Nat.le_trans H.kp.n a1, b1, c1⟩
  replace T := T.kp k1 (by simpa using ho)
  replace E1 := E1.kp k1 (by simpa using ho)
  replace E2 := E2.kp k1 (by simpa using ho)
  replace E3 := E3.kp k1 (by simpa using ho)
  replace E4 := E4.kp k1 (by simpa using ho)
  replace H := H.upd k1 g1
  refine X.r H rfl fun h H nN kq => ?_
  refine X.endV [] H rfl ⟨H.kp, rfl, _, H.at_.1, ⟨rfl, rfl, rfl, rfl⟩, T.kp kq (by simpa using ho), E3.kp kq (by simpa using ho), E4.kp kq (by simpa using ho), E5.kp kq (by simpa using ho), E1.kp kq (by simpa using ho), E2.kp kq (by simpa using ho)⟩
end
end Go.Am
