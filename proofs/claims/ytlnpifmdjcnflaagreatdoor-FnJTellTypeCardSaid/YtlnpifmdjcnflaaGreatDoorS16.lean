import Derived.Test.YtlnpifmdjcnflaaGreatDoorS15
set_option linter.unusedVariables false
set_option linter.unusedSimpArgs false
namespace Go.Am
open Go.Proofs
set_option maxRecDepth 100000
set_option linter.unusedSimpArgs false
set_option linter.unusedVariables false
attribute [local irreducible] AC AL AW AD ARun
/-- Texts and lists are not too long. -/
inductive JV.Sm : JV → Prop where
  | mk {k b n t ns xs f1 f2} (ht : Am.Sm t) (hn : ns.length ≤ 4611686018427387904) (hns : ∀ s ∈ ns, Am.Sm s) (hx : xs.length ≤ 1700000000000) (hxs : ∀ x ∈ xs, JV.Sm x) : JV.Sm (.mk k b n t ns xs f1 f2)
/-- What the specification's guard says of the kinds and the names. -/
inductive JV.Ok : JV → Prop where
  | mk {k b n t ns xs f1 f2} (h0 : 0 ≤ k) (h5 : k ≤ 5) (hn : k = 5 → ns.length = xs.length) (hxs : ∀ x ∈ xs, JV.Ok x) : JV.Ok (.mk k b n t ns xs f1 f2)
section
variable {h h0 : AH} {fE f1 f2 : Bool}
theorem utf8_run (s : Str) (hs : Am.Sm s) : TQ 31 [.str s] isB := by
  refine TQ.b fun h0 => ?_
  refine X.of (n := 17) (rs := [.tmp 2]) [] ⟨Tryz.func31, rfl, rfl, rfl⟩ rfl ?_
  have H : HI h0 [] h0 [] := HI.nil
  refine X.g H rfl fun h H nN => ?_
  refine X.whileJ 17 (fun i : Nat => s.length - i) (fun i => [(0, .str s), (3, .int .i64 (i : Nat))])
    (fun i h' => HI h0 [] h' [] ∧ i ≤ s.length) (fun _ : Unit => [(0, .str s)]) (fun _ h' => HI h0 [] h' []) 0 rfl ⟨H, by omega⟩ ?_ ?_
  · clear H
    rintro i h ⟨H, hi⟩ again done
    refine X.g H rfl fun h H nN => ?_
    refine X.cond rfl (fun hb3 => ?_) fun hb3 => ?_
    · have hlt : i < s.length := by have := of_decide_eq_true hb3; omega
      refine X.g H rfl fun h H nN => ?_
      refine X.callT rfl Tryz.call53 (width_run s hs i hlt) ?_
      rintro _ ⟨n, rfl, hn⟩
      refine X.g H rfl fun h H nN => ?_
      refine X.cond rfl (fun hb4 => ?_) fun hb4 => ?_
      · refine X.g H rfl fun h H nN => ?_
        exact X.retV [] H rfl ⟨H.kp, false, rfl⟩
      · have h0 : n ≠ 0 := by have := of_decide_eq_false hb4; omega
        have hle : i + n ≤ s.length := hn.resolve_left h0
        refine X.g H rfl fun h H nN => ?_
        exact again (i + n) (by omega) (HQ.mk rfl ⟨rfl, vi (wI (by omega)), trivial⟩) ⟨H, hle⟩
    · refine X.g H rfl fun h H nN => ?_
      exact done () rfl H
  · clear H
    rintro ⟨⟩ h H
    refine X.g H rfl fun h H nN => ?_
    exact X.retV [] H rfl ⟨H.kp, _, rfl⟩
set_option maxHeartbeats 4000000 in
theorem properIn_run : ∀ (d : Nat) (hd : d < 1000000) (v : JV) (hv : v.Sm), TQ 24 [.agg v.cs, .int .i64 d] fun r => ∃ b, r = .bool b ∧ (b = true → v.Ok) := by
  intro d
  induction d with
  | zero =>
    intro hd v hv
    refine TQ.of (fun r ⟨b, e, _⟩ => e ▸ .bool b) fun h0 => ?_
    obtain ⟨b, n, z1, z2, e⟩ := v.shape
    rw [e]
    refine X.of (n := 83) (rs := [.tmp 4]) [] ⟨Tryz.func24, rfl, rfl, rfl⟩ rfl ?_
    have H : HI h0 [] h0 [] := HI.nil
    refine X.gh [91] H rfl fun h H nN => ?_
    exact X.retV [] H rfl ⟨H.kp, false, rfl, fun h => by cases h⟩
  | succ d ih =>
  intro hd v hv
  refine TQ.of (fun r ⟨b, e, _⟩ => e ▸ .bool b) fun h0 => ?_
  obtain ⟨ht, hn, hns, hx, hxs⟩ := hv
  rename_i k b n t ns xs f1 f2
  rw [JV.cs_mk]
  refine X.of (n := 83) (rs := [.tmp 4]) [] ⟨Tryz.func24, rfl, rfl, rfl⟩ rfl ?_
  have H : HI h0 [] h0 [] := HI.nil
  have hE1 := slG_elems f1 1 (ns.map strCs)
  have hE6 := slG_elems f2 6 (xs.map JV.cs)
  have hL1 : (ns.map strCs).length = ns.length := by simp
  have hL6 : (xs.map JV.cs).length = xs.length := by simp
  refine X.g H rfl fun h H nN => ?_
  refine X.cond rfl (fun hb => ?_) fun hb => ?_
  · exact absurd (of_decide_eq_true hb) (by omega)
  refine X.q 3 H rfl fun h H nN => ?_
  refine X.seqJ 83 (fun c : Bool => [(1, .int .i64 ((d + 1 : Nat) : Int)), (2, .ptr h0.n 0), (52, .bool c)])
    (fun c h => HI h0 [] h [(h0.n, [AV.int .i64 k, .bool b, .int .i64 n, .str t, .one (slG f1 1 (ns.map strCs)), .one (slG f2 6 (xs.map JV.cs))])] ∧ (c = false → 0 ≤ k ∧ k ≤ 5 ∧ (k = 5 → ns.length = xs.length))) (fun J => ?_) ?_
  · refine X.g H rfl fun h H nN => ?_
    refine X.split rfl (fun h1 => ?_) fun h1 => ?_
    · refine X.gh [92, 92, 92, 92, 92, 92] H rfl fun h H nN => ?_
      exact J _ rfl ⟨H, fun hb => by simp at hb⟩
    refine X.g H rfl fun h H nN => ?_
    refine X.split rfl (fun h2 => ?_) fun h2 => ?_
    · refine X.gh [92, 92, 92, 92, 92] H rfl fun h H nN => ?_
      exact J _ rfl ⟨H, fun hb => by simp at hb⟩
    refine X.g H rfl fun h H nN => ?_
    refine X.callT rfl Tryz.call31 (utf8_run t ht) ?_
    rintro _ ⟨b3, rfl⟩
    refine X.g H rfl fun h H nN => ?_
    refine X.split rfl (fun h3 => ?_) fun h3 => ?_
    · refine X.gh [92, 92, 92, 92] H rfl fun h H nN => ?_
      exact J _ rfl ⟨H, fun hb => by simp at hb⟩
    have k0 : 0 ≤ k := by have := of_decide_eq_false h1; omega
    have k5 : k ≤ 5 := by have : decide (k > 5) = false := by simpa using h2
                          have := of_decide_eq_false this; omega
    refine X.g H rfl fun h H nN => ?_
    refine X.split rfl (fun h4 => ?_) fun h4 => ?_
    · have k2 : k = 2 := of_decide_eq_true h4
      refine X.g H rfl fun h H nN => ?_
      refine X.split rfl (fun h5 => ?_) fun h5 => ?_
      · refine X.g H rfl fun h H nN => ?_
        refine X.callT rfl Tryz.call32 (isDec_run t) ?_
        rintro _ ⟨b6, rfl⟩
        refine X.g H rfl fun h H nN => ?_
        refine X.split rfl (fun h7 => ?_) fun h7 => ?_
        · refine X.gh [92] H rfl fun h H nN => ?_
          exact J _ rfl ⟨H, fun hb => by simp at hb⟩
        · refine X.g H rfl fun h H nN => ?_
          refine X.split rfl (fun h8 => ?_) fun h8 => ?_
          · exact absurd (of_decide_eq_true h8) (by omega)
          refine X.g H rfl fun h H nN => ?_
          exact J _ rfl ⟨H, fun _ => ⟨k0, k5, fun e => by omega⟩⟩
      · refine X.gh [92] H rfl fun h H nN => ?_
        refine X.split rfl (fun h8 => ?_) fun h8 => ?_
        · exact absurd (of_decide_eq_true h8) (by omega)
        refine X.g H rfl fun h H nN => ?_
        exact J _ rfl ⟨H, fun _ => ⟨k0, k5, fun e => by omega⟩⟩
    · refine X.gh [92] H rfl fun h H nN => ?_
      refine X.split rfl (fun h7 => ?_) fun h7 => ?_
      · simp at h7
      · refine X.g H rfl fun h H nN => ?_
        refine X.split rfl (fun h8 => ?_) fun h8 => ?_
        · refine X.g H rfl fun h H nN => ?_
          refine X.lenZ 1 rfl rfl rfl rfl rfl hE1 rfl rfl rfl ?_
          refine X.g H rfl fun h H nN => ?_
          refine X.lenZ 6 rfl rfl rfl rfl rfl hE6 rfl rfl rfl ?_
          refine X.g H rfl fun h H nN => ?_
          refine J _ rfl ⟨H, fun hb => ⟨k0, k5, fun _ => ?_⟩⟩
          simp at hb
          omega
        · refine X.g H rfl fun h H nN => ?_
          exact J _ rfl ⟨H, fun _ => ⟨k0, k5, fun e => absurd e (of_decide_eq_false h8)⟩⟩
  clear H
  rintro c h ⟨H, hc⟩
  refine X.cond rfl (fun hb => ?_) fun hb => ?_
  · refine X.g H rfl fun h H nN => ?_
    exact X.retV [] H rfl ⟨H.kp, false, rfl, fun h => by cases h⟩
  obtain ⟨k0, k5, kn⟩ := hc hb
  refine X.g H rfl fun h H nN => ?_
  refine X.whileJ 83 (fun i : Nat => ns.length - i) (fun i => [(1, .int .i64 ((d + 1 : Nat) : Int)), (2, .ptr h0.n 0), (5, .int .i64 (i : Nat))])
    (fun i h' => HI h0 [] h' [(h0.n, [AV.int .i64 k, .bool b, .int .i64 n, .str t, .one (slG f1 1 (ns.map strCs)), .one (slG f2 6 (xs.map JV.cs))])] ∧ i ≤ ns.length) (fun _ : Unit => [(1, .int .i64 ((d + 1 : Nat) : Int)), (2, .ptr h0.n 0)])
    (fun _ h' => HI h0 [] h' [(h0.n, [AV.int .i64 k, .bool b, .int .i64 n, .str t, .one (slG f1 1 (ns.map strCs)), .one (slG f2 6 (xs.map JV.cs))])]) 0 rfl ⟨H, by omega⟩ ?_ ?_
  · clear H
    rintro i h ⟨H, hi⟩ again done
    refine X.g H rfl fun h H nN => ?_
    refine X.lenZ 1 rfl rfl rfl rfl rfl hE1 rfl rfl rfl ?_
    refine X.g H rfl fun h H nN => ?_
    refine X.cond rfl (fun hb3 => ?_) fun hb3 => ?_
    · have hlt : i < ns.length := by have := of_decide_eq_true hb3; rw [hL1] at this; omega
      have hc : (ns.map strCs)[i]? = some (strCs ns[i]) := by simp [hlt]
      refine X.g H rfl fun h H nN => ?_
      refine X.unO 61 rfl ?_
      rw [slG_vec (by rw [hL1]; exact hlt)] at again H ⊢
      refine X.free (StepD.indexAddr rfl rfl rfl rfl rfl rfl (Int.natCast_nonneg _) (by rw [Int.toNat_natCast]; exact hc)) rfl ?_
      refine X.g H rfl fun h H nN => ?_
      refine X.callT rfl Tryz.call31 (utf8_run ns[i] (hns _ (List.getElem_mem hlt))) ?_
      rintro _ ⟨b5, rfl⟩
      refine X.g H rfl fun h H nN => ?_
      refine X.cond rfl (fun hb4 => ?_) fun hb4 => ?_
      · refine X.g H rfl fun h H nN => ?_
        exact X.retV [] H rfl ⟨H.kp, false, rfl, fun h => by cases h⟩
      · refine X.g H rfl fun h H nN => ?_
        exact again (i + 1) (by omega) (HQ.mk rfl ⟨rfl, rfl, vi (wI (by omega)), trivial⟩) ⟨H, by omega⟩
    · refine X.g H rfl fun h H nN => ?_
      exact done () rfl H
  clear H
  rintro ⟨⟩ h H
  refine X.g H rfl fun h H nN => ?_
  refine X.whileJ 83 (fun i : Nat => xs.length - i) (fun i => [(1, .int .i64 ((d + 1 : Nat) : Int)), (2, .ptr h0.n 0), (6, .int .i64 (i : Nat))])
    (fun i h' => HI h0 [] h' [(h0.n, [AV.int .i64 k, .bool b, .int .i64 n, .str t, .one (slG f1 1 (ns.map strCs)), .one (slG f2 6 (xs.map JV.cs))])] ∧ i ≤ xs.length ∧ ∀ j < i, ∀ x, xs[j]? = some x → x.Ok) (fun _ : Unit => [])
    (fun _ h' => HI h0 [] h' [(h0.n, [AV.int .i64 k, .bool b, .int .i64 n, .str t, .one (slG f1 1 (ns.map strCs)), .one (slG f2 6 (xs.map JV.cs))])] ∧ ∀ x ∈ xs, x.Ok) 0 rfl ⟨H, by omega, fun j h => by omega⟩ ?_ ?_
  · clear H
    rintro i h ⟨H, hi, ho⟩ again done
    refine X.g H rfl fun h H nN => ?_
    refine X.lenZ 6 rfl rfl rfl rfl rfl hE6 rfl rfl rfl ?_
    refine X.g H rfl fun h H nN => ?_
    refine X.cond rfl (fun hb3 => ?_) fun hb3 => ?_
    · have hlt : i < xs.length := by have := of_decide_eq_true hb3; rw [hL6] at this; omega
      have hc : (xs.map JV.cs)[i]? = some (xs[i].cs) := by simp [hlt]
      refine X.g H rfl fun h H nN => ?_
      refine X.unO 75 rfl ?_
      rw [slG_vec (sz := 6) (by rw [hL6]; exact hlt)] at again H ⊢
      refine X.free (StepD.indexAddr rfl rfl rfl rfl rfl rfl (Int.natCast_nonneg _) (by rw [Int.toNat_natCast]; exact hc)) rfl ?_
      obtain ⟨b7, n7, z1, z2, e7⟩ := xs[i].shape
      rw [e7]
      refine X.g H rfl fun h H nN => ?_
      rw [← e7]
      refine X.eqi 80 d rfl (wI (by omega)) ?_
      refine X.callT rfl Tryz.call24 (ih (by omega) xs[i] (hxs _ (List.getElem_mem hlt))) ?_
      rintro _ ⟨b5, rfl, h5⟩
      refine X.g H rfl fun h H nN => ?_
      refine X.cond rfl (fun hb4 => ?_) fun hb4 => ?_
      · refine X.g H rfl fun h H nN => ?_
        exact X.retV [] H rfl ⟨H.kp, false, rfl, fun h => by cases h⟩
      · refine X.g H rfl fun h H nN => ?_
        refine again (i + 1) (by omega) (HQ.mk rfl ⟨rfl, rfl, vi (wI (by omega)), trivial⟩) ⟨H, by omega, fun j hj x hx => ?_⟩
        by_cases e : j = i
        · subst e; rw [List.getElem?_eq_getElem hlt] at hx; injection hx with hx; subst hx; exact h5 (by simpa using hb4)
        · exact ho j (by omega) x hx
    · have : i = xs.length := by have := of_decide_eq_false hb3; rw [hL6] at this; omega
      subst this
      refine X.g H rfl fun h H nN => ?_
      refine done () rfl ⟨H, fun x hx => ?_⟩
      obtain ⟨j, hj, rfl⟩ := List.mem_iff_getElem.1 hx
      exact ho j hj _ (List.getElem?_eq_getElem hj)
  clear H
  rintro ⟨⟩ h ⟨H, hok⟩
  refine X.g H rfl fun h H nN => ?_
  exact X.retV [] H rfl ⟨H.kp, true, rfl, fun _ => ⟨k0, k5, kn, hok⟩⟩
end
end Go.Am
