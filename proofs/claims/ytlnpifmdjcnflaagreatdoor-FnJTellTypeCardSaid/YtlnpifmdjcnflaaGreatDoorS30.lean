import Derived.Test.YtlnpifmdjcnflaaGreatDoorS29
set_option linter.unusedVariables false
set_option linter.unusedSimpArgs false
namespace Go.Am
open Go.Proofs
set_option maxRecDepth 100000
set_option linter.unusedSimpArgs false
set_option linter.unusedVariables false
attribute [local irreducible] AC AL AW AD ARun
section
variable {h h0 : AH} {fE f1 f2 : Bool}
/-- What the validator's schema must be. -/
structure ScV (h : AH) (ts : List Str) (s : Sc) : Prop where
  draft : s.draft = 2020
  bool : s.bool = .nilp
  req : s.req = .vec .none 1 []
  types : TyOK AH.none s.types h ts
  props : MT h s.props
  pats : MT h s.pats
  deps : MT h s.deps
  dreq : MT h s.dreq
  dsch : MT h s.dsch
theorem ScV.kp {h h' : AH} {ts : List Str} {s : Sc} (v : ScV h ts s) (k : Kp [] h h') : ScV h' ts s where
  draft := v.draft
  bool := v.bool
  req := v.req
  types := v.types.imp id fun ⟨a, p, b, c, d, e⟩ => ⟨a, p, b, c, Nat.lt_of_lt_of_le d k.n, (k.get p d (by simp)).trans e⟩
  props := v.props.kp k fun _ _ => by simp
  pats := v.pats.kp k fun _ _ => by simp
  deps := v.deps.kp k fun _ _ => by simp
  dreq := v.dreq.kp k fun _ _ => by simp
  dsch := v.dsch.kp k fun _ _ => by simp
theorem IVo.kp {k : Int} {x : AV} {h h' : AH} (i : IVo k x h) (kp : Kp [] h h') : IVo k x h' := by
  rcases i with q | q | q | q | ⟨a, o, es, b, c, d, e⟩
  · exact .inl q
  · exact .inr (.inl q)
  · exact .inr (.inr (.inl q))
  · exact .inr (.inr (.inr (.inl q)))
  · exact .inr (.inr (.inr (.inr ⟨a, o, es, b, (kp.get o e (by simp)).trans c, d, Nat.lt_of_lt_of_le e kp.n⟩)))
/-- What the validator says: nothing, or the error of the type. -/
def vRes (loc : Str) (ts : List Str) (k : Int) (un : AV) : AV :=
  if ts = [] ∨ kindS k ∈ ts then .tup [.one un, .nili] else .tup [.nilp, .iface 84 (.ref none (veC loc (.iface 196 (.ref none [.str (kindS k), sls false (namesM (maskL ts) bits)])) .nilsl))]
set_option maxHeartbeats 8000000 in
theorem vd_run (ts : List Str) (hok : okB ts = true) {k : Int} {x : AV} (o : Nat) (s : Sc) (un a b c : AV) (hs : ScV h0 ts s) (hx : IVo k x h0) (hg : h0.get o = some (.cells (vdC x (.vec .none 1 []) s (.ref none [a, b, c, .nilp]) un .nilsl))) (ho : o < h0.n) :
    ARunE Tryz.prog 105 [.ptr o 0] h0 fun v h' => Kp [] h0 h' ∧ v = vRes s.loc ts k un := by
  have hs' := hs
  have hg' := hg
  obtain ⟨d, l, bb, t, r, p, pq, e1, e2, e3⟩ := s
  obtain ⟨s1, s2, s3, s4, s5, s6, s7, s8, s9⟩ := hs'
  simp only at s1 s2 s3 s4 s5 s6 s7 s8 s9
  subst s1 s2 s3
  rcases hx with ⟨rfl, rfl⟩ | ⟨rfl, y, rfl⟩ | ⟨rfl, y, rfl⟩ | ⟨rfl, y, z, rfl⟩ | ⟨rfl, y, z, rfl, m1, m2, m3⟩
  · have hx' : IVo 0 .nili h0 := .inl ⟨rfl, rfl⟩
    refine X.of (n := 353) (rs := [.tmp 2, .tmp 3]) [] ⟨Tryz.func105, rfl, rfl, rfl⟩ rfl ?_
    have H : HI h0 [o] h0 [(o, vdC .nili (.vec .none 1 []) ⟨2020, l, .nilp, t, .vec .none 1 [], p, pq, e1, e2, e3⟩ (.ref none [a, b, c, .nilp]) un .nilsl)] := HI.one hg ho
    have D0 : ∀ {h : AH}, HI h0 [o] h [(o, vdC .nili (.vec .none 1 []) ⟨2020, l, .nilp, t, .vec .none 1 [], p, pq, e1, e2, e3⟩ (.ref none [a, b, c, .nilp]) un .nilsl)] → Kp [] h0 h := fun H => H.kp.drop (H.at_.1.trans hg.symm)
    refine X.gh [90] H rfl fun h H nN => ?_
    refine X.unO 54 rfl ?_
    refine X.call rfl Tryz.call143 (cycle2_run a b c _) ?_
    rintro _ h1 ⟨k1, rfl⟩
    replace H := H.same k1
    refine X.gh [90] H rfl fun h H nN => ?_
    refine X.call rfl Tryz.call145 (typeOf_run hx' h) ?_
    rintro _ h1 ⟨k1, rfl⟩
    replace H := H.same k1
    have hT0 : tyB (kindS 0) ≠ 0 := by decide
    have hTm := mask_kind hok 0
    generalize hT : tyB (kindS 0) = T at hT0 hTm ⊢
    refine X.gh [] H rfl fun h H nN => ?_
    refine X.cond rfl (fun hb => absurd (of_decide_eq_true hb) hT0) fun hb => ?_
    refine X.q 2 H rfl fun h H nN => ?_
    refine X.seqJ 353 (fun _ : Unit => [(0, .ptr o 0), (4, .ref none (⟨2020, l, .nilp, t, .vec .none 1 [], p, pq, e1, e2, e3⟩ : Sc).cs), (5, .nili)]) (fun _ h' => HI h0 [o] h' [(o, vdC .nili (.vec .none 1 []) ⟨2020, l, .nilp, t, .vec .none 1 [], p, pq, e1, e2, e3⟩ (.ref none [a, b, c, .nilp]) un .nilsl)] ∧ (ts = [] ∨ kindS 0 ∈ ts)) (fun J => ?_) ?_
    · rcases s4 with ⟨rfl, rfl⟩ | ⟨hne, p1, rfl, -, q2, q3⟩
      · refine X.gh [92, 90] H rfl fun h H nN => ?_
        exact J () (HQ.mk rfl ⟨rfl, rfl, rfl, trivial⟩) ⟨H, .inl rfl⟩
      · have hml : maskL ts ≠ 0 := mask_ne hok hne
        have eK : (!decide (andI (maskL ts) T = 0)) = decide (kindS 0 ∈ ts) := by rw [hTm]; simp
        have kA := D0 H
        have hop : o ≠ p1 := fun e => by rw [← e, hg] at q3; cases q3
        have q4 := (kA.get p1 q2 (by simp)).trans q3
        have H2 := HI.two hop H.at_.1 H.at_.2 q4 (Nat.lt_of_lt_of_le q2 kA.n)
        refine X.gh [92, 1] H2 rfl fun h2 H2 nN => ?_
        refine X.callQ rfl Tryz.call146 (isEmpty_run _) ?_
        refine X.gh [] H2 rfl fun h2 H2 nN => ?_
        refine X.cond rfl (fun hb => ?_) fun hb => absurd hb (by simp [hml])
        refine X.gh [1] H2 rfl fun h2 H2 nN => ?_
        refine X.callQ rfl Tryz.call147 (by have := contains_run (maskL ts) T; rw [eK] at this; exact this) ?_
        refine X.gh [] H2 rfl fun h2 H2 nN => ?_
        refine X.cond rfl (fun hb => ?_) fun hb => ?_
        · refine X.gh [] H2 rfl fun h2 H2 nN => ?_
          refine X.callQD rfl Tryz.call148 (tyS_run T) ?_
          refine X.gh [1] H2 rfl fun h2 H2 nN => ?_
          refine X.callQD rfl Tryz.call149 (toStrings_run (maskL ts)) ?_
          refine X.gm [122] [] H2 rfl fun h2 H2 nN => ?_
          refine X.callD rfl Tryz.call142 (err_run o .nili _ (.ref none [a, b, c, .nilp]) un .nilsl _ _ H2.at_.1 H2.at_.2) ?_
          rintro _ h3 ⟨k3, rfl⟩
          replace H2 := H2.same k3
          refine X.gh [] H2 rfl fun h2 H2 nN => ?_
          refine X.retV [] H2 rfl ⟨kA.trans (H2.kp.drop2 (H2.at_.1.trans H.at_.1.symm) (H2.at2.1.trans q4.symm)), ?_⟩
          have hK : tyS T = kindS 0 := by rw [← hT]; exact (kindS_in 0).2.2
          rw [hK]
          have hni : kindS 0 ∉ ts := by simpa using hb
          simp only [vRes, hne, hni, or_self, if_false]
          rfl
        · refine X.gh [] H2 rfl fun h2 H2 nN => ?_
          exact J () (HQ.mk rfl ⟨rfl, rfl, rfl, trivial⟩) ⟨H.same (H2.kp.drop2 (H2.at_.1.trans H.at_.1.symm) (H2.at2.1.trans q4.symm)), .inr (by simpa using hb)⟩
    clear H
    rintro ⟨⟩ h ⟨H, hin⟩
    refine X.gh [90, 90, 90, 90] H rfl fun h H nN => ?_
    refine X.op rfl rfl rfl ?_
    refine X.gh [90] H rfl fun h H nN => ?_
    refine X.op rfl rfl rfl ?_
    refine X.gh [90] H rfl fun h H nN => ?_
    refine X.op rfl rfl rfl ?_
    refine X.gh [90] H rfl fun h H nN => ?_
    refine X.gh [] H rfl fun h H nN => ?_
    refine X.unO 300 rfl ?_
    refine X.gh [92, 91] H rfl fun h H nN => ?_
    refine X.call rfl Tryz.call156 (cond_run o _ _ _ _ _ _ H.at_.1 H.at_.2) ?_
    rintro _ h1 ⟨k1, rfl⟩
    replace H := H.same k1
    refine X.gh [91] H rfl fun h H nN => ?_
    refine X.call rfl Tryz.call157 (unevalV_run hx' o _ _ _ _ _ H.at_.1 H.at_.2) ?_
    rintro _ h1 ⟨k1, rfl⟩
    replace H := H.same k1
    refine X.gh [] H rfl fun h H nN => ?_
    refine X.unO 322 rfl ?_
    refine X.gh [91] H rfl fun h H nN => ?_
    refine X.retV [] H rfl ⟨D0 H, ?_⟩
    simp only [vRes, hin, if_true]
    rfl
  · have hx' : IVo 1 (.iface 4 (.bool y)) h0 := .inr (.inl ⟨rfl, y, rfl⟩)
    refine X.of (n := 353) (rs := [.tmp 2, .tmp 3]) [] ⟨Tryz.func105, rfl, rfl, rfl⟩ rfl ?_
    have H : HI h0 [o] h0 [(o, vdC (.iface 4 (.bool y)) (.vec .none 1 []) ⟨2020, l, .nilp, t, .vec .none 1 [], p, pq, e1, e2, e3⟩ (.ref none [a, b, c, .nilp]) un .nilsl)] := HI.one hg ho
    have D0 : ∀ {h : AH}, HI h0 [o] h [(o, vdC (.iface 4 (.bool y)) (.vec .none 1 []) ⟨2020, l, .nilp, t, .vec .none 1 [], p, pq, e1, e2, e3⟩ (.ref none [a, b, c, .nilp]) un .nilsl)] → Kp [] h0 h := fun H => H.kp.drop (H.at_.1.trans hg.symm)
    refine X.gh [90] H rfl fun h H nN => ?_
    refine X.unO 54 rfl ?_
    refine X.call rfl Tryz.call143 (cycle2_run a b c _) ?_
    rintro _ h1 ⟨k1, rfl⟩
    replace H := H.same k1
    refine X.gh [90] H rfl fun h H nN => ?_
    refine X.call rfl Tryz.call145 (typeOf_run hx' h) ?_
    rintro _ h1 ⟨k1, rfl⟩
    replace H := H.same k1
    have hT0 : tyB (kindS 1) ≠ 0 := by decide
    have hTm := mask_kind hok 1
    generalize hT : tyB (kindS 1) = T at hT0 hTm ⊢
    refine X.gh [] H rfl fun h H nN => ?_
    refine X.cond rfl (fun hb => absurd (of_decide_eq_true hb) hT0) fun hb => ?_
    refine X.q 2 H rfl fun h H nN => ?_
    refine X.seqJ 353 (fun _ : Unit => [(0, .ptr o 0), (4, .ref none (⟨2020, l, .nilp, t, .vec .none 1 [], p, pq, e1, e2, e3⟩ : Sc).cs), (5, (.iface 4 (.bool y)))]) (fun _ h' => HI h0 [o] h' [(o, vdC (.iface 4 (.bool y)) (.vec .none 1 []) ⟨2020, l, .nilp, t, .vec .none 1 [], p, pq, e1, e2, e3⟩ (.ref none [a, b, c, .nilp]) un .nilsl)] ∧ (ts = [] ∨ kindS 1 ∈ ts)) (fun J => ?_) ?_
    · rcases s4 with ⟨rfl, rfl⟩ | ⟨hne, p1, rfl, -, q2, q3⟩
      · refine X.gh [92, 90] H rfl fun h H nN => ?_
        exact J () (HQ.mk rfl ⟨rfl, rfl, rfl, trivial⟩) ⟨H, .inl rfl⟩
      · have hml : maskL ts ≠ 0 := mask_ne hok hne
        have eK : (!decide (andI (maskL ts) T = 0)) = decide (kindS 1 ∈ ts) := by rw [hTm]; simp
        have kA := D0 H
        have hop : o ≠ p1 := fun e => by rw [← e, hg] at q3; cases q3
        have q4 := (kA.get p1 q2 (by simp)).trans q3
        have H2 := HI.two hop H.at_.1 H.at_.2 q4 (Nat.lt_of_lt_of_le q2 kA.n)
        refine X.gh [92, 1] H2 rfl fun h2 H2 nN => ?_
        refine X.callQ rfl Tryz.call146 (isEmpty_run _) ?_
        refine X.gh [] H2 rfl fun h2 H2 nN => ?_
        refine X.cond rfl (fun hb => ?_) fun hb => absurd hb (by simp [hml])
        refine X.gh [1] H2 rfl fun h2 H2 nN => ?_
        refine X.callQ rfl Tryz.call147 (by have := contains_run (maskL ts) T; rw [eK] at this; exact this) ?_
        refine X.gh [] H2 rfl fun h2 H2 nN => ?_
        refine X.cond rfl (fun hb => ?_) fun hb => ?_
        · refine X.gh [] H2 rfl fun h2 H2 nN => ?_
          refine X.callQD rfl Tryz.call148 (tyS_run T) ?_
          refine X.gh [1] H2 rfl fun h2 H2 nN => ?_
          refine X.callQD rfl Tryz.call149 (toStrings_run (maskL ts)) ?_
          refine X.gm [122] [] H2 rfl fun h2 H2 nN => ?_
          refine X.callD rfl Tryz.call142 (err_run o (.iface 4 (.bool y)) _ (.ref none [a, b, c, .nilp]) un .nilsl _ _ H2.at_.1 H2.at_.2) ?_
          rintro _ h3 ⟨k3, rfl⟩
          replace H2 := H2.same k3
          refine X.gh [] H2 rfl fun h2 H2 nN => ?_
          refine X.retV [] H2 rfl ⟨kA.trans (H2.kp.drop2 (H2.at_.1.trans H.at_.1.symm) (H2.at2.1.trans q4.symm)), ?_⟩
          have hK : tyS T = kindS 1 := by rw [← hT]; exact (kindS_in 1).2.2
          rw [hK]
          have hni : kindS 1 ∉ ts := by simpa using hb
          simp only [vRes, hne, hni, or_self, if_false]
          rfl
        · refine X.gh [] H2 rfl fun h2 H2 nN => ?_
          exact J () (HQ.mk rfl ⟨rfl, rfl, rfl, trivial⟩) ⟨H.same (H2.kp.drop2 (H2.at_.1.trans H.at_.1.symm) (H2.at2.1.trans q4.symm)), .inr (by simpa using hb)⟩
    clear H
    rintro ⟨⟩ h ⟨H, hin⟩
    refine X.gh [90, 90, 90, 90] H rfl fun h H nN => ?_
    refine X.op rfl rfl rfl ?_
    refine X.gh [90] H rfl fun h H nN => ?_
    refine X.op rfl rfl rfl ?_
    refine X.gh [90] H rfl fun h H nN => ?_
    refine X.op rfl rfl rfl ?_
    refine X.gh [90] H rfl fun h H nN => ?_
    refine X.gh [] H rfl fun h H nN => ?_
    refine X.unO 300 rfl ?_
    refine X.gh [92, 91] H rfl fun h H nN => ?_
    refine X.call rfl Tryz.call156 (cond_run o _ _ _ _ _ _ H.at_.1 H.at_.2) ?_
    rintro _ h1 ⟨k1, rfl⟩
    replace H := H.same k1
    refine X.gh [91] H rfl fun h H nN => ?_
    refine X.call rfl Tryz.call157 (unevalV_run hx' o _ _ _ _ _ H.at_.1 H.at_.2) ?_
    rintro _ h1 ⟨k1, rfl⟩
    replace H := H.same k1
    refine X.gh [] H rfl fun h H nN => ?_
    refine X.unO 322 rfl ?_
    refine X.gh [91] H rfl fun h H nN => ?_
    refine X.retV [] H rfl ⟨D0 H, ?_⟩
    simp only [vRes, hin, if_true]
    rfl
  · have hx' : IVo 3 (.iface 9 (.str y)) h0 := .inr (.inr (.inl ⟨rfl, y, rfl⟩))
    refine X.of (n := 353) (rs := [.tmp 2, .tmp 3]) [] ⟨Tryz.func105, rfl, rfl, rfl⟩ rfl ?_
    have H : HI h0 [o] h0 [(o, vdC (.iface 9 (.str y)) (.vec .none 1 []) ⟨2020, l, .nilp, t, .vec .none 1 [], p, pq, e1, e2, e3⟩ (.ref none [a, b, c, .nilp]) un .nilsl)] := HI.one hg ho
    have D0 : ∀ {h : AH}, HI h0 [o] h [(o, vdC (.iface 9 (.str y)) (.vec .none 1 []) ⟨2020, l, .nilp, t, .vec .none 1 [], p, pq, e1, e2, e3⟩ (.ref none [a, b, c, .nilp]) un .nilsl)] → Kp [] h0 h := fun H => H.kp.drop (H.at_.1.trans hg.symm)
    refine X.gh [90] H rfl fun h H nN => ?_
    refine X.unO 54 rfl ?_
    refine X.call rfl Tryz.call143 (cycle2_run a b c _) ?_
    rintro _ h1 ⟨k1, rfl⟩
    replace H := H.same k1
    refine X.gh [90] H rfl fun h H nN => ?_
    refine X.call rfl Tryz.call145 (typeOf_run hx' h) ?_
    rintro _ h1 ⟨k1, rfl⟩
    replace H := H.same k1
    have hT0 : tyB (kindS 3) ≠ 0 := by decide
    have hTm := mask_kind hok 3
    generalize hT : tyB (kindS 3) = T at hT0 hTm ⊢
    refine X.gh [] H rfl fun h H nN => ?_
    refine X.cond rfl (fun hb => absurd (of_decide_eq_true hb) hT0) fun hb => ?_
    refine X.q 2 H rfl fun h H nN => ?_
    refine X.seqJ 353 (fun _ : Unit => [(0, .ptr o 0), (4, .ref none (⟨2020, l, .nilp, t, .vec .none 1 [], p, pq, e1, e2, e3⟩ : Sc).cs), (5, (.iface 9 (.str y)))]) (fun _ h' => HI h0 [o] h' [(o, vdC (.iface 9 (.str y)) (.vec .none 1 []) ⟨2020, l, .nilp, t, .vec .none 1 [], p, pq, e1, e2, e3⟩ (.ref none [a, b, c, .nilp]) un .nilsl)] ∧ (ts = [] ∨ kindS 3 ∈ ts)) (fun J => ?_) ?_
    · rcases s4 with ⟨rfl, rfl⟩ | ⟨hne, p1, rfl, -, q2, q3⟩
      · refine X.gh [92, 90] H rfl fun h H nN => ?_
        exact J () (HQ.mk rfl ⟨rfl, rfl, rfl, trivial⟩) ⟨H, .inl rfl⟩
      · have hml : maskL ts ≠ 0 := mask_ne hok hne
        have eK : (!decide (andI (maskL ts) T = 0)) = decide (kindS 3 ∈ ts) := by rw [hTm]; simp
        have kA := D0 H
        have hop : o ≠ p1 := fun e => by rw [← e, hg] at q3; cases q3
        have q4 := (kA.get p1 q2 (by simp)).trans q3
        have H2 := HI.two hop H.at_.1 H.at_.2 q4 (Nat.lt_of_lt_of_le q2 kA.n)
        refine X.gh [92, 1] H2 rfl fun h2 H2 nN => ?_
        refine X.callQ rfl Tryz.call146 (isEmpty_run _) ?_
        refine X.gh [] H2 rfl fun h2 H2 nN => ?_
        refine X.cond rfl (fun hb => ?_) fun hb => absurd hb (by simp [hml])
        refine X.gh [1] H2 rfl fun h2 H2 nN => ?_
        refine X.callQ rfl Tryz.call147 (by have := contains_run (maskL ts) T; rw [eK] at this; exact this) ?_
        refine X.gh [] H2 rfl fun h2 H2 nN => ?_
        refine X.cond rfl (fun hb => ?_) fun hb => ?_
        · refine X.gh [] H2 rfl fun h2 H2 nN => ?_
          refine X.callQD rfl Tryz.call148 (tyS_run T) ?_
          refine X.gh [1] H2 rfl fun h2 H2 nN => ?_
          refine X.callQD rfl Tryz.call149 (toStrings_run (maskL ts)) ?_
          refine X.gm [122] [] H2 rfl fun h2 H2 nN => ?_
          refine X.callD rfl Tryz.call142 (err_run o (.iface 9 (.str y)) _ (.ref none [a, b, c, .nilp]) un .nilsl _ _ H2.at_.1 H2.at_.2) ?_
          rintro _ h3 ⟨k3, rfl⟩
          replace H2 := H2.same k3
          refine X.gh [] H2 rfl fun h2 H2 nN => ?_
          refine X.retV [] H2 rfl ⟨kA.trans (H2.kp.drop2 (H2.at_.1.trans H.at_.1.symm) (H2.at2.1.trans q4.symm)), ?_⟩
          have hK : tyS T = kindS 3 := by rw [← hT]; exact (kindS_in 3).2.2
          rw [hK]
          have hni : kindS 3 ∉ ts := by simpa using hb
          simp only [vRes, hne, hni, or_self, if_false]
          rfl
        · refine X.gh [] H2 rfl fun h2 H2 nN => ?_
          exact J () (HQ.mk rfl ⟨rfl, rfl, rfl, trivial⟩) ⟨H.same (H2.kp.drop2 (H2.at_.1.trans H.at_.1.symm) (H2.at2.1.trans q4.symm)), .inr (by simpa using hb)⟩
    clear H
    rintro ⟨⟩ h ⟨H, hin⟩
    refine X.gh [90, 90, 90, 90] H rfl fun h H nN => ?_
    refine X.op rfl rfl rfl ?_
    refine X.gh [90] H rfl fun h H nN => ?_
    refine X.op rfl rfl rfl ?_
    refine X.gh [90] H rfl fun h H nN => ?_
    refine X.op rfl rfl rfl ?_
    refine X.gh [91] H rfl fun h H nN => ?_
    refine X.call rfl Tryz.call155 (str_run o _ _ _ _ _ _ y H.at_.1 H.at_.2) ?_
    rintro _ h1 ⟨k1, rfl⟩
    replace H := H.same k1
    refine X.gh [] H rfl fun h H nN => ?_
    refine X.unO 300 rfl ?_
    refine X.gh [92, 91] H rfl fun h H nN => ?_
    refine X.call rfl Tryz.call156 (cond_run o _ _ _ _ _ _ H.at_.1 H.at_.2) ?_
    rintro _ h1 ⟨k1, rfl⟩
    replace H := H.same k1
    refine X.gh [91] H rfl fun h H nN => ?_
    refine X.call rfl Tryz.call157 (unevalV_run hx' o _ _ _ _ _ H.at_.1 H.at_.2) ?_
    rintro _ h1 ⟨k1, rfl⟩
    replace H := H.same k1
    refine X.gh [] H rfl fun h H nN => ?_
    refine X.unO 322 rfl ?_
    refine X.gh [91] H rfl fun h H nN => ?_
    refine X.retV [] H rfl ⟨D0 H, ?_⟩
    simp only [vRes, hin, if_true]
    rfl
  · have hx' : IVo 4 (.iface 125 (.vec y 1 z)) h0 := .inr (.inr (.inr (.inl ⟨rfl, y, z, rfl⟩)))
    refine X.of (n := 353) (rs := [.tmp 2, .tmp 3]) [] ⟨Tryz.func105, rfl, rfl, rfl⟩ rfl ?_
    have H : HI h0 [o] h0 [(o, vdC (.iface 125 (.vec y 1 z)) (.vec .none 1 []) ⟨2020, l, .nilp, t, .vec .none 1 [], p, pq, e1, e2, e3⟩ (.ref none [a, b, c, .nilp]) un .nilsl)] := HI.one hg ho
    have D0 : ∀ {h : AH}, HI h0 [o] h [(o, vdC (.iface 125 (.vec y 1 z)) (.vec .none 1 []) ⟨2020, l, .nilp, t, .vec .none 1 [], p, pq, e1, e2, e3⟩ (.ref none [a, b, c, .nilp]) un .nilsl)] → Kp [] h0 h := fun H => H.kp.drop (H.at_.1.trans hg.symm)
    refine X.gh [90] H rfl fun h H nN => ?_
    refine X.unO 54 rfl ?_
    refine X.call rfl Tryz.call143 (cycle2_run a b c _) ?_
    rintro _ h1 ⟨k1, rfl⟩
    replace H := H.same k1
    refine X.gh [90] H rfl fun h H nN => ?_
    refine X.call rfl Tryz.call145 (typeOf_run hx' h) ?_
    rintro _ h1 ⟨k1, rfl⟩
    replace H := H.same k1
    have hT0 : tyB (kindS 4) ≠ 0 := by decide
    have hTm := mask_kind hok 4
    generalize hT : tyB (kindS 4) = T at hT0 hTm ⊢
    refine X.gh [] H rfl fun h H nN => ?_
    refine X.cond rfl (fun hb => absurd (of_decide_eq_true hb) hT0) fun hb => ?_
    refine X.q 2 H rfl fun h H nN => ?_
    refine X.seqJ 353 (fun _ : Unit => [(0, .ptr o 0), (4, .ref none (⟨2020, l, .nilp, t, .vec .none 1 [], p, pq, e1, e2, e3⟩ : Sc).cs), (5, (.iface 125 (.vec y 1 z)))]) (fun _ h' => HI h0 [o] h' [(o, vdC (.iface 125 (.vec y 1 z)) (.vec .none 1 []) ⟨2020, l, .nilp, t, .vec .none 1 [], p, pq, e1, e2, e3⟩ (.ref none [a, b, c, .nilp]) un .nilsl)] ∧ (ts = [] ∨ kindS 4 ∈ ts)) (fun J => ?_) ?_
    · rcases s4 with ⟨rfl, rfl⟩ | ⟨hne, p1, rfl, -, q2, q3⟩
      · refine X.gh [92, 90] H rfl fun h H nN => ?_
        exact J () (HQ.mk rfl ⟨rfl, rfl, rfl, trivial⟩) ⟨H, .inl rfl⟩
      · have hml : maskL ts ≠ 0 := mask_ne hok hne
        have eK : (!decide (andI (maskL ts) T = 0)) = decide (kindS 4 ∈ ts) := by rw [hTm]; simp
        have kA := D0 H
        have hop : o ≠ p1 := fun e => by rw [← e, hg] at q3; cases q3
        have q4 := (kA.get p1 q2 (by simp)).trans q3
        have H2 := HI.two hop H.at_.1 H.at_.2 q4 (Nat.lt_of_lt_of_le q2 kA.n)
        refine X.gh [92, 1] H2 rfl fun h2 H2 nN => ?_
        refine X.callQ rfl Tryz.call146 (isEmpty_run _) ?_
        refine X.gh [] H2 rfl fun h2 H2 nN => ?_
        refine X.cond rfl (fun hb => ?_) fun hb => absurd hb (by simp [hml])
        refine X.gh [1] H2 rfl fun h2 H2 nN => ?_
        refine X.callQ rfl Tryz.call147 (by have := contains_run (maskL ts) T; rw [eK] at this; exact this) ?_
        refine X.gh [] H2 rfl fun h2 H2 nN => ?_
        refine X.cond rfl (fun hb => ?_) fun hb => ?_
        · refine X.gh [] H2 rfl fun h2 H2 nN => ?_
          refine X.callQD rfl Tryz.call148 (tyS_run T) ?_
          refine X.gh [1] H2 rfl fun h2 H2 nN => ?_
          refine X.callQD rfl Tryz.call149 (toStrings_run (maskL ts)) ?_
          refine X.gm [122] [] H2 rfl fun h2 H2 nN => ?_
          refine X.callD rfl Tryz.call142 (err_run o (.iface 125 (.vec y 1 z)) _ (.ref none [a, b, c, .nilp]) un .nilsl _ _ H2.at_.1 H2.at_.2) ?_
          rintro _ h3 ⟨k3, rfl⟩
          replace H2 := H2.same k3
          refine X.gh [] H2 rfl fun h2 H2 nN => ?_
          refine X.retV [] H2 rfl ⟨kA.trans (H2.kp.drop2 (H2.at_.1.trans H.at_.1.symm) (H2.at2.1.trans q4.symm)), ?_⟩
          have hK : tyS T = kindS 4 := by rw [← hT]; exact (kindS_in 4).2.2
          rw [hK]
          have hni : kindS 4 ∉ ts := by simpa using hb
          simp only [vRes, hne, hni, or_self, if_false]
          rfl
        · refine X.gh [] H2 rfl fun h2 H2 nN => ?_
          exact J () (HQ.mk rfl ⟨rfl, rfl, rfl, trivial⟩) ⟨H.same (H2.kp.drop2 (H2.at_.1.trans H.at_.1.symm) (H2.at2.1.trans q4.symm)), .inr (by simpa using hb)⟩
    clear H
    rintro ⟨⟩ h ⟨H, hin⟩
    refine X.gh [90, 90, 90, 90] H rfl fun h H nN => ?_
    refine X.op rfl rfl rfl ?_
    refine X.gh [90] H rfl fun h H nN => ?_
    refine X.op rfl rfl rfl ?_
    refine X.gh [91] H rfl fun h H nN => ?_
    refine X.call rfl Tryz.call154 (arr_run o _ _ _ rfl _ _ _ y z H.at_.1 H.at_.2) ?_
    rintro _ h1 ⟨k1, rfl⟩
    replace H := H.same k1
    refine X.gh [] H rfl fun h H nN => ?_
    refine X.unO 300 rfl ?_
    refine X.gh [92, 91] H rfl fun h H nN => ?_
    refine X.call rfl Tryz.call156 (cond_run o _ _ _ _ _ _ H.at_.1 H.at_.2) ?_
    rintro _ h1 ⟨k1, rfl⟩
    replace H := H.same k1
    refine X.gh [91] H rfl fun h H nN => ?_
    refine X.call rfl Tryz.call157 (unevalV_run hx' o _ _ _ _ _ H.at_.1 H.at_.2) ?_
    rintro _ h1 ⟨k1, rfl⟩
    replace H := H.same k1
    refine X.gh [] H rfl fun h H nN => ?_
    refine X.unO 322 rfl ?_
    refine X.gh [91] H rfl fun h H nN => ?_
    refine X.retV [] H rfl ⟨D0 H, ?_⟩
    simp only [vRes, hin, if_true]
    rfl
  · have hx' : IVo 5 (.iface 121 (.map y)) h0 := .inr (.inr (.inr (.inr ⟨rfl, y, z, rfl, m1, m2, m3⟩)))
    refine X.of (n := 353) (rs := [.tmp 2, .tmp 3]) [] ⟨Tryz.func105, rfl, rfl, rfl⟩ rfl ?_
    have H : HI h0 [o] h0 [(o, vdC (.iface 121 (.map y)) (.vec .none 1 []) ⟨2020, l, .nilp, t, .vec .none 1 [], p, pq, e1, e2, e3⟩ (.ref none [a, b, c, .nilp]) un .nilsl)] := HI.one hg ho
    have D0 : ∀ {h : AH}, HI h0 [o] h [(o, vdC (.iface 121 (.map y)) (.vec .none 1 []) ⟨2020, l, .nilp, t, .vec .none 1 [], p, pq, e1, e2, e3⟩ (.ref none [a, b, c, .nilp]) un .nilsl)] → Kp [] h0 h := fun H => H.kp.drop (H.at_.1.trans hg.symm)
    refine X.gh [90] H rfl fun h H nN => ?_
    refine X.unO 54 rfl ?_
    refine X.call rfl Tryz.call143 (cycle2_run a b c _) ?_
    rintro _ h1 ⟨k1, rfl⟩
    replace H := H.same k1
    refine X.gh [90] H rfl fun h H nN => ?_
    refine X.call rfl Tryz.call145 (typeOf_run hx' h) ?_
    rintro _ h1 ⟨k1, rfl⟩
    replace H := H.same k1
    have hT0 : tyB (kindS 5) ≠ 0 := by decide
    have hTm := mask_kind hok 5
    generalize hT : tyB (kindS 5) = T at hT0 hTm ⊢
    refine X.gh [] H rfl fun h H nN => ?_
    refine X.cond rfl (fun hb => absurd (of_decide_eq_true hb) hT0) fun hb => ?_
    refine X.q 2 H rfl fun h H nN => ?_
    refine X.seqJ 353 (fun _ : Unit => [(0, .ptr o 0), (4, .ref none (⟨2020, l, .nilp, t, .vec .none 1 [], p, pq, e1, e2, e3⟩ : Sc).cs), (5, (.iface 121 (.map y)))]) (fun _ h' => HI h0 [o] h' [(o, vdC (.iface 121 (.map y)) (.vec .none 1 []) ⟨2020, l, .nilp, t, .vec .none 1 [], p, pq, e1, e2, e3⟩ (.ref none [a, b, c, .nilp]) un .nilsl)] ∧ (ts = [] ∨ kindS 5 ∈ ts)) (fun J => ?_) ?_
    · rcases s4 with ⟨rfl, rfl⟩ | ⟨hne, p1, rfl, -, q2, q3⟩
      · refine X.gh [92, 90] H rfl fun h H nN => ?_
        exact J () (HQ.mk rfl ⟨rfl, rfl, rfl, trivial⟩) ⟨H, .inl rfl⟩
      · have hml : maskL ts ≠ 0 := mask_ne hok hne
        have eK : (!decide (andI (maskL ts) T = 0)) = decide (kindS 5 ∈ ts) := by rw [hTm]; simp
        have kA := D0 H
        have hop : o ≠ p1 := fun e => by rw [← e, hg] at q3; cases q3
        have q4 := (kA.get p1 q2 (by simp)).trans q3
        have H2 := HI.two hop H.at_.1 H.at_.2 q4 (Nat.lt_of_lt_of_le q2 kA.n)
        refine X.gh [92, 1] H2 rfl fun h2 H2 nN => ?_
        refine X.callQ rfl Tryz.call146 (isEmpty_run _) ?_
        refine X.gh [] H2 rfl fun h2 H2 nN => ?_
        refine X.cond rfl (fun hb => ?_) fun hb => absurd hb (by simp [hml])
        refine X.gh [1] H2 rfl fun h2 H2 nN => ?_
        refine X.callQ rfl Tryz.call147 (by have := contains_run (maskL ts) T; rw [eK] at this; exact this) ?_
        refine X.gh [] H2 rfl fun h2 H2 nN => ?_
        refine X.cond rfl (fun hb => ?_) fun hb => ?_
        · refine X.gh [] H2 rfl fun h2 H2 nN => ?_
          refine X.callQD rfl Tryz.call148 (tyS_run T) ?_
          refine X.gh [1] H2 rfl fun h2 H2 nN => ?_
          refine X.callQD rfl Tryz.call149 (toStrings_run (maskL ts)) ?_
          refine X.gm [122] [] H2 rfl fun h2 H2 nN => ?_
          refine X.callD rfl Tryz.call142 (err_run o (.iface 121 (.map y)) _ (.ref none [a, b, c, .nilp]) un .nilsl _ _ H2.at_.1 H2.at_.2) ?_
          rintro _ h3 ⟨k3, rfl⟩
          replace H2 := H2.same k3
          refine X.gh [] H2 rfl fun h2 H2 nN => ?_
          refine X.retV [] H2 rfl ⟨kA.trans (H2.kp.drop2 (H2.at_.1.trans H.at_.1.symm) (H2.at2.1.trans q4.symm)), ?_⟩
          have hK : tyS T = kindS 5 := by rw [← hT]; exact (kindS_in 5).2.2
          rw [hK]
          have hni : kindS 5 ∉ ts := by simpa using hb
          simp only [vRes, hne, hni, or_self, if_false]
          rfl
        · refine X.gh [] H2 rfl fun h2 H2 nN => ?_
          exact J () (HQ.mk rfl ⟨rfl, rfl, rfl, trivial⟩) ⟨H.same (H2.kp.drop2 (H2.at_.1.trans H.at_.1.symm) (H2.at2.1.trans q4.symm)), .inr (by simpa using hb)⟩
    clear H
    rintro ⟨⟩ h ⟨H, hin⟩
    refine X.gh [90, 90, 90, 90] H rfl fun h H nN => ?_
    refine X.op rfl rfl rfl ?_
    refine X.gh [91] H rfl fun h H nN => ?_
    have kA := D0 H
    have hs2 := hs.kp kA
    refine X.call rfl Tryz.call153 (obj_run o y _ _ _ rfl rfl _ _ _ z m2 ((kA.get y m3 (by simp)).trans m1) (Nat.lt_of_lt_of_le m3 kA.n) hs2.props hs2.pats hs2.deps hs2.dreq hs2.dsch H.at_.1 H.at_.2) ?_
    rintro _ h1 ⟨k1, rfl⟩
    replace H := H.same k1
    refine X.gh [] H rfl fun h H nN => ?_
    refine X.unO 300 rfl ?_
    refine X.gh [92, 91] H rfl fun h H nN => ?_
    refine X.call rfl Tryz.call156 (cond_run o _ _ _ _ _ _ H.at_.1 H.at_.2) ?_
    rintro _ h1 ⟨k1, rfl⟩
    replace H := H.same k1
    refine X.gh [91] H rfl fun h H nN => ?_
    refine X.call rfl Tryz.call157 (unevalV_run hx' o _ _ _ _ _ H.at_.1 H.at_.2) ?_
    rintro _ h1 ⟨k1, rfl⟩
    replace H := H.same k1
    refine X.gh [] H rfl fun h H nN => ?_
    refine X.unO 322 rfl ?_
    refine X.gh [91] H rfl fun h H nN => ?_
    refine X.retV [] H rfl ⟨D0 H, ?_⟩
    simp only [vRes, hin, if_true]
    rfl
end
end Go.Am
