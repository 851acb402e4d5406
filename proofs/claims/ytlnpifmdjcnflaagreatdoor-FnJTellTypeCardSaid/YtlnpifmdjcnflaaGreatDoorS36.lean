import Derived.Test.YtlnpifmdjcnflaaGreatDoorS35
set_option linter.unusedVariables false
set_option linter.unusedSimpArgs false
section
namespace Go.Am
open Go.Proofs
set_option maxRecDepth 100000
set_option linter.unusedSimpArgs false
set_option linter.unusedVariables false
attribute [local irreducible] AC AL AW AD ARun
theorem lenArgs_mem {o : Op} {x : Operand} {t : TypeId} (h : lenArgs o = some (x, t)) : x ∈ o.operands := by
  unfold lenArgs at h
  split at h
  · rename_i c
    split at h
    · split at h
      · rename_i h1 h2
        injection h with h
        injection h with h _
        subst h
        have hm : ∀ y, c.args.toList = [y] → y ∈ c.args := fun y hy => by rw [← Array.mem_toList_iff, hy]; simp
        simp only [Op.operands, Call.operands, Array.mem_append]
        exact .inr (hm _ ‹_›)
      · cases h
    · cases h
  · cases h
section
variable {P : Program} {lt : LT} {h : AH} {fr : AFr} {ks : List Kt} {C : Exit → AFr → AH → Prop}
theorem StepD.lenZ {o : Oper} {ops : List Oper} {t d : Tmp} {tt : TypeId} {z : AV} {es : List (List AV)} {k : Nat} (sz : Nat) (ha : lenArgs o.op = some (.tmp t, tt)) (hk : Am.lenT P tt = some k) (hk2 : Nat.beq k (AV.nilsl).lenT = true) (hw : o.guard = none) (ex : fr.f t = .v (.one z)) (hz : elemsOf sz z = some es) (hd : o.dst = some d) (hdt : Nat.beq d t = false) (hn : Nat.blt t fr.n = true) :
    ∀ h, StepD P lt ops o fr h (.v (.int .i64 es.length)) h := by
  intro h fr' e1 e2 e3 g0 w0 a w Q K S hK
  have ex' : fr'.f t = .v (.one z) := by
    have := looks_op e1 e3 (.tmp t) (by simpa using lenArgs_mem ha)
    simp only [AFr.ev, e1, if_pos (Nat.blt_eq.mp hn)] at this
    rw [this]; exact ex
  have S' := AS.slot ex' un_slot _ _ _ _ S
  have ev : (fr'.putD t (.v z)).ev (.tmp t) = .v z := by
    simp only [AFr.ev, AFr.putD, Nat.beq_refl]
    rw [if_pos (by rw [e1]; exact Nat.blt_eq.mp hn)]
  have st : StepD P lt ops o (fr'.putD t (.v z)) h (.v (.int .i64 es.length)) h := by
    refine StepD.pure (by rw [hw]; rfl) (fun h => ?_) (by rw [hd]; rfl) (fun h => aEffD_len ha) h
    rw [aPure_len ha]
    unfold aLen
    rw [ev]
    cases z with
    | nilsl =>
      injection hz with hz; subst hz
      simp only [hk, hk2]
      rfl
    | vec tk s e =>
      simp only [elemsOf] at hz
      split at hz
      · injection hz with hz; subst hz
        simp only [hk, show Nat.beq k (AV.vec tk s e).lenT = true from hk2]
        rfl
      · cases hz
    | _ => cases hz
  refine st (fr'.putD t (.v z)) rfl rfl (fun _ _ => rfl) g0 w0 a w Q K S' (fun a' w' S2 => hK a' w' ?_)
  rw [hd] at S2 ⊢
  have S3 := AS.slot (t := t) (x := z) (y := .one z) (by
    simp only [AFr.put, AFr.putD]
    have : Nat.beq t d = false := by
      cases q : Nat.beq t d with
      | false => rfl
      | true => have := Nat.eq_of_beq_eq_true q; subst this; rw [Nat.beq_refl] at hdt; cases hdt
    rw [this, Nat.beq_refl]) (one_slice hz) _ _ _ _ S2
  have e : ((fr'.putD t (.v z)).put (some d) (.v (.int .i64 es.length))).putD t (.v (.one z)) = fr'.putD d (.v (.int .i64 es.length)) := by
    simp only [AFr.put, AFr.putD]
    congr 1
    funext j
    cases q : Nat.beq j t with
    | true =>
      have := Nat.eq_of_beq_eq_true q
      subst this
      have : Nat.beq j d = false := by
        cases q : Nat.beq j d with
        | false => rfl
        | true => have := Nat.eq_of_beq_eq_true q; subst this; rw [Nat.beq_refl] at hdt; cases hdt
      rw [this]
      exact ex'.symm
    | false => rfl
  rw [e] at S3
  exact S3
end
section
variable {h h0 : AH} {fE f1 f2 : Bool}
theorem values_run (v : JV) (hk : v.k ≠ 2) (ts : List Str) (hl : ts.length ≤ 2147483647) : ∀ h0, ARun Tryz.prog 37 [.agg (ndC 0 fE ts), .agg v.cs] h0 (.bool (decide (ts = [] ∨ kindS v.k ∈ ts))) h0 := by
  intro h0
  have hq := typed_run (fE := fE) v hk ts hl
  have hE := slG_elems fE 1 (ts.map strCs)
  have hL : (ts.map strCs).length = ts.length := by simp
  generalize kindS v.k = s at hq ⊢
  obtain ⟨b, m, z1, z2, e⟩ := v.shape
  rw [e] at hq ⊢
  refine ARun.pure (.bool _) ?_
  refine X.of (n := 40) (rs := [.tmp 4]) [] ⟨Tryz.func37, rfl, rfl, rfl⟩ rfl ?_
  have H : HI h0 [] h0 [] := HI.nil
  refine X.gm [2, 3] [] H rfl fun h H nN => ?_
  refine X.freeD (StepD.lenZ 1 rfl rfl rfl rfl rfl hE rfl rfl rfl) rfl ?_
  refine X.gh [] H rfl fun h H nN => ?_
  refine X.splitD rfl (fun hb => ?_) fun hb => ?_
  · have ht : ts = [] := by
      have := of_decide_eq_true hb
      rw [hL] at this
      exact List.eq_nil_of_length_eq_zero (by omega)
    refine X.gh [92, 92, 92, 92] H rfl fun h H nN => ?_
    exact X.retV [] H rfl ⟨H.kp, fun _ _ _ h => vbool h (by simp [ht])⟩
  · have ht : ts ≠ [] := fun ht => by
      have := of_decide_eq_false hb
      rw [ht] at this
      simp at this
    refine X.gh [] H rfl fun h H nN => ?_
    refine X.callQD rfl Tryz.call65 hq ?_
    refine X.gh [] H rfl fun h H nN => ?_
    refine X.splitD rfl (fun hb2 => ?_) fun hb2 => ?_
    · refine X.gh [92, 92, 92] H rfl fun h H nN => ?_
      exact X.retV [] H rfl ⟨H.kp, fun _ _ _ h => vbool h (by have := of_decide_eq_true hb2; simp [this])⟩
    · refine X.gh [92, 92, 92] H rfl fun h H nN => ?_
      exact X.retV [] H rfl ⟨H.kp, fun _ _ _ h => vbool h (by have := of_decide_eq_false hb2; simp [this, ht])⟩
end
end Go.Am
end
section
namespace Go.Am
open Go.Proofs
set_option maxRecDepth 100000
set_option linter.unusedSimpArgs false
set_option linter.unusedVariables false
attribute [local irreducible] AC AL AW AD ARun
section
variable {P : Program} {lt : LT} {h h' : AH} {fr : AFr} {ks : List Kt} {C : Exit → AFr → AH → Prop}
/-- A step that looks at a slice of a caller's as it looks at a slice. -/
theorem StepD.un {o : Oper} {ops : List Oper} (t : Tmp) {d : Tmp} {z : AV} {tk : Tk} {sz : Nat} {es : List (List AV)} {s : Slot} (ex : fr.f t = .v (.one z)) (hz : z = .vec tk sz es) (hd : o.dst = some d) (hdt : Nat.beq d t = false)
    (st : StepD P lt ops o (fr.putD t (.v (.vec tk sz es))) h s h') : StepD P lt ops o fr h s h' := by
  subst hz
  intro fr' e1 e2 e3 g0 w0 a w Q K S hK
  classical
  by_cases hl : t ∈ looks ops o
  · have ex' : fr'.f t = .v (.one (.vec tk sz es)) := (e3 t hl).trans ex
    have S' := AS.slot ex' un_slot _ _ _ _ S
    refine st (fr'.putD t (.v (.vec tk sz es))) e1 e2 (fun k hk => ?_) g0 w0 a w Q K S' (fun a' w' S2 => hK a' w' ?_)
    · simp only [AFr.putD]
      cases Nat.beq k t with
      | true => rfl
      | false => exact e3 k hk
    rw [hd] at S2 ⊢
    have hne : Nat.beq t d = false := by
      cases q : Nat.beq t d with
      | false => rfl
      | true => have := Nat.eq_of_beq_eq_true q; subst this; rw [Nat.beq_refl] at hdt; cases hdt
    have S3 := AS.slot (t := t) (x := .vec tk sz es) (y := .one (.vec tk sz es)) (by
      cases s <;> simp only [AFr.put, AFr.putD, hne, Nat.beq_refl]) (fun g w v h => .one _ _ h (by cases h; rfl)) _ _ _ _ S2
    have e : ((fr'.putD t (.v (.vec tk sz es))).put (some d) s).putD t (.v (.one (.vec tk sz es))) = fr'.put (some d) s := by
      simp only [AFr.put, AFr.putD]
      congr 1
      funext j
      cases q : Nat.beq j t with
      | true =>
        have := Nat.eq_of_beq_eq_true q
        subst this
        simp only [hne]
        exact ex'.symm
      | false => rfl
    rw [e] at S3
    exact S3
  · refine st fr' e1 e2 (fun k hk => ?_) g0 w0 a w Q K S hK
    have hkt : Nat.beq k t = false := by
      cases q : Nat.beq k t with
      | false => rfl
      | true => have := Nat.eq_of_beq_eq_true q; subst this; exact absurd hk hl
    rw [e3 k hk]
    simp only [AFr.putD, hkt]
end
end Go.Am
end
