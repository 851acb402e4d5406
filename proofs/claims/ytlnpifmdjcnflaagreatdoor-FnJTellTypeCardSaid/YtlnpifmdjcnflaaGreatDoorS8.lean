import Derived.Test.YtlnpifmdjcnflaaGreatDoorS7
set_option linter.unusedVariables false
set_option linter.unusedSimpArgs false
section
set_option linter.unusedVariables false
set_option linter.unusedSimpArgs false
namespace Go.Am
section
variable {g g' : Gh} {w w' : World} {h0 h h' : AH}
theorem DR.back (E : Evc g w g' w') (hc : ∀ l, l < g.nl → g'.cur l = g.cur l) : ∀ {l : List (FuncId × List AV)} {ds ds0 : List Deferred}, DR g' w' l ds → DR g w l ds0 → DR (g.back g') w' l ds
  | [], _, _, r, _ => r
  | (_, _) :: _, _, _, ⟨us, cs, as_, ds', h1, h2, h3, h4⟩, ⟨us0, cs0, as1, ds0', k1, k2, k3, k4⟩ =>
    ⟨us, cs, as_, ds', h1, ⟨h2.1, fun i hi => (h2.2 i hi).back E hc (k2.2 i hi)⟩, h3, h4.back E hc k4⟩
variable {P : Program} {ops : List Oper} {o : Oper} {fr : AFr}
theorem StepD.back {x y : AV} {d : Tmp} (hd : o.dst = some d) (hy : Pure y) (k : Kp [] h h') (hs : SayR x y) (st : StepD P [] ops o fr h (.v x) h') : StepD P [] ops o fr h (.v y) h := by
  intro fr' e1 e2 e3 g0 w0 a w Q K S hK
  obtain ⟨g, lb, E, R, F⟩ := S
  have nolp : ∀ k d off, fr'.f k ≠ .lp d off := fun k d off e => by
    have := F.hold k d off e
    simp [LT.mayHold] at this
  have S0 : ∀ k, k < fr'.n → VS g w (fun _ => none) (fr'.f k) (a.tmps.getD k undef) := fun k hk => by
    have := F.slot k hk
    cases e : fr'.f k with
    | v z => rw [e] at this; exact this
    | lp d off => exact absurd e (nolp k d off)
    | junk => trivial
  have S1 : AS [] h fr' g w a w := ⟨g, fun _ => none, .refl g w, R, F.defers, F.size, S0, F.hold, fun _ _ _ e _ => (by cases e), fun _ _ e => (by cases e)⟩
  refine st fr' e1 e2 e3 g w a w Q K S1 fun a' w' S' => hK a' w' ?_
  obtain ⟨g', lb', E', R', F'⟩ := S'
  have hc : ∀ l, l < g.nl → g'.cur l = g.cur l := fun l hl => by
    rw [R.nt] at hl
    rw [R'.cur l (Nat.lt_of_lt_of_le hl k.nt), R.cur l hl, k.tip l hl]
  rw [hd] at F' ⊢
  refine ⟨g.back g', fun _ => none, E.trans (E'.back hc), R.back R' E' k, F'.defers.back E'.toEvc hc F.defers, F'.size, fun j hj => ?_, fun j d' off e => ?_, fun _ _ _ e _ => (by cases e), fun _ _ e => (by cases e)⟩
  · have q := F'.slot j hj
    by_cases hjd : j = d
    · subst hjd
      simp only [AFr.put, AFr.putD, beq_self] at q ⊢
      exact VR.pure (g := g') (g2 := g.back g') rfl (hs _ _ _ q) hy
    · have hb : (Nat.beq j d) = false := by
        cases h : Nat.beq j d with
        | false => rfl
        | true => exact absurd (Nat.eq_of_beq_eq_true h) hjd
      simp only [AFr.put, AFr.putD, hb] at q ⊢
      have q0 := F.slot j hj
      cases e : fr'.f j with
      | v z => rw [e] at q q0; exact VR.back E'.toEvc hc q q0
      | lp d off => exact absurd e (nolp j d off)
      | junk => trivial
  · by_cases hjd : j = d
    · subst hjd
      simp only [AFr.put, AFr.putD, beq_self] at e
      cases e
    · have hb : (Nat.beq j d) = false := by
        cases h : Nat.beq j d with
        | false => rfl
        | true => exact absurd (Nat.eq_of_beq_eq_true h) hjd
      simp only [AFr.put, AFr.putD, hb] at e
      exact absurd e (nolp _ _ _)
theorem StepD.appC {s x : Operand} {t : TypeId} {sz by_ : Nat} {y : AV} {ys : List (List AV)} {d : Tmp} (ha : appArgs o.op = some (s, x, t)) (hw : aWanted ops fr o.guard = some true) (hi : appInfo P t = some (sz, by_))
    (es_ : fr.ev s = .v .nilsl) (ex : fr.ev x = .v y) (hy : elemsOf sz y = some ys) (hd : o.dst = some d) (hb_ : ys.length * (by_ + 1) ≤ 140737488355328) (hp : ∀ c ∈ ys, PureL c) : ∀ h, StepD P [] ops o fr h (.v (.one (slC sz ys))) h := by
  intro h
  by_cases hne : ys = []
  · subst hne
    exact StepD.say hd (oneR_sl (fun _ _ _ h => h) (.inl rfl)) (StepD.app0 ha hw hi es_ ex (Grows.elems (h0 := h) (h := h) (.inl ⟨rfl, rfl⟩)) hy h)
  · have st := StepD.app (lt := []) (h := h) (h' := h.newLin) (lin := h.nt) (v := 0) (es := []) ha hw hi es_ ex (.inl ⟨rfl, rfl, rfl, rfl, rfl⟩) hy hne (by simpa using hb_)
    rw [List.nil_append] at st
    refine StepD.back (h' := h.newLin) hd (.one _ (slC_pure hp)) ⟨Nat.le_refl _, fun _ _ _ => rfl, Nat.le_succ _, fun l hl => ?_, rfl⟩ (oneR_sl ?_ (.inr ⟨_, _, _, rfl⟩)) st
    · simp only [AH.newLin]; rw [beq_false_of_ne (by omega)]
    · cases ys with
      | nil => exact absurd rfl hne
      | cons c r => exact vecR_none
variable {C : Exit → AFr → AH → Prop} {ks : List Kt}
theorem X.appPD {o : Oper} {l : List Oper} {D pre : List Nat} {s x : Operand} {t : TypeId} {sz by_ : Nat} {y : AV} {ys : List (List AV)} {d : Tmp} (ha : appArgs o.op = some (s, x, t)) (hw : aWanted ops fr o.guard = some true) (hi : appInfo P t = some (sz, by_))
    (es_ : fr.ev s = .v .nilsl) (ex : fr.ev x = .v y) (hy : elemsOf sz y = some ys) (hd : o.dst = some d) (hb_ : ys.length * (by_ + 1) ≤ 140737488355328) (hp : ∀ c ∈ ys, PureL c)
    (K : XS P [] C (.dops ops l D (0 :: pre)) ks (fr.putD d (.v (.one (slC sz ys)))) h) : XS P [] C (.dops ops (o :: l) D pre) ks fr h :=
  X.freeD (StepD.appC ha hw hi es_ ex hy hd hb_ hp) hd K
end
end Go.Am
end
section
namespace Go.Am
open Go.Proofs
set_option maxRecDepth 100000
set_option linter.unusedSimpArgs false
set_option linter.unusedVariables false
attribute [local irreducible] AC AL AW AD ARun
inductive JV where
  | mk (k : Int) (b : Bool) (n : Int) (t : Str) (ns : List Str) (xs : List JV) (f1 f2 : Bool)
mutual
def JV.cs : JV → List AV
  | .mk k b n t ns xs f1 f2 => [.int .i64 k, .bool b, .int .i64 n, .str t, .one (slG f1 1 (ns.map strCs)), .one (slG f2 6 (JV.css xs))]
def JV.css : List JV → List (List AV)
  | [] => []
  | t :: ts => JV.cs t :: JV.css ts
end
theorem JV.css_eq (l : List JV) : JV.css l = l.map JV.cs := by
  induction l with
  | nil => simp [JV.css]
  | cons t l ih => simp [JV.css, ih]
theorem JV.cs_mk (k : Int) (b : Bool) (n : Int) (t : Str) (ns : List Str) (xs : List JV) (f1 f2 : Bool) : (JV.mk k b n t ns xs f1 f2).cs = [.int .i64 k, .bool b, .int .i64 n, .str t, .one (slG f1 1 (ns.map strCs)), .one (slG f2 6 (xs.map JV.cs))] := by
  simp only [JV.cs, JV.css_eq]
theorem JV.pureN : ∀ (N : Nat) (t : JV), SizeOf.sizeOf t < N → PureL t.cs
  | 0, t, h => by omega
  | N + 1, .mk k b n t ns xs f1 f2, h => by
    rw [JV.cs_mk]
    refine .cons (.int _ _) (.cons (.bool _) (.cons (.int _ _) (.cons (.str _) (.cons (slN_pure fun a _ => strCs_pure a) (.cons (slN_pure fun a ha => JV.pureN N a ?_) .nil)))))
    have := List.sizeOf_lt_of_mem ha
    simp at h
    omega
theorem JV.pure (t : JV) : PureL t.cs := JV.pureN _ t (Nat.lt_succ_self _)
/-- A slice of texts. -/
abbrev sls (fE : Bool) (ts : List Str) : AV := .one (slG fE 1 (ts.map strCs))
/-- A node with kind k and types ts alone. -/
def ndC (k : Int) (fE : Bool) (ts : List Str) : List AV :=
  [.int .i64 k, .int .i64 0, .nilsl, .nilsl, .nilsl, .int .i64 0, .int .i64 0, .int .i64 0, .int .i64 0, sls fE ts, .bool false, .nilsl, .nilsl,
   .bool false, .int .i64 0, .bool false, .int .i64 0, .bool false, .nilsl, .bool false, .nilsl, .bool false, .int .i64 0, .bool false, .int .i64 0,
   .bool false, .int .i64 0, .bool false, .int .i64 0, .bool false, .nilsl, .int .i64 0, .int .i64 0, .int .i64 0,
   .bool false, .int .i64 0, .bool false, .int .i64 0, .nilsl, .nilsl, .nilsl, .nilsl, .nilsl, .int .i64 0, .int .i64 0,
   .int .i64 0, .int .i64 0, .int .i64 0, .bool false, .nilsl, .int .i64 0, .int .i64 0, .nilsl]
theorem ndC_len (k : Int) (fE : Bool) (ts : List Str) : (ndC k fE ts).length = 53 := rfl
theorem vbool {g : Gh} {w : World} {v : Value} {a b : Bool} (h : VR g w (.bool a) v) (e : a = b) : VR g w (.bool b) v := e ▸ h
section
variable {h h0 : AH} {fE f1 f2 : Bool}
set_option maxHeartbeats 1000000 in
theorem fits4_run (ts : List Str) : ∃ b, (∀ h0 : AH, ARun Tryz.prog 4 [sls fE ts] h0 (.bool b) h0) ∧ (b = true → ts.length ≤ 2147483647) := by
  refine ⟨decide (ts.length ≤ 2147483647) && ts.all fun t => decide (t.length ≤ 2147483647), fun h0 => ?_, fun h => by simp at h; exact h.1⟩
  refine ARun.pure (.bool _) ?_
  refine X.of (n := 18) (rs := [.tmp 2]) [] ⟨Tryz.func4, rfl, rfl, rfl⟩ rfl ?_
  have H : HI h0 [] h0 [] := HI.nil
  have hE := slG_elems fE 1 (ts.map strCs)
  have hL : (ts.map strCs).length = ts.length := by simp
  refine X.g H rfl fun h H nN => ?_
  refine X.lenZ 1 rfl rfl rfl rfl rfl hE rfl rfl rfl ?_
  refine X.g H rfl fun h H nN => ?_
  refine X.cond rfl (fun hb2 => ?_) fun hb2 => ?_
  · refine X.g H rfl fun h H nN => ?_
    refine X.retV [] H rfl ⟨H.kp, fun _ _ _ h => vbool h ?_⟩
    have : ¬ ts.length ≤ 2147483647 := by have := of_decide_eq_true hb2; simp at this; omega
    simp [this]
  have hl : ts.length ≤ 2147483647 := by have := of_decide_eq_false hb2; simp at this; omega
  refine X.g H rfl fun h H nN => ?_
  refine X.lenZ 1 rfl rfl rfl rfl rfl hE rfl rfl rfl ?_
  refine X.unO 8 rfl ?_
  refine X.g H rfl fun h H nN => ?_
  rw [hL]
  refine X.whileJ 18 (fun i : Nat => ts.length - i) (fun i => [(8, slG fE 1 (ts.map strCs)), (9, .int .i64 (ts.length : Nat)), (10, .int .i64 (i : Nat))])
    (fun i h' => HI h0 [] h' [] ∧ i ≤ ts.length ∧ ∀ j < i, ∀ t, ts[j]? = some t → t.length ≤ 2147483647) (fun _ : Unit => []) (fun _ h' => HI h0 [] h' [] ∧ ∀ t ∈ ts, t.length ≤ 2147483647) 0 rfl ⟨H, by omega, fun j h => by omega⟩ ?_ ?_
  · clear H
    rintro i h ⟨H, hi, hs⟩ again done
    refine X.g H rfl fun h H nN => ?_
    refine X.cond rfl (fun hb3 => ?_) fun hb3 => ?_
    · have hlt : i < ts.length := by simpa using hb3
      have hc : (ts.map strCs)[i]? = some (strCs ts[i]) := by simp [hlt]
      rw [slG_vec (by rw [hL]; exact hlt)] at again ⊢
      refine X.g H rfl fun h H nN => ?_
      refine X.free (StepD.indexAddr rfl rfl rfl rfl rfl rfl (Int.natCast_nonneg _) (by rw [Int.toNat_natCast]; exact hc)) rfl ?_
      refine X.g H rfl fun h H nN => ?_
      refine X.cond rfl (fun hb4 => ?_) fun hb4 => ?_
      · refine X.g H rfl fun h H nN => ?_
        refine X.retV [] H rfl ⟨H.kp, fun _ _ _ h => vbool h ?_⟩
        have : ¬ ts[i].length ≤ 2147483647 := by have := of_decide_eq_true hb4; simp at this; omega
        symm
        rw [Bool.and_eq_false_iff]
        right
        rw [List.all_eq_false]
        exact ⟨_, List.getElem_mem hlt, by simpa using this⟩
      · have h4 : ts[i].length ≤ 2147483647 := by have := of_decide_eq_false hb4; simp at this; omega
        refine X.g H rfl fun h H nN => ?_
        refine again (i + 1) (by omega) (HQ.mk rfl ⟨rfl, rfl, vi (wI (by omega)), trivial⟩) ⟨H, by omega, fun j hj t ht => ?_⟩
        by_cases e : j = i
        · subst e; rw [List.getElem?_eq_getElem hlt] at ht; injection ht with ht; subst ht; exact h4
        · exact hs j (by omega) t ht
    · have : i = ts.length := by
        have : ¬ i < ts.length := by simpa using hb3
        omega
      subst this
      refine X.g H rfl fun h H nN => ?_
      refine done () rfl ⟨H, fun t ht => ?_⟩
      obtain ⟨j, hj, rfl⟩ := List.mem_iff_getElem.1 ht
      exact hs j hj _ (List.getElem?_eq_getElem hj)
  · clear H
    rintro ⟨⟩ h ⟨H, ha⟩
    refine X.g H rfl fun h H nN => ?_
    refine X.retV [] H rfl ⟨H.kp, fun _ _ _ h => vbool h ?_⟩
    symm
    rw [Bool.and_eq_true, List.all_eq_true]
    exact ⟨by simpa using hl, fun t ht => by simpa using ha t ht⟩
end
end Go.Am
end
