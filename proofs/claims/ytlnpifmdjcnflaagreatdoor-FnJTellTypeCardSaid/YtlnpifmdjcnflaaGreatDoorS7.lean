import Derived.Test.YtlnpifmdjcnflaaGreatDoorS4
import Derived.Test.YtlnpifmdjcnflaaGreatDoorS6
import Derived.Test.YtlnpifmdjcnflaaGreatDoorS5
set_option linter.unusedVariables false
set_option linter.unusedSimpArgs false
namespace Go.Am
open Go.Proofs
set_option linter.unusedSimpArgs false
set_option linter.unusedVariables false

abbrev Str := List UInt8
/-- A slice of a caller's: the empty one may be nil or not. -/
def slG (e : Bool) (sz : Nat) : List (List AV) → AV
  | [] => bif e then .vec .none sz [] else .nilsl
  | c :: r => .vec .none sz (c :: r)
abbrev slC (sz : Nat) (es : List (List AV)) : AV := slG false sz es
def strCs (s : Str) : List AV := [.str s]
def PureL (cs : List AV) : Prop := ∀ x ∈ cs, Pure x
theorem PureL.nil : PureL [] := fun _ h => by simp at h
theorem PureL.cons {x : AV} {cs : List AV} (h : Pure x) (hs : PureL cs) : PureL (x :: cs) := fun y hy => by
  rcases List.mem_cons.1 hy with rfl | hy
  · exact h
  · exact hs y hy
theorem PureL.app {a b : List AV} (h : PureL a) (hs : PureL b) : PureL (a ++ b) := fun y hy => by
  rcases List.mem_append.1 hy with hy | hy
  · exact h y hy
  · exact hs y hy
theorem slC_pure {sz : Nat} {es : List (List AV)} (h : ∀ c ∈ es, PureL c) : Pure (slC sz es) := by
  cases es with
  | nil => exact .nilsl
  | cons c r => exact .vec sz _ fun c hc => h c hc
theorem slM_pure {α : Type} {sz : Nat} {f : α → List AV} {l : List α} (h : ∀ a ∈ l, PureL (f a)) : Pure (.one (slC sz (l.map f))) :=
  .one _ (slC_pure fun c hc => by obtain ⟨a, ha, rfl⟩ := List.mem_map.1 hc; exact h a ha)
theorem slG_pure {e : Bool} {sz : Nat} {es : List (List AV)} (h : ∀ c ∈ es, PureL c) : Pure (slG e sz es) := by
  cases es with
  | nil => cases e with
    | false => exact .nilsl
    | true => exact .vec sz _ fun c hc => by cases hc
  | cons c r => exact .vec sz _ fun c hc => h c hc
theorem slN_pure {α : Type} {e : Bool} {sz : Nat} {f : α → List AV} {l : List α} (h : ∀ a ∈ l, PureL (f a)) : Pure (.one (slG e sz (l.map f))) :=
  .one _ (slG_pure fun c hc => by obtain ⟨a, ha, rfl⟩ := List.mem_map.1 hc; exact h a ha)
theorem strCs_pure (s : Str) : PureL (strCs s) := .cons (.str _) .nil
theorem Grows.form {h0 h : AH} {sz : Nat} {x : AV} {es : List (List AV)} (g : Grows h0 h sz x es) : x = .nilsl ∨ ∃ tk, x = .vec tk sz es := by
  rcases g with ⟨rfl, rfl⟩ | ⟨lin, ver, rfl | rfl, _⟩
  · exact .inl rfl
  · exact .inr ⟨_, rfl⟩
  · exact .inr ⟨_, rfl⟩
theorem vecR_none {tk : Tk} {sz : Nat} {es : List (List AV)} : SayR (.vec tk sz es) (.vec .none sz es) := fun g w v h => by
  cases h with
  | vec _ _ _ ad cap vs hs hc hv ho hm hn hcap ht hz => exact .vec .none sz es ad cap vs hs hc hv ho hm hn hcap trivial hz
theorem Grows.sayR {h0 h : AH} {sz : Nat} {x : AV} {es : List (List AV)} (g : Grows h0 h sz x es) (hne : ∀ tk, x = .vec tk sz es → es ≠ []) : SayR x (slC sz es) := by
  rcases g with ⟨rfl, rfl⟩ | ⟨lin, ver, hx, _⟩
  · exact fun _ _ _ h => h
  · obtain ⟨tk, rfl⟩ : ∃ tk, x = .vec tk sz es := hx.elim (fun h => ⟨_, h⟩) (fun h => ⟨_, h⟩)
    have := hne _ rfl
    cases es with
    | nil => exact absurd rfl this
    | cons c r => exact vecR_none
theorem oneR_sl {x y : AV} (h : SayR x y) (hx : x = .nilsl ∨ ∃ tk sz es, x = .vec tk sz es) : SayR x (.one y) := fun g w v hv => by
  refine .one _ _ (h g w v hv) ?_
  rcases hx with rfl | ⟨tk, sz, es, rfl⟩ <;> cases hv <;> rfl
theorem Grows.isSl {h0 h : AH} {sz : Nat} {x : AV} {es : List (List AV)} (g : Grows h0 h sz x es) : x = .nilsl ∨ ∃ tk sz es, x = .vec tk sz es := by
  rcases g.form with h | ⟨tk, h⟩
  · exact .inl h
  · exact .inr ⟨_, _, _, h⟩
theorem sayR_say {x y : AV} (h : SayR x y) : Say x (.one y) := fun g w v hv ho => .one _ _ (h g w v hv) ho
section
variable {P : Program} {lt : LT} {h h0 h1 h' : AH} {ids : List Nat} {V V' : View} {fr fr' : AFr} {ks : List Kt} {C : Exit → AFr → AH → Prop} {f : FuncId}
theorem X.lenZ {o : Oper} {ops l : List Oper} {D : List Nat} {t d : Tmp} {tt : TypeId} {z : AV} {es : List (List AV)} {k : Nat} (sz : Nat) (ha : lenArgs o.op = some (.tmp t, tt)) (hk : Am.lenT P tt = some k) (hk2 : Nat.beq k (AV.nilsl).lenT = true) (hw : aWanted ops (fr.putD t (.v z)) o.guard = some true) (ex : fr.f t = .v (.one z)) (hz : elemsOf sz z = some es) (hd : o.dst = some d) (hdt : Nat.beq d t = false) (hn : Nat.blt t fr.n = true)
    (K : XS P lt C (.ops ops l D) ks (fr.putD d (.v (.int .i64 es.length))) h) : XS P lt C (.ops ops (o :: l) D) ks fr h := by
  refine AL.any (fr1 := fr.putD d (.v (.int .i64 es.length))) (h1 := h) (fun g0 w0 a w Q K S hK => ?_) K
  have S' := AS.slot ex un_slot _ _ _ _ S
  have ev : (fr.putD t (.v z)).ev (.tmp t) = .v z := by
    simp only [AFr.ev, AFr.putD, Nat.beq_refl]
    rw [if_pos (Nat.blt_eq.mp hn)]
  have st : StepD P lt ops o (fr.putD t (.v z)) h (.v (.int .i64 es.length)) h := by
    refine StepD.pure hw (fun h => ?_) (by rw [hd]; rfl) (fun h => aEffD_len ha) h
    rw [aPure_len ha]
    unfold aLen
    rw [ev]
    cases z with
    | nilsl =>
      injection hz with hz; subst hz
      simp only [hk, hk2]
      rfl
    | vec tk s e =>
      simp only [elemsOf] at hz
      split at hz
      · injection hz with hz; subst hz
        simp only [hk, show Nat.beq k (AV.vec tk s e).lenT = true from hk2]
        rfl
      · cases hz
    | _ => cases hz
  refine st (fr.putD t (.v z)) rfl rfl (fun _ _ => rfl) g0 w0 a w Q K S' (fun a' w' S2 => hK a' w' ?_)
  rw [hd] at S2
  have S3 := AS.slot (t := t) (x := z) (y := .one z) (by
    simp only [AFr.put, AFr.putD]
    have : Nat.beq t d = false := by
      cases q : Nat.beq t d with
      | false => rfl
      | true => have := Nat.eq_of_beq_eq_true q; subst this; rw [Nat.beq_refl] at hdt; cases hdt
    rw [this, Nat.beq_refl]) (one_slice hz) _ _ _ _ S2
  have e : ((fr.putD t (.v z)).put (some d) (.v (.int .i64 es.length))).putD t (.v (.one z)) = fr.putD d (.v (.int .i64 es.length)) := by
    simp only [AFr.put, AFr.putD]
    congr 1
    funext j
    cases q : Nat.beq j t with
    | true =>
      have := Nat.eq_of_beq_eq_true q
      subst this
      have : Nat.beq j d = false := by
        cases q : Nat.beq j d with
        | false => rfl
        | true => have := Nat.eq_of_beq_eq_true q; subst this; rw [Nat.beq_refl] at hdt; cases hdt
      rw [this]
      exact ex.symm
    | false => rfl
  rw [e] at S3
  exact S3
theorem slC_elems (sz : Nat) (es : List (List AV)) : elemsOf sz (slC sz es) = some es := by
  cases es with
  | nil => rfl
  | cons c r => simp [slC, slG, elemsOf]
theorem slG_elems (e : Bool) (sz : Nat) (es : List (List AV)) : elemsOf sz (slG e sz es) = some es := by
  cases es with
  | nil => cases e <;> simp [slG, elemsOf]
  | cons c r => simp [slG, elemsOf]
theorem slG_vec {e : Bool} {sz i : Nat} {es : List (List AV)} (h : i < es.length) : slG e sz es = .vec .none sz es := by
  cases es with
  | nil => simp at h
  | cons c r => rfl
theorem VR.slen {g : Gh} {w : World} {sz : Nat} {es : List (List AV)} {v : Value} (r : VR g w (.one (slC sz es)) v) : es.length < 2 ^ 63 ∧ ∀ c ∈ es, c.length = sz := by
  cases r with
  | one _ _ r =>
    cases es with
    | nil => exact ⟨by decide, fun _ h => by simp at h⟩
    | cons c l =>
      cases r with
      | vec _ _ _ ad cap vs hs hc hv ho hm hn hcap =>
        refine ⟨Nat.lt_of_le_of_lt hn hcap, fun c hc => ?_⟩
        obtain ⟨i, hi, rfl⟩ := List.mem_iff_getElem.1 hc
        exact hs i hi
theorem ARun.bdSl {args : List AV} {v : AV} {sz : Nat} {es : List (List AV)} (i : Nat) (ha : args[i]? = some (.one (slC sz es))) (H : es.length < 2 ^ 63 → (∀ c ∈ es, c.length = sz) → ARun P f args h v h') : ARun P f args h v h' := by
  intro g w vs R hvs
  obtain ⟨hi, e⟩ := List.getElem?_eq_some_iff.1 ha
  have := hvs.2 i hi
  rw [e] at this
  exact H this.slen.1 this.slen.2 g w vs R hvs
theorem slC_vec {sz i : Nat} {es : List (List AV)} (h : i < es.length) : slC sz es = .vec .none sz es := by
  cases es with
  | nil => simp at h
  | cons c r => rfl
end
def SelfOK (P : Program) (F : FuncId) (es : List (List AV)) : Prop := ∀ c ∈ es, ∀ h, ARun P F [.agg c, .agg c] h (.bool true) h
end Go.Am
