import Derived.Test.YtlnpifmdjcnflaaGreatDoorS5
import Derived.Test.YtlnpifmdjcnflaaGreatDoorS4
import Derived.LoopN
set_option linter.unusedVariables false
set_option linter.unusedSimpArgs false
section
set_option linter.unusedVariables false
set_option linter.unusedSimpArgs false
namespace Go.Am
section
variable {P : Program} {lt : LT} {h h0 h1 : AH} {ids : List Nat} {V V' : View} {fr fr' : AFr} {ks : List Kt} {C : Exit → AFr → AH → Prop} {f : FuncId} {args : List AV}
def SayR (x y : AV) : Prop := ∀ (g : Gh) (w : World) (v : Value), VR g w x v → VR g w y v
theorem SayR.nilp : SayR .nilp (.one .nilp) := fun _ _ _ h => .one _ _ h (by cases h; rfl)
theorem SayR.refs {id : Option (Nat × Nat)} {cs cs' : List AV} (hs : Says cs cs') : SayR (.ref id cs) (.ref id cs') := fun g w v h => by
  obtain ⟨k1, k2⟩ := hs.get
  cases h with
  | ref _ _ ad vs hc hv ho hm hr hz => exact .ref id cs' ad vs (fun i hi => hc i (by omega)) (fun i hi => k2 i (by omega) hi g w _ (hv i (by omega)) (ho i (by omega))) (fun i hi => ho i (by omega)) (fun i hi => hm i (by omega)) hr hz
theorem SayR.ref {id : Option (Nat × Nat)} {cs cs' : List AV} (hs : Says cs cs') : SayR (.ref id cs) (.one (.ref id cs')) := fun g w v h => by
  have := SayR.refs hs g w v h
  refine .one _ _ this ?_
  cases h; rfl
theorem freeze_ptr {g : Gh} {w : World} {h : AH} (R : Rel g w h) {d : Nat} {cs : List AV} (hg : h.get d = some (.cells cs)) : ∃ g', Ev g w g' w ∧ Rel g' w (h.set d .frz) ∧ ∀ u, VR g w (.ptr d 0) u → VR g' w (.ref none cs) u := by
  obtain ⟨b, hb, vs, T, hw, hv⟩ := R.obj _ _ hg
  have hx := (R.obl _ _ hb).2.1 (by rw [hg]; simp) (by rw [hg]; simp)
  obtain ⟨E', R'⟩ := freeze_ob R hb hw hx (by rw [hg]; simp)
  refine ⟨_, E', R', fun u hu => ?_⟩
  cases hu with
  | ptr _ _ b' hb' =>
    have : b' = b := by rw [hb] at hb'; injection hb' with hb'; exact hb'.symm
    subst this
    have hv' := hv.mono E'.toEvc
    refine .ref none cs _ (fun i => vs.getD i undef) (fun i hi => ?_) (fun i hi => hv'.1.2 i hi) (fun i hi => hv'.2 i hi) (fun i hi => ?_) trivial ⟨_, _, _, hw⟩
    · have := hv.1.1
      rw [add_mk]
      simp only [World.cell?, hw]
      simp [Array.getD_eq_getD_getElem?, Array.getElem?_eq_getElem (show i < vs.size by omega)]
    · have := hv.1.1
      rw [add_mk]
      simp only [Gh.xt, if_true]
      omega
theorem ARunE.obj {Q Q' : AV → AH → Prop} (H : ARunE P f args h Q) (hq : ∀ v h', Q v h' → (∃ v', SayR v v' ∧ Q' v' h') ∨ ∃ d cs cs', v = .ptr d 0 ∧ h'.get d = some (.cells cs) ∧ Says cs cs' ∧ Q' (.one (.ref none cs')) (h'.set d .frz)) : ARunE P f args h Q' := by
  obtain ⟨v, h', q, r⟩ := H
  rcases hq v h' q with ⟨v', hs, q'⟩ | ⟨d, cs, cs', rfl, hg, hs, q'⟩
  · refine ⟨v', h', q', fun g w vs R hvs => Calls.mono (r g w vs R hvs) ?_⟩
    rintro e w' ⟨u, g', rfl, E, R', V⟩
    exact ⟨u, g', rfl, E, R', hs _ _ _ V⟩
  · refine ⟨_, _, q', fun g w vs R hvs => Calls.mono (r g w vs R hvs) ?_⟩
    rintro e w' ⟨u, g', rfl, E, R', V⟩
    obtain ⟨g2, E2, R2, V2⟩ := freeze_ptr R' hg
    exact ⟨u, g2, rfl, E.trans E2, R2, SayR.ref hs _ _ _ (V2 u V)⟩
theorem Kp.setNew {o : Nat} {x : AObj} (k : Kp ids h h1) (ho : h.n ≤ o) : Kp ids h (h1.set o x) :=
  ⟨k.n, fun i hi hn => by simp only [AH.set]; rw [if_neg (by omega)]; exact k.get i hi hn, k.nt, k.tip, k.tabs⟩
theorem X.retD0 {rs : List ResultVar} {Q : AV → AH → Prop} {xs : List AV} (hd : fr.df = []) (hx : resV P fr [] [] rs = some (xs, [])) (q : Q (tupOf xs) h) : XS P lt (retD P rs Q) (.ext .ret) [] fr h := by
  refine ⟨tupOf xs, h, by rw [hd]; rfl, ?_, q⟩
  have := aResults_of hd (resV_ok (V := []) (h := h) trivial hx rfl)
  exact (aResults_df this).2
theorem aRess_df {fr fr' : AFr} (hf : fr'.f = fr.f) (hl : fr'.loc = fr.loc) (hn : fr'.n = fr.n) {rs : List ResultVar} : aRess P fr' h rs = aRess P fr h rs := by
  have he : ∀ x, fr'.ev x = fr.ev x := fun x => by cases x <;> simp only [AFr.ev, hf, hn]
  induction rs with
  | nil => rfl
  | cons r rs ih =>
    have : aRes1 P fr' h r = aRes1 P fr h r := by
      cases r with
      | tmp t => simp only [aRes1, he]
      | cell a t => simp only [aRes1, aLoad, he, hl]
    simp only [aRess, this, ih]
theorem X.retD1 {rs : List ResultVar} {Q : AV → AH → Prop} {f : FuncId} {args : List AV} {xs : List AV} (hd : fr.df = [(f, args)]) (hc : Callable P f) (D : ∃ h2, Q (tupOf xs) h2 ∧ ARunD P f args h h2)
    (hx : resV P { fr with df := [] } [] [] rs = some (xs, [])) : XS P lt (retD P rs Q) (.ext .ret) [] fr h := by
  obtain ⟨h2, q, D⟩ := D
  refine ⟨tupOf xs, h2, by rw [hd]; exact ⟨hc, h2, D, rfl⟩, ?_, q⟩
  have h3 := aResults_of (P := P) (fr := { fr with df := [] }) (h := h2) rfl (resV_ok (V := []) trivial hx rfl)
  have h4 := (aResults_df h3).2
  have e := aRess_df (P := P) (h := h2) (fr := { fr with df := [] }) (fr' := fr) rfl rfl rfl (rs := rs)
  unfold aResultsN at h4 ⊢
  rw [e]
  exact h4
theorem putD_putD (fr : AFr) (d : Tmp) (s t : Slot) : (fr.putD d s).putD d t = fr.putD d t := by
  simp only [AFr.putD]
  congr 1
  funext k
  split <;> rfl
theorem StepD.say {ops : List Oper} {o : Oper} {d : Tmp} {x y : AV} {h' : AH} (hd : o.dst = some d) (hs : SayR x y) (st : StepD P lt ops o fr h (.v x) h') : StepD P lt ops o fr h (.v y) h' := by
  intro fr' e1 e2 e3 g0 w0 a w Q K S hK
  refine st fr' e1 e2 e3 g0 w0 a w Q K S fun a' w' S' => hK a' w' ?_
  rw [hd] at S' ⊢
  have := AS.slot (t := d) (x := x) (y := y) (by simp [AFr.put, AFr.putD]) hs g0 w0 a' w' S'
  simp only [AFr.put] at this ⊢
  rwa [putD_putD] at this
end
end Go.Am
end
section
set_option linter.unusedVariables false
set_option linter.unusedSimpArgs false
namespace Go.Am
def lenArgs (op : Op) : Option (Operand × TypeId) :=
  match op with
  | .call c => match c.callee with
    | .builtin .len => match c.args.toList, c.argTypes.toList with
      | [x], [t] => some (x, t)
      | _, _ => none
    | _ => none
  | _ => none
section
variable {P : Program} {lt : LT} {h h0 h1 : AH} {ids : List Nat} {V V' : View} {fr fr' : AFr} {ks : List Kt} {C : Exit → AFr → AH → Prop}
theorem aPure_len {op : Op} {x : Operand} {t : TypeId} (ha : lenArgs op = some (x, t)) : aPure P fr h op = aLen P fr h t x := by
  unfold lenArgs at ha
  split at ha
  case h_2 => cases ha
  rename_i c
  split at ha
  case h_2 => cases ha
  rename_i hc
  split at ha
  case h_2 => cases ha
  rename_i x' t' h1 h2
  injection ha with ha; injection ha with q1 q2
  subst q1 q2
  simp only [aPure, aBlt, hc, h1, h2]
theorem aEffD_len {op : Op} {dst : Option Tmp} {x : Operand} {t : TypeId} (ha : lenArgs op = some (x, t)) : aEffD P lt fr h dst op = aPureD P fr h op := by
  unfold lenArgs at ha
  split at ha
  case h_2 => cases ha
  rename_i c
  split at ha
  case h_2 => cases ha
  rename_i hc
  split at ha
  case h_2 => cases ha
  simp only [aEffD, hc]
theorem one_slice {z : AV} {es : List (List AV)} {sz : Nat} (hz : elemsOf sz z = some es) : SayR z (.one z) := by
  intro g w v V
  refine .one _ _ V ?_
  cases z with
  | nilsl => cases V; rfl
  | vec tk s e => cases V; rfl
  | _ => cases hz
theorem X.lenE {o : Oper} {ops l : List Oper} {D : List Nat} {t d : Tmp} {tt : TypeId} {z : AV} {es : List (List AV)} {k : Nat} (ha : lenArgs o.op = some (.tmp t, tt)) (hk : Am.lenT P tt = some k) (hk2 : Nat.beq k (AV.nilsl).lenT = true) (hw : aWanted ops (fr.putD t (.v z)) o.guard = some true) (ex : fr.f t = .v (.one z)) (hz : elemsOf 1 z = some es) (hd : o.dst = some d) (hdt : Nat.beq d t = false) (hn : Nat.blt t fr.n = true)
    (K : XS P lt C (.ops ops l D) ks (fr.putD d (.v (.int .i64 es.length))) h) : XS P lt C (.ops ops (o :: l) D) ks fr h := by
  refine AL.any (fr1 := fr.putD d (.v (.int .i64 es.length))) (h1 := h) (fun g0 w0 a w Q K S hK => ?_) K
  have S' := AS.slot ex un_slot _ _ _ _ S
  have ev : (fr.putD t (.v z)).ev (.tmp t) = .v z := by
    simp only [AFr.ev, AFr.putD, Nat.beq_refl]
    rw [if_pos (Nat.blt_eq.mp hn)]
  have st : StepD P lt ops o (fr.putD t (.v z)) h (.v (.int .i64 es.length)) h := by
    refine StepD.pure hw (fun h => ?_) (by rw [hd]; rfl) (fun h => aEffD_len ha) h
    rw [aPure_len ha]
    unfold aLen
    rw [ev]
    cases z with
    | nilsl =>
      injection hz with hz; subst hz
      simp only [hk, hk2]
      rfl
    | vec tk s e =>
      simp only [elemsOf] at hz
      split at hz
      · injection hz with hz; subst hz
        simp only [hk, show Nat.beq k (AV.vec tk s e).lenT = true from hk2]
        rfl
      · cases hz
    | _ => cases hz
  refine st (fr.putD t (.v z)) rfl rfl (fun _ _ => rfl) g0 w0 a w Q K S' (fun a' w' S2 => hK a' w' ?_)
  rw [hd] at S2
  have S3 := AS.slot (t := t) (x := z) (y := .one z) (by
    simp only [AFr.put, AFr.putD]
    have : Nat.beq t d = false := by
      cases q : Nat.beq t d with
      | false => rfl
      | true => have := Nat.eq_of_beq_eq_true q; subst this; rw [Nat.beq_refl] at hdt; cases hdt
    rw [this, Nat.beq_refl]) (one_slice hz) _ _ _ _ S2
  have e : ((fr.putD t (.v z)).put (some d) (.v (.int .i64 es.length))).putD t (.v (.one z)) = fr.putD d (.v (.int .i64 es.length)) := by
    simp only [AFr.put, AFr.putD]
    congr 1
    funext j
    cases q : Nat.beq j t with
    | true =>
      have := Nat.eq_of_beq_eq_true q
      subst this
      have : Nat.beq j d = false := by
        cases q : Nat.beq j d with
        | false => rfl
        | true => have := Nat.eq_of_beq_eq_true q; subst this; rw [Nat.beq_refl] at hdt; cases hdt
      rw [this]
      exact ex.symm
    | false => rfl
  rw [e] at S3
  exact S3
end
end Go.Am
end
section
set_option linter.unusedVariables false
set_option linter.unusedSimpArgs false
namespace Go.Am
inductive Pure : AV → Prop where
  | bool (b : Bool) : Pure (.bool b)
  | int (k : IntKind) (n : Int) : Pure (.int k n)
  | str (s : List UInt8) : Pure (.str s)
  | nilp : Pure .nilp
  | nilsl : Pure .nilsl
  | nili : Pure .nili
  | nilm : Pure .nilm
  | iface (t : TypeId) (x : AV) (h : Pure x) : Pure (.iface t x)
  | vec (sz : Nat) (es : List (List AV)) (h : ∀ c ∈ es, ∀ x ∈ c, Pure x) : Pure (.vec .none sz es)
  | ref (cs : List AV) (h : ∀ x ∈ cs, Pure x) : Pure (.ref none cs)
  | agg (cs : List AV) (h : ∀ x ∈ cs, Pure x) : Pure (.agg cs)
  | tup (cs : List AV) (h : ∀ x ∈ cs, Pure x) : Pure (.tup cs)
  | one (x : AV) (h : Pure x) : Pure (.one x)
def Gh.back (g g' : Gh) : Gh := { g with ext := g'.ext, cur := g'.cur, pv := g'.pv }
theorem VR.pure {g g2 : Gh} {w : World} (he : g2.ext = g.ext) {x : AV} {v : Value} (r : VR g w x v) (p : Pure x) : VR g2 w x v := by
  induction r with
  | bool b => exact .bool b
  | int k n => exact .int k n
  | flt k n => exact .flt k n
  | str s => exact .str s
  | nilp => exact .nilp
  | ptr o off b hb => cases p
  | ref id cells ad vs hc hv ho hm hr hz ih =>
    cases p with
    | ref _ h => exact .ref _ cells ad vs hc (fun i hi => ih i hi (h _ (List.getElem_mem hi))) ho (fun i hi => by rw [he]; exact hm i hi) trivial hz
  | nilsl => exact .nilsl
  | vec tk sz elems ad cap vs hs hc hv ho hm hn hcap ht hz ih =>
    cases p with
    | vec _ _ h => exact .vec _ sz elems ad cap vs hs hc (fun i j hi hj => ih i j hi hj (h _ (List.getElem_mem hi) _ (List.getElem_mem hj))) ho (fun i j hi hj => by rw [he]; exact hm i j hi hj) hn hcap trivial hz
  | sl => cases p
  | nilm => exact .nilm
  | map => cases p
  | nilf => exact .nilf
  | clo => cases p
  | nili => exact .nili
  | iface t x v h ih =>
    cases p with
    | iface _ _ q => exact .iface t x v (ih q)
  | agg cs vs hn hv ho ih =>
    cases p with
    | agg _ h => exact .agg cs vs hn (fun i hi => ih i hi (h _ (List.getElem_mem hi))) ho
  | tup cs vs hn hv ih =>
    cases p with
    | tup _ h => exact .tup cs vs hn (fun i hi => ih i hi (h _ (List.getElem_mem hi)))
  | one x v h ho ih =>
    cases p with
    | one _ q => exact .one x v (ih q) ho
section
variable {g g' : Gh} {w w' : World} {h0 h' : AH}
theorem TipF.back (E : Evc g w g' w') {lin : Nat} (hl : lin < g.nl) (hc : g'.cur lin = g.cur lin) {ad : Addr} {n cap sz : Nat} (t : TipF g' w' lin ad n cap sz) : TipF (g.back g') w' lin ad n cap sz := by
  obtain ⟨q1, q2, q3⟩ := t
  obtain ⟨t1, x1⟩ := E.tip lin hl hc
  exact ⟨q1, by rw [q2, t1]; rfl, q3⟩
theorem TkOK.back (E : Evc g w g' w') (hc : ∀ l, l < g.nl → g'.cur l = g.cur l) {tk : Tk} {ad ad0 : Addr} {n cap cap0 sz : Nat} (t : TkOK g' w' tk ad n cap sz) (t0 : TkOK g w tk ad0 n cap0 sz) : TkOK (g.back g') w' tk ad n cap sz := by
  cases tk with
  | none => trivial
  | full => exact t
  | own lin ver =>
    obtain ⟨a1, a2, a3, a4, a5⟩ := t
    obtain ⟨b1, b2, b3, b4, b5⟩ := t0
    have e : ad0 = ad := by
      have := E.va _ _ _ b4
      rw [a4] at this
      injection this with this
      exact this.symm
    subst e
    exact ⟨b1, a2, fun q1 q2 => (a3 q1 q2).back E b1 (hc _ b1), b4, b5⟩
  | suf lin ver =>
    obtain ⟨a1, a2, a3⟩ := t
    obtain ⟨b1, b2, b3⟩ := t0
    exact ⟨b1, a2, fun q1 q2 => (a3 q1 q2).back E b1 (hc _ b1)⟩
theorem VR.back (E : Evc g w g' w') (hc : ∀ l, l < g.nl → g'.cur l = g.cur l) {x : AV} {v : Value} (r : VR g' w' x v) : ∀ {v0 : Value}, VR g w x v0 → VR (g.back g') w' x v := by
  induction r with
  | bool b => intros; exact .bool b
  | int k n => intros; exact .int k n
  | flt k n => intros; exact .flt k n
  | str s => intros; exact .str s
  | nilp => intros; exact .nilp
  | ptr o off b hb =>
    intro v0 r0
    cases r0 with
    | ptr _ _ b0 hb0 =>
      have := E.ob _ _ hb0
      rw [hb] at this
      injection this with this
      subst this
      exact .ptr o off _ hb0
  | ref id cells ad vs h1 hv ho hm hr hz ih =>
    intro v0 r0
    cases r0 with
    | ref _ _ ad0 vs0 k1 kv ko km kr kz =>
      refine .ref id cells ad vs h1 (fun i hi => ih i hi (kv i hi)) ho hm ?_ hz
      cases id with
      | none => trivial
      | some p =>
        have e : ad0 = ad := by
          have := E.va _ _ _ kr.1
          rw [hr.1] at this
          injection this with this
          exact this.symm
        subst e
        exact kr
  | nilsl => intros; exact .nilsl
  | vec tk sz elems ad cap vs hs h1 hv ho hm hn hcap ht hz ih =>
    intro v0 r0
    cases r0 with
    | vec _ _ _ ad0 cap0 vs0 ks k1 kv ko km kn kcap kt kz =>
      exact .vec tk sz elems ad cap vs hs h1 (fun i j hi hj => ih i j hi hj (kv i j hi hj)) ho hm hn hcap (ht.back E hc kt) hz
  | sl o off n cap ex b rc hb hs hn hrc hex hcap =>
    intro v0 r0
    cases r0 with
    | sl _ _ _ _ _ b0 rc0 hb0 hs0 hn0 hrc0 hex0 hcap0 =>
      have := E.ob _ _ hb0
      rw [hb] at this
      injection this with this
      subst this
      exact .sl o off n cap ex _ rc hb0 hs hn hrc hex hcap
  | nilm => intros; exact .nilm
  | map o b hb =>
    intro v0 r0
    cases r0 with
    | map _ b0 hb0 =>
      have := E.ob _ _ hb0
      rw [hb] at this
      injection this with this
      subst this
      exact .map o _ hb0
  | nilf => intros; exact .nilf
  | clo f caps vs hn hv ih =>
    intro v0 r0
    cases r0 with
    | clo _ _ vs0 kn kv => exact .clo f caps vs hn fun i hi => ih i hi (kv i hi)
  | nili => intros; exact .nili
  | iface t x v h ih =>
    intro v0 r0
    cases r0 with
    | iface _ _ v1 k => exact .iface t x v (ih k)
  | agg cs vs hn hv ho ih =>
    intro v0 r0
    cases r0 with
    | agg _ vs0 kn kv ko => exact .agg cs vs hn (fun i hi => ih i hi (kv i hi)) ho
  | tup cs vs hn hv ih =>
    intro v0 r0
    cases r0 with
    | tup _ vs0 kn kv => exact .tup cs vs hn (fun i hi => ih i hi (kv i hi))
  | one x v h ho ih =>
    intro v0 r0
    cases r0 with
    | one _ _ k ko => exact .one x v (ih k) ho
theorem OR.back (E : Evc g w g' w') (hc : ∀ l, l < g.nl → g'.cur l = g.cur l) {x : AObj} {b : Nat} (r : OR g' w' x b) (r0 : OR g w x b) : OR (g.back g') w' x b := by
  cases x with
  | cells cs =>
    obtain ⟨vs, T, q1, ⟨q2, q3⟩, q4⟩ := r
    obtain ⟨vs0, T0, k1, ⟨k2, k3⟩, k4⟩ := r0
    exact ⟨vs, T, q1, ⟨q2, fun i hi => (q3 i hi).back E hc (k3 i hi)⟩, q4⟩
  | map es =>
    obtain ⟨ms, clk, q1, q2, q3⟩ := r
    obtain ⟨ms0, clk0, k1, k2, k3⟩ := r0
    refine ⟨ms, clk, q1, q2, fun i hi => ?_⟩
    obtain ⟨m, e1, e2, e3⟩ := q3 i hi
    obtain ⟨m0, f1, f2, f3⟩ := k3 i hi
    exact ⟨m, e1, e2.back E hc f2, e3.back E hc f3⟩
  | frz => exact r
  | row cap cs =>
    obtain ⟨vs, T, fz, q1, q2, q3, q4⟩ := r
    obtain ⟨vs0, T0, fz0, k1, k2, k3, k4⟩ := r0
    exact ⟨vs, T, fz, q1, q2, q3, fun i hi => ⟨(q4 i hi).1.back E hc (k4 i hi).1, (q4 i hi).2⟩⟩
  | gone => exact r
  | iter s pos => exact r
  | mit m since k l =>
    obtain ⟨mo, seen, h1, h2⟩ := r
    obtain ⟨mo0, seen0, k1, k2⟩ := r0
    have := E.ob _ _ k1
    rw [h1] at this; injection this with this; subst this
    exact ⟨mo, seen, k1, h2⟩
theorem Ev.back (E : Ev g w g' w') (hc : ∀ l, l < g.nl → g'.cur l = g.cur l) : Ev g w (g.back g') w' where
  os := E.os
  tape := E.tape
  output := E.output
  size := E.size
  ob _ _ e := e
  obn _ _ e := .inl ⟨_, e⟩
  bl _ _ e := e
  bln _ _ e := .inl e
  va _ _ _ e := e
  com := E.com
  nl := Nat.le_refl _
  cur := E.cur
  tip l hl e := ⟨rfl, (E.tip l hl e).2⟩
  shape := E.shape
  pv := E.pv
  pvn := E.pvn
  rest := E.rest
theorem Rel.back (R : Rel g w h0) (R' : Rel g' w' h') (E : Ev g w g' w') (k : Kp [] h0 h') : Rel (g.back g') w' h0 := by
  have hc : ∀ l, l < g.nl → g'.cur l = g.cur l := fun l hl => by
    rw [R.nt] at hl
    rw [R'.cur l (Nat.lt_of_lt_of_le hl k.nt), R.cur l hl, k.tip l hl]
  have hget : ∀ o b, g.ob o = some b → h'.get o = h0.get o := fun o b e => k.get o (R.obd o b e) (by simp)
  refine ⟨fun o b e => ?_, R.obi, R.obd, fun o x e => ?_, R.obg, R.nt, fun l hl => ?_, fun b l e => ?_, R.tbl, fun l v a e => ?_, R'.ext, fun j b e => ?_, fun a v e => ?_⟩
  · obtain ⟨q1, q2, q3⟩ := R.obl o b e
    obtain ⟨k1, k2, k3⟩ := R'.obl o b (E.ob _ _ e)
    rw [hget o b e] at k2
    exact ⟨k1, k2, q3⟩
  · obtain ⟨b, hb, ho⟩ := R.obj o x e
    obtain ⟨b', hb', ho'⟩ := R'.obj o x ((hget o b hb).trans e)
    have := E.ob _ _ hb
    rw [hb'] at this
    injection this with this
    subst this
    exact ⟨_, hb, ho'.back E.toEvc hc ho⟩
  · show g'.cur l = _
    rw [R'.cur l (Nat.lt_of_lt_of_le hl k.nt), k.tip l hl]
  · obtain ⟨q1, q2⟩ := R.bll b l e
    exact ⟨q1, Nat.lt_of_lt_of_le q2 E.size⟩
  · obtain ⟨q1, q2⟩ := R.vac l v a e
    exact ⟨q1, Nat.le_trans q2 (E.cur l q1)⟩
  · obtain ⟨q1, q2, q3, q4⟩ := R'.pvl j b e
    refine ⟨q1, q2, ?_, fun o eo => q4 o (E.ob _ _ eo)⟩
    cases hb : g.bl j with
    | none => exact hb
    | some l => have := E.bl _ _ hb; rw [q3] at this; cases this
  · exact R'.tab a v (by rw [k.tabs]; exact e)
theorem ARun.pure {P : Program} {f : FuncId} {args : List AV} {y : AV} (hy : Pure y) (H : ARunE P f args h0 fun v h' => Kp [] h0 h' ∧ ∀ (g : Gh) (w : World) (u : Value), VR g w v u → VR g w y u) : ARun P f args h0 y h0 := by
  obtain ⟨v, h', ⟨k, hs⟩, r⟩ := H
  intro g w vs R hvs
  refine Calls.mono (r g w vs R hvs) ?_
  rintro e w' ⟨u, g', rfl, E, R', V⟩
  have hc : ∀ l, l < g.nl → g'.cur l = g.cur l := fun l hl => by
    rw [R.nt] at hl
    rw [R'.cur l (Nat.lt_of_lt_of_le hl k.nt), R.cur l hl, k.tip l hl]
  exact ⟨u, g.back g', rfl, E.back hc, R.back R' E k, VR.pure (g := g') (g2 := g.back g') rfl (hs _ _ _ V) hy⟩
section
variable {P : Program} {lt : LT} {C : Exit → AFr → AH → Prop} {h : AH} {fr : AFr} {ks : List Kt}
theorem X.callQ {o : Oper} {ops l : List Oper} {D : List Nat} {f : FuncId} {args : List AV} {v : AV} {d : Tmp} (hc : (aCallee fr o.op, aWanted ops fr o.guard, o.dst) = (some (f, args), some true, some d)) (hf : Callable P f)
    (H : ∀ h, ARun P f args h v h) (K : XS P lt C (.ops ops l D) ks (fr.putD d (.v v)) h) : XS P lt C (.ops ops (o :: l) D) ks fr h := by
  injection hc with hc hg
  injection hg with hg hd
  exact X.free (fun h => StepD.call hc hg hf (H h)) hd K
theorem X.callQD {o : Oper} {ops l : List Oper} {D pre : List Nat} {f : FuncId} {args : List AV} {v : AV} {d : Tmp} (hc : (aCallee fr o.op, aWanted ops fr o.guard, o.dst) = (some (f, args), some true, some d)) (hf : Callable P f)
    (H : ∀ h, ARun P f args h v h) (K : XS P lt C (.dops ops l D (0 :: pre)) ks (fr.putD d (.v v)) h) : XS P lt C (.dops ops (o :: l) D pre) ks fr h := by
  injection hc with hc hg
  injection hg with hg hd
  exact X.freeD (fun h => StepD.call hc hg hf (H h)) hd K
end
end
end Go.Am
end
section
namespace Go.Proofs
end Go.Proofs
namespace Go.RowKit
end Go.RowKit
namespace Go.Am
open Go.Proofs
set_option maxRecDepth 100000
set_option linter.unusedSimpArgs false
set_option linter.unusedVariables false
theorem pig : ∀ (n : Nat) (l : List Nat), l.Nodup → (∀ x ∈ l, x < n) → l.length ≤ n ∧ (l.length = n → ∀ i, i < n → i ∈ l)
  | 0, l, _, h => by
    cases l with
    | nil => exact ⟨Nat.le_refl _, fun _ i hi => by omega⟩
    | cons x r => have := h x (by simp); omega
  | n + 1, l, hd, h => by
    by_cases hn : n ∈ l
    · have e := List.length_erase_of_mem hn
      have hp := List.length_pos_of_mem hn
      obtain ⟨p1, p2⟩ := pig n (l.erase n) (hd.erase n) fun x hx => by
        have h1 := h x (List.mem_of_mem_erase hx)
        have h2 : x ≠ n := ((hd.mem_erase_iff).1 hx).1
        omega
      refine ⟨by omega, fun hl i hi => ?_⟩
      by_cases hin : i = n
      · rw [hin]; exact hn
      · exact List.mem_of_mem_erase (p2 (by omega) i (by omega))
    · obtain ⟨p1, p2⟩ := pig n l hd fun x hx => by
        have h1 := h x hx
        have : x ≠ n := fun e => hn (e ▸ hx)
        omega
      exact ⟨by omega, fun hl => by omega⟩
section
variable {P : Program} {w : World} {ms : Array MapEntry} {b mo since : Nat} {seen : Array Nat} {ty : TypeId}
theorem run_next_map (hb : w.heap[b]? = some (.mapIter (some mo) since seen since)) (hm : w.heap[mo]? = some (.map ms since)) (hs : ms.size = since) (hk : ∀ (i : Nat) m, ms[i]? = some m → m.born = i) (hd : seen.toList.Nodup) (hx : ∀ x ∈ seen, x < since) :
    (seen.size < since ∧ ∃ i m dr, ms[i]? = some m ∧ i ∉ seen ∧ i < since ∧ (Instr.next (.pointer (some ⟨b, 0, none⟩)) false ty).run P w = .ok (.tuple #[.bool true, m.key, m.val]) { w with heap := w.heap.setIfInBounds b (.mapIter (some mo) since (seen.push i) since), drawn := dr }) ∨
    (seen.size = since ∧ (Instr.next (.pointer (some ⟨b, 0, none⟩)) false ty).run P w = .ok (.tuple #[.bool false]) w) := by
  have hborn : ∀ e ∈ ms, e.born < since := fun e he => by
    obtain ⟨i, hi, rfl⟩ := Array.getElem_of_mem he
    rw [hk i ms[i] (by simp [hi]), ← hs]; exact hi
  obtain ⟨p1, p2⟩ := pig since seen.toList hd (fun x h => hx x (by simpa using h))
  have hgone : (!seen.isEmpty && !ms.isEmpty && ms.all (fun e => decide (e.born ≥ since))) = false := by
    by_cases hz : ms.size = 0
    · have : ms.isEmpty = true := by simp [Array.isEmpty, hz]
      simp [this]
    · have : ms.all (fun e => decide (e.born ≥ since)) = false := by
        rw [Array.all_eq_false]
        exact ⟨0, by omega, by have := hborn ms[0] (Array.getElem_mem _); simp; omega⟩
      simp [this]
  have hold : (ms.filter fun e => !seen.contains e.born).filter (fun e => decide (e.born < since)) = ms.filter fun e => !seen.contains e.born := by
    rw [Array.filter_eq_self]
    intro e he
    rw [Array.mem_filter] at he
    exact decide_eq_true (hborn e he.1)
  have hnew : (ms.filter fun e => !seen.contains e.born).filter (fun e => decide (e.born ≥ since)) = #[] := by
    rw [Array.filter_eq_empty_iff]
    intro e he
    rw [Array.mem_filter] at he
    have := hborn e he.1
    simp; omega
  generalize hL : (ms.filter fun e => !seen.contains e.born) = L at hold hnew
  rcases Nat.lt_or_ge seen.size since with hlt | hge
  · left
    have hne : L.isEmpty = false := by
      rw [Array.isEmpty_eq_false_iff]
      intro e
      rw [← hL, Array.filter_eq_empty_iff] at e
      have hall : ∀ i, i < since → i ∈ seen.toList := fun i hi => by
        have := e ms[i] (Array.getElem_mem (by omega))
        rw [hk i ms[i] (by simp [hs, hi])] at this
        simpa using this
      have : since ≤ seen.toList.length := by
        have h1 : (List.range since).length ≤ seen.toList.length := by
          have hsub : ∀ (r : List Nat), r.Nodup → (∀ x ∈ r, x ∈ seen.toList) → r.length ≤ seen.toList.length := by
            intro r
            generalize seen.toList = l
            induction r generalizing l with
            | nil => intros; simp
            | cons x r ih =>
              intro h1 h2
              have hxl := h2 x (by simp)
              have e1 := List.length_erase_of_mem hxl
              have e2 := List.length_pos_of_mem hxl
              have := ih (l.erase x) (List.nodup_cons.1 h1).2 fun y hy => by
                have hyx : y ≠ x := fun e => (List.nodup_cons.1 h1).1 (e ▸ hy)
                exact (List.mem_erase_of_ne hyx).2 (h2 y (by simp [hy]))
              simp; omega
          exact hsub _ List.nodup_range fun x hx => hall x (by simpa using hx)
        simpa using h1
      simp at this
      omega
    have hpos : 0 < L.size := by
      rcases Nat.eq_zero_or_pos L.size with z | z
      · have : L.isEmpty = true := by simp [Array.isEmpty, z]
        rw [this] at hne; cases hne
      · exact z
    obtain ⟨q, dr, hq, hrun⟩ : ∃ q dr, q < L.size ∧ (choose (.mapNext L.size)).run P w = .ok q { w with drawn := dr } := by
      by_cases hf : L.size ≤ 1
      · exact ⟨0, w.drawn, hpos, by simp [choose, Sem.run, Question.forced, hf]⟩
      · exact ⟨w.tape w.drawn (.mapNext L.size) % L.size, w.drawn + 1, Nat.mod_lt _ hpos, by simp [choose, Sem.run, Question.forced, hf, Question.cut]⟩
    have hmem : L[q] ∈ ms.filter fun e => !seen.contains e.born := by rw [hL]; exact Array.getElem_mem _
    rw [Array.mem_filter] at hmem
    obtain ⟨hm1, hm2⟩ := hmem
    obtain ⟨i, hi, hie⟩ := Array.getElem_of_mem hm1
    have hbi : L[q].born = i := by rw [← hie]; exact hk i ms[i] (by simp [hi])
    refine ⟨hlt, i, L[q], dr, by rw [← hie]; simp [hi], by rw [hbi] at hm2; simpa using hm2, by omega, ?_⟩
    unfold Instr.next
    simp only [getObj, Sem.run_bind, Sem.run, hb, hm, Result.andThen_ok, hgone, hL, hold, hnew, Array.append_empty, hne]
    rw [if_neg (by simp)]
    have hcan : ((if false = true then #[none] else #[]) ++ Array.map some L : Array (Option MapEntry)) = Array.map some L := by simp
    rw [hcan, Array.size_map]
    simp only [Sem.run_bind, hrun, Result.andThen_ok, Array.getElem?_map, Array.getElem?_eq_getElem hq, Option.map_some]
    simp [setObj, Sem.run, hb, hbi]
  · right
    have heq : seen.size = since := by simp at p1; omega
    have hem : L = #[] := by
      rw [← hL, Array.filter_eq_empty_iff]
      intro e he
      obtain ⟨i, hi, rfl⟩ := Array.getElem_of_mem he
      have := p2 (by simpa using heq) i (by omega)
      rw [hk i ms[i] (by simp [hi])]
      simpa using this
    refine ⟨heq, ?_⟩
    unfold Instr.next
    simp only [getObj, Sem.run_bind, Sem.run, hb, hm, Result.andThen_ok, hgone, hL, hem]
    rw [if_neg (by simp)]
    simp [choose, Sem.run, Question.forced]
end
end Go.Am
end
section
namespace Go.Proofs
end Go.Proofs
namespace Go.RowKit
end Go.RowKit
namespace Go.Am
open Go.Proofs
set_option maxRecDepth 100000
set_option linter.unusedSimpArgs false
set_option linter.unusedVariables false
section
variable {P : Program} {lt : LT} {h : AH} {fr : AFr} {ops : List Oper} {o : Oper} {g : Gh} {w : World}
theorem range_execM {t : TypeId} {x : Operand} (ho : o.op = .range t x) (ρ : Operand → Value) : (execOp ρ o) = (do pure (.value (← Instr.range t (ρ x)))) ∧ x ∈ o.op.operands.toList := by
  obtain ⟨dst, op, ty, pos, after, guard⟩ := o
  simp only at ho; subst ho
  exact ⟨rfl, by simp [Op.operands]⟩
theorem next_execM {x : Operand} (ho : o.op = .next x false) (ρ : Operand → Value) : (execOp ρ o) = (do pure (.value (← Instr.next (ρ x) false o.type))) := by
  obtain ⟨dst, op, ty, pos, after, guard⟩ := o
  simp only at ho; subst ho
  rfl
theorem StepD.rangeM {t kt et : TypeId} {x : Operand} {m : Nat} {es : List (AV × AV)} (ho : o.op = .range t x) (hw : aWanted ops fr o.guard = some true) (ht : P.underlying t = some (.map kt et)) (ex : fr.ev x = .v (.map m)) (hg : h.get m = some (.map es)) : StepD P lt ops o fr h (.v (.ptr h.n 0)) (h.push (.mit m es.length 0 none)) := by
  refine StepD.raw hw fun g w ρ R hx => ?_
  obtain ⟨r1, r2⟩ := range_execM ho ρ
  have v1 := hx x r2 _ ex
  rw [r1]
  generalize ρ x = p at v1
  cases v1 with
  | map _ b hb =>
    obtain ⟨b', hb', ms, clk, hwk, ⟨hs, hk1, hk2⟩, hv⟩ := R.obj _ _ hg
    rw [hb] at hb'; injection hb' with hb'; subst hb'
    subst hk1
    obtain ⟨E, R'⟩ := alloc_ob R (.mapIter (some b) es.length #[] es.length) (.mit m es.length 0 none) fun g' E => by
      refine ⟨b, #[], E.ob _ _ hb, ?_, rfl, by simp, by simp, fun _ h => by cases h⟩
      rw [heap_alloc, if_pos rfl]
    refine ⟨.pointer (some ⟨w.heap.size, 0, none⟩), _, _, ?_, E, R', .ptr _ _ _ (by simp [Gh.addOb])⟩
    simp only [Sem.run_bind, Instr.range, run_underlying ht, Result.andThen_ok, getObj, Sem.run, hwk, Sem.run_pure]
    rfl
theorem put_mit {w' : World} {ob b m since k k' : Nat} {l l' : Option Nat} {x : Obj} (R : Rel g w h) (hb : g.ob ob = some b) (hg : h.get ob = some (.mit m since k l)) (hw : ∃ y, w.heap[b]? = some y ∧ ∀ c T fz, y ≠ .cells c T fz) (p : Put1 w w' b x) (hx : MitOK g w' m since k' l' b) : Ev g w g w' ∧ Rel g w' (h.set ob (.mit m since k' l')) := by
  obtain ⟨h1, h2, h3⟩ := R.obl ob b hb
  have h2 := h2 (by rw [hg]; simp) (by rw [hg]; simp)
  obtain ⟨y, hwy, hyc⟩ := hw
  have E : Evc g w g w' := p.evc h2 fun c T' fz e => by rw [hwy] at e; injection e with e; exact absurd e (hyc _ _ _)
  refine ⟨⟨E, fun k _ hk _ _ => ⟨p.other k fun e => hk ob (e ▸ hb), rfl⟩⟩, Put1.rel R p h2 (R.pv_ob hb) E _ rfl rfl rfl rfl (fun o' y e => by simp only [AH.set]; split <;> exact ⟨_, by first | rfl | exact e⟩) (fun o' e => AH.set_gone (by rw [hg]; simp) e) fun o' y e => ?_⟩
  simp only [AH.set] at e
  split at e
  · rename_i h4
    subst h4
    injection e with e
    subst e
    exact .inl ⟨hb, hx⟩
  · rename_i h4
    by_cases e' : g.ob o' = some b
    · rcases R.obi _ _ _ e' hb with q | q | q
      · exact absurd q h4
      · obtain ⟨b2, hb2, c, T, fz, hc⟩ := R.obj _ _ q
        rw [e'] at hb2; injection hb2 with hb2; subst hb2
        rw [hwy] at hc; injection hc with hc; exact absurd hc (hyc _ _ _)
      · rw [hg] at q; cases q
    · exact .inr ⟨e, e'⟩
/-- One step of a map's iterator: any entry that was not seen, or the end. -/
theorem next_map {x : Operand} {it m k : Nat} {l : Option Nat} {es : List (AV × AV)} {ρ : Operand → Value} (ho : o.op = .next x false) (R : Rel g w h) (hx : VR g w (.ptr it 0) (ρ x)) (hit : h.get it = some (.mit m es.length k l)) (hm : h.get m = some (.map es)) :
    (k < es.length ∧ ∃ i e v w', es[i]? = some e ∧ (execOp ρ o).run P w = .ok (.value v) w' ∧ Ev g w g w' ∧ Rel g w' (h.set it (.mit m es.length (k + 1) (some i))) ∧ VR g w' (.tup [.bool true, e.1, e.2]) v) ∨
    (k = es.length ∧ ∃ v, (execOp ρ o).run P w = .ok (.value v) w ∧ VR g w (.tup [.bool false]) v) := by
  rw [next_execM ho ρ]
  generalize ρ x = p at hx
  cases hx with
  | ptr _ _ b hb =>
    obtain ⟨b', hb', mo, seen, hmo, hwb, hsz, hnd, hlt, _⟩ := R.obj _ _ hit
    rw [hb] at hb'; injection hb' with hb'; subst hb'
    obtain ⟨b2, hb2, ms, clk, hwm, ⟨hs, hk1, hk2⟩, hv⟩ := R.obj _ _ hm
    rw [hmo] at hb2; injection hb2 with hb2; subst hb2
    subst hk1
    rcases run_next_map (P := P) (ty := o.type) hwb hwm hs hk2 hnd hlt with ⟨q1, i, me, dr, g1, g2, g3, g4⟩ | ⟨q1, q2⟩
    · left
      obtain ⟨me', e1, e2, e3⟩ := hv i g3
      rw [g1] at e1; injection e1 with e1; subst e1
      have hltb := heap_lt hwb
      have p1 : Put1 w { w with heap := w.heap.setIfInBounds b (.mapIter (some mo) es.length (seen.push i) es.length), drawn := dr } b (.mapIter (some mo) es.length (seen.push i) es.length) :=
        ⟨rfl, rfl, rfl, by simp, by simp [hltb], fun k hk => by simp [Array.getElem?_setIfInBounds, Ne.symm hk]⟩
      obtain ⟨E, R'⟩ := put_mit (k' := k + 1) (l' := some i) R hb hit ⟨_, hwb, fun c T fz e => by cases e⟩ p1 ⟨mo, seen.push i, hmo, p1.at_, by simp [hsz], by
          rw [Array.toList_push, List.nodup_append]
          refine ⟨hnd, by simp, fun a ha c hc => ?_⟩
          rw [List.mem_singleton] at hc
          subst hc
          rintro rfl
          exact g2 (by simpa using ha), fun z hz => by
          rw [Array.mem_push] at hz
          rcases hz with hz | rfl
          · exact hlt z hz
          · exact g3, fun z hz => by injection hz with hz; subst hz; simp⟩
      refine ⟨by omega, i, es[i], _, _, List.getElem?_eq_getElem g3, by simp only [Sem.run_bind, g4, Result.andThen_ok, Sem.run_pure]; rfl, E, R', ?_⟩
      exact .tup _ _ rfl fun j hj => by
        match j, hj with
        | 0, _ => exact .bool _
        | 1, _ => exact e2.mono E.toEvc
        | 2, _ => exact e3.mono E.toEvc
    · right
      refine ⟨by omega, _, by simp only [Sem.run_bind, q2, Result.andThen_ok, Sem.run_pure]; rfl, ?_⟩
      exact .tup _ _ rfl fun j hj => by
        match j, hj with
        | 0, _ => exact .bool _
end
def wpK (P : Program) : List Kt → (Exit → Act → World → Prop) → Exit → Act → World → Prop
  | [], Q => Q
  | .seq y :: ks, Q => Exit.then (y.wp P (wpK P ks Q)) (wpK P ks Q)
  | .blk id :: ks, Q => Exit.inBlock id (wpK P ks Q)
  | .stp :: ks, Q => wpK P ks Q
  | .lp c :: ks, Q => Exit.then ((Code.loop c).wp P (wpK P ks Q)) (wpK P ks Q)
section
variable {P : Program} {lt : LT} {C : Exit → AFr → AH → Prop} {h : AH} {fr : AFr} {g0 : Gh} {w0 : World} {Q : Exit → Act → World → Prop}
theorem contK_wp (hQ : ∀ e fr h a w, C e fr h → AS lt h fr g0 w0 a w → Q e a w) : ∀ (ks : List Kt) {e : Exit} {fr : AFr} {h : AH} {a : Act} {w : World}, contK P lt C ks e fr h → AS lt h fr g0 w0 a w → wpK P ks Q e a w
  | [], e, fr, h, a, w, k, S => hQ _ _ _ _ _ k S
  | .stp :: ks, e, fr, h, a, w, k, S => contK_wp hQ ks k S
  | .seq y :: ks, e, fr, h, a, w, k, S => by
    cases e with
    | normal =>
      obtain ⟨e2, fr2, h2, k2, r2⟩ := k
      refine wp_mono (r2 g0 w0 a w S) ?_
      rintro e3 a3 w3 ⟨rfl, S3⟩
      exact contK_wp hQ ks k2 S3
    | _ => exact contK_wp hQ ks k S
  | .lp c :: ks, e, fr, h, a, w, k, S => by
    cases e with
    | normal =>
      obtain ⟨n, e2, fr2, h2, k2, r2⟩ := k
      refine wp_mono (r2.big g0 w0 a w S) ?_
      rintro e3 a3 w3 ⟨rfl, S3⟩
      exact contK_wp hQ ks k2 S3
    | _ => exact contK_wp hQ ks k S
  | .blk id :: ks, e, fr, h, a, w, k, S => by
    cases e with
    | exit id' =>
      simp only [contK, blockC] at k
      simp only [wpK, Exit.inBlock]
      split at k
      · rename_i hb
        have hb := Nat.eq_of_beq_eq_true hb
        rw [if_pos hb]
        exact contK_wp hQ ks k S
      · rename_i hb
        have hb := Nat.ne_of_beq_eq_false hb
        rw [if_neg hb]
        exact contK_wp hQ ks k S
    | _ => exact contK_wp hQ ks k S
theorem XS.wpOps {ops l : List Oper} {D : List Nat} {ks : List Kt} {a : Act} {w : World} (H : XS P lt C (.ops ops l D) ks fr h) (hQ : ∀ e fr h a w, C e fr h → AS lt h fr g0 w0 a w → Q e a w) (S : AS lt h fr g0 w0 a w) : wpList P ops.toArray (wpK P ks Q) l a w := by
  obtain ⟨fr', h', k, r⟩ := H
  exact r g0 w0 a w _ S fun a' w' S' => contK_wp hQ ks k S'
end
end Go.Am
end
section
namespace Go.Am
open Go.Proofs
set_option maxRecDepth 100000
set_option linter.unusedSimpArgs false
set_option linter.unusedVariables false
section
variable {P : Program} {lt : LT} {C : Exit → AFr → AH → Prop} {h h1 : AH} {g g' : Gh} {w w' : World}
abbrev canF (n : Nat) (S : List (Nat × AV)) : AFr := (AFr.bare n fun _ => []).puts S
theorem canF_f (n : Nat) : ∀ (S : List (Nat × AV)) (k : Nat), (canF n S).f k = .junk ∨ ∃ x, (canF n S).f k = .v x
  | [], k => .inl rfl
  | (d, x) :: S, k => by
    have e : (canF n ((d, x) :: S)).f k = match Nat.beq k d with
      | true => .v x
      | false => (canF n S).f k := rfl
    rw [e]
    split
    · exact .inr ⟨x, rfl⟩
    · exact canF_f n S k
theorem canF_df (n : Nat) : ∀ (S : List (Nat × AV)), (canF n S).df = [] ∧ (canF n S).n = n
  | [] => ⟨rfl, rfl⟩
  | (d, x) :: S => canF_df n S
theorem FR.can {base base' : Nat} {lb : Nat → Option Nat} {n : Nat} {S : List (Nat × AV)} {a : Act} (F : FR lt g w base lb (canF n S) a) : FR lt g w base' (fun _ => none) (canF n S) a where
  defers := F.defers
  size := F.size
  slot k hk := by
    have := F.slot k hk
    rcases canF_f n S k with e | ⟨x, e⟩
    · rw [e]; trivial
    · rw [e] at this ⊢; exact this
  hold k d off e := by
    rcases canF_f n S k with q | ⟨x, q⟩ <;> rw [q] at e <;> cases e
  lbi d d' b e := by cases e
  lbo d b e := by cases e
theorem AS.forget {base : Nat} {lb : Nat → Option Nat} {n : Nat} {S : List (Nat × AV)} {fr1 : AFr} {a a' : Act} (R : Rel g w h) (F : FR lt g w base lb (canF n S) a) (W : Weak lt fr1 (canF n S)) (k : Kp [] h h1) (H : AS lt h1 fr1 g w a' w') :
    ∃ g2, Ev g w g2 w' ∧ Rel g2 w' h ∧ ∀ base', FR lt g2 w' base' (fun _ => none) (canF n S) a' := by
  obtain ⟨g', lb', E, R', F'⟩ := H.weak W
  have hc : ∀ l, l < g.nl → g'.cur l = g.cur l := fun l hl => by
    rw [R.nt] at hl
    rw [R'.cur l (Nat.lt_of_lt_of_le hl k.nt), R.cur l hl, k.tip l hl]
  refine ⟨g.back g', E.back hc, R.back R' E k, fun base' => ⟨?_, F'.size, fun j hj => ?_, fun j d off e => ?_, fun d d' b e => (by cases e), fun d b e => (by cases e)⟩⟩
  · have := F'.defers
    rw [(canF_df n S).1] at this ⊢
    exact this
  · have h1 := F'.slot j hj
    have h2 := F.slot j hj
    rcases canF_f n S j with e | ⟨x, e⟩
    · rw [e]; trivial
    · rw [e] at h1 h2 ⊢
      exact VR.back E.toEvc hc h1 h2
  · rcases canF_f n S j with q | ⟨x, q⟩ <;> rw [q] at e <;> cases e
theorem AH.set_set {o : Nat} {x y : AObj} : (h.set o x).set o y = h.set o y := by
  refine AH.ext rfl (fun k => ?_) rfl rfl rfl
  simp only [AH.set]
  split <;> rfl
theorem AH.set_at {o : Nat} {x : AObj} : (h.set o x).get o = some x := by simp [AH.set]
theorem AH.set_ne {o k : Nat} {x : AObj} (hk : k ≠ o) : (h.set o x).get k = h.get k := by simp [AH.set, hk]
theorem AH.set_self {o : Nat} {x : AObj} (hg : h.get o = some x) : h.set o x = h := by
  refine AH.ext rfl (fun k => ?_) rfl rfl rfl
  simp only [AH.set]
  split
  · rename_i e; rw [e, hg]
  · rfl
theorem weak_mit {it m since k : Nat} {l l' : Option Nat} (R : Rel g w h) (hg : h.get it = some (.mit m since k l)) (hl : ∀ x, l' = some x → l = some x) : Rel g w (h.set it (.mit m since k l')) := by
  obtain ⟨b, hb, mo, seen, h1, h2, h3, h4, h5, h6⟩ := R.obj _ _ hg
  exact (put_mit (k' := k) (l' := l') R hb hg ⟨_, h2, fun c T fz e => by cases e⟩ ⟨rfl, rfl, rfl, rfl, h2, fun _ _ => rfl⟩ ⟨mo, seen, h1, h2, h3, h4, h5, fun x e => h6 x (hl x e)⟩).2
theorem entry_execM {o : Oper} {x : Operand} (ho : o.op = .entry x) (ρ : Operand → Value) : (execOp ρ o) = (do pure (.value (← Instr.entry (ρ x)))) ∧ x ∈ o.op.operands.toList := by
  obtain ⟨dst, op, ty, pos, after, guard⟩ := o
  simp only at ho; subst ho
  exact ⟨rfl, by simp [Op.operands]⟩
/-- The entry that the last step met. -/
theorem StepD.entryM {ops : List Oper} {o : Oper} {fr : AFr} {x : Operand} {it m i k : Nat} {es : List (AV × AV)} {e : AV × AV} (ho : o.op = .entry x) (hw : aWanted ops fr o.guard = some true) (ex : fr.ev x = .v (.ptr it 0)) (hit : h.get it = some (.mit m es.length k (some i))) (hm : h.get m = some (.map es)) (he : es[i]? = some e) :
    StepD P lt ops o fr h (.v (.tup [e.1, e.2])) h := by
  refine StepD.raw hw fun g w ρ R hx => ?_
  obtain ⟨r1, r2⟩ := entry_execM ho ρ
  have v1 := hx x r2 _ ex
  rw [r1]
  generalize ρ x = p at v1
  cases v1 with
  | ptr _ _ b hb =>
    obtain ⟨b', hb', mo, seen, hmo, hwb, hsz, hnd, hlt, hl⟩ := R.obj _ _ hit
    rw [hb] at hb'; injection hb' with hb'; subst hb'
    obtain ⟨b2, hb2, ms, clk, hwm, ⟨hs, hk1, hk2⟩, hv⟩ := R.obj _ _ hm
    rw [hmo] at hb2; injection hb2 with hb2; subst hb2
    subst hk1
    obtain ⟨hi, rfl⟩ := List.getElem?_eq_some_iff.1 he
    obtain ⟨me, e1, e2, e3⟩ := hv i hi
    have hbk := hl i rfl
    have hfind : ms.find? (fun x => x.born == i) = some me := by
      have hi' : i < ms.size := by omega
      rw [Array.getElem?_eq_getElem hi'] at e1
      injection e1 with e1
      rw [Array.find?_eq_some_iff_getElem]
      refine ⟨by simpa using hk2 i me (by rw [Array.getElem?_eq_getElem hi', e1]), i, hi', e1, fun j hj => ?_⟩
      have := hk2 j ms[j] (Array.getElem?_eq_getElem (by omega))
      simp [this]; omega
    refine ⟨.tuple #[me.key, me.val], _, _, ?_, .refl g w, R, .tup _ _ rfl fun j hj => ?_⟩
    · simp only [Sem.run_bind, Instr.entry, getObj, Sem.run, hwb, hwm, hbk, Result.andThen_ok, hfind, bne_self_eq_false, Sem.run_pure]
      simp [Sem.run, hfind]
    · match j, hj with
      | 0, _ => exact e2
      | 1, _ => exact e3
/-- A loop over a map whose rounds leave nothing behind: in whatever order the entries come. -/
theorem X.mapLoop {c y : Code} {id : Nat} {o : Oper} {l : List Oper} {ks : List Kt} {fr : AFr} {n : Nat} {S : List (Nat × AV)} {it m : Nat} {es : List (AV × AV)} {d : Tmp} {x : Operand} {eX : Exit}
    (hc : c = .seq (.region id (o :: l).toArray false) y) (ho : (o.op, o.guard, o.dst) = (.next x false, none, some d)) (hS : HQ fr n S) (hx : (canF n S).ev x = .v (.ptr it 0))
    (hit : h.get it = some (.mit m es.length 0 none)) (hm : h.get m = some (.map es)) (hX : eX ≠ .normal)
    (body : ∀ i e, es[i]? = some e → ∀ k, k < es.length → XS P lt (fun e1 fr1 h1 => e1 = .normal ∧ Weak lt fr1 (canF n S) ∧ Kp [] (h.set it (.mit m es.length (k + 1) (some i))) h1) (.ops (o :: l) l []) [.seq y] ((canF n S).putD d (.v (.tup [.bool true, e.1, e.2]))) (h.set it (.mit m es.length (k + 1) (some i))))
    (over : XS P lt (fun e1 fr1 h1 => e1 = eX ∧ Weak lt fr1 (canF n S) ∧ Kp [] (h.set it (.mit m es.length es.length none)) h1) (.ops (o :: l) l []) [.seq y] ((canF n S).putD d (.v (.tup [.bool false]))) (h.set it (.mit m es.length es.length none)))
    (K : XS P lt C (.ext eX) ks (canF n S) (h.set it (.mit m es.length es.length none))) : XS P lt C (.code (.loop c)) ks fr h := by
  injection ho with ho hgd
  injection hgd with hgd hd
  have hne : m ≠ it := by rintro rfl; rw [hit] at hm; cases hm
  refine ⟨eX, canF n S, _, K, fun g0 w0 a w S0 => ?_⟩
  replace S0 := S0.weak (Weak.sl (loc := fun _ => []) hS)
  rw [← AH.set_self hit] at S0
  subst hc
  have main : ∀ (j k : Nat), k + j = es.length → ∀ a w, AS lt (h.set it (.mit m es.length k none)) (canF n S) g0 w0 a w →
      Code.rounds P (.seq (.region id (o :: l).toArray false) y) (fun e1 a1 w1 => e1 = eX ∧ AS lt (h.set it (.mit m es.length es.length none)) (canF n S) g0 w0 a1 w1) (j + 1) a w := by
    intro j
    induction j with
    | zero =>
      intro k hk a w S1
      obtain rfl : k = es.length := by omega
      obtain ⟨g, lb, E, R, F⟩ := S1
      refine wp_seq (wp_region_lit (wpList_step fun K' hK' => ?_))
      rw [if_pos (aWanted_sound (b := true) F (by rw [hgd]; rfl))]
      have hxv := F.ev_v hx
      rcases next_map (ρ := a.eval) (P := P) ho R hxv AH.set_at ((AH.set_ne hne).trans hm) with ⟨q, _⟩ | ⟨_, v, g2, g3⟩
      · omega
      unfold Oper.wp
      rw [g2]
      refine hK' _ _ ?_
      have hput : FR lt g w w.heap.size (fun _ => none) ((canF n S).putD d (.v (.tup [.bool false]))) (a.put (some d) v) := FR.put (dst := some d) (s := .v _) F.can g3 rfl
      rw [hd]
      refine over.wpOps (g0 := g) (w0 := w) (fun e fr1 h1 a1 w1 hC S2 => ?_) ⟨g, _, .refl g w, R, hput⟩
      obtain ⟨rfl, W, kk⟩ := hC
      obtain ⟨g2, E2, R2, F2⟩ := AS.forget R F W kk S2
      cases e with
      | normal => exact absurd rfl hX
      | _ => exact ⟨rfl, g2, _, E.trans E2, R2, F2 _⟩
    | succ j ih =>
      intro k hk a w S1
      obtain ⟨g, lb, E, R, F⟩ := S1
      refine wp_seq (wp_region_lit (wpList_step fun K' hK' => ?_))
      rw [if_pos (aWanted_sound (b := true) F (by rw [hgd]; rfl))]
      have hxv := F.ev_v hx
      rcases next_map (ρ := a.eval) (P := P) ho R hxv AH.set_at ((AH.set_ne hne).trans hm) with ⟨hlt, i, e, v, w1, he, g2, E1, R1, g3⟩ | ⟨q, _⟩
      · unfold Oper.wp
        rw [g2]
        refine hK' _ _ ?_
        rw [AH.set_set] at R1
        have F1 := F.mono E1
        have hput : FR lt g w1 w1.heap.size (fun _ => none) ((canF n S).putD d (.v (.tup [.bool true, e.1, e.2]))) (a.put (some d) v) := FR.put (dst := some d) (s := .v _) F1.can g3 rfl
        rw [hd]
        refine (body i e he k hlt).wpOps (g0 := g) (w0 := w1) (fun e2 fr1 h1 a1 w2 hC S2 => ?_) ⟨g, _, .refl g w1, R1, hput⟩
        obtain ⟨rfl, W, kk⟩ := hC
        obtain ⟨g2, E2, R2, F2⟩ := AS.forget R1 F1 W kk S2
        exact ih (k + 1) (by omega) a1 w2 ⟨g2, _, (E.trans E1).trans E2, AH.set_set (h := h) ▸ weak_mit (l' := none) R2 AH.set_at (fun _ h => by cases h), F2 _⟩
      · omega
  exact wp_loop_rounds _ (main es.length 0 (by omega) a w S0)
end
end Go.Am
end
