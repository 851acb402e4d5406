import Derived.Test.YtlnpifmdjcnflaaGreatDoorS2
set_option linter.unusedVariables false
set_option linter.unusedSimpArgs false
section
set_option linter.unusedVariables false
set_option linter.unusedSimpArgs false
namespace Go.Am
def AL (P : Program) (lt : LT) (ops l : List Oper) (fr : AFr) (h : AH) (K : AFr → AH → Prop) : Prop :=
  ∃ fr' h', K fr' h' ∧ ∀ (g0 : Gh) (w0 : World) (a : Act) (w : World) (Q : Exit → Act → World → Prop), AS lt h fr g0 w0 a w → (∀ a' w', AS lt h' fr' g0 w0 a' w' → Q .normal a' w') → wpList P ops.toArray Q l a w
def Big (P : Program) (lt : LT) (c : Code) (fr : AFr) (h : AH) (e : Exit) (fr' : AFr) (h' : AH) : Prop :=
  ∀ (g0 : Gh) (w0 : World) (a : Act) (w : World), AS lt h fr g0 w0 a w → c.wp P (fun e1 a1 w1 => e1 = e ∧ AS lt h' fr' g0 w0 a1 w1) a w
def AC (P : Program) (lt : LT) (c : Code) (fr : AFr) (h : AH) (K : Exit → AFr → AH → Prop) : Prop := ∃ e fr' h', K e fr' h' ∧ Big P lt c fr h e fr' h'
def ARun (P : Program) (f : FuncId) (args : List AV) (h : AH) (v : AV) (h' : AH) : Prop :=
  ∀ (g : Gh) (w : World) (vs : Array Value), Rel g w h → VRs g w args vs → Calls P f vs w fun e w' => ∃ u g', e = .returned u ∧ Ev g w g' w' ∧ Rel g' w' h' ∧ VR g' w' v u
section
variable {P : Program} {lt : LT} {h : AH} {fr : AFr} {ops l : List Oper} {K : AFr → AH → Prop}
theorem AL.nil (H : K fr h) : AL P lt ops [] fr h K := ⟨fr, h, H, fun g0 w0 a w Q S hQ => wpList_nil (hQ a w S)⟩
theorem AL.any {o : Oper} {fr1 : AFr} {h1 : AH} (hs : ∀ (g0 : Gh) (w0 : World) (a : Act) (w : World) (Q : Exit → Act → World → Prop) (K : Act → World → Prop), AS lt h fr g0 w0 a w → (∀ a' w', AS lt h1 fr1 g0 w0 a' w' → K a' w') →
      if Region.wanted o (yielded ops.toArray a.tmps) then o.wp P a w K Q else K (a.put o.dst undef) w) (H : AL P lt ops l fr1 h1 K) : AL P lt ops (o :: l) fr h K := by
  obtain ⟨fr', h', k, r⟩ := H
  refine ⟨fr', h', k, fun g0 w0 a w Q S hQ => wpList_step fun K' hK' => ?_⟩
  exact hs g0 w0 a w Q K' S fun a' w' S' => hK' a' w' (r g0 w0 a' w' Q S' hQ)
theorem AL.step {o : Oper} {fr1 : AFr} {h1 : AH} (hx : aStep P lt ops o fr h = some (fr1, h1)) (H : AL P lt ops l fr1 h1 K) : AL P lt ops (o :: l) fr h K :=
  AL.any (fun _ _ _ _ _ _ S hK => aStep_sound hx S hK) H
variable {C : Exit → AFr → AH → Prop}
theorem AC.region {id : Nat} {ops : List Oper} (H : AL P lt ops ops fr h (C .normal)) : AC P lt (.region id ops.toArray false) fr h C := by
  obtain ⟨fr', h', k, r⟩ := H
  exact ⟨.normal, fr', h', k, fun g0 w0 a w S => wp_region_lit (r g0 w0 a w _ S fun a' w' S' => ⟨rfl, S'⟩)⟩
theorem AC.skip (H : C .normal fr h) : AC P lt .skip fr h C := ⟨_, _, _, H, fun g0 w0 a w S => wp_skip ⟨rfl, S⟩⟩
theorem AC.ret (H : C .ret fr h) : AC P lt .ret fr h C := ⟨_, _, _, H, fun g0 w0 a w S => wp_ret ⟨rfl, S⟩⟩
theorem AC.exit {id : Nat} (H : C (.exit id) fr h) : AC P lt (.exit id) fr h C := ⟨_, _, _, H, fun g0 w0 a w S => wp_exit ⟨rfl, S⟩⟩
def thenC (y : AFr → AH → Prop) (C : Exit → AFr → AH → Prop) : Exit → AFr → AH → Prop
  | .normal, fr, h => y fr h
  | e, fr, h => C e fr h
theorem AC.seq {x y : Code} (H : AC P lt x fr h (thenC (fun fr h => AC P lt y fr h C) C)) : AC P lt (.seq x y) fr h C := by
  obtain ⟨e, fr1, h1, k, r⟩ := H
  have key : ∀ e', e' = e → e ≠ .normal → C e fr1 h1 → AC P lt (.seq x y) fr h C := by
    rintro e' rfl hne hc
    refine ⟨e', fr1, h1, hc, fun g0 w0 a w S => wp_seq (wp_mono (r g0 w0 a w S) ?_)⟩
    rintro e2 a2 w2 ⟨rfl, S2⟩
    cases e2 <;> first | exact absurd rfl hne | exact ⟨rfl, S2⟩
  cases e with
  | normal =>
    obtain ⟨e2, fr2, h2, k2, r2⟩ := k
    refine ⟨e2, fr2, h2, k2, fun g0 w0 a w S => wp_seq (wp_mono (r g0 w0 a w S) ?_)⟩
    rintro e3 a3 w3 ⟨rfl, S3⟩
    exact r2 g0 w0 a3 w3 S3
  | _ => exact key _ rfl (by simp) k
theorem AC.cond {c : Operand} {x y : Code} {b : Bool} (hc : fr.ev c = .v (.bool b)) (ht : b = true → AC P lt x fr h C) (hf : b = false → AC P lt y fr h C) : AC P lt (.cond c x y) fr h C := by
  have ev : ∀ g0 w0 a w, AS lt h fr g0 w0 a w → a.eval c = .bool b := by
    rintro g0 w0 a w ⟨g, lb, E, R, F⟩
    have := F.ev_v hc
    generalize a.eval c = q at this
    cases this
    rfl
  cases b with
  | true =>
    obtain ⟨e, fr', h', k, r⟩ := ht rfl
    exact ⟨e, fr', h', k, fun g0 w0 a w S => wp_cond_true (ev _ _ _ _ S) (r g0 w0 a w S)⟩
  | false =>
    obtain ⟨e, fr', h', k, r⟩ := hf rfl
    exact ⟨e, fr', h', k, fun g0 w0 a w S => wp_cond_false (ev _ _ _ _ S) (r g0 w0 a w S)⟩
theorem AC.ct {c : Operand} {x y : Code} (hc : fr.ev c = .v (.bool true)) (H : AC P lt x fr h C) : AC P lt (.cond c x y) fr h C := AC.cond hc (fun _ => H) (fun e => by cases e)
theorem AC.cf {c : Operand} {x y : Code} (hc : fr.ev c = .v (.bool false)) (H : AC P lt y fr h C) : AC P lt (.cond c x y) fr h C := AC.cond hc (fun e => by cases e) (fun _ => H)
def blockC (id : Nat) (C : Exit → AFr → AH → Prop) : Exit → AFr → AH → Prop
  | .exit id', fr, h => match Nat.beq id' id with
    | true => C .normal fr h
    | false => C (.exit id') fr h
  | e, fr, h => C e fr h
theorem AC.block {id : Nat} {c : Code} (H : AC P lt c fr h (blockC id C)) : AC P lt (.block id c) fr h C := by
  obtain ⟨e, fr1, h1, k, r⟩ := H
  cases e with
  | exit id' =>
    simp only [blockC] at k
    split at k
    · rename_i hb
      have hb := Nat.eq_of_beq_eq_true hb
      subst hb
      refine ⟨_, fr1, h1, k, fun g0 w0 a w S => wp_block (wp_mono (r g0 w0 a w S) ?_)⟩
      rintro e2 a2 w2 ⟨rfl, S2⟩
      simp only [Exit.inBlock, if_true]
      exact ⟨trivial, S2⟩
    · rename_i hb
      have hb := Nat.ne_of_beq_eq_false hb
      refine ⟨_, fr1, h1, k, fun g0 w0 a w S => wp_block (wp_mono (r g0 w0 a w S) ?_)⟩
      rintro e2 a2 w2 ⟨rfl, S2⟩
      simp only [Exit.inBlock, if_neg hb]
      exact ⟨trivial, S2⟩
  | _ =>
    refine ⟨_, fr1, h1, k, fun g0 w0 a w S => wp_block (wp_mono (r g0 w0 a w S) ?_)⟩
    rintro e2 a2 w2 ⟨rfl, S2⟩
    exact ⟨rfl, S2⟩
inductive Rounds (P : Program) (lt : LT) (c : Code) : Nat → AFr → AH → Exit → AFr → AH → Prop where
  | last {fr h e fr' h'} : Big P lt c fr h e fr' h' → e ≠ .normal → Rounds P lt c 0 fr h e fr' h'
  | more {n fr h fr1 h1 e fr' h'} : Big P lt c fr h .normal fr1 h1 → Rounds P lt c n fr1 h1 e fr' h' → Rounds P lt c (n + 1) fr h e fr' h'
def AW (P : Program) (lt : LT) (c : Code) (fr : AFr) (h : AH) (C : Exit → AFr → AH → Prop) : Prop := ∃ n e fr' h', C e fr' h' ∧ Rounds P lt c n fr h e fr' h'
theorem AW.round {c : Code} (H : AC P lt c fr h (thenC (fun fr h => AW P lt c fr h C) C)) : AW P lt c fr h C := by
  obtain ⟨e, fr1, h1, k, r⟩ := H
  cases e with
  | normal =>
    obtain ⟨n, e2, fr2, h2, k2, r2⟩ := k
    exact ⟨n + 1, e2, fr2, h2, k2, .more r r2⟩
  | _ => exact ⟨0, _, fr1, h1, k, .last r (by simp)⟩
theorem Rounds.big {c : Code} {n : Nat} {e : Exit} {fr' : AFr} {h' : AH} (r : Rounds P lt c n fr h e fr' h') : Big P lt (.loop c) fr h e fr' h' := by
  intro g0 w0 a w S
  let J : Nat → Act → World → Prop := fun n a w => ∃ fr h, Rounds P lt c n fr h e fr' h' ∧ AS lt h fr g0 w0 a w
  have least : ∀ n a w, J n a w → ∃ m, J m a w ∧ ∀ k, J k a w → m ≤ k := by
    intro n
    induction n using Nat.strongRecOn with
    | _ n ih =>
      intro a w hn
      by_cases hm : ∃ m, m < n ∧ J m a w
      · obtain ⟨m, hm1, hm2⟩ := hm
        exact ih m hm1 a w hm2
      · exact ⟨n, hn, fun k hk => Nat.le_of_not_lt fun hlt => hm ⟨k, hlt, hk⟩⟩
  classical
  let μ : Act → World → Nat := fun a w => if hj : ∃ n, J n a w then Classical.choose (least _ a w (Classical.choose_spec hj)) else 0
  have hμ : ∀ n a w, J n a w → J (μ a w) a w ∧ ∀ k, J k a w → μ a w ≤ k := by
    intro n a w hn
    have hj : ∃ n, J n a w := ⟨n, hn⟩
    have := Classical.choose_spec (least _ a w (Classical.choose_spec hj))
    simp only [μ, dif_pos hj]
    exact this
  refine wp_loop (fun a w => ∃ n, J n a w) μ ⟨n, fr, h, r, S⟩ ?_
  rintro a w ⟨n, hn⟩
  obtain ⟨⟨fr1, h1, r1, S1⟩, hmin⟩ := hμ n a w hn
  generalize hm : μ a w = m at r1 hmin
  cases r1 with
  | last b hne =>
    refine wp_mono (b g0 w0 a w S1) ?_
    rintro e2 a2 w2 ⟨rfl, S2⟩
    cases e2 <;> first | exact absurd rfl hne | exact ⟨rfl, S2⟩
  | more b r2 =>
    refine wp_mono (b g0 w0 a w S1) ?_
    rintro e2 a2 w2 ⟨rfl, S2⟩
    have hj : J _ a2 w2 := ⟨_, _, r2, S2⟩
    exact ⟨⟨_, hj⟩, by have := (hμ _ a2 w2 hj).2 _ hj; omega⟩
theorem AC.loop {c : Code} (H : AW P lt c fr h C) : AC P lt (.loop c) fr h C := by
  obtain ⟨n, e, fr', h', k, r⟩ := H
  exact ⟨e, fr', h', k, r.big⟩
def argAt (args : List AV) (k : Nat) : Slot :=
  match args[k]? with
  | some x => .v x
  | none => .junk
def AFr.enter (n : Nat) (args : List AV) : AFr := ⟨n, argAt args, fun _ => [], []⟩
def aRes1 (P : Program) (fr : AFr) (h : AH) : ResultVar → Option AV
  | .tmp t => match fr.ev (.tmp t) with
    | .v x => some x
    | _ => none
  | .cell a t => match aLoad P fr h t (.tmp a) with
    | some (.v x) => some x
    | _ => none
def aRess (P : Program) (fr : AFr) (h : AH) : List ResultVar → Option (List AV)
  | [] => some []
  | r :: rs => match aRes1 P fr h r, aRess P fr h rs with
    | some x, some xs => some (x :: xs)
    | _, _ => none
def aResultsN (P : Program) (fr : AFr) (h : AH) (rs : List ResultVar) : Option AV :=
  match aRess P fr h rs with
  | some [x] => some x
  | some xs => some (.tup xs)
  | none => none
def aResults (P : Program) (fr : AFr) (h : AH) (rs : List ResultVar) : Option AV :=
  match fr.df with
  | [] => aResultsN P fr h rs
  | _ => none
theorem aResults_df {P : Program} {fr : AFr} {h : AH} {rs : List ResultVar} {v : AV} (hx : aResults P fr h rs = some v) : fr.df = [] ∧ aResultsN P fr h rs = some v := by
  unfold aResults at hx
  split at hx
  · rename_i e; exact ⟨e, hx⟩
  · cases hx
theorem aRes1_sound {g : Gh} {w : World} {base : Nat} {lb : Nat → Option Nat} {a : Act} {r : ResultVar} {x : AV} (R : Rel g w h) (F : FR lt g w base lb fr a) (hx : aRes1 P fr h r = some x) :
    ∃ v, ((match r with
    | .tmp t => pure (a.tmps.getD t undef)
    | .cell a' t => do loadVar t (← asAddr (a.tmps.getD a' undef)) : Sem Value)).run P w = .ok v w ∧ VR g w x v := by
  unfold aRes1 at hx
  split at hx
  · rename_i t
    split at hx
    case h_2 => cases hx
    rename_i y e
    injection hx with hx; subst hx
    exact ⟨_, rfl, F.ev_v e⟩
  · rename_i a' t
    split at hx
    case h_2 => cases hx
    rename_i y e
    injection hx with hx; subst hx
    obtain ⟨v, h1, h2⟩ := aLoad_sound R F e
    refine ⟨v, ?_, h2⟩
    simp only [Instr.loadAt, Act.eval] at h1
    generalize a.tmps.getD a' undef = q at h1 ⊢
    cases q with
    | pointer p =>
      cases p with
      | none => simp [Instr.sureAddr] at h1
      | some p => exact h1
    | _ => simp [Instr.sureAddr] at h1
theorem aResults_sound {fn : Func} {g : Gh} {w : World} {base : Nat} {lb : Nat → Option Nat} {a : Act} {x : AV} (R : Rel g w h) (F : FR lt g w base lb fr a) (hx : aResultsN P fr h fn.results.toList = some x) :
    ∃ v, (results fn a.tmps).run P w = .ok v w ∧ VR g w x v := by
  have key : ∀ (rs : List ResultVar) xs, aRess P fr h rs = some xs → ∃ vs : List Value, (rs.mapM (fun r => (match r with
    | .tmp t => pure (a.tmps.getD t undef)
    | .cell a' t => do loadVar t (← asAddr (a.tmps.getD a' undef)) : Sem Value))).run P w = .ok vs w ∧ vs.length = xs.length ∧ ∀ i (hi : i < xs.length), VR g w xs[i] (vs.getD i undef) := by
    intro rs
    induction rs with
    | nil => intro xs hx; simp only [aRess] at hx; injection hx with hx; subst hx; exact ⟨[], rfl, rfl, fun i hi => by simp at hi⟩
    | cons r rs ih =>
      intro xs hx
      simp only [aRess] at hx
      split at hx
      case h_2 => cases hx
      rename_i x1 xs1 h1 h2
      injection hx with hx
      subst hx
      obtain ⟨v, k1, k2⟩ := aRes1_sound R F h1
      obtain ⟨vs, k3, k4, k5⟩ := ih xs1 h2
      refine ⟨v :: vs, by rw [List.mapM_cons]; simp only [Sem.run_bind, k1, Result.andThen_ok, k3, Sem.run_pure], by simp [k4], fun i hi => ?_⟩
      cases i with
      | zero => exact k2
      | succ i => simpa using k5 i (by simpa using hi)
  unfold aResultsN at hx
  have run : ∀ vs : List Value, (fn.results.toList.mapM (fun r => (match r with
    | .tmp t => pure (a.tmps.getD t undef)
    | .cell a' t => do loadVar t (← asAddr (a.tmps.getD a' undef)) : Sem Value))).run P w = .ok vs w → (results fn a.tmps).run P w = .ok (if h : vs.toArray.size = 1 then vs.toArray[0] else .tuple vs.toArray) w := by
    intro vs hv
    unfold results
    rw [Array.mapM_eq_mapM_toList]
    simp only [Sem.run_bind, Sem.run_map, Sem.run_pure]
    erw [hv]
    rfl
  split at hx
  · rename_i x1 h1
    injection hx with hx; subst hx
    obtain ⟨vs, k3, k4, k5⟩ := key _ _ h1
    match vs, k4 with
    | [v], _ => exact ⟨_, run _ k3, by simpa using k5 0 (by simp)⟩
  · rename_i xs hne h1
    injection hx with hx; subst hx
    obtain ⟨vs, k3, k4, k5⟩ := key _ _ h1
    have : ¬ vs.toArray.size = 1 := by
      intro e
      match xs, k4, hne with
      | [x], _, hne => exact hne x rfl
      | [], k4, _ => simp at k4; subst k4; simp at e
      | _ :: _ :: _, k4, _ => simp at e; rw [e] at k4; simp at k4
    refine ⟨_, run _ k3, ?_⟩
    rw [dif_neg this]
    refine .tup _ _ (by simpa using k4) fun i hi => ?_
    have := k5 i hi
    simpa [List.getD_eq_getElem?_getD, Array.getD_eq_getD_getElem?] using this
  · cases hx
structure FnIs (P : Program) (f : FuncId) (c : Code) (n : Nat) (rs : List ResultVar) (fn : Func) : Prop where
  at_ : P.funcs[f]? = some fn
  body : fn.body = some c
  ntmps : fn.ntmps = n
  results : fn.results.toList = rs
def retC (P : Program) (rs : List ResultVar) (v : AV) (h2 : AH) : Exit → AFr → AH → Prop
  | .normal, fr, h => aResults P fr h rs = some v ∧ h = h2
  | .ret, fr, h => aResults P fr h rs = some v ∧ h = h2
  | _, _, _ => False
theorem ARun.of {f : FuncId} {c : Code} {n : Nat} {rs : List ResultVar} {fn : Func} (I : FnIs P f c n rs fn) (lt : LT) {args : List AV} {v : AV} {h' : AH} (hn : Nat.ble args.length n = true)
    (H : AC P lt c (AFr.enter n args) h (retC P rs v h')) : ARun P f args h v h' := by
  obtain ⟨e, fr', h1, k, r⟩ := H
  intro g w vs R hvs
  refine calls_of_wp I.at_ I.body ?_
  have hn := Nat.le_of_ble_eq_true hn
  have hsz := hvs.1
  have F : FR lt g w w.heap.size (fun _ => none) (AFr.enter n args) { tmps := vs ++ Array.replicate (fn.ntmps - vs.size) undef, defers := [] } := by
    refine ⟨rfl, by simp [AFr.enter, I.ntmps]; omega, fun i hi => ?_, fun i d off e => ?_, fun _ _ _ e => (by cases e), fun _ _ e => (by cases e)⟩
    · simp only [AFr.enter, argAt]
      split
      · rename_i x hx
        obtain ⟨h1, h2⟩ := List.getElem?_eq_some_iff.1 hx
        have := hvs.2 i h1
        have e1 : (vs ++ Array.replicate (fn.ntmps - vs.size) undef).getD i undef = vs.getD i undef := by
          simp [Array.getD_eq_getD_getElem?, Array.getElem?_append, show i < vs.size by omega]
        rw [e1, ← h2]
        exact this
      · trivial
    · simp only [AFr.enter, argAt] at e
      split at e <;> cases e
  refine wp_mono (r g w _ w ⟨g, _, .refl g w, R, F⟩) ?_
  rintro e1 a1 w1 ⟨rfl, g1, lb1, E1, R1, F1⟩
  have fin : aResults P fr' h1 rs = some v ∧ h1 = h' → bodyPost P fn (fun e w' => ∃ u g', e = .returned u ∧ Ev g w g' w' ∧ Rel g' w' h' ∧ VR g' w' v u) .ret a1 w1 := by
    rintro ⟨q1, rfl⟩
    obtain ⟨qd, q1⟩ := aResults_df q1
    obtain ⟨u, q2, q3⟩ := aResults_sound (fn := fn) R1 F1 (I.results ▸ q1)
    have hd := F1.defers
    rw [qd] at hd
    exact ⟨hd, u, q2, u, g1, rfl, E1, R1, q3⟩
  cases e1 with
  | normal => exact fin k
  | ret => exact fin k
  | _ => exact k.elim
theorem call_wp {o : Oper} {f : FuncId} {args : List AV} {v : AV} {h1 : AH} (H : ARun P f args h v h1) (hs : slotOK lt o.dst (.v v) = true)
    (hrun : ∀ g w lb base a, FR lt g w base lb fr a → Rel g w h → ∃ vs, (execOp a.eval o).run P w = .ok (.enter f vs) w ∧ VRs g w args vs)
    {g0 : Gh} {w0 : World} {a : Act} {w : World} {Q : Exit → Act → World → Prop} {K : Act → World → Prop} (S : AS lt h fr g0 w0 a w) (hK : ∀ a' w', AS lt h1 (fr.put o.dst (.v v)) g0 w0 a' w' → K a' w') : o.wp P a w K Q := by
  obtain ⟨g, lb, E, R, F⟩ := S
  obtain ⟨vs, k1, k2⟩ := hrun g w lb _ a F R
  unfold Oper.wp
  rw [k1]
  refine Calls.mono (H g w vs R k2) ?_
  rintro e w' ⟨u, g', rfl, E', R', V⟩
  exact hK _ _ ⟨g', lb, E.trans E', R', (F.mono E').put (s := .v v) V hs⟩
theorem AL.callOf {o : Oper} {f : FuncId} {args : List AV} {v : AV} {h1 : AH} (hg : o.guard = none ∨ aWanted ops fr o.guard = some true)
    (hrun : ∀ g w lb base a, FR lt g w base lb fr a → Rel g w h → ∃ vs, (execOp a.eval o).run P w = .ok (.enter f vs) w ∧ VRs g w args vs) (H : ARun P f args h v h1) (T : AL P lt ops l (fr.put o.dst (.v v)) h1 K) : AL P lt ops (o :: l) fr h K := by
  refine AL.any (fun g0 w0 a w Q K S hK => ?_) T
  have hw : Region.wanted o (yielded ops.toArray a.tmps) = true := by
    rcases hg with hg | hg
    · simp [Region.wanted, hg]
    · obtain ⟨g, lb, E, R, F⟩ := S
      exact aWanted_sound F hg
  rw [if_pos hw]
  exact call_wp H rfl hrun S hK
def aCallee (fr : AFr) (o : Op) : Option (FuncId × List AV) :=
  match o with
  | .call c => match c.callee with
    | .value x => match fr.ev x, fr.evs c.args.toList with
      | .v (.clo f caps), some args => match caps with
        | [] => some (f, args)
        | _ => some (f, args ++ caps)
      | _, _ => none
    | _ => none
  | _ => none
theorem VRs.append {g : Gh} {w : World} {xs ys : List AV} {vs us : Array Value} (h1 : VRs g w xs vs) (h2 : VRs g w ys us) : VRs g w (xs ++ ys) (vs ++ us) := by
  refine ⟨by simp [h1.1, h2.1], fun i hi => ?_⟩
  have e1 := h1.1
  by_cases hlt : i < xs.length
  · have := h1.2 i hlt
    rw [List.getElem_append_left hlt]
    simpa [Array.getD_eq_getD_getElem?, Array.getElem?_append, show i < vs.size by omega] using this
  · have := h2.2 (i - xs.length) (by simp at hi; omega)
    rw [List.getElem_append_right (by omega)]
    simpa [Array.getD_eq_getD_getElem?, Array.getElem?_append, show ¬ i < xs.length by omega, e1] using this
theorem aCallee_run {o : Oper} {f : FuncId} {args : List AV} (hc : aCallee fr o.op = some (f, args)) (hf : ∀ (vs : Array Value) (w : World), (callFunc f vs).run P w = .ok (.enter f vs) w) :
    ∀ g w lb base a, FR lt g w base lb fr a → Rel g w h → ∃ vs, (execOp a.eval o).run P w = .ok (.enter f vs) w ∧ VRs g w args vs := by
  intro g w lb base a F R
  obtain ⟨dst, op, ty, pos, after, guard⟩ := o
  simp only at hc
  unfold aCallee at hc
  split at hc
  case h_2 => cases hc
  rename_i c
  split at hc
  case h_2 => cases hc
  rename_i x hx
  split at hc
  case h_2 => cases hc
  rename_i f' caps args' e1 e2
  have hargs := evs_VRs F e2
  have v1 := F.ev_v e1
  generalize hq : a.eval x = q at v1
  have hres : ∃ vs : Array Value, q = .func (.func f') #[] vs ∧ VRs g w caps vs := by
    cases v1 with
    | clo _ _ vs h1 h2 => exact ⟨vs, rfl, h1, h2⟩
  obtain ⟨vs, rfl, hvs⟩ := hres
  have run : (execOp a.eval { dst := dst, op := .call c, type := ty, pos := pos, after := after, guard := guard }).run P w = (callFunc f' ((c.args.map a.eval) ++ vs)).run P w := by
    simp only [execOp, resolve, hx, hq, Deferred.ofValue, Sem.run_bind, Sem.run_pure, Result.andThen_ok, invoke]
    simp
  have happ := hargs.append hvs
  split at hc
  · injection hc with hc
    injection hc with hc hd
    subst hc hd
    exact ⟨_, run.trans (hf _ w), by simpa using happ⟩
  · injection hc with hc
    injection hc with hc hd
    subst hc hd
    exact ⟨_, run.trans (hf _ w), happ⟩
theorem AL.call {o : Oper} {f : FuncId} {args : List AV} {v : AV} {h1 : AH} (hc : aCallee fr o.op = some (f, args)) (hg : aWanted ops fr o.guard = some true) (hf : ∀ (vs : Array Value) (w : World), (callFunc f vs).run P w = .ok (.enter f vs) w)
    (H : ARun P f args h v h1) {d : Tmp} (hd : o.dst = some d) (T : AL P lt ops l (fr.putD d (.v v)) h1 K) : AL P lt ops (o :: l) fr h K :=
  AL.callOf (.inr hg) (aCallee_run hc hf) H (by rw [hd]; exact T)
end
end Go.Am
end
section
set_option linter.unusedVariables false
set_option linter.unusedSimpArgs false
namespace Go.Am
section
variable {P : Program} {lt : LT} {h : AH} {fr fr' : AFr}
theorem evs_congr {xs : List Operand} (hx : ∀ x ∈ xs, fr'.ev x = fr.ev x) : fr'.evs xs = fr.evs xs := by
  induction xs with
  | nil => rfl
  | cons x xs ih =>
    simp only [AFr.evs, hx x (by simp), ih fun y hy => hx y (by simp [hy])]
theorem aFill_congr {pl : Nat → Option (Nat × Nat)} {parts : List (Nat × Operand)} (hx : ∀ p ∈ parts, fr'.ev p.2 = fr.ev p.2) : ∀ cells, aFill fr' pl cells parts = aFill fr pl cells parts := by
  induction parts with
  | nil => intro cells; rfl
  | cons p parts ih =>
    intro cells
    obtain ⟨i, x⟩ := p
    have h1 := hx (i, x) (by simp)
    simp only [aFill, h1]
    have ih := ih fun p hp => hx p (by simp [hp])
    split <;> try rfl
    split <;> try rfl
    split <;> try rfl
    exact ih _
theorem aParts_congr {size : Nat} {parts : List (Nat × Operand)} (hx : ∀ p ∈ parts, fr'.ev p.2 = fr.ev p.2) : ∀ k, aParts fr' size k parts = aParts fr size k parts := by
  induction parts with
  | nil => intro cells; rfl
  | cons p parts ih =>
    intro k
    obtain ⟨i, x⟩ := p
    have h1 := hx (i, x) (by simp)
    have ih := ih fun p hp => hx p (by simp [hp])
    simp only [aParts, h1, ih]
theorem aBnd_congr {x : Option Operand} {d : Nat} (hx : ∀ y, x = some y → fr'.ev y = fr.ev y) : aBnd fr' x d = aBnd fr x d := by
  cases x with
  | none => rfl
  | some y => simp only [aBnd, hx y rfl]
theorem aBlt_congr {c : Call} (hx : ∀ x ∈ c.args.toList, fr'.ev x = fr.ev x) : aBlt P fr' h c = aBlt P fr h c := by
  obtain ⟨callee, args, argTypes⟩ := c
  unfold aBlt
  simp only
  split
  · split
    · rename_i x t h1 h2
      have := hx x (by simp [h1])
      simp only [aLen, this]
    · rfl
  · split
    · rename_i x y h1
      have e1 := hx x (by simp [h1])
      have e2 := hx y (by simp [h1])
      simp only [aMin, e1, e2]
    · rfl
  · split
    · rename_i x t h1 h2
      have := hx x (by simp [h1])
      simp only [aCap, this]
    · rfl
  · rfl
theorem aPure_congr {op : Op} (hl : fr'.loc = fr.loc) (hx : ∀ x ∈ op.operands.toList, fr'.ev x = fr.ev x) : aPure P fr' h op = aPure P fr h op := by
  unfold aPure
  split
  case h_1 x => rw [hx x (by simp [Op.operands])]
  case h_2 x => rw [hx x (by simp [Op.operands])]
  case h_3 c x y => simp only [aPick, hx c (by simp [Op.operands]), hx x (by simp [Op.operands]), hx y (by simp [Op.operands])]
  case h_4 t x => simp only [aLoad, hx x (by simp [Op.operands]), hl]
  case h_5 x => simp only [aNil, hx x (by simp [Op.operands])]
  case h_6 op t x y yt => simp only [aBin, hx x (by simp [Op.operands]), hx y (by simp [Op.operands])]
  case h_7 op t x => simp only [aUn, hx x (by simp [Op.operands])]
  case h_8 s d x => simp only [aConv, hx x (by simp [Op.operands])]
  case h_9 t x => simp only [aMkIface, hx x (by simp [Op.operands])]
  case h_10 fn f c => 
    have : fr'.evs c.toList = fr.evs c.toList := evs_congr fun x hc => hx x (by simp [Op.operands]; exact .inr (by simpa using hc))
    simp only [aMkFunc, this]
  case h_11 t x lo hi mx =>
    have e1 : ∀ d, aBnd fr' lo d = aBnd fr lo d := fun d => aBnd_congr fun y hy => hx y (by simp [Op.operands, hy])
    have e2 : ∀ d, aBnd fr' hi d = aBnd fr hi d := fun d => aBnd_congr fun y hy => hx y (by simp [Op.operands, hy])
    have e3 : ∀ d, aBnd fr' mx d = aBnd fr mx d := fun d => aBnd_congr fun y hy => hx y (by simp [Op.operands, hy])
    have e0 := hx x (by simp [Op.operands])
    cases hi <;> cases mx <;> simp only [aSlice, e0, e1, e2, e3]
  case h_12 s x f => simp only [aFieldAddr, hx x (by simp [Op.operands])]
  case h_13 s x f => simp only [aField, hx x (by simp [Op.operands])]
  case h_14 t x i => simp only [aIndexAddr, hx x (by simp [Op.operands]), hx i (by simp [Op.operands])]
  case h_15 t x i => simp only [aIndex, hx x (by simp [Op.operands]), hx i (by simp [Op.operands])]
  case h_16 t x i ok => simp only [aLookup, aEntries, hx x (by simp [Op.operands]), hx i (by simp [Op.operands])]
  case h_17 x _ t ok => simp only [aAssert, hx x (by simp [Op.operands])]
  case h_18 x i => simp only [aExtract, hx x (by simp [Op.operands])]
  case h_19 t parts =>
    have : ∀ pl zs, aFill fr' pl zs parts.toList = aFill fr pl zs parts.toList := fun pl zs => aFill_congr (fun p hp => hx p.2 (by simp only [Op.operands]; simpa using ⟨p.1, by simpa using hp⟩)) zs
    simp only [aBuild, this]
  case h_20 c => exact aBlt_congr fun x hc => hx x (by simp only [Op.operands, Call.operands]; simp; exact .inr (by simpa using hc))
  case h_21 => rfl
def aAllocD (lt : LT) (h : AH) (dst : Option Tmp) (cs : Option (List AV)) : Option (Slot × AH) :=
  match dst, cs with
  | some d, some cs => match lt.has d with
    | none => some (.v (.ptr h.n 0), h.push (.cells cs))
    | some _ => none
  | _, _ => none
def aStoreD (P : Program) (fr : AFr) (h : AH) (t : TypeId) (x v : Operand) : Option (Slot × AH) :=
  match szT P t, evCs fr v, fr.ev x with
  | some n, some cs, .v (.ptr o off) => match Nat.beq cs.length n, h.get o with
    | true, some (.cells old) => match Nat.ble (off + cs.length) old.length, setAtO off cs old with
      | true, some r => some (.junk, h.set o (.cells r))
      | _, _ => none
    | _, _ => none
  | _, _, _ => none
def aMapD (P : Program) (fr : AFr) (h : AH) (t : TypeId) (m k v : Operand) : Option (Slot × AH) :=
  match mapT P t, fr.ev m, fr.ev k, fr.ev v with
  | some _, .v (.map o), .v (.str ks), .v y => match h.get o with
    | some (.map es) => match putA ks y es with
      | some es' => some (.junk, h.set o (.map es'))
      | none => none
    | _ => none
  | _, _, _, _ => none
def aLitD (P : Program) (fr : AFr) (h : AH) (t : TypeId) (n : Nat) (parts : Array (Nat × Operand)) : Option (Slot × AH) :=
  match aBuildSlice P fr t n parts with
  | some s => some (s, h)
  | none => none
def aPureD (P : Program) (fr : AFr) (h : AH) (op : Op) : Option (Slot × AH) :=
  match aPure P fr h op with
  | some s => some (s, h)
  | none => none
def aEffD (P : Program) (lt : LT) (fr : AFr) (h : AH) (dst : Option Tmp) (op : Op) : Option (Slot × AH) :=
  match op with
  | .alloc t => aAllocD lt h dst (zeroCs P t)
  | .box _ x => aAllocD lt h dst (evCs fr x)
  | .store t x v => aStoreD P fr h t x v
  | .buildSlice t n parts => aLitD P fr h t n parts
  | .makeMap _ none => some (.v (.map h.n), h.push (.map []))
  | .mapUpdate t m k v => aMapD P fr h t m k v
  | .insert t m k v => aMapD P fr h t m k v
  | op => aPureD P fr h op
theorem aAllocD_sound {dst : Option Tmp} {cs : Option (List AV)} {s : Slot} {h' : AH} (hx : aAllocD lt h dst cs = some (s, h')) : aAlloc P lt fr h dst cs = some (s, fr, h') := by
  unfold aAllocD at hx
  split at hx
  case h_2 => cases hx
  split at hx
  case h_2 => cases hx
  rename_i hl
  injection hx with hx; injection hx with hx hy; subst hx hy
  simp only [aAlloc, hl]
theorem aStoreD_sound {t : TypeId} {x v : Operand} {s : Slot} {h' : AH} (hx : aStoreD P fr h t x v = some (s, h')) : aStore P fr h t x v = some (s, fr, h') := by
  unfold aStoreD at hx
  split at hx
  case h_2 => cases hx
  rename_i h1 h2 h3
  split at hx
  case h_2 => cases hx
  rename_i h4 h5
  split at hx
  case h_2 => cases hx
  rename_i r h6 h7
  injection hx with hx; injection hx with hx hy; subst hx hy
  simp only [aStore, h1, h2, h3, h4, h5, h6, h7]
theorem aMapD_sound {t : TypeId} {m k v : Operand} {s : Slot} {h' : AH} (hx : aMapD P fr h t m k v = some (s, h')) : aMapPut P fr h t m k v = some (s, fr, h') := by
  unfold aMapD at hx
  split at hx
  case h_2 => cases hx
  rename_i h1 h2 h3 h4
  split at hx
  case h_2 => cases hx
  rename_i h5
  split at hx
  case h_2 => cases hx
  rename_i h6
  injection hx with hx; injection hx with hx hy; subst hx hy
  simp only [aMapPut, h1, h2, h3, h4, h5, h6]
theorem aLitD_sound {t : TypeId} {n : Nat} {parts : Array (Nat × Operand)} {s : Slot} {h' : AH} (hx : aLitD P fr h t n parts = some (s, h')) : aBuildSlice P fr t n parts = some s ∧ h' = h := by
  unfold aLitD at hx
  split at hx
  case h_2 => cases hx
  rename_i h1
  injection hx with hx; injection hx with hx hy; subst hx hy
  exact ⟨h1, rfl⟩
theorem aPureD_sound {op : Op} {s : Slot} {h' : AH} (hx : aPureD P fr h op = some (s, h')) : aPure P fr h op = some s ∧ h' = h := by
  unfold aPureD at hx
  split at hx
  case h_2 => cases hx
  rename_i h1
  injection hx with hx; injection hx with hx hy; subst hx hy
  exact ⟨h1, rfl⟩
theorem aEffD_sound {o : Oper} {s : Slot} {h' : AH} (hx : aEffD P lt fr h o.dst o.op = some (s, h')) : OpSound P lt (fun a => execOp a.eval o) fr h (s, fr, h') := by
  have key : aEff P lt fr h o.dst o.op = some (s, fr, h') := by
    cases hop : o.op <;> rw [hop] at hx <;> simp only [aEffD] at hx <;> simp only [aEff]
    case alloc t => exact aAllocD_sound hx
    case box t x => exact aAllocD_sound hx
    case store t x v => exact aStoreD_sound hx
    case buildSlice t n parts => obtain ⟨h1, rfl⟩ := aLitD_sound hx; simp only [h1]
    case mapUpdate t m k v => exact aMapD_sound hx
    case insert t m k v => exact aMapD_sound hx
    case makeMap t r =>
      cases r with
      | none => simp only at hx ⊢; injection hx with hx; injection hx with hx hy; subst hx hy; rfl
      | some r => obtain ⟨h1, rfl⟩ := aPureD_sound hx; simp only [h1]
    all_goals (obtain ⟨h1, rfl⟩ := aPureD_sound hx; simp only [h1])
  exact aEff_sound key
theorem aEffD_congr {dst : Option Tmp} {op : Op} (hl : fr'.loc = fr.loc) (hx : ∀ x ∈ op.operands.toList, fr'.ev x = fr.ev x) : aEffD P lt fr' h dst op = aEffD P lt fr h dst op := by
  have hp : aPureD P fr' h op = aPureD P fr h op := by simp only [aPureD, aPure_congr hl hx]
  cases op <;> simp only [aEffD] <;> try exact hp
  case box t x => simp only [evCs, hx x (by simp [Op.operands])]
  case store t x v => simp only [aStoreD, evCs, hx x (by simp [Op.operands]), hx v (by simp [Op.operands])]
  case buildSlice t n parts =>
    have : ∀ size k, aParts fr' size k parts.toList = aParts fr size k parts.toList := fun size k => aParts_congr (fun p hp => hx p.2 (by simp only [Op.operands]; simpa using ⟨p.1, by simpa using hp⟩)) k
    simp only [aLitD, aBuildSlice, this]
  case makeMap t r =>
    cases r with
    | none => rfl
    | some r => exact hp
  case mapUpdate t m k v => simp only [aMapD, hx m (by simp [Op.operands]), hx k (by simp [Op.operands]), hx v (by simp [Op.operands])]
  case insert t m k v => simp only [aMapD, hx m (by simp [Op.operands]), hx k (by simp [Op.operands]), hx v (by simp [Op.operands])]
end
end Go.Am
end
section
set_option linter.unusedVariables false
set_option linter.unusedSimpArgs false
namespace Go.Am
def opTmps : List Operand → List Tmp
  | [] => []
  | .tmp t :: r => t :: opTmps r
  | _ :: r => opTmps r
theorem mem_opTmps {t : Tmp} {l : List Operand} (h : .tmp t ∈ l) : t ∈ opTmps l := by
  induction l with
  | nil => simp at h
  | cons x l ih =>
    rcases List.mem_cons.1 h with h1 | h1
    · subst h1; simp [opTmps]
    · have := ih h1
      cases x <;> simp [opTmps, this]
def looks (ops : List Oper) (o : Oper) : List Tmp :=
  match o.guard with
  | some (j, _) => match gdst ops j with
    | some t => t :: opTmps o.op.operands.toList
    | none => opTmps o.op.operands.toList
  | none => opTmps o.op.operands.toList
def StepD (P : Program) (lt : LT) (ops : List Oper) (o : Oper) (fr : AFr) (h : AH) (s : Slot) (h' : AH) : Prop :=
  ∀ fr' : AFr, fr'.n = fr.n → fr'.loc = fr.loc → (∀ t ∈ looks ops o, fr'.f t = fr.f t) →
    ∀ (g0 : Gh) (w0 : World) (a : Act) (w : World) (Q : Exit → Act → World → Prop) (K : Act → World → Prop), AS lt h fr' g0 w0 a w → (∀ a' w', AS lt h' (fr'.put o.dst s) g0 w0 a' w' → K a' w') →
      if Region.wanted o (yielded ops.toArray a.tmps) then o.wp P a w K Q else K (a.put o.dst undef) w
section
variable {P : Program} {lt : LT} {h h' : AH} {fr fr' : AFr} {ops : List Oper}
theorem looks_op {o : Oper} (hn : fr'.n = fr.n) (hf : ∀ t ∈ looks ops o, fr'.f t = fr.f t) : ∀ x ∈ o.op.operands.toList, fr'.ev x = fr.ev x := by
  intro x hx
  cases x with
  | tmp t =>
    have : t ∈ looks ops o := by
      unfold looks
      have := mem_opTmps hx
      split
      · split
        · simp [this]
        · exact this
      · exact this
    simp only [AFr.ev, hn, hf t this]
  | _ => rfl
theorem looks_guard {o : Oper} (hn : fr'.n = fr.n) (hf : ∀ t ∈ looks ops o, fr'.f t = fr.f t) : aWanted ops fr' o.guard = aWanted ops fr o.guard := by
  unfold aWanted
  cases hg : o.guard with
  | none => rfl
  | some p =>
    obtain ⟨j, want⟩ := p
    simp only
    cases ht : gdst ops j with
    | none => rfl
    | some t =>
      have : t ∈ looks ops o := by simp [looks, hg, ht]
      simp only [AFr.ev, hn, hf t this]
theorem StepD.op {o : Oper} {s : Slot} (hw : aWanted ops fr o.guard = some true) (hx : aEffD P lt fr h o.dst o.op = some (s, h')) (hs : slotOK lt o.dst s = true) : StepD P lt ops o fr h s h' := by
  intro fr' hn hl hf g0 w0 a w Q K S hK
  rw [← looks_guard hn hf] at hw
  rw [← aEffD_congr hl (looks_op hn hf)] at hx
  obtain ⟨g, lb, E, R, F⟩ := S
  rw [if_pos (aWanted_sound F hw)]
  obtain ⟨n, v, g', w', lb', k1, k2, k3, k4, k5, k6⟩ := aEffD_sound hx g0 w0 g w lb a E R F
  simp only at k1 k4 k5 k6
  unfold Oper.wp
  rw [k1]
  rcases k2 with rfl | ⟨rfl, rfl⟩
  · exact hK _ _ ⟨g', lb', k3, k4, k5.put k6 hs⟩
  · exact hK _ _ ⟨g', lb', k3, k4, k5.put k6 hs⟩
theorem StepD.off {o : Oper} (hw : aWanted ops fr o.guard = some false) : StepD P lt ops o fr h (.v (.tup [])) h := by
  intro fr' hn hl hf g0 w0 a w Q K S hK
  rw [← looks_guard hn hf] at hw
  obtain ⟨g, lb, E, R, F⟩ := S
  rw [if_neg (by rw [aWanted_sound F hw]; simp)]
  exact hK _ _ ⟨g, lb, E, R, F.put (s := .v (.tup [])) (VR.tup [] #[] rfl fun i hi => by simp at hi) rfl⟩
theorem aCallee_congr {op : Op} (hx : ∀ x ∈ op.operands.toList, fr'.ev x = fr.ev x) : aCallee fr' op = aCallee fr op := by
  unfold aCallee
  split
  · rename_i c
    split
    · rename_i x hc
      have h1 := hx x (by simp [Op.operands, Call.operands, hc])
      have h2 : fr'.evs c.args.toList = fr.evs c.args.toList := evs_congr fun y hy => hx y (by simp [Op.operands, Call.operands, hc]; exact .inr (by simpa using hy))
      rw [h1, h2]
    · rfl
  · rfl
theorem StepD.call {o : Oper} {f : FuncId} {args : List AV} {v : AV} (hc : aCallee fr o.op = some (f, args)) (hw : aWanted ops fr o.guard = some true) (hf : ∀ (vs : Array Value) (w : World), (callFunc f vs).run P w = .ok (.enter f vs) w)
    (H : ARun P f args h v h') : StepD P lt ops o fr h (.v v) h' := by
  intro fr' hn hl hff g0 w0 a w Q K S hK
  rw [← looks_guard hn hff] at hw
  rw [← aCallee_congr (looks_op hn hff)] at hc
  have hwt : Region.wanted o (yielded ops.toArray a.tmps) = true := by
    obtain ⟨g, lb, E, R, F⟩ := S
    exact aWanted_sound F hw
  rw [if_pos hwt]
  exact call_wp H rfl (aCallee_run hc hf) S hK
structure Ent where
  o : Oper
  fr : AFr
  s : Slot
  kind : Nat
  k : Nat
inductive Tr (P : Program) (lt : LT) (ops : List Oper) : List Oper → AFr → AH → Nat → List Ent → List AH → AFr → AH → Prop where
  | nil {fr h k} : Tr P lt ops [] fr h k [] [] fr h
  | free {o l fr h k s ents hs fr' h'} : (∀ h, StepD P lt ops o fr h s h) → Tr P lt ops l (fr.put o.dst s) h k ents hs fr' h' → Tr P lt ops (o :: l) fr h k (⟨o, fr, s, 0, k⟩ :: ents) hs fr' h'
  | read {o l fr h k s ents hs fr' h'} : StepD P lt ops o fr h s h → Tr P lt ops l (fr.put o.dst s) h k ents hs fr' h' → Tr P lt ops (o :: l) fr h k (⟨o, fr, s, 1, k⟩ :: ents) hs fr' h'
  | eff {o l fr h k s h1 ents hs fr' h'} : StepD P lt ops o fr h s h1 → Tr P lt ops l (fr.put o.dst s) h1 (k + 1) ents hs fr' h' → Tr P lt ops (o :: l) fr h k (⟨o, fr, s, 2, k⟩ :: ents) (h1 :: hs) fr' h'
def foldF (L : Nat → Bool) : Nat → List Ent → AFr → AFr
  | _, [], fr => fr
  | i, e :: r, fr => foldF L (i + 1) r (if L i then fr.put e.o.dst e.s else fr)
theorem put_n (fr : AFr) (d : Option Tmp) (s : Slot) : (fr.put d s).n = fr.n := by cases d <;> rfl
theorem put_loc (fr : AFr) (d : Option Tmp) (s : Slot) : (fr.put d s).loc = fr.loc := by cases d <;> rfl
theorem put_f (fr : AFr) (d : Option Tmp) (s : Slot) (t : Tmp) : (fr.put d s).f t = if d = some t then s else fr.f t := by
  cases d with
  | none => simp [AFr.put]
  | some d =>
    simp only [AFr.put, AFr.putD]
    by_cases h : t = d
    · subst h; rw [beq_self]; simp
    · rw [beq_false_of_ne h, if_neg (fun e => h (by injection e with e; exact e.symm))]
theorem foldF_n (L : Nat → Bool) : ∀ (ents : List Ent) (i : Nat) (fr : AFr), (foldF L i ents fr).n = fr.n ∧ (foldF L i ents fr).loc = fr.loc
  | [], _, _ => ⟨rfl, rfl⟩
  | e :: r, i, fr => by
    simp only [foldF]
    obtain ⟨h1, h2⟩ := foldF_n L r (i + 1) (if L i then fr.put e.o.dst e.s else fr)
    rw [h1, h2]
    split
    · exact ⟨put_n _ _ _, put_loc _ _ _⟩
    · exact ⟨rfl, rfl⟩
theorem put_df (fr : AFr) (d : Option Tmp) (s : Slot) : (fr.put d s).df = fr.df := by cases d <;> rfl
theorem foldF_df (L : Nat → Bool) : ∀ (ents : List Ent) (i : Nat) (fr : AFr), (foldF L i ents fr).df = fr.df
  | [], _, _ => rfl
  | e :: r, i, fr => by
    simp only [foldF]
    rw [foldF_df L r (i + 1) (if L i then fr.put e.o.dst e.s else fr)]
    split
    · exact put_df _ _ _
    · rfl
theorem foldF_agree {L M : Nat → Bool} {t : Tmp} : ∀ (ents : List Ent) (i : Nat) (fr fr' : AFr), fr.f t = fr'.f t → (∀ j (hj : j < ents.length), ents[j].o.dst = some t → L (i + j) = M (i + j)) →
    (foldF L i ents fr).f t = (foldF M i ents fr').f t
  | [], _, _, _, h, _ => h
  | e :: r, i, fr, fr', h, hw => by
    simp only [foldF]
    refine foldF_agree r (i + 1) _ _ ?_ fun j hj hd => ?_
    · by_cases hd : e.o.dst = some t
      · have := hw 0 (by simp) hd
        simp only [Nat.add_zero] at this
        rw [this]
        split
        · rw [put_f, put_f, if_pos hd, if_pos hd]
        · exact h
      · have : ∀ (b : Bool) (x : AFr), (if b then x.put e.o.dst e.s else x).f t = x.f t := by
          intro b x
          cases b
          · rfl
          · simp only [if_true]; rw [put_f, if_neg hd]
        rw [this, this]; exact h
    · have := hw (j + 1) (by simpa using hj) (by simpa using hd)
      rw [show i + (j + 1) = i + 1 + j by omega] at this
      exact this
theorem foldF_none {L : Nat → Bool} : ∀ (ents : List Ent) (i : Nat) (fr : AFr), (∀ j, j < ents.length → L (i + j) = false) → foldF L i ents fr = fr
  | [], _, _, _ => rfl
  | e :: r, i, fr, h => by
    have h0 := h 0 (by simp)
    simp only [Nat.add_zero] at h0
    simp only [foldF, h0, Bool.false_eq_true, if_false]
    exact foldF_none r (i + 1) fr fun j hj => by
      have := h (j + 1) (by simpa using hj)
      rwa [show i + (j + 1) = i + 1 + j by omega] at this
theorem foldF_add {L M : Nat → Bool} {n : Nat} : ∀ (ents : List Ent) (i : Nat) (fr : AFr) (hn : n < ents.length), L (i + n) = false → M (i + n) = true → (∀ j, j < ents.length → j ≠ n → M (i + j) = L (i + j)) →
    (∀ j (hj : j < ents.length), n < j → ents[j].o.dst = ents[n].o.dst → ents[n].o.dst ≠ none → L (i + j) = false) → ∀ t, (foldF M i ents fr).f t = ((foldF L i ents fr).put ents[n].o.dst ents[n].s).f t
  | [], _, _, hn, _, _, _, _, _ => by simp at hn
  | e :: r, i, fr, hn, hL, hM, ha, hc, t => by
    cases n with
    | zero =>
      simp only [Nat.add_zero] at hL hM
      simp only [foldF, hL, hM, if_true, Bool.false_eq_true, if_false, List.getElem_cons_zero]
      rw [put_f]
      have hag : ∀ j (hj : j < r.length), M (i + 1 + j) = L (i + 1 + j) := fun j hj => by
        have := ha (j + 1) (by simpa using hj) (by omega)
        rwa [show i + (j + 1) = i + 1 + j by omega] at this
      by_cases hd : e.o.dst = some t
      · rw [if_pos hd]
        have : (foldF M (i + 1) r (fr.put e.o.dst e.s)).f t = (foldF (fun _ => false) (i + 1) r (fr.put e.o.dst e.s)).f t := by
          refine foldF_agree r (i + 1) _ _ rfl fun j hj hdj => ?_
          rw [hag j hj]
          have := hc (j + 1) (by simpa using hj) (by omega) (by simp [hdj, hd]) (by simp [hd])
          rwa [show i + (j + 1) = i + 1 + j by omega] at this
        rw [this, foldF_none r _ _ (fun _ _ => rfl), put_f, if_pos hd]
      · rw [if_neg hd]
        exact foldF_agree r (i + 1) _ _ (by rw [put_f, if_neg hd]) fun j hj _ => hag j hj
    | succ n =>
      have h0 := ha 0 (by simp) (by omega)
      simp only [Nat.add_zero] at h0
      simp only [foldF, h0, List.getElem_cons_succ]
      refine foldF_add r (i + 1) _ (by simpa using hn) ?_ ?_ ?_ ?_ t
      · rwa [show i + 1 + n = i + (n + 1) by omega]
      · rwa [show i + 1 + n = i + (n + 1) by omega]
      · intro j hj hne
        have := ha (j + 1) (by simpa using hj) (by omega)
        rwa [show i + (j + 1) = i + 1 + j by omega] at this
      · intro j hj hlt hd hne
        have := hc (j + 1) (by simpa using hj) (by omega) (by simpa using hd) (by simpa using hne)
        rwa [show i + (j + 1) = i + 1 + j by omega] at this
end
end Go.Am
end
section
set_option linter.unusedVariables false
set_option linter.unusedSimpArgs false
namespace Go.Am
def preds (o : Oper) : List Nat := (o.after.toList.filter (Region.binds .any)).map (·.on)
def ancOf (acc : List Nat) : List Nat → Nat
  | [] => 0
  | p :: ps => (1 <<< p ||| acc.getD p 0) ||| ancOf acc ps
def ancs : List Oper → List Nat → List Nat
  | [], acc => acc
  | o :: r, acc => ancs r (acc ++ [ancOf acc (preds o)])
def isAnc (A : List Nat) (i j : Nat) : Bool := (A.getD j 0).testBit i
def Closed (ops : List Oper) (L : Nat → Bool) : Prop := ∀ j o, ops[j]? = some o → L j = true → ∀ p ∈ preds o, L p = true
theorem ancOf_sound {L : Nat → Bool} {acc ps : List Nat} {i : Nat} (ha : ∀ j i, (acc.getD j 0).testBit i = true → L j = true → L i = true) (hp : ∀ p ∈ ps, L p = true) (h : (ancOf acc ps).testBit i = true) : L i = true := by
  induction ps with
  | nil => simp [ancOf] at h
  | cons p ps ih =>
    simp only [ancOf, Nat.testBit_or, Bool.or_eq_true, Nat.testBit_shiftLeft] at h
    have hpl := hp p (by simp)
    rcases h with (h | h) | h
    · have : i = p := by
        simp only [Bool.and_eq_true, decide_eq_true_eq] at h
        obtain ⟨h1, h2⟩ := h
        have h3 : i - p = 0 := by
          rcases Nat.eq_zero_or_pos (i - p) with h3 | h3
          · exact h3
          · rw [Nat.testBit_lt_two_pow (Nat.one_lt_two_pow (by omega))] at h2
            cases h2
        omega
      rw [this]; exact hpl
    · exact ha p i h hpl
    · exact ih (fun q hq => hp q (by simp [hq])) h
theorem ancs_sound {all : List Oper} {L : Nat → Bool} (hL : Closed all L) : ∀ (r : List Oper) (acc : List Nat) (pre : List Oper), all = pre ++ r → acc.length = pre.length → (∀ j i, (acc.getD j 0).testBit i = true → L j = true → L i = true) →
    ∀ j i, isAnc (ancs r acc) i j = true → L j = true → L i = true
  | [], acc, pre, _, _, ha => fun j i h hj => ha j i h hj
  | o :: r, acc, pre, hall, hlen, ha => by
    refine ancs_sound hL r (acc ++ [ancOf acc (preds o)]) (pre ++ [o]) (by simp [hall]) (by simp [hlen]) fun j i h hj => ?_
    rcases Nat.lt_or_ge j acc.length with h1 | h1
    · rw [List.getD_eq_getElem?_getD, List.getElem?_append_left h1, ← List.getD_eq_getElem?_getD] at h
      exact ha j i h hj
    · rcases Nat.lt_or_ge acc.length j with h2 | h2
      · rw [List.getD_eq_getElem?_getD, List.getElem?_eq_none (by simp; omega)] at h
        simp at h
      · have hje : j = acc.length := by omega
        subst hje
        rw [List.getD_eq_getElem?_getD, List.getElem?_append_right (by omega)] at h
        simp at h
        exact ancOf_sound ha (hL acc.length o (by rw [hall, hlen]; simp) hj) h
theorem anc_sound {ops : List Oper} {L : Nat → Bool} (hL : Closed ops L) {i j : Nat} (h : isAnc (ancs ops []) i j = true) (hj : L j = true) : L i = true :=
  ancs_sound hL ops [] [] rfl rfl (fun j i h => by simp at h) j i h hj
def okWriters (A : List Nat) (j : Nat) (ts : List Tmp) (dj : Option Tmp) : Nat → List Oper → Bool
  | _, [] => true
  | i, o :: r =>
    (match o.dst with
    | none => true
    | some t => bif Nat.beq i j then true else
        bif (ts.contains t) || (dj == some t) then (bif Nat.ble i j then isAnc A i j else isAnc A j i) else true) && okWriters A j ts dj (i + 1) r
def okAll (A : List Nat) (ops : List Oper) : Nat → List Oper → Bool
  | _, [] => true
  | j, o :: r => okWriters A j (looks ops o) o.dst 0 ops && (preds o).all (fun p => Nat.blt p j) && !(isAnc A j j) && okAll A ops (j + 1) r
def effsOf : Nat → List Nat → List Nat
  | _, [] => []
  | i, k :: r => match Nat.beq k 2 with
    | true => i :: effsOf (i + 1) r
    | false => effsOf (i + 1) r
def okEffs (A : List Nat) : List Nat → Bool
  | [] => true
  | e :: r => r.all (fun e' => isAnc A e e') && okEffs A r
def drawOK (ops : List Oper) (kinds : List Nat) : Bool := okAll (ancs ops []) ops 0 ops && okEffs (ancs ops []) (effsOf 0 kinds)
def kOf (L : Nat → Bool) : List Nat → Nat
  | [] => 0
  | e :: r => match L e with
    | true => kOf L r + 1
    | false => 0
def excl (A : List Nat) (j k : Nat) : Nat → List Nat → Bool
  | _, [] => false
  | r, e :: es => (bif Nat.blt r k then isAnc A j e else isAnc A e j) || excl A j k (r + 1) es
def lexK (j : Nat) : List Nat → Nat
  | [] => 0
  | e :: es => bif Nat.blt e j then lexK j es + 1 else 0
def pend (A E : List Nat) (m : Nat) : Nat → List Nat → List (Nat × Nat)
  | _, [] => []
  | j, k :: r => (match Nat.beq k 1 with
    | true => ((List.range (m + 1)).filter fun q => !(excl A j q 0 E) && !(Nat.beq q (lexK j E))).map fun q => (j, q)
    | false => []) ++ pend A E m (j + 1) r
theorem okWriters_sound {A : List Nat} {j : Nat} {ts : List Tmp} {dj : Option Tmp} : ∀ {r : List Oper} {n : Nat}, okWriters A j ts dj n r = true → ∀ i o t, r[i]? = some o → o.dst = some t → n + i ≠ j → (t ∈ ts ∨ dj = some t) → (n + i < j → isAnc A (n + i) j = true) ∧ (j < n + i → isAnc A j (n + i) = true)
  | [], _, _, i, o, t, h, _, _, _ => by simp at h
  | x :: r, n, hx, i, o, t, h, hd, hne, ht => by
    simp only [okWriters, Bool.and_eq_true] at hx
    obtain ⟨h1, h2⟩ := hx
    cases i with
    | zero =>
      have hxo : x = o := by simpa using h
      subst hxo
      rw [hd] at h1
      simp only [Nat.add_zero] at hne ⊢
      simp only [beq_false_of_ne hne, cond_false] at h1
      have : (ts.contains t || dj == some t) = true := by
        rcases ht with ht | ht
        · simp [ht]
        · simp [ht]
      rw [this] at h1
      simp only [cond_true] at h1
      constructor
      · intro hlt
        rw [Nat.ble_eq_true_of_le (by omega)] at h1
        exact h1
      · intro hlt
        have : Nat.ble n j = false := by
          cases hb : Nat.ble n j with
          | false => rfl
          | true => have := Nat.le_of_ble_eq_true hb; omega
        rw [this] at h1
        exact h1
    | succ i =>
      have := okWriters_sound h2 i o t (by simpa using h) hd (by omega) ht
      rwa [show n + 1 + i = n + (i + 1) by omega] at this
theorem okAll_sound {A : List Nat} {ops : List Oper} : ∀ {r : List Oper} {n : Nat}, okAll A ops n r = true → ∀ j o, r[j]? = some o → okWriters A (n + j) (looks ops o) o.dst 0 ops = true ∧ (∀ p ∈ preds o, p < n + j) ∧ isAnc A (n + j) (n + j) = false
  | [], _, _, j, o, h => by simp at h
  | x :: r, n, hx, j, o, h => by
    simp only [okAll, Bool.and_eq_true] at hx
    obtain ⟨⟨⟨h1, h2⟩, h4⟩, h3⟩ := hx
    cases j with
    | zero =>
      have hxo : x = o := by simpa using h
      subst hxo
      refine ⟨h1, fun p hp => ?_, by simpa using h4⟩
      have := List.all_eq_true.1 h2 p hp
      simpa [Nat.blt_eq] using this
    | succ j =>
      have := okAll_sound h3 j o (by simpa using h)
      rwa [show n + 1 + j = n + (j + 1) by omega] at this
theorem okEffs_sound {A : List Nat} : ∀ {E : List Nat}, okEffs A E = true → ∀ (r s e e' : Nat), r < s → E[r]? = some e → E[s]? = some e' → isAnc A e e' = true
  | [], _, r, s, e, e', _, h, _ => by simp at h
  | x :: E, hx, r, s, e, e', hrs, h, h' => by
    simp only [okEffs, Bool.and_eq_true] at hx
    obtain ⟨h1, h2⟩ := hx
    cases s with
    | zero => omega
    | succ s =>
      cases r with
      | zero =>
        have hxe : x = e := by simpa using h
        subst hxe
        exact List.all_eq_true.1 h1 e' (List.mem_of_getElem? (by simpa using h'))
      | succ r => exact okEffs_sound h2 r s e e' (by omega) (by simpa using h) (by simpa using h')
theorem kOf_spec {L : Nat → Bool} : ∀ (E : List Nat), kOf L E ≤ E.length ∧ (∀ r e, r < kOf L E → E[r]? = some e → L e = true) ∧ (∀ e, E[kOf L E]? = some e → L e = false)
  | [] => ⟨Nat.le_refl _, fun r e h => by simp [kOf] at h, fun e h => by simp at h⟩
  | x :: E => by
    obtain ⟨h1, h2, h3⟩ := kOf_spec (L := L) E
    simp only [kOf]
    cases hx : L x with
    | false => exact ⟨by simp, fun r e h => by simp at h, fun e h => by simp at h; rw [← h]; exact hx⟩
    | true =>
      refine ⟨by simpa using h1, fun r e hr he => ?_, fun e he => h3 e (by simpa using he)⟩
      cases r with
      | zero => have : x = e := by simpa using he
                rw [← this]; exact hx
      | succ r => exact h2 r e (by simpa using hr) (by simpa using he)
theorem kOf_iff {ops : List Oper} {L : Nat → Bool} (hL : Closed ops L) {E : List Nat} (hE : okEffs (ancs ops []) E = true) {r e : Nat} (he : E[r]? = some e) : L e = true ↔ r < kOf L E := by
  obtain ⟨h1, h2, h3⟩ := kOf_spec (L := L) E
  constructor
  · intro hl
    rcases Nat.lt_or_ge r (kOf L E) with h | h
    · exact h
    · exfalso
      have hk : kOf L E < E.length := by
        have := (List.getElem?_eq_some_iff.1 he).1
        omega
      have h4 := h3 _ (List.getElem?_eq_getElem hk)
      rcases Nat.lt_or_ge (kOf L E) r with h5 | h5
      · have := anc_sound hL (okEffs_sound hE _ _ _ _ h5 (List.getElem?_eq_getElem hk) he) hl
        rw [h4] at this; cases this
      · have : r = kOf L E := by omega
        subst this
        rw [List.getElem?_eq_getElem hk] at he
        injection he with he
        rw [he, hl] at h4; cases h4
  · intro h; exact h2 r e h he
theorem excl_sound {ops : List Oper} {L : Nat → Bool} (hL : Closed ops L) {E0 : List Nat} (hE : okEffs (ancs ops []) E0 = true) {j : Nat} (hj : L j = false) (hr : ∀ i, isAnc (ancs ops []) i j = true → L i = true) :
    ∀ (E : List Nat) (r : Nat), (∀ i, E[i]? = E0[r + i]?) → excl (ancs ops []) j (kOf L E0) r E = false
  | [], _, _ => rfl
  | e :: E, r, hs => by
    have he : E0[r]? = some e := by have := hs 0; simpa using this.symm
    have ih := excl_sound hL hE hj hr E (r + 1) fun i => by have := hs (i + 1); rw [show r + 1 + i = r + (i + 1) by omega]; simpa using this
    simp only [excl, ih, Bool.or_false]
    cases hb : Nat.blt r (kOf L E0) with
    | true =>
      have hlt : r < kOf L E0 := by simpa [Nat.blt_eq] using hb
      have hle := (kOf_iff hL hE he).2 hlt
      simp only [cond_true]
      cases ha : isAnc (ancs ops []) j e with
      | false => rfl
      | true => have := anc_sound hL ha hle; rw [hj] at this; cases this
    | false =>
      have hnl : ¬ r < kOf L E0 := fun hlt => by rw [show Nat.blt r (kOf L E0) = true from Nat.blt_eq ▸ hlt] at hb; cases hb
      simp only [cond_false]
      cases ha : isAnc (ancs ops []) e j with
      | false => rfl
      | true => exact absurd ((kOf_iff hL hE he).1 (hr e ha)) hnl
end Go.Am
end
section
set_option linter.unusedVariables false
set_option linter.unusedSimpArgs false
namespace Go.Am
section
variable {P : Program} {lt : LT} {ops : List Oper}
def EntOK (P : Program) (lt : LT) (ops : List Oper) (e : Ent) (hs : List AH) (c : Nat) : Prop :=
  (e.kind = 0 ∧ ∀ h, StepD P lt ops e.o e.fr h e.s h) ∨ (e.kind = 1 ∧ ∃ h, hs[c]? = some h ∧ StepD P lt ops e.o e.fr h e.s h) ∨
  (e.kind = 2 ∧ ∃ h h1, hs[c]? = some h ∧ hs[c + 1]? = some h1 ∧ StepD P lt ops e.o e.fr h e.s h1)
def cntE : Nat → List Ent → Nat
  | 0, _ => 0
  | _, [] => 0
  | j + 1, e :: r => (bif Nat.beq e.kind 2 then 1 else 0) + cntE j r
theorem cntE_0 {o : Oper} {fr : AFr} {s : Slot} {k j : Nat} {r : List Ent} : cntE (j + 1) (⟨o, fr, s, 0, k⟩ :: r) = cntE j r := Nat.zero_add _
theorem cntE_1 {o : Oper} {fr : AFr} {s : Slot} {k j : Nat} {r : List Ent} : cntE (j + 1) (⟨o, fr, s, 1, k⟩ :: r) = cntE j r := Nat.zero_add _
theorem cntE_2 {o : Oper} {fr : AFr} {s : Slot} {k j : Nat} {r : List Ent} : cntE (j + 1) (⟨o, fr, s, 2, k⟩ :: r) = cntE j r + 1 := Nat.add_comm _ _
theorem Tr.facts {l : List Oper} {fr fr' : AFr} {h h' : AH} {k : Nat} {ents : List Ent} {hs : List AH} (T : Tr P lt ops l fr h k ents hs fr' h') : ∀ i : Nat,
    ents.map (·.o) = l ∧ fr' = foldF (fun _ => true) i ents fr ∧ (h :: hs)[hs.length]? = some h' ∧ hs.length = cntE ents.length ents ∧
    ∀ j (hj : j < ents.length), ents[j].fr = foldF (fun x => decide (x < i + j)) i ents fr ∧ EntOK P lt ops ents[j] (h :: hs) (cntE j ents) := by
  induction T with
  | nil => intro i; exact ⟨rfl, rfl, rfl, rfl, fun j hj => by simp at hj⟩
  | @free o l fr h k s ents hs fr' h' st T ih =>
    intro i
    obtain ⟨h1, h2, h3, h4, h5⟩ := ih (i + 1)
    refine ⟨by simp [h1], by simp only [foldF, if_true]; exact h2, h3, by rw [List.length_cons, cntE_0]; exact h4, fun j hj => ?_⟩
    cases j with
    | zero => exact ⟨(foldF_none (L := fun x => decide (x < i)) _ _ _ (fun j _ => by simp)).symm, .inl ⟨rfl, st⟩⟩
    | succ j =>
      obtain ⟨k1, k2⟩ := h5 j (by simpa using hj)
      refine ⟨?_, by rw [cntE_0]; exact k2⟩
      simp only [List.getElem_cons_succ, foldF]
      rw [k1, if_pos (by simp), show i + 1 + j = i + (j + 1) by omega]
  | @read o l fr h k s ents hs fr' h' st T ih =>
    intro i
    obtain ⟨h1, h2, h3, h4, h5⟩ := ih (i + 1)
    refine ⟨by simp [h1], by simp only [foldF, if_true]; exact h2, h3, by rw [List.length_cons, cntE_1]; exact h4, fun j hj => ?_⟩
    cases j with
    | zero => exact ⟨(foldF_none (L := fun x => decide (x < i)) _ _ _ (fun j _ => by simp)).symm, .inr (.inl ⟨rfl, h, rfl, st⟩)⟩
    | succ j =>
      obtain ⟨k1, k2⟩ := h5 j (by simpa using hj)
      refine ⟨?_, by rw [cntE_1]; exact k2⟩
      simp only [List.getElem_cons_succ, foldF]
      rw [k1, if_pos (by simp), show i + 1 + j = i + (j + 1) by omega]
  | @eff o l fr h k s h1' ents hs fr' h' st T ih =>
    intro i
    obtain ⟨h1, h2, h3, h4, h5⟩ := ih (i + 1)
    refine ⟨by simp [h1], by simp only [foldF, if_true]; exact h2, by simpa using h3, by rw [List.length_cons, List.length_cons, cntE_2, h4], fun j hj => ?_⟩
    cases j with
    | zero => exact ⟨(foldF_none (L := fun x => decide (x < i)) _ _ _ (fun j _ => by simp)).symm, .inr (.inr ⟨rfl, h, h1', rfl, rfl, st⟩)⟩
    | succ j =>
      obtain ⟨k1, k2⟩ := h5 j (by simpa using hj)
      refine ⟨?_, ?_⟩
      · simp only [List.getElem_cons_succ, foldF]
        rw [k1, if_pos (by simp), show i + 1 + j = i + (j + 1) by omega]
      · rw [cntE_2]
        simp only [List.getElem_cons_succ]
        rcases k2 with k2 | ⟨q1, q2, q3, q4⟩ | ⟨q1, q2, q3, q4, q5, q6⟩
        · exact .inl k2
        · exact .inr (.inl ⟨q1, q2, by simpa using q3, q4⟩)
        · exact .inr (.inr ⟨q1, q2, q3, by simpa using q4, by simpa using q5, q6⟩)
theorem effsOf_get : ∀ (ents : List Ent) (i j : Nat) (hj : j < ents.length), ents[j].kind = 2 → (effsOf i (ents.map (·.kind)))[cntE j ents]? = some (i + j)
  | [], _, _, hj, _ => by simp at hj
  | e :: r, i, j, hj, hk => by
    cases j with
    | zero =>
      have : e.kind = 2 := hk
      simp [effsOf, cntE, this]
    | succ j =>
      have := effsOf_get r (i + 1) j (by simpa using hj) hk
      simp only [List.map_cons, effsOf, cntE]
      cases hb : Nat.beq e.kind 2 with
      | true => simp only [cond_true]; rw [show 1 + cntE j r = cntE j r + 1 by omega, List.getElem?_cons_succ, this]; congr 1; omega
      | false => simp only [cond_false, Nat.zero_add]; rw [this]; congr 1; omega
theorem effsOf_len : ∀ (ents : List Ent) (i : Nat), (effsOf i (ents.map (·.kind))).length = cntE ents.length ents
  | [], _ => rfl
  | e :: r, i => by
    have := effsOf_len r (i + 1)
    simp only [List.map_cons, effsOf, cntE, List.length_cons]
    cases hb : Nat.beq e.kind 2 with
    | true => simp only [List.length_cons, cond_true, this]; omega
    | false => simp only [cond_false, this]; omega
theorem lexK_eq : ∀ (ents : List Ent) (i j : Nat), lexK (i + j) (effsOf i (ents.map (·.kind))) = cntE j ents
  | [], i, j => by cases j <;> rfl
  | e :: r, i, j => by
    cases j with
    | zero =>
      have : ∀ (r : List Ent) (q : Nat), i ≤ q → lexK (i + 0) (effsOf q (r.map (·.kind))) = 0 := by
        intro r
        induction r with
        | nil => intro q _; rfl
        | cons x r ih =>
          intro q hq
          simp only [List.map_cons, effsOf]
          split
          · simp only [lexK]
            have : Nat.blt q (i + 0) = false := by
              cases hb : Nat.blt q (i + 0) with
              | false => rfl
              | true => rw [Nat.blt_eq] at hb; omega
            rw [this]; rfl
          · exact ih (q + 1) (by omega)
      rw [this (e :: r) i (Nat.le_refl _)]; rfl
    | succ j =>
      have := lexK_eq r (i + 1) j
      simp only [List.map_cons, effsOf, cntE]
      cases hb : Nat.beq e.kind 2 with
      | true =>
        simp only [lexK, cond_true]
        have hbl : Nat.blt i (i + (j + 1)) = true := by rw [Nat.blt_eq]; omega
        rw [hbl, show i + (j + 1) = i + 1 + j by omega, this]
        simp only [cond_true]; omega
      | false => simp only [cond_false, Nat.zero_add]; rw [show i + (j + 1) = i + 1 + j by omega, this]
def PendAll (P : Program) (lt : LT) (ops : List Oper) (ents : List Ent) (hs : List AH) : List (Nat × Nat) → Prop
  | [] => True
  | (j, k) :: r => (∀ e hk, ents[j]? = some e → hs[k]? = some hk → StepD P lt ops e.o e.fr hk e.s hk) ∧ PendAll P lt ops ents hs r
theorem PendAll.get {ents : List Ent} {hs : List AH} {p : List (Nat × Nat)} (H : PendAll P lt ops ents hs p) {j k : Nat} (hm : (j, k) ∈ p) : ∀ e hk, ents[j]? = some e → hs[k]? = some hk → StepD P lt ops e.o e.fr hk e.s hk := by
  induction p with
  | nil => simp at hm
  | cons x p ih =>
    obtain ⟨j', k'⟩ := x
    simp only [PendAll] at H
    rcases List.mem_cons.1 hm with hm | hm
    · injection hm with h1 h2; subst h1 h2; exact H.1
    · exact ih H.2 hm
theorem mem_pend {A E : List Nat} {m : Nat} : ∀ {kinds : List Nat} {n j k : Nat}, kinds[j]? = some 1 → k ≤ m → excl A (n + j) k 0 E = false → k ≠ lexK (n + j) E → (n + j, k) ∈ pend A E m n kinds
  | [], _, _, _, h, _, _, _ => by simp at h
  | x :: r, n, j, k, h, h1, h2, h3 => by
    simp only [pend]
    cases j with
    | zero =>
      have hx : x = 1 := by simpa using h
      subst hx
      refine List.mem_append.2 (.inl ?_)
      simp only [show Nat.beq 1 1 = true from rfl, Nat.add_zero] at h2 h3 ⊢
      refine List.mem_map.2 ⟨k, List.mem_filter.2 ⟨List.mem_range.2 (by omega), ?_⟩, rfl⟩
      simp only [h2, beq_false_of_ne h3]; rfl
    | succ j =>
      refine List.mem_append.2 (.inr ?_)
      have := mem_pend (A := A) (E := E) (m := m) (kinds := r) (n := n + 1) (j := j) (k := k) (by simpa using h) h1 (by rwa [show n + 1 + j = n + (j + 1) by omega]) (by rwa [show n + 1 + j = n + (j + 1) by omega])
      rwa [show n + 1 + j = n + (j + 1) by omega] at this
theorem filter_lt {l : List Nat} {p q : Nat → Bool} {i : Nat} (h : ∀ x, q x = true → p x = true) (hi : i ∈ l) (hp : p i = true) (hq : q i = false) : (l.filter q).length < (l.filter p).length := by
  have le : ∀ l : List Nat, (l.filter q).length ≤ (l.filter p).length := by
    intro l
    induction l with
    | nil => simp
    | cons x l ih =>
      simp only [List.filter_cons]
      cases hqx : q x with
      | true => simp [h x hqx, ih]
      | false => cases p x <;> simp <;> omega
  induction l with
  | nil => simp at hi
  | cons x l ih =>
    simp only [List.filter_cons]
    rcases List.mem_cons.1 hi with rfl | hi
    · have := le l
      simp [hp, hq]; omega
    · have := ih hi
      cases hqx : q x with
      | true => simp [h x hqx, this]
      | false => cases p x <;> simp <;> omega
theorem drawn_all {fr fr' : AFr} {h h' : AH} {ents : List Ent} {hs : List AH} (T : Tr P lt ops ops fr h 0 ents hs fr' h') {kinds : List Nat} (hk : ents.map (·.kind) = kinds) (ok : drawOK ops kinds = true)
    (pd : PendAll P lt ops ents (h :: hs) (pend (ancs ops []) (effsOf 0 kinds) (effsOf 0 kinds).length 0 kinds)) {g0 : Gh} {w0 : World} {Q : Exit → Act → World → Prop} (hQ : ∀ a w, AS lt h' fr' g0 w0 a w → Q .normal a w) :
    ∀ (fuel : Nat) (listed : Array Bool) (a : Act) (w : World) (hk' : AH), listed.size = ops.length → Closed ops (fun i => listed.getD i false) → (h :: hs)[kOf (fun i => listed.getD i false) (effsOf 0 kinds)]? = some hk' →
      AS lt hk' (foldF (fun i => listed.getD i false) 0 ents fr) g0 w0 a w → ((List.range ops.length).filter fun i => !(listed.getD i false)).length ≤ fuel → wpAny P .any ops.toArray Q fuel listed a w := by
  obtain ⟨f1, f2, f3, f4, f5⟩ := T.facts 0
  have hlen : ents.length = ops.length := by rw [← f1]; simp
  subst hk
  generalize hA : ancs ops [] = A at *
  generalize hE : effsOf 0 (ents.map (·.kind)) = E at *
  simp only [drawOK, hA, hE, Bool.and_eq_true] at ok
  obtain ⟨ok1, ok2⟩ := ok
  have hEl : E.length = hs.length := by rw [← hE, effsOf_len, f4]
  have opsAt : ∀ j o, ops[j]? = some o → ∃ hj : j < ents.length, ents[j].o = o := by
    intro j o ho
    have hj : j < ops.length := (List.getElem?_eq_some_iff.1 ho).1
    refine ⟨by omega, ?_⟩
    have : (ents.map (·.o))[j]? = some o := by rw [f1]; exact ho
    rw [List.getElem?_map, List.getElem?_eq_getElem (by omega)] at this
    simpa using this
  
  have done : ∀ (listed : Array Bool) (a : Act) (w : World) (hk' : AH), listed.size = ops.length → Closed ops (fun i => listed.getD i false) → (h :: hs)[kOf (fun i => listed.getD i false) E]? = some hk' → AS lt hk' (foldF (fun i => listed.getD i false) 0 ents fr) g0 w0 a w →
      (∀ i, i < ops.length → listed.getD i false = true) → Q .normal a w := by
    intro listed a w hk' hsz hC hkk S hall
    have e1 : foldF (fun i => listed.getD i false) 0 ents fr = fr' := by
      rw [f2]
      have : ∀ (r : List Ent) (i : Nat) (x : AFr), (∀ j, j < r.length → listed.getD (i + j) false = true) → foldF (fun i => listed.getD i false) i r x = foldF (fun _ => true) i r x := by
        intro r
        induction r with
        | nil => intro i x _; rfl
        | cons e r ih =>
          intro i x hx
          have h0 := hx 0 (by simp)
          simp only [Nat.add_zero] at h0
          simp only [foldF, h0, if_true]
          exact ih (i + 1) _ fun j hj => by have := hx (j + 1) (by simpa using hj); rwa [show i + (j + 1) = i + 1 + j by omega] at this
      exact this ents 0 fr fun j hj => by rw [Nat.zero_add]; exact hall j (by omega)
    have e2 : kOf (fun i => listed.getD i false) E = hs.length := by
      obtain ⟨k1, _, k3⟩ := kOf_spec (L := fun i => listed.getD i false) E
      rcases Nat.lt_or_ge (kOf (fun i => listed.getD i false) E) E.length with hlt | hge
      · have := k3 _ (List.getElem?_eq_getElem hlt)
        have hm : E[kOf (fun i => listed.getD i false) E] < ops.length := by
          have hsm : ∀ (r : List Nat) (i : Nat), ∀ x ∈ effsOf i r, x < i + r.length := by
            intro r
            induction r with
            | nil => intro i x hx; simp [effsOf] at hx
            | cons y r ih =>
              intro i x hx
              simp only [effsOf] at hx
              split at hx
              · rcases List.mem_cons.1 hx with rfl | hx
                · simp
                · have := ih (i + 1) x hx; simp; omega
              · have := ih (i + 1) x hx; simp; omega
          have hall2 : ∀ x ∈ E, x < ops.length := fun x hx => by
            rw [← hE] at hx
            have := hsm _ 0 _ hx
            simp at this; omega
          exact hall2 _ (List.getElem_mem _)
        rw [hall _ hm] at this; cases this
      · omega
    rw [e2, f3] at hkk
    injection hkk with hkk
    subst hkk
    rw [e1] at S
    exact hQ a w S
  
  have least : ∀ (listed : Array Bool), listed.size = ops.length → Region.ready .any ops.toArray listed = [] → ∀ i, i < ops.length → listed.getD i false = true := by
    intro listed hsz hr i
    induction i using Nat.strongRecOn with
    | _ i ih =>
      intro hi
      cases hli : listed.getD i false with
      | true => rfl
      | false =>
        exfalso
        have : i ∈ Region.ready .any ops.toArray listed := by
          rw [mem_ready]
          refine ⟨?_, ops[i], by simp [hi], fun e he hb => ?_⟩
          · rw [Array.getD_eq_getD_getElem?] at hli ⊢
            rw [Array.getElem?_eq_getElem (by omega)] at hli ⊢
            exact hli
          · have hp : e.on ∈ preds ops[i] := List.mem_map.2 ⟨e, List.mem_filter.2 ⟨Array.mem_toList_iff.2 he, hb⟩, rfl⟩
            have hlt := (okAll_sound ok1 i ops[i] (List.getElem?_eq_getElem hi)).2.1 _ hp
            exact ih e.on (by omega) (by omega)
        rw [hr] at this
        cases this
  intro fuel
  induction fuel with
  | zero =>
    intro listed a w hk' hsz hC hkk S hf
    have hall : ∀ i, i < ops.length → listed.getD i false = true := by
      intro i hi
      cases hli : listed.getD i false with
      | true => rfl
      | false =>
        have : i ∈ (List.range ops.length).filter fun i => !(listed.getD i false) := List.mem_filter.2 ⟨List.mem_range.2 hi, by rw [hli]; rfl⟩
        have := List.length_pos_of_mem this
        omega
    refine ⟨?_, done listed a w hk' hsz hC hkk S hall⟩
    cases hr : Region.ready .any ops.toArray listed with
    | nil => rfl
    | cons i r =>
      have : i ∈ Region.ready .any ops.toArray listed := by rw [hr]; simp
      rw [mem_ready] at this
      obtain ⟨h1, o, ho, _⟩ := this
      have hi : i < ops.length := by simpa using (Array.getElem?_eq_some_iff.1 ho).1
      have := hall i hi
      rw [Array.getD_eq_getD_getElem?, Array.getElem?_eq_getElem (by omega)] at this h1
      simp only [Option.getD_some] at this h1
      rw [this] at h1; cases h1
  | succ fuel ih =>
    intro listed a w hk' hsz hC hkk S hf
    refine ⟨fun hr => done listed a w hk' hsz hC hkk S (least listed hsz hr), fun j hj => ?_⟩
    rw [mem_ready] at hj
    obtain ⟨hj0, o, ho, hp⟩ := hj
    have ho' : ops[j]? = some o := by simpa using ho
    have hjn : j < ops.length := (List.getElem?_eq_some_iff.1 ho').1
    obtain ⟨hje, hjo⟩ := opsAt j o ho'
    have hjl : listed.getD j false = false := by
      rw [Array.getD_eq_getD_getElem?, Array.getElem?_eq_getElem (by omega)] at hj0 ⊢
      exact hj0
    
    have hanc : ∀ i, isAnc A i j = true → listed.getD i false = true := by
      intro i hi
      have hC' : Closed ops (fun x => listed.getD x false || Nat.beq x j) := by
        intro q o' hq hl p hpp
        by_cases hqj : q = j
        · subst hqj
          rw [ho'] at hq; injection hq with hq; subst hq
          obtain ⟨e, he, rfl⟩ := List.mem_map.1 hpp
          obtain ⟨he1, he2⟩ := List.mem_filter.1 he
          have := hp e (Array.mem_toList_iff.1 he1) he2
          simp only [this, Bool.true_or]
        · have hl' : listed.getD q false = true := by simpa [hqj] using hl
          have := hC q o' hq hl' p hpp
          simp only [this, Bool.true_or]
      have := anc_sound hC' (hA ▸ hi) (by simp)
      simp only [Bool.or_eq_true] at this
      rcases this with this | this
      · exact this
      · have hij : i = j := by simpa using this
        subst hij
        have := (okAll_sound ok1 i o ho').2.2
        rw [Nat.zero_add, hi] at this; cases this
    have hL'j : (listed.setIfInBounds j true).getD j false = true := by
      simp [Array.getD_eq_getD_getElem?, Array.getElem?_setIfInBounds, show j < listed.size by omega]
    have hL' : ∀ x, x ≠ j → (listed.setIfInBounds j true).getD x false = listed.getD x false := fun x hx => getD_set_ne false (Ne.symm hx)
    have hC'' : Closed ops (fun x => (listed.setIfInBounds j true).getD x false) := by
      intro q o' hq hl p hpp
      show (listed.setIfInBounds j true).getD p false = true
      by_cases hqj : q = j
      · subst hqj
        rw [ho'] at hq; injection hq with hq; subst hq
        obtain ⟨e, he, rfl⟩ := List.mem_map.1 hpp
        obtain ⟨he1, he2⟩ := List.mem_filter.1 he
        exact getD_set_true (hp e (Array.mem_toList_iff.1 he1) he2)
      · have hl : (listed.setIfInBounds j true).getD q false = true := hl
        rw [hL' q hqj] at hl
        exact getD_set_true (hC q o' hq hl p hpp)
    obtain ⟨w1, _, w3⟩ := okAll_sound ok1 j o ho'
    rw [Nat.zero_add] at w1 w3
    have later : ∀ i, isAnc A j i = true → listed.getD i false = false := by
      intro i hi
      cases hli : listed.getD i false with
      | false => rfl
      | true =>
        have := anc_sound hC (hA ▸ hi) hli
        rw [hjl] at this; cases this
    have dstAt : ∀ i (hi : i < ents.length), ∃ o', ops[i]? = some o' ∧ ents[i].o = o' := by
      intro i hi
      have : (ents.map (·.o))[i]? = some ents[i].o := by rw [List.getElem?_map, List.getElem?_eq_getElem hi]; rfl
      rw [f1] at this
      exact ⟨_, this, rfl⟩
    obtain ⟨v1, v2⟩ := f5 j hje
    rw [Nat.zero_add] at v1
    obtain ⟨n1, n2⟩ := foldF_n (fun i => listed.getD i false) ents 0 fr
    obtain ⟨n3, n4⟩ := foldF_n (fun x => decide (x < j)) ents 0 fr
    have agree : ∀ t ∈ looks ops o, (foldF (fun i => listed.getD i false) 0 ents fr).f t = ents[j].fr.f t := by
      intro t ht
      rw [v1]
      refine foldF_agree ents 0 fr fr rfl fun i hi hd => ?_
      obtain ⟨o', ho2, ho3⟩ := dstAt i hi
      rw [ho3] at hd
      simp only [Nat.zero_add]
      by_cases hij : i = j
      · subst hij; rw [hjl]; simp
      · have := okWriters_sound w1 i o' t ho2 hd (by omega) (.inl ht)
        rw [Nat.zero_add] at this
        rcases Nat.lt_or_ge i j with hlt | hge
        · rw [hanc i (this.1 hlt)]; simp [hlt]
        · rw [later i (this.2 (by omega))]; simp; omega
    have framed : foldF (fun i => (listed.setIfInBounds j true).getD i false) 0 ents fr = (foldF (fun i => listed.getD i false) 0 ents fr).put o.dst ents[j].s := by
      obtain ⟨m1, m2⟩ := foldF_n (fun i => (listed.setIfInBounds j true).getD i false) ents 0 fr
      have hf := foldF_add (L := fun i => listed.getD i false) (M := fun i => (listed.setIfInBounds j true).getD i false) (n := j) ents 0 fr hje (by simpa using hjl) (by rw [Nat.zero_add]; exact hL'j) (fun i hi hne => by rw [Nat.zero_add]; exact hL' i hne) (fun i hi hlt hd hne => by
        rw [Nat.zero_add]
        obtain ⟨o', ho2, ho3⟩ := dstAt i hi
        rw [ho3, hjo] at hd
        rw [hjo] at hne
        cases hdo : o.dst with
        | none => exact absurd hdo hne
        | some t =>
          have := okWriters_sound w1 i o' t ho2 (by rw [hd, hdo]) (by omega) (.inr hdo)
          rw [Nat.zero_add] at this
          exact later i (this.2 hlt))
      rw [hjo] at hf
      have ext : ∀ x y : AFr, x.n = y.n → x.loc = y.loc → x.df = y.df → (∀ t, x.f t = y.f t) → x = y := by
        intro x y h1 h2 h4 h3
        obtain ⟨a1, a2, a3, a4⟩ := x
        obtain ⟨b1, b2, b3, b4⟩ := y
        simp only at h1 h2 h3 h4
        subst h1 h2 h4
        congr 1
        exact funext h3
      exact ext _ _ (by rw [m1, put_n, n1]) (by rw [m2, put_loc, n2]) (by rw [foldF_df, put_df, foldF_df]) hf
    have less : ((List.range ops.length).filter fun i => !((listed.setIfInBounds j true).getD i false)).length ≤ fuel := by
      have := filter_lt (l := List.range ops.length) (p := fun i => !(listed.getD i false)) (q := fun i => !((listed.setIfInBounds j true).getD i false)) (i := j) (fun x hx => by
        by_cases hxj : x = j
        · subst hxj; rw [hL'j] at hx; cases hx
        · rw [hL' x hxj] at hx; exact hx) (List.mem_range.2 hjn) (by rw [hjl]; rfl) (by rw [hL'j]; rfl)
      omega
    have memE : ∀ e ∈ E, ∃ q, e = q ∧ (ents.map (·.kind))[q]? = some 2 := by
      have : ∀ (r : List Nat) (i : Nat), ∀ x ∈ effsOf i r, ∃ q, x = i + q ∧ r[q]? = some 2 := by
        intro r
        induction r with
        | nil => intro i x hx; simp [effsOf] at hx
        | cons y r ih =>
          intro i x hx
          simp only [effsOf] at hx
          split at hx
          · rename_i hb
            rcases List.mem_cons.1 hx with rfl | hx
            · exact ⟨0, rfl, by simpa using Nat.eq_of_beq_eq_true hb⟩
            · obtain ⟨q, h1, h2⟩ := ih (i + 1) x hx; exact ⟨q + 1, by omega, by simpa using h2⟩
          · obtain ⟨q, h1, h2⟩ := ih (i + 1) x hx; exact ⟨q + 1, by omega, by simpa using h2⟩
      intro e he
      rw [← hE] at he
      obtain ⟨q, h1, h2⟩ := this _ 0 e he
      exact ⟨q, by omega, h2⟩
    have same : ents[j].kind ≠ 2 → kOf (fun i => (listed.setIfInBounds j true).getD i false) E = kOf (fun i => listed.getD i false) E := by
      intro hne
      have : ∀ (r : List Nat), (∀ e ∈ r, e ≠ j) → kOf (fun i => (listed.setIfInBounds j true).getD i false) r = kOf (fun i => listed.getD i false) r := by
        intro r
        induction r with
        | nil => intro _; rfl
        | cons e r ih => intro hr; simp only [kOf, hL' e (hr e (by simp)), ih fun x hx => hr x (by simp [hx])]
      refine this E fun e he hej => ?_
      obtain ⟨q, h1, h2⟩ := memE e he
      subst h1
      rw [hej, List.getElem?_map, List.getElem?_eq_getElem hje] at h2
      exact hne (by simpa using h2)
    
    have go : ∀ (h1 : AH), StepD P lt ops o ents[j].fr hk' ents[j].s h1 → (h :: hs)[kOf (fun i => (listed.setIfInBounds j true).getD i false) E]? = some h1 → wpOp P ops.toArray Q j (wpAny P .any ops.toArray Q fuel (listed.setIfInBounds j true)) a w := by
      intro h1 st hh1
      have := st (foldF (fun i => listed.getD i false) 0 ents fr) (by rw [n1, v1, n3]) (by rw [n2, v1, n4]) agree g0 w0 a w Q (wpAny P .any ops.toArray Q fuel (listed.setIfInBounds j true)) S fun a' w' S' => by
        rw [← framed] at S'
        exact ih (listed.setIfInBounds j true) a' w' h1 (by simpa using hsz) hC'' hh1 S' less
      unfold wpOp
      simp only [ho]
      split
      · rename_i hw; rw [if_pos hw] at this; exact .inl this
      · rename_i hw; rw [if_neg hw] at this; exact this
    unfold EntOK at v2
    have hkind : (ents.map (·.kind))[j]? = some ents[j].kind := by rw [List.getElem?_map, List.getElem?_eq_getElem hje]; rfl
    rcases v2 with ⟨k1, k2⟩ | ⟨k1, hk2, k2, k3⟩ | ⟨k1, h2, h3, k2, k3, k4⟩
    · rw [hjo] at k2
      exact go hk' (k2 hk') (by rw [same (by omega)]; exact hkk)
    · rw [hjo] at k3
      by_cases hq : kOf (fun i => listed.getD i false) E = cntE j ents
      · rw [hq, k2] at hkk
        injection hkk with hkk
        subst hkk
        exact go hk2 k3 (by rw [same (by omega), hq]; exact k2)
      · have hm : (0 + j, kOf (fun i => listed.getD i false) E) ∈ pend A E E.length 0 (ents.map (·.kind)) := by
          refine mem_pend (by rw [hkind, k1]) (kOf_spec (L := fun i => listed.getD i false) E).1 ?_ ?_
          · rw [Nat.zero_add, ← hA]
            exact excl_sound hC (hA ▸ ok2) hjl (fun i hi => hanc i (hA ▸ hi)) E 0 fun i => by rw [Nat.zero_add]
          · have := lexK_eq ents 0 j
            rw [hE] at this
            rw [this]; exact hq
        rw [Nat.zero_add] at hm
        have := pd.get hm ents[j] hk' (List.getElem?_eq_getElem hje) hkk
        rw [hjo] at this
        exact go hk' this (by rw [same (by omega)]; exact hkk)
    · rw [hjo] at k4
      have hr : E[cntE j ents]? = some j := by
        have := effsOf_get ents 0 j hje k1
        rw [hE, Nat.zero_add] at this; exact this
      have i1 := kOf_iff hC (hA ▸ ok2) hr
      have i2 := kOf_iff hC'' (hA ▸ ok2) hr
      have hge : kOf (fun i => listed.getD i false) E ≤ cntE j ents := by
        rcases Nat.lt_or_ge (cntE j ents) (kOf (fun i => listed.getD i false) E) with hlt | hge
        · have := i1.2 hlt; rw [hjl] at this; cases this
        · exact hge
      have hle : cntE j ents ≤ kOf (fun i => listed.getD i false) E := by
        rcases Nat.lt_or_ge (kOf (fun i => listed.getD i false) E) (cntE j ents) with hlt | hge
        · exfalso
          have hb : kOf (fun i => listed.getD i false) E < E.length := by
            have := (List.getElem?_eq_some_iff.1 hr).1; omega
          have he := List.getElem?_eq_getElem hb
          have := (kOf_iff hC (hA ▸ ok2) he).1 (hanc _ (okEffs_sound ok2 _ _ _ _ hlt he hr))
          omega
        · exact hge
      have heq : kOf (fun i => listed.getD i false) E = cntE j ents := by omega
      have hlt' : cntE j ents < kOf (fun i => (listed.setIfInBounds j true).getD i false) E := i2.1 hL'j
      have hle' : kOf (fun i => (listed.setIfInBounds j true).getD i false) E ≤ cntE j ents + 1 := by
        rcases Nat.lt_or_ge (cntE j ents + 1) (kOf (fun i => (listed.setIfInBounds j true).getD i false) E) with hlt | hge
        · exfalso
          have hb : cntE j ents + 1 < E.length := by
            have := (kOf_spec (L := fun i => (listed.setIfInBounds j true).getD i false) E).1; omega
          have he := List.getElem?_eq_getElem hb
          have h5 := (kOf_iff hC'' (hA ▸ ok2) he).2 hlt
          have h6 := okEffs_sound ok2 _ _ _ _ (Nat.lt_succ_self _) hr he
          have h7 : E[cntE j ents + 1] ≠ j := fun e => by rw [e, w3] at h6; cases h6
          rw [hL' _ h7, later _ h6] at h5
          cases h5
        · exact hge
      rw [heq, k2] at hkk
      injection hkk with hkk
      subst hkk
      exact go h3 k4 (by rw [show kOf (fun i => (listed.setIfInBounds j true).getD i false) E = cntE j ents + 1 by omega]; exact k3)
def AD (P : Program) (lt : LT) (ops l : List Oper) (fr : AFr) (h : AH) (k : Nat) (K : List Ent → List AH → AFr → AH → Prop) : Prop := ∃ ents hs fr' h', K ents hs fr' h' ∧ Tr P lt ops l fr h k ents hs fr' h'
def endD (P : Program) (lt : LT) (ops : List Oper) (h : AH) (C : Exit → AFr → AH → Prop) (ents : List Ent) (hs : List AH) (fr' : AFr) (h' : AH) : Prop :=
  ∃ kinds p, ents.map (·.kind) = kinds ∧ drawOK ops kinds = true ∧ pend (ancs ops []) (effsOf 0 kinds) (effsOf 0 kinds).length 0 kinds = p ∧ PendAll P lt ops ents (h :: hs) p ∧ C .normal fr' h'
theorem AC.drawn {id : Nat} {fr : AFr} {h : AH} {C : Exit → AFr → AH → Prop} (hm : P.follows .mixedOrders = true) (H : AD P lt ops ops fr h 0 (endD P lt ops h C)) : AC P lt (.region id ops.toArray true) fr h C := by
  obtain ⟨ents, hs, fr', h', ⟨kinds, p, hk, ok, hp, pd, k⟩, T⟩ := H
  subst hp
  refine ⟨.normal, fr', h', k, fun g0 w0 a w S => wp_region_any hm ?_⟩
  obtain ⟨f1, f2, f3, f4, f5⟩ := T.facts 0
  obtain ⟨g, lb, E, R, F⟩ := S
  have hfalse : ∀ i, (Array.replicate ops.toArray.size false).getD i false = false := fun i => by
    rw [Array.getD_eq_getD_getElem?, Array.getElem?_replicate]
    split <;> rfl
  have hL : (fun i => (Array.replicate ops.toArray.size false).getD i false) = fun _ => false := funext hfalse
  have E1 : Ev g w g { w with drawn := w.drawn + 1 } := ⟨⟨rfl, rfl, rfl, Nat.le_refl _, fun _ _ e => e, fun _ _ e => .inl ⟨_, e⟩, fun _ _ e => e, fun _ _ e => .inl e, fun _ _ _ e => e, fun a e => ⟨e, rfl⟩, Nat.le_refl _, fun _ _ => Nat.le_refl _, fun l hl _ => ⟨rfl, rfl⟩, fun b c T fz e => ⟨c, e, rfl⟩, fun _ _ e => e, fun _ _ e => .inl e⟩, fun b hb _ _ _ => ⟨rfl, rfl⟩⟩
  have R1 : Rel g { w with drawn := w.drawn + 1 } h := by
    refine ⟨R.obl, R.obi, R.obd, fun o x e => ?_, R.obg, R.nt, R.cur, R.bll, R.tbl, R.vac, R.ext, R.pvl, R.tab_mono E1.toEvc rfl⟩
    obtain ⟨b, hb, ho⟩ := R.obj o x e
    exact ⟨b, hb, ho.mono E1.toEvc rfl fun _ _ => rfl⟩
  refine drawn_all T hk ok pd (g0 := g0) (w0 := w0) (fun a' w' S' => ⟨rfl, S'⟩) _ _ a _ h (by simp) ?_ ?_ ?_ ?_
  · intro j o _ hl; rw [hL] at hl; cases hl
  · rw [hL]
    have : ∀ r : List Nat, kOf (fun _ => false) r = 0 := fun r => by cases r <;> rfl
    rw [this]; rfl
  · rw [hL, foldF_none _ _ _ (fun _ _ => rfl)]
    exact ⟨g, lb, E.trans E1, R1, F.mono E1⟩
  · exact Nat.le_trans (List.length_filter_le _ _) (by simp)
end
end Go.Am
end
section
set_option linter.unusedVariables false
set_option linter.unusedSimpArgs false
namespace Go.Am
def kindOf (fr : AFr) (op : Op) : Nat :=
  match op with
  | .alloc _ | .box _ _ | .store _ _ _ | .makeMap _ _ | .mapUpdate _ _ _ _ | .insert _ _ _ _ => 2
  | .load _ x => match fr.ev x with
    | .v (.ref _ _) => 0
    | .lp _ _ => 0
    | _ => 1
  | .lookup _ _ _ _ => 1
  | .call c => match c.args.toList with
    | [x] => match fr.ev x with
      | .v (.vec _ _ _) => 0
      | .v (.sl _ _ _ _ _) => 0
      | .v (.str _) => 0
      | .v .nilsl => 0
      | .v .nilm => 0
      | _ => 1
    | _ => 0
  | _ => 0
section
variable {P : Program} {lt : LT} {h h' : AH} {fr fr' : AFr} {ops l : List Oper} {o : Oper}
theorem aPure_free {op : Op} {s : Slot} (hk : kindOf fr op = 0) (hx : aPure P fr h op = some s) : ∀ h2, aPure P fr h2 op = some s := by
  intro h2
  cases op <;> simp only [aPure] at hx ⊢ <;> try exact hx
  case load t x =>
    simp only [kindOf] at hk
    split at hk
    · rename_i id cs e
      simp only [aLoad, e] at hx ⊢; exact hx
    · rename_i d off e
      simp only [aLoad, e] at hx ⊢; exact hx
    · cases hk
  case lookup => simp [kindOf] at hk
  case call c =>
    simp only [kindOf] at hk
    unfold aBlt at hx ⊢
    split at hx
    · rename_i hcal
      split at hx
      case h_2 => cases hx
      rename_i x t h1 h2'
      rw [h1] at hk
      simp only at hk
      unfold aLen at hx ⊢
      split at hx
      case h_2 => cases hx
      rename_i y e
      simp only [e] at hk ⊢
      cases y <;> simp at hk <;> (simp only [AV.len, AV.lenT] at hx ⊢; exact hx)
    · rename_i hcal
      split at hx
      case h_2 => cases hx
      exact hx
    · rename_i hcal
      split at hx
      case h_2 => cases hx
      exact hx
    · cases hx
theorem aEffD_free {dst : Option Tmp} {op : Op} {s : Slot} (hk : kindOf fr op = 0) (hx : aEffD P lt fr h dst op = some (s, h')) : ∀ h2, aEffD P lt fr h2 dst op = some (s, h2) := by
  intro h2
  have hp : aPureD P fr h op = some (s, h') → aPureD P fr h2 op = some (s, h2) := by
    intro hx
    obtain ⟨h1, rfl⟩ := aPureD_sound hx
    simp only [aPureD, aPure_free hk h1 h2]
  cases op <;> simp only [aEffD] at hx ⊢ <;> try exact hp hx
  case alloc => simp [kindOf] at hk
  case box => simp [kindOf] at hk
  case store => simp [kindOf] at hk
  case mapUpdate => simp [kindOf] at hk
  case insert => simp [kindOf] at hk
  case makeMap => simp [kindOf] at hk
  case buildSlice t n parts => obtain ⟨h1, rfl⟩ := aLitD_sound hx; simp only [aLitD, h1]
theorem aEffD_read {dst : Option Tmp} {op : Op} {s : Slot} (hk : kindOf fr op = 1) (hx : aEffD P lt fr h dst op = some (s, h')) : h' = h := by
  cases op <;> simp only [aEffD] at hx <;> try exact (aPureD_sound hx).2
  case alloc => simp [kindOf] at hk
  case box => simp [kindOf] at hk
  case store => simp [kindOf] at hk
  case mapUpdate => simp [kindOf] at hk
  case insert => simp [kindOf] at hk
  case makeMap => simp [kindOf] at hk
  case buildSlice => simp [kindOf] at hk
def aStepD (P : Program) (lt : LT) (ops : List Oper) (o : Oper) (fr : AFr) (h : AH) : Option (Nat × Slot × AFr × AH) :=
  match aWanted ops fr o.guard with
  | some true => match aEffD P lt fr h o.dst o.op with
    | some (s, h') => match o.dst with
      | some d => match slotOK lt (some d) s with
        | true => some (kindOf fr o.op, s, fr.putD d s, h')
        | false => none
      | none => some (kindOf fr o.op, s, fr, h')
    | none => none
  | some false => match o.dst with
    | some d => some (0, .v (.tup []), fr.putD d (.v (.tup [])), h)
    | none => some (0, .v (.tup []), fr, h)
  | none => none
def entK : Nat → Nat
  | 0 => 0
  | 1 => 1
  | _ => 2
def nextK (k : Nat) : Nat → Nat
  | 0 => k
  | 1 => k
  | _ => k + 1
def consH (h : AH) (hs : List AH) : Nat → List AH
  | 0 => hs
  | 1 => hs
  | _ => h :: hs
theorem aStepD_tr {q : Nat} {s : Slot} {fr1 : AFr} {h1 : AH} (hx : aStepD P lt ops o fr h = some (q, s, fr1, h1)) {k : Nat} {ents : List Ent} {hs : List AH} (T : Tr P lt ops l fr1 h1 (nextK k q) ents hs fr' h') :
    Tr P lt ops (o :: l) fr h k (⟨o, fr, s, entK q, k⟩ :: ents) (consH h1 hs q) fr' h' := by
  unfold aStepD at hx
  split at hx
  · rename_i hw
    split at hx
    case h_2 => cases hx
    rename_i s1 h2 he
    have hx : slotOK lt o.dst s1 = true ∧ q = kindOf fr o.op ∧ s1 = s ∧ fr.put o.dst s1 = fr1 ∧ h2 = h1 := by
      split at hx
      · rename_i d hd
        split at hx
        case h_2 => cases hx
        rename_i hs
        injection hx with hx; injection hx with hx hy; injection hy with hy hz; injection hz with hz hu
        rw [hd]
        exact ⟨hs, hx.symm, hy, by subst hy; exact hz, hu⟩
      · rename_i hd
        injection hx with hx; injection hx with hx hy; injection hy with hy hz; injection hz with hz hu
        rw [hd]
        exact ⟨by cases s1 <;> rfl, hx.symm, hy, hz, hu⟩
    obtain ⟨hso, rfl, rfl, rfl, rfl⟩ := hx
    generalize hk : kindOf fr o.op = q at *
    match q with
    | 0 =>
      have e1 := aEffD_free hk he h
      rw [he] at e1
      injection e1 with e1; injection e1 with _ e1
      subst e1
      exact .free (fun h3 => StepD.op hw (aEffD_free hk he h3) hso) T
    | 1 =>
      have := aEffD_read hk he
      subst this
      exact .read (StepD.op hw he hso) T
    | q + 2 => exact .eff (StepD.op hw he hso) T
  · rename_i hw
    have hx : q = 0 ∧ .v (.tup []) = s ∧ fr.put o.dst (.v (.tup [])) = fr1 ∧ h = h1 := by
      split at hx
      · rename_i d hd
        injection hx with hx; injection hx with hx hy; injection hy with hy hz; injection hz with hz hu
        rw [hd]
        exact ⟨hx.symm, hy, hz, hu⟩
      · rename_i hd
        injection hx with hx; injection hx with hx hy; injection hy with hy hz; injection hz with hz hu
        rw [hd]
        exact ⟨hx.symm, hy, hz, hu⟩
    obtain ⟨rfl, rfl, rfl, rfl⟩ := hx
    exact .free (fun h3 => StepD.off hw) T
  · cases hx
variable {K : List Ent → List AH → AFr → AH → Prop}
theorem AD.nil {k : Nat} (H : K [] [] fr h) : AD P lt ops [] fr h k K := ⟨[], [], fr, h, H, .nil⟩
theorem AD.step {q : Nat} {s : Slot} {fr1 : AFr} {h1 : AH} {k : Nat} (hx : aStepD P lt ops o fr h = some (q, s, fr1, h1))
    (H : AD P lt ops l fr1 h1 (nextK k q) fun ents hs fr' h' => K (⟨o, fr, s, entK q, k⟩ :: ents) (consH h1 hs q) fr' h') : AD P lt ops (o :: l) fr h k K := by
  obtain ⟨ents, hs, fr', h', k', T⟩ := H
  exact ⟨_, _, _, _, k', aStepD_tr hx T⟩
def aRunD (P : Program) (lt : LT) (ops : List Oper) : Nat → List Oper → AFr → AH → Nat → Option (List Oper × AFr × AH × Nat × List Ent × List AH)
  | 0, l, fr, h, k => some (l, fr, h, k, [], [])
  | n + 1, o :: l, fr, h, k => match aStepD P lt ops o fr h with
    | some (q, s, fr1, h1) => match aRunD P lt ops n l fr1 h1 (nextK k q) with
      | some (l', fr', h', k', ents, hs) => some (l', fr', h', k', ⟨o, fr, s, entK q, k⟩ :: ents, consH h1 hs q)
      | none => none
    | none => none
  | _ + 1, [], _, _, _ => none
theorem consH_append {h1 : AH} {hs hs2 : List AH} {q : Nat} : consH h1 hs q ++ hs2 = consH h1 (hs ++ hs2) q := by
  match q with
  | 0 => rfl
  | 1 => rfl
  | q + 2 => rfl
theorem AD.run (n : Nat) {k k1 : Nat} {l' : List Oper} {fr1 : AFr} {h1 : AH} {ents1 : List Ent} {hs1 : List AH} (hx : aRunD P lt ops n l fr h k = some (l', fr1, h1, k1, ents1, hs1))
    (H : AD P lt ops l' fr1 h1 k1 fun ents hs fr' h' => K (ents1 ++ ents) (hs1 ++ hs) fr' h') : AD P lt ops l fr h k K := by
  induction n generalizing l fr h k K ents1 hs1 with
  | zero =>
    simp only [aRunD] at hx
    injection hx with hx; injection hx with e1 hx; injection hx with e2 hx; injection hx with e3 hx; injection hx with e4 hx; injection hx with e5 e6
    subst e1 e2 e3 e4 e5 e6
    exact H
  | succ n ih =>
    cases l with
    | nil => simp only [aRunD] at hx; cases hx
    | cons o l =>
      simp only [aRunD] at hx
      split at hx
      case h_2 => cases hx
      rename_i q s fr2 h2 hs
      split at hx
      case h_2 => cases hx
      rename_i l2 fr3 h3 k3 ents3 hs3 hr
      injection hx with hx; injection hx with e1 hx; injection hx with e2 hx; injection hx with e3 hx; injection hx with e4 hx; injection hx with e5 e6
      subst e1 e2 e3 e4 e5 e6
      refine AD.step hs (ih hr ?_)
      obtain ⟨ents, hs', fr', h', k', T⟩ := H
      exact ⟨ents, hs', fr', h', by rw [consH_append] at k'; exact k', T⟩
theorem AD.free {s : Slot} {k : Nat} (st : ∀ h, StepD P lt ops o fr h s h) {d : Tmp} (hd : o.dst = some d) (H : AD P lt ops l (fr.putD d s) h k fun ents hs fr' h' => K (⟨o, fr, s, 0, k⟩ :: ents) hs fr' h') : AD P lt ops (o :: l) fr h k K := by
  obtain ⟨ents, hs, fr', h', k', T⟩ := H
  exact ⟨_, _, _, _, k', .free st (by rw [hd]; exact T)⟩
theorem AD.read {s : Slot} {k : Nat} (st : StepD P lt ops o fr h s h) {d : Tmp} (hd : o.dst = some d) (H : AD P lt ops l (fr.putD d s) h k fun ents hs fr' h' => K (⟨o, fr, s, 1, k⟩ :: ents) hs fr' h') : AD P lt ops (o :: l) fr h k K := by
  obtain ⟨ents, hs, fr', h', k', T⟩ := H
  exact ⟨_, _, _, _, k', .read st (by rw [hd]; exact T)⟩
theorem AD.eff {s : Slot} {k : Nat} {h1 : AH} (st : StepD P lt ops o fr h s h1) {d : Tmp} (hd : o.dst = some d) (H : AD P lt ops l (fr.putD d s) h1 (k + 1) fun ents hs fr' h' => K (⟨o, fr, s, 2, k⟩ :: ents) (h1 :: hs) fr' h') : AD P lt ops (o :: l) fr h k K := by
  obtain ⟨ents, hs, fr', h', k', T⟩ := H
  exact ⟨_, _, _, _, k', .eff st (by rw [hd]; exact T)⟩
theorem AD.eff0 {s : Slot} {k : Nat} {h1 : AH} (st : StepD P lt ops o fr h s h1) (hd : o.dst = none) (H : AD P lt ops l fr h1 (k + 1) fun ents hs fr' h' => K (⟨o, fr, s, 2, k⟩ :: ents) (h1 :: hs) fr' h') : AD P lt ops (o :: l) fr h k K := by
  obtain ⟨ents, hs, fr', h', k', T⟩ := H
  exact ⟨_, _, _, _, k', .eff st (by rw [hd]; exact T)⟩
theorem AD.callE' {f : FuncId} {args : List AV} {v : AV} {k : Nat} {h1 : AH} (hc : aCallee fr o.op = some (f, args)) (hg : aWanted ops fr o.guard = some true) (hf : ∀ (vs : Array Value) (w : World), (callFunc f vs).run P w = .ok (.enter f vs) w)
    (H : ARun P f args h v h1) {d : Tmp} (hd : o.dst = some d) (T : AD P lt ops l (fr.putD d (.v v)) h1 (k + 1) fun ents hs fr' h' => K (⟨o, fr, .v v, 2, k⟩ :: ents) (h1 :: hs) fr' h') : AD P lt ops (o :: l) fr h k K :=
  AD.eff (StepD.call hc hg hf H) hd T
def appInfo (P : Program) (t : TypeId) : Option (Nat × Nat) :=
  match P.underlying t with
  | some (.slice e) => match P.info? e with
    | some i => match i.zero, i.size with
      | some z, n + 1 => match Nat.beq z.cells.size (n + 1) with
        | true => some (n + 1, i.bytes)
        | false => none
      | _, _ => none
    | none => none
  | _ => none
theorem appInfo_sound {t : TypeId} {sz by_ : Nat} (hx : appInfo P t = some (sz, by_)) : ∃ e i z, AppT P t t e i z sz ∧ i.bytes = by_ := by
  unfold appInfo at hx
  split at hx
  case h_2 => cases hx
  rename_i e he
  split at hx
  case h_2 => cases hx
  rename_i i hi
  split at hx
  case h_2 => cases hx
  rename_i z n hz hn
  split at hx
  case h_2 => cases hx
  rename_i hb
  injection hx with hx; injection hx with hx hy; subst hx hy
  exact ⟨e, i, z, ⟨he, rfl, hi, hz, hn, by omega, Nat.eq_of_beq_eq_true hb⟩, rfl⟩
def appArgs (op : Op) : Option (Operand × Operand × TypeId) :=
  match op with
  | .call c => match c.callee with
    | .builtin .append => match c.args.toList, c.argTypes.toList with
      | [s, x], [t, t'] => match Nat.beq t t' with
        | true => some (s, x, t)
        | false => none
      | _, _ => none
    | _ => none
  | _ => none
theorem appArgs_run {s x : Operand} {t : TypeId} (hx : appArgs o.op = some (s, x, t)) (ρ : Operand → Value) : (execOp ρ o) = (do pure (.value (← Builtin.append_ #[t, t] o.type #[ρ s, ρ x]))) ∧ s ∈ o.op.operands.toList ∧ x ∈ o.op.operands.toList := by
  obtain ⟨dst, op, ty, pos, after, guard⟩ := o
  simp only at hx ⊢
  unfold appArgs at hx
  split at hx
  case h_2 => cases hx
  rename_i c
  obtain ⟨callee, args, argTypes⟩ := c
  simp only at hx
  split at hx
  case h_2 => cases hx
  split at hx
  case h_2 => cases hx
  rename_i s' x' t1 t2 h1 h2
  split at hx
  case h_2 => cases hx
  rename_i hb
  injection hx with hx; injection hx with hx hy; injection hy with hy hz; subst hx hy hz
  have hb := Nat.eq_of_beq_eq_true hb
  subst hb
  have h1 : args = #[s', x'] := Array.ext' h1
  have h2 : argTypes = #[t1, t1] := Array.ext' h2
  subst h1 h2
  refine ⟨?_, by simp [Op.operands, Call.operands], by simp [Op.operands, Call.operands]⟩
  simp [execOp, resolve, invoke, builtin]
theorem StepD.app {s x : Operand} {t : TypeId} {sz by_ : Nat} {xs y : AV} {es ys : List (List AV)} {lin v : Nat} (ha : appArgs o.op = some (s, x, t)) (hw : aWanted ops fr o.guard = some true) (hi : appInfo P t = some (sz, by_))
    (es_ : fr.ev s = .v xs) (ex : fr.ev x = .v y) (hS : AppS h sz xs es lin v h') (hy : elemsOf sz y = some ys) (hne : ys ≠ []) (hb : (es.length + ys.length) * (by_ + 1) ≤ 140737488355328) :
    StepD P lt ops o fr h (.v (.vec (.own lin v) sz (es ++ ys))) h' := by
  intro fr' hn hl hf g0 w0 a w Q K S hK
  obtain ⟨r1, r2, r3⟩ := appArgs_run ha a.eval
  obtain ⟨e, i, z, T, rfl⟩ := appInfo_sound hi
  have hops := looks_op hn hf
  rw [← looks_guard hn hf] at hw
  rw [← hops s r2] at es_
  rw [← hops x r3] at ex
  obtain ⟨g, lb, E, R, F⟩ := S
  rw [if_pos (aWanted_sound F hw)]
  obtain ⟨u, g', w', k1, k2, k3, k4⟩ := append_more (ty := o.type) T R (F.ev_v es_) hS (F.ev_v ex) hy hne hb
  unfold Oper.wp
  rw [r1]
  simp only [Sem.run_bind, k1, Result.andThen_ok, Sem.run_pure]
  exact hK _ _ ⟨g', lb, E.trans k2, k3, (F.mono k2).put (s := .v _) k4 rfl⟩
theorem StepD.app0 {s x : Operand} {t : TypeId} {sz by_ : Nat} {xs y : AV} {es : List (List AV)} (ha : appArgs o.op = some (s, x, t)) (hw : aWanted ops fr o.guard = some true) (hi : appInfo P t = some (sz, by_))
    (es_ : fr.ev s = .v xs) (ex : fr.ev x = .v y) (hS : elemsOf sz xs = some es) (hy : elemsOf sz y = some []) : ∀ h, StepD P lt ops o fr h (.v xs) h := by
  intro h fr' hn hl hf g0 w0 a w Q K S hK
  obtain ⟨r1, r2, r3⟩ := appArgs_run ha a.eval
  obtain ⟨e, i, z, T, rfl⟩ := appInfo_sound hi
  have hops := looks_op hn hf
  rw [← looks_guard hn hf] at hw
  rw [← hops s r2] at es_
  rw [← hops x r3] at ex
  obtain ⟨g, lb, E, R, F⟩ := S
  rw [if_pos (aWanted_sound F hw)]
  have k1 := append_nothing (P := P) (ty := o.type) T (F.ev_v es_) hS (F.ev_v ex) hy
  unfold Oper.wp
  rw [r1]
  simp only [Sem.run_bind, k1, Result.andThen_ok, Sem.run_pure]
  exact hK _ _ ⟨g, lb, E, R, F.put (s := .v _) (F.ev_v es_) rfl⟩
structure Weak (lt : LT) (fr fr' : AFr) : Prop where
  n : fr'.n = fr.n
  df : fr'.df = fr.df
  f : ∀ k, fr'.f k = .junk ∨ fr'.f k = fr.f k
  loc : ∀ k d off, fr'.f k = .lp d off → lt.mayHold d k = true → fr'.loc d = fr.loc d
theorem AS.weak {g0 : Gh} {w0 : World} {a : Act} {w : World} (W : Weak lt fr fr') (S : AS lt h fr g0 w0 a w) : AS lt h fr' g0 w0 a w := by
  obtain ⟨g, lb, E, R, F⟩ := S
  classical
  refine ⟨g, fun d => if ∃ k off, fr'.f k = .lp d off ∧ lt.mayHold d k = true then lb d else none, E, R, W.df ▸ F.defers, by rw [W.n]; exact F.size, fun k hk => ?_, fun k d off e => ?_, fun d d' b e1 e2 => ?_, fun d b e => ?_⟩
  · rw [W.n] at hk
    rcases W.f k with h | h
    · rw [h]; trivial
    · have := F.slot k hk
      rw [← h] at this
      generalize hs : fr'.f k = s at this
      cases s with
      | v x => exact this
      | junk => trivial
      | lp d off =>
        obtain ⟨b, h1, h2⟩ := this
        refine ⟨b, ?_, h2⟩
        show (if ∃ k off, fr'.f k = .lp d off ∧ lt.mayHold d k = true then lb d else none) = some b
        rw [if_pos ⟨k, off, hs, F.hold k d off (h ▸ hs)⟩]; exact h1
  · rcases W.f k with h | h
    · rw [h] at e; cases e
    · rw [h] at e; exact F.hold k d off e
  · split at e1 <;> split at e2
    · exact F.lbi _ _ _ e1 e2
    · cases e2
    · cases e1
    · cases e1
  · split at e
    · rename_i hk
      obtain ⟨k, off, hk, hm⟩ := hk
      rw [W.loc k d off hk hm]; exact F.lbo d b e
    · cases e
def AFr.bare (n : Nat) (loc : Nat → List AV) : AFr := ⟨n, fun _ => .junk, loc, []⟩
theorem Weak.bare {n : Nat} (hn : fr.n = n) {loc : Nat → List AV} (hd : fr.df = [] := by rfl) : Weak lt fr (.bare n loc) := ⟨hn.symm, hd.symm, fun _ => .inl rfl, fun _ _ _ e _ => by cases e⟩
theorem Weak.put {d : Tmp} {s : AV} (W : Weak lt fr fr') (hs : fr.f d = .v s) : Weak lt fr (fr'.putD d (.v s)) := by
  refine ⟨W.n, W.df, fun k => ?_, fun k d' off e hm => ?_⟩
  · simp only [AFr.putD]
    split
    · rename_i hb
      have hb := Nat.eq_of_beq_eq_true hb
      subst hb
      exact .inr hs.symm
    · exact W.f k
  · simp only [AFr.putD] at e
    split at e
    · cases e
    · exact W.loc k d' off e hm
def AFr.puts (fr : AFr) : List (Nat × AV) → AFr
  | [] => fr
  | (d, x) :: r => (fr.puts r).putD d (.v x)
def holds (fr : AFr) : List (Nat × AV) → Prop
  | [] => True
  | (d, x) :: r => fr.f d = .v x ∧ holds fr r
theorem Big.weak {c : Code} {e : Exit} {fr1 fr2 : AFr} (W : Weak lt fr fr1) (B : Big P lt c fr1 h e fr2 h') : Big P lt c fr h e fr2 h' := fun g0 w0 a w S => B g0 w0 a w (S.weak W)
theorem AC.weak {c : Code} {C : Exit → AFr → AH → Prop} (W : Weak lt fr fr') (H : AC P lt c fr' h C) : AC P lt c fr h C := by
  obtain ⟨e, fr2, h2, k, r⟩ := H
  exact ⟨e, fr2, h2, k, r.weak W⟩
theorem AW.weak {c : Code} {C : Exit → AFr → AH → Prop} (W : Weak lt fr fr') (H : AW P lt c fr' h C) : AW P lt c fr h C := by
  obtain ⟨n, e, fr2, h2, k, r⟩ := H
  cases r with
  | last b hne => exact ⟨0, e, fr2, h2, k, .last (b.weak W) hne⟩
  | more b r => exact ⟨_, e, fr2, h2, k, .more (b.weak W) r⟩
theorem StepD.pure {s : Slot} (hw : aWanted ops fr o.guard = some true) (hx : ∀ h, aPure P fr h o.op = some s) (hs : slotOK lt o.dst s = true) (hn : ∀ h, aEffD P lt fr h o.dst o.op = aPureD P fr h o.op) : ∀ h, StepD P lt ops o fr h s h := fun h =>
  StepD.op hw (by rw [hn h, aPureD, hx h]) hs
theorem StepD.index {t : TypeId} {x i : Operand} {s : List UInt8} {k : IntKind} {n : Int} {c : UInt8} (ho : o.op = .index t x i) (hw : aWanted ops fr o.guard = some true) (ht : P.underlying t = some .string) (ex : fr.ev x = .v (.str s)) (ei : fr.ev i = .v (.int k n)) (h0 : 0 ≤ n) (hc : s[n.toNat]? = some c) :
    ∀ h, StepD P lt ops o fr h (.v (.int .u8 c.toNat)) h :=
  StepD.pure hw (fun h => by rw [ho]; simp only [aPure, aIndex, ht, ex, ei, if_pos h0, hc]) rfl (fun h => by rw [ho]; rfl)
theorem StepD.indexAddr {t e : TypeId} {x i : Operand} {tk : Tk} {sz : Nat} {elems : List (List AV)} {cs : List AV} {k : IntKind} {n : Int} (ho : o.op = .indexAddr t x i) (hw : aWanted ops fr o.guard = some true) (ht : sliceT P t = some e) (hz : szT P e = some sz) (ex : fr.ev x = .v (.vec tk sz elems)) (ei : fr.ev i = .v (.int k n)) (h0 : 0 ≤ n) (hc : elems[n.toNat]? = some cs) :
    ∀ h, StepD P lt ops o fr h (.v (.ref (ridOf tk n.toNat) cs)) h :=
  StepD.pure hw (fun h => by rw [ho]; simp only [aPure, aIndexAddr, ht, ex, ei, hz, h0, and_self, if_true, hc]) rfl (fun h => by rw [ho]; rfl)
end
section
variable {P : Program} {lt : LT} {h : AH} {fr : AFr} {ops : List Oper} {o : Oper}
theorem bnd_at {x : Operand} {k : IntKind} {n : Int} {d : Nat} (e : fr.ev x = .v (.int k n)) (h0 : 0 ≤ n) : aBnd fr (some x) d = some n.toNat := by simp only [aBnd, e, if_pos h0]
theorem bnd_none {d : Nat} : aBnd fr none d = some d := rfl
theorem StepD.sliceS {t : TypeId} {x : Operand} {lo hi : Option Operand} {s : List UInt8} {l hh : Nat} (ho : o.op = .slice t x lo hi none) (hw : aWanted ops fr o.guard = some true) (ht : P.underlying t = some .string) (ex : fr.ev x = .v (.str s)) (h1 : aBnd fr lo 0 = some l) (h2 : aBnd fr hi s.length = some hh) (h3 : l ≤ hh) (h4 : hh ≤ s.length) :
    ∀ h, StepD P lt ops o fr h (.v (.str ((s.take hh).drop l))) h :=
  StepD.pure hw (fun h => by rw [ho]; simp only [aPure, aSlice, ht, ex, h1, h2]; rw [if_pos ⟨h3, h4⟩]) rfl (fun h => by rw [ho]; rfl)
theorem StepD.sliceTo {t e : TypeId} {x y : Operand} {lo : Option Operand} {tk : Tk} {sz : Nat} {es : List (List AV)} {l hh : Nat} (ho : o.op = .slice t x lo (some y) none) (hw : aWanted ops fr o.guard = some true) (ht : P.underlying t = some (.slice e)) (hz : szT P e = some sz) (ex : fr.ev x = .v (.vec tk sz es)) (h1 : aBnd fr lo 0 = some l) (h2 : aBnd fr (some y) es.length = some hh) (h3 : l ≤ hh) (h4 : hh ≤ es.length) :
    ∀ h, StepD P lt ops o fr h (.v (.vec .none sz ((es.take hh).drop l))) h :=
  StepD.pure hw (fun h => by rw [ho]; simp only [aPure, aSlice, ht, ex, h1, h2]; rw [if_pos ⟨hz, h3, h4⟩]) rfl (fun h => by rw [ho]; rfl)
end
def ARunE (P : Program) (f : FuncId) (args : List AV) (h : AH) (Q : AV → AH → Prop) : Prop := ∃ v h', Q v h' ∧ ARun P f args h v h'
def retE (P : Program) (rs : List ResultVar) (Q : AV → AH → Prop) : Exit → AFr → AH → Prop
  | .normal, fr, h => ∃ v, aResults P fr h rs = some v ∧ Q v h
  | .ret, fr, h => ∃ v, aResults P fr h rs = some v ∧ Q v h
  | _, _, _ => False
theorem ARunE.of {P : Program} {h : AH} {f : FuncId} {c : Code} {n : Nat} {rs : List ResultVar} {fn : Func} (I : FnIs P f c n rs fn) (lt : LT) {args : List AV} {Q : AV → AH → Prop} (hn : Nat.ble args.length n = true)
    (H : AC P lt c (AFr.enter n args) h (retE P rs Q)) : ARunE P f args h Q := by
  obtain ⟨e, fr', h1, k, r⟩ := H
  have key : ∀ v, aResults P fr' h1 rs = some v → Q v h1 → (∀ v2, aResults P fr' h1 rs = some v2 → retC P rs v2 h1 e fr' h1) → ARunE P f args h Q := by
    intro v h2 h3 h4
    exact ⟨v, h1, h3, ARun.of I lt hn ⟨e, fr', h1, h4 v h2, r⟩⟩
  cases e with
  | normal => obtain ⟨v, h2, h3⟩ := k; exact key v h2 h3 fun v2 h4 => ⟨h4, rfl⟩
  | ret => obtain ⟨v, h2, h3⟩ := k; exact key v h2 h3 fun v2 h4 => ⟨h4, rfl⟩
  | _ => exact k.elim
def Grows (h0 h : AH) (sz : Nat) (x : AV) (es : List (List AV)) : Prop :=
  (x = .nilsl ∧ es = []) ∨ ∃ lin ver, (x = .vec (.own lin ver) sz es ∨ x = .vec (.suf lin ver) sz es) ∧ h0.nt ≤ lin ∧ lin < h.nt ∧ h.tip lin = ver
theorem wrap_i64 {n : Int} (h0 : -9223372036854775808 ≤ n) (h1 : n < 9223372036854775808) : IntKind.i64.wrap n = n := by
  unfold IntKind.wrap
  simp only [IntKind.signed, IntKind.bits]
  simp
  omega
theorem wI {n m : Int} (h : n = m ∧ -9223372036854775808 ≤ n ∧ n < 9223372036854775808) : IntKind.i64.wrap n = m := (wrap_i64 h.2.1 h.2.2).trans h.1
theorem Grows.elems {h0 h : AH} {sz : Nat} {x : AV} {es : List (List AV)} (g : Grows h0 h sz x es) : elemsOf sz x = some es := by
  rcases g with ⟨rfl, rfl⟩ | ⟨lin, ver, rfl | rfl, h1, h2, h3⟩
  · rfl
  · simp only [elemsOf, beq_self]
  · simp only [elemsOf, beq_self]
section
variable {P : Program} {lt : LT} {h : AH} {fr : AFr} {ops l : List Oper} {o : Oper}
end
section
variable {P : Program} {lt : LT} {h : AH} {fr : AFr} {ops l : List Oper} {o : Oper}
theorem AL.callE {f : FuncId} {args : List AV} {Q : AV → AH → Prop} {K : AFr → AH → Prop} (hc : aCallee fr o.op = some (f, args)) (hg : aWanted ops fr o.guard = some true) (hf : ∀ (vs : Array Value) (w : World), (callFunc f vs).run P w = .ok (.enter f vs) w)
    (H : ARunE P f args h Q) {d : Tmp} (hd : o.dst = some d) (T : ∀ v h1, Q v h1 → AL P lt ops l (fr.putD d (.v v)) h1 K) : AL P lt ops (o :: l) fr h K := by
  obtain ⟨v, h1, q, r⟩ := H
  exact AL.call hc hg hf r hd (T v h1 q)
theorem AD.callE {f : FuncId} {args : List AV} {Q : AV → AH → Prop} {k : Nat} {K : List Ent → List AH → AFr → AH → Prop} (hc : aCallee fr o.op = some (f, args)) (hg : aWanted ops fr o.guard = some true) (hf : ∀ (vs : Array Value) (w : World), (callFunc f vs).run P w = .ok (.enter f vs) w)
    (H : ARunE P f args h Q) {d : Tmp} (hd : o.dst = some d) (T : ∀ v h1, Q v h1 → AD P lt ops l (fr.putD d (.v v)) h1 (k + 1) fun ents hs fr' h' => K (⟨o, fr, .v v, 2, k⟩ :: ents) (h1 :: hs) fr' h') : AD P lt ops (o :: l) fr h k K := by
  obtain ⟨v, h1, q, r⟩ := H
  exact AD.callE' hc hg hf r hd (T v h1 q)
end
section
variable {P : Program} {lt : LT} {h : AH} {fr : AFr} {ops l : List Oper} {o : Oper}
theorem StepD.boxRef {t : TypeId} {x : Operand} {y : AV} {cs : List AV} (ho : o.op = .box t x) (hw : aWanted ops fr o.guard = some true) (ex : fr.ev x = .v y) (hc : y.cells = some cs) : ∀ h, StepD P lt ops o fr h (.v (.ref none cs)) h := by
  intro h fr' hn hl hf g0 w0 a w Q K S hK
  have hops := looks_op hn hf
  rw [← looks_guard hn hf] at hw
  rw [← hops x (by rw [ho]; simp [Op.operands])] at ex
  obtain ⟨g, lb, E, R, F⟩ := S
  rw [if_pos (aWanted_sound F hw)]
  have hv := (F.ev_v ex).cells hc
  obtain ⟨E', R'⟩ := alloc_ext R (.cells (a.eval x).cells t (0, 0)) cs.length (fun _ => ⟨_, _, _, rfl, by rw [hv.1.1]; exact Nat.le_refl _⟩)
  unfold Oper.wp
  rw [run_box_new o t x ho]
  refine hK _ _ ⟨_, lb, E.trans E', R', (F.mono E').put (s := .v _) (VR.ref none cs _ (fun i => (a.eval x).cells.getD i undef) (fun i hi => ?_) (fun i hi => (hv.1.2 i hi).mono E'.toEvc) (fun i hi => hv.2 i hi) (fun i hi => ?_) trivial ⟨_, _, _, by rw [heap_alloc, if_pos rfl]⟩) rfl⟩
  · have := hv.1.1
    rw [add_mk]
    simp only [World.cell?, heap_alloc, if_true]
    simp [Array.getD_eq_getD_getElem?, Array.getElem?_eq_getElem (show i < (a.eval x).cells.size by omega)]
  · rw [add_mk]
    simp only [Gh.xt, if_true]
    omega
end
end Go.Am
end
