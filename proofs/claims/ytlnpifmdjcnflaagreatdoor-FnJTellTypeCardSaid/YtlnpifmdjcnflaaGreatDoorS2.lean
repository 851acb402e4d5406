import Derived.Test.YtlnpifmdjcnflaaGreatDoorS1
import Derived.Laws.Tables
import Derived.Laws.AppendOwn
set_option linter.unusedVariables false
set_option linter.unusedSimpArgs false
section
set_option linter.unusedVariables false
set_option linter.unusedSimpArgs false
namespace Go.Am
section
variable {P : Program} {lt : LT} {g : Gh} {w : World} {h : AH} {base : Nat} {lb : Nat → Option Nat} {fr : AFr} {a : Act}
theorem aNil_sound {x : Operand} {s : Slot} (F : FR lt g w base lb fr a) (hx : aNil fr x = some s) (o : Oper) (ho : o.op = .nilCheck x) :
    ∃ v, (execOp a.eval o).run P w = .ok (.value v) w ∧ VS g w lb s v := by
  unfold aNil at hx
  split at hx
  case h_1 o' off e =>
    injection hx with hx; subst hx
    have v1 := F.ev_v e
    refine ⟨a.eval x, ?_, v1⟩
    simp only [execOp, ho]
    generalize a.eval x = p at v1
    cases v1; rfl
  case h_2 id cs e =>
    injection hx with hx; subst hx
    have v1 := F.ev_v e
    refine ⟨a.eval x, ?_, v1⟩
    simp only [execOp, ho]
    generalize a.eval x = p at v1
    cases v1; rfl
  case h_3 f cs e =>
    injection hx with hx; subst hx
    have v1 := F.ev_v e
    refine ⟨a.eval x, ?_, v1⟩
    simp only [execOp, ho]
    generalize a.eval x = p at v1
    cases v1; rfl
  case h_4 t y e =>
    injection hx with hx; subst hx
    have v1 := F.ev_v e
    refine ⟨a.eval x, ?_, v1⟩
    simp only [execOp, ho]
    generalize a.eval x = p at v1
    cases v1; rfl
  case h_5 d off e =>
    injection hx with hx; subst hx
    obtain ⟨b, hb, hq⟩ := F.ev_lp e
    refine ⟨a.eval x, ?_, b, hb, hq⟩
    simp only [execOp, ho, hq]
    rfl
  case h_6 => cases hx
def zeroA (P : Program) (t : TypeId) : Option AV :=
  match P.info? t with
  | some i => match i.zero with
    | some z => cAV z
    | none => none
  | none => none
theorem run_zeroA {t : TypeId} {x : AV} (hx : zeroA P t = some x) : ∃ z, (zeroValue t).run P w = .ok z w ∧ ∀ g w', VR g w' x z := by
  unfold zeroA at hx
  split at hx
  case h_2 => cases hx
  rename_i i hi
  split at hx
  case h_2 => cases hx
  rename_i z hz
  exact ⟨z, by simp [zeroValue, run_typeInfo hi, hz], fun g w' => cAV_sound hx⟩
def aAssert (P : Program) (fr : AFr) (x : Operand) (t : TypeId) (ok : Bool) : Option Slot :=
  match P.underlying t with
  | some (.interface _) => none
  | none => none
  | some _ =>
    match fr.ev x with
    | .v (.iface t' y) =>
      match Nat.beq t' t, ok with
      | true, true => some (.v (.tup [y, .bool true]))
      | true, false => some (.v y)
      | false, true => match zeroA P t with
        | some z => some (.v (.tup [z, .bool false]))
        | none => none
      | false, false => none
    | .v .nili =>
      match ok with
      | true => match zeroA P t with
        | some z => some (.v (.tup [z, .bool false]))
        | none => none
      | false => none
    | _ => none
theorem VR.tup2 {x y : AV} {v u : Value} (h1 : VR g w x v) (h2 : VR g w y u) : VR g w (.tup [x, y]) (.tuple #[v, u]) :=
  .tup _ _ rfl fun i hi => by
    match i, hi with
    | 0, _ => exact h1
    | 1, _ => exact h2
theorem aAssert_sound {x : Operand} {xt t : TypeId} {ok : Bool} {s : Slot} (F : FR lt g w base lb fr a) (hx : aAssert P fr x t ok = some s) :
    ∃ v, (Instr.typeAssert (a.eval x) xt t ok).run P w = .ok v w ∧ VS g w lb s v := by
  unfold aAssert at hx
  split at hx
  case h_1 => cases hx
  case h_2 => cases hx
  rename_i td hni hu
  split at hx
  case h_1 t' y e =>
    have v1 := F.ev_v e
    generalize a.eval x = p at v1
    cases v1 with
    | iface _ _ v hv =>
      split at hx
      case h_1 hb =>
        injection hx with hx; subst hx
        have hb := Nat.eq_of_beq_eq_true hb
        subst hb
        refine ⟨.tuple #[v, .bool true], ?_, VR.tup2 hv (.bool true)⟩
        simp only [Instr.typeAssert, Sem.run_bind, run_underlying hu, Result.andThen_ok]
        cases td <;> first | exact absurd rfl (hni _) | simp
      case h_2 hb =>
        injection hx with hx; subst hx
        have hb := Nat.eq_of_beq_eq_true hb
        subst hb
        refine ⟨v, ?_, hv⟩
        simp only [Instr.typeAssert, Sem.run_bind, run_underlying hu, Result.andThen_ok]
        cases td <;> first | exact absurd rfl (hni _) | simp
      case h_3 hb =>
        split at hx
        case h_2 => cases hx
        rename_i z hz
        injection hx with hx; subst hx
        have hb : t' ≠ t := Nat.ne_of_beq_eq_false hb
        obtain ⟨z', h1, h2⟩ := run_zeroA (w := w) hz
        refine ⟨.tuple #[z', .bool false], ?_, VR.tup2 (h2 g w) (.bool false)⟩
        simp only [Instr.typeAssert, Sem.run_bind, run_underlying hu, Result.andThen_ok]
        cases td <;> first | exact absurd rfl (hni _) | simp [hb, h1]
      case h_4 => cases hx
  case h_2 e =>
    have v1 := F.ev_v e
    generalize a.eval x = p at v1
    cases v1
    split at hx
    case h_2 => cases hx
    split at hx
    case h_2 => cases hx
    rename_i z hz
    injection hx with hx; subst hx
    obtain ⟨z', h1, h2⟩ := run_zeroA (w := w) hz
    refine ⟨.tuple #[z', .bool false], ?_, VR.tup2 (h2 g w) (.bool false)⟩
    simp only [Instr.typeAssert, Sem.run_bind, run_underlying hu, Result.andThen_ok]
    cases td <;> first | exact absurd rfl (hni _) | simp [h1]
  case h_3 => cases hx
def findA (k : List UInt8) : List (AV × AV) → Option (Option AV)
  | [] => some none
  | (.str k', v) :: r => bif k == k' then some (some v) else findA k r
  | _ => none
def posA (k : List UInt8) : List (AV × AV) → Nat
  | [] => 0
  | (.str k', _) :: r => bif k == k' then 0 else posA k r + 1
  | _ => 0
def mapT (P : Program) (t : TypeId) : Option (TypeId × TypeId) :=
  match P.underlying t with
  | some (.map k e) => match P.underlying k with
    | some .string => some (k, e)
    | _ => none
  | _ => none
def aEntries (fr : AFr) (h : AH) (x : Operand) : Option (List (AV × AV)) :=
  match fr.ev x with
  | .v .nilm => some []
  | .v (.map o) => match h.get o with
    | some (.map es) => some es
    | _ => none
  | _ => none
def lookR (P : Program) (e : TypeId) (ok : Bool) (r : Option AV) : Option Slot :=
  match r, ok with
  | some v, true => some (.v (.tup [v, .bool true]))
  | some v, false => some (.v v)
  | none, true => match zeroA P e with
    | some z => some (.v (.tup [z, .bool false]))
    | none => none
  | none, false => match zeroA P e with
    | some z => some (.v z)
    | none => none
def aLookup (P : Program) (fr : AFr) (h : AH) (t : TypeId) (x i : Operand) (ok : Bool) : Option Slot :=
  match mapT P t, aEntries fr h x, fr.ev i with
  | some (_, e), some es, .v (.str k) => match findA k es with
    | some r => lookR P e ok r
    | none => none
  | _, _, _ => none
theorem str_beq (a b : ByteArray) : (a == b) = (a.data.toList == b.data.toList) := by
  have h : (a == b) = (a.data == b.data) := by
    cases a; cases b; rfl
  rw [h]
  by_cases hab : a.data = b.data
  · simp [hab]
  · have : ¬ a.data.toList = b.data.toList := fun e => hab (Array.ext' e)
    rw [beq_eq_false_iff_ne.2 this, beq_eq_false_iff_ne.2 hab]
theorem findNow_sound {k : ByteArray} {es : List (AV × AV)} {ms : List MapEntry} {r : Option AV} (hl : ms.length = es.length)
    (hv : ∀ i (hi : i < es.length), ∃ m, ms[i]? = some m ∧ VR g w es[i].1 m.key ∧ VR g w es[i].2 m.val) (hr : findA k.data.toList es = some r) :
    ∀ n, ∃ q, Instr.findNow .string (.string k) ms n = some q ∧ (match r with
      | some x => ∃ j v, q = some (n + j, v) ∧ VR g w x v ∧ j = posA k.data.toList es ∧ ∃ hj : j < es.length, es[j].1 = AV.str k.data.toList ∧ es[j].2 = x ∧ ∀ m, ms[j]? = some m → m.key = Value.string k
      | none => q = none) := by
  induction es generalizing ms with
  | nil =>
    intro n
    simp only [findA] at hr
    injection hr with hr
    subst hr
    have : ms = [] := List.eq_nil_of_length_eq_zero (by simpa using hl)
    subst this
    exact ⟨none, rfl, rfl⟩
  | cons e es ih =>
    intro n
    obtain ⟨m, ms, rfl⟩ : ∃ m ms', ms = m :: ms' := by
      cases ms with
      | nil => simp at hl
      | cons m ms' => exact ⟨m, ms', rfl⟩
    obtain ⟨m0, hm0, v1, v2⟩ := hv 0 (by simp)
    have hm0 : m = m0 := by simpa using hm0
    subst hm0
    obtain ⟨ke, ve⟩ := e
    simp only [List.getElem_cons_zero] at v1 v2
    unfold findA at hr
    split at hr
    case h_1 heq => cases heq
    case h_3 => cases hr
    rename_i k' v' r' heq
    injection heq with h1 h2
    injection h1 with h1 h3
    subst h1 h2 h3
    generalize hmk : m.key = mk at v1
    cases v1 with
    | str s =>
      simp only [Instr.findNow, hmk, Instr.sameNow, str_beq]
      cases hb : (k.data.toList == s.data.toList) with
      | true =>
        rw [hb] at hr
        simp only [cond_true] at hr
        injection hr with hr
        subst hr
        have e1 : k.data.toList = s.data.toList := by simpa using hb
        have hks : k = s := by
          have h1 : k.data = s.data := Array.ext' e1
          cases k; cases s; simp_all
        exact ⟨some (n, m.val), rfl, 0, m.val, by simp, v2, by simp [posA, hb], by simp, by simp [hks], by simp, fun m' hm' => by
          have : m = m' := by simpa using hm'
          rw [← this, hmk, hks]⟩
      | false =>
        rw [hb] at hr
        simp only [cond_false] at hr
        obtain ⟨q, hq, hq2⟩ := ih (ms := ms) (by simpa using hl) (fun i hi => by have := hv (i + 1) (by simpa using hi); simpa only [List.getElem?_cons_succ, List.getElem_cons_succ] using this) hr (n + 1)
        refine ⟨q, hq, ?_⟩
        cases r with
        | none => exact hq2
        | some x =>
          obtain ⟨j, v, h1, h2, h7, h3, h4, h5, h6⟩ := hq2
          exact ⟨j + 1, v, by rw [h1]; congr 2; omega, h2, by simp [posA, hb, h7], by simpa using h3, by simpa using h4, by simpa using h5, fun m' hm' => h6 m' (by simpa using hm')⟩
theorem checkKey_str {em : Bool} {kt : TypeId} {s : ByteArray} (hk : P.underlying kt = some .string) : (Instr.checkKey em 10000 kt (.string s)).run P w = .ok () w := by
  have : ∃ d, Instr.checkKey em 10000 kt (.string s) = Instr.checkKey em (d + 1) kt (.string s) := ⟨9999, rfl⟩
  obtain ⟨d, hd⟩ := this
  rw [hd]
  simp [Instr.checkKey, run_underlying hk]
theorem aEntries_sound {x : Operand} {es : List (AV × AV)} (R : Rel g w h) (F : FR lt g w base lb fr a) (hx : aEntries fr h x = some es) :
    ∃ ms : Array MapEntry, ms.size = es.length ∧ (∀ i (hi : i < es.length), ∃ m, ms[i]? = some m ∧ VR g w es[i].1 m.key ∧ VR g w es[i].2 m.val) ∧
      (a.eval x = .map none ∧ ms = #[] ∨ ∃ b clk, a.eval x = .map (some b) ∧ w.heap[b]? = some (.map ms clk)) := by
  unfold aEntries at hx
  split at hx
  case h_1 e =>
    injection hx with hx; subst hx
    have v1 := F.ev_v e
    generalize a.eval x = p at v1
    cases v1
    exact ⟨#[], rfl, fun i hi => by simp at hi, .inl ⟨rfl, rfl⟩⟩
  case h_2 o e =>
    split at hx
    case h_2 => cases hx
    rename_i es' hg
    injection hx with hx; subst hx
    have v1 := F.ev_v e
    generalize a.eval x = p at v1
    cases v1 with
    | map _ b hb =>
      obtain ⟨b', hb', ms, clk, hw, ⟨hs, _⟩, hv⟩ := R.obj _ _ hg
      rw [hb] at hb'; injection hb' with hb'; subst hb'
      exact ⟨ms, hs, hv, .inr ⟨b, clk, rfl, hw⟩⟩
  case h_3 => cases hx
theorem mapT_sound {t k e : TypeId} (hx : mapT P t = some (k, e)) : P.underlying t = some (.map k e) ∧ P.underlying k = some .string := by
  unfold mapT at hx
  split at hx
  case h_2 => cases hx
  rename_i h1
  split at hx
  case h_2 => cases hx
  rename_i h2
  injection hx with hx
  injection hx with hx hy
  subst hx hy
  exact ⟨h1, h2⟩
theorem aLookup_sound {t : TypeId} {x i : Operand} {ok : Bool} {s : Slot} (R : Rel g w h) (F : FR lt g w base lb fr a) (hx : aLookup P fr h t x i ok = some s) :
    ∃ v, (Instr.lookup t (a.eval x) (a.eval i) ok).run P w = .ok v w ∧ VS g w lb s v := by
  unfold aLookup at hx
  split at hx
  case h_2 => cases hx
  rename_i kt et es k ht he ei
  split at hx
  case h_2 => cases hx
  rename_i r hr
  obtain ⟨hu, hk⟩ := mapT_sound ht
  obtain ⟨ms, hl, hv, hm⟩ := aEntries_sound R F he
  have vi := F.ev_v ei
  generalize a.eval i = pi at vi
  cases vi with
  | str kb =>
    obtain ⟨q, hq, hq2⟩ := findNow_sound (ms := ms.toList) (by simpa using hl) (fun i hi => by simpa using hv i hi) hr 0
    have hf : (Instr.findKey kt (.string kb) ms.toList).run P w = .ok q w := by
      simp only [Instr.findKey, Sem.run_bind, run_underlying hk, Result.andThen_ok, hq, Sem.run_pure]
    have hgo : ∀ (v : Value) (o : Bool), (match q with
        | some (_, v) => (pure (v, true) : Sem (Value × Bool))
        | none => do pure (← zeroValue et, false)).run P w = .ok (v, o) w →
        (Instr.lookup t (a.eval x) (.string kb) ok).run P w = .ok (if ok then .tuple #[v, .bool o] else v) w := by
      intro v o hq3
      rcases hm with ⟨h1, h2⟩ | ⟨b, clk, h1, h2⟩
      · subst h2
        simp only [Instr.lookup, Sem.run_bind, run_underlying hu, Result.andThen_ok, h1, Sem.run_pure, checkKey_str hk]
        rw [hf]
        cases q with
        | none => simp only [Sem.run_bind, Sem.run_pure] at hq3; simp only [Result.andThen_ok, Sem.run_bind, Sem.run_pure]; revert hq3; cases (zeroValue et).run P w with
          | ok z w' => simp; rintro rfl rfl rfl; simp
          | halt => simp
        | some q => obtain ⟨q1, q2⟩ := q; simp only [Sem.run_pure] at hq3; injection hq3 with h3 h4; injection h3 with h3 h5; subst h3 h5; simp
      · simp only [Instr.lookup, Sem.run_bind, run_underlying hu, Result.andThen_ok, h1, getObj, Sem.run, h2, Sem.run_pure, checkKey_str hk]
        rw [hf]
        cases q with
        | none => simp only [Sem.run_bind, Sem.run_pure] at hq3; simp only [Result.andThen_ok, Sem.run_bind, Sem.run_pure]; revert hq3; cases (zeroValue et).run P w with
          | ok z w' => simp; rintro rfl rfl rfl; simp
          | halt => simp
        | some q => obtain ⟨q1, q2⟩ := q; simp only [Sem.run_pure] at hq3; injection hq3 with h3 h4; injection h3 with h3 h5; subst h3 h5; simp
    cases r with
    | some y =>
      obtain ⟨j, v, h1, h2, _⟩ := hq2
      subst h1
      refine ⟨_, hgo v true rfl, ?_⟩
      simp only [lookR] at hx
      cases ok <;> simp only [] at hx <;> injection hx with hx <;> subst hx
      · exact h2
      · exact VR.tup2 h2 (.bool true)
    | none =>
      simp only [] at hq2
      subst hq2
      cases hz : zeroA P et with
      | none => simp only [lookR, hz] at hx; cases ok <;> cases hx
      | some z =>
        obtain ⟨z', h1, h2⟩ := run_zeroA (w := w) hz
        refine ⟨_, hgo z' false (by simp [h1]), ?_⟩
        simp only [lookR, hz] at hx
        cases ok <;> simp only [] at hx <;> injection hx with hx <;> subst hx
        · exact h2 g w
        · exact VR.tup2 (h2 g w) (.bool false)
def AV.len (h : AH) : AV → Option Nat
  | .str s => some s.length
  | .vec _ _ es => some es.length
  | .sl _ _ n _ _ => some n
  | .nilsl => some 0
  | .nilm => some 0
  | .map o => match h.get o with
    | some (.map es) => some es.length
    | _ => none
  | _ => none
def lenT (P : Program) (t : TypeId) : Option Nat :=
  match P.underlying t with
  | some .string => some 0
  | some (.slice _) => some 1
  | some (.map _ _) => some 2
  | _ => none
def AV.lenT : AV → Nat
  | .str _ => 0
  | .vec _ _ _ => 1
  | .sl _ _ _ _ _ => 1
  | .nilsl => 1
  | .nilm => 2
  | .map _ => 2
  | _ => 3
def aLen (P : Program) (fr : AFr) (h : AH) (t : TypeId) (x : Operand) : Option Slot :=
  match fr.ev x with
  | .v y => match Am.lenT P t with
    | some k => match Nat.beq k y.lenT with
      | true => match y.len h with
        | some n => some (.v (.int .i64 (n : Int)))
        | none => none
      | false => none
    | none => none
  | _ => none
theorem aLen_sound {t ty : TypeId} {x : Operand} {s : Slot} (R : Rel g w h) (F : FR lt g w base lb fr a) (hx : aLen P fr h t x = some s) :
    ∃ v, (Builtin.len_ #[t] ty #[a.eval x]).run P w = .ok v w ∧ VS g w lb s v := by
  unfold aLen at hx
  split at hx
  case h_2 => cases hx
  rename_i y e
  split at hx
  case h_2 => cases hx
  rename_i k hk
  split at hx
  case h_2 => cases hx
  rename_i hb
  split at hx
  case h_2 => cases hx
  rename_i n hn
  injection hx with hx
  subst hx
  have hb := Nat.eq_of_beq_eq_true hb
  subst hb
  have v1 := F.ev_v e
  refine ⟨.int .i64 n, ?_, .int _ _⟩
  generalize a.eval x = p at v1
  have hm : ∀ k, Am.lenT P t = some k → (k = 0 ∧ P.underlying t = some .string) ∨ (k = 1 ∧ ∃ e, P.underlying t = some (.slice e)) ∨ (k = 2 ∧ ∃ e f, P.underlying t = some (.map e f)) := by
    intro k hk
    unfold Am.lenT at hk
    split at hk <;> (try cases hk)
    · rename_i hu; exact .inl ⟨rfl, hu⟩
    · rename_i e hu; exact .inr (.inl ⟨rfl, e, hu⟩)
    · rename_i e f hu; exact .inr (.inr ⟨rfl, e, f, hu⟩)
  have hm := hm _ hk
  cases v1 <;> simp only [AV.len] at hn <;> (try cases hn) <;> simp only [AV.lenT] at hm
  case h_1.str.refl s =>
    rcases hm with ⟨_, hu⟩ | ⟨h1, _⟩ | ⟨h1, _⟩
    · simp [Builtin.len_, run_underlying hu, goInt]
    · cases h1
    · cases h1
  case h_1.nilsl.refl =>
    rcases hm with ⟨h1, _⟩ | ⟨_, e, hu⟩ | ⟨h1, _⟩
    · cases h1
    · simp [Builtin.len_, run_underlying hu, goInt]
    · cases h1
  case h_1.vec.refl =>
    rcases hm with ⟨h1, _⟩ | ⟨_, e, hu⟩ | ⟨h1, _⟩
    · cases h1
    · simp [Builtin.len_, run_underlying hu, goInt]
    · cases h1
  case h_1.sl.refl =>
    rcases hm with ⟨h1, _⟩ | ⟨_, e, hu⟩ | ⟨h1, _⟩
    · cases h1
    · simp [Builtin.len_, run_underlying hu, goInt]
    · cases h1
  case h_1.nilm.refl =>
    rcases hm with ⟨h1, _⟩ | ⟨h1, _⟩ | ⟨_, e, f, hu⟩
    · cases h1
    · cases h1
    · simp [Builtin.len_, run_underlying hu, goInt]
  case h_1.map o b hbo =>
    rcases hm with ⟨h1, _⟩ | ⟨h1, _⟩ | ⟨_, e, f, hu⟩
    · cases h1
    · cases h1
    · split at hn
      case h_2 => cases hn
      rename_i es hg
      injection hn with hn
      subst hn
      obtain ⟨b', hb', ms, clk, hw, ⟨hs, _⟩, hv⟩ := R.obj _ _ hg
      rw [hbo] at hb'; injection hb' with hb'; subst hb'
      simp [Builtin.len_, run_underlying hu, goInt, getObj, Sem.run, hw, hs]
def aCap (P : Program) (fr : AFr) (t : TypeId) (x : Operand) : Option Slot :=
  match P.underlying t with
  | some (.slice _) => match fr.ev x with
    | .v (.sl _ _ _ c true) => some (.v (.int .i64 (c : Int)))
    | .v .nilsl => some (.v (.int .i64 0))
    | _ => none
  | _ => none
theorem aCap_sound {t ty : TypeId} {x : Operand} {s : Slot} (F : FR lt g w base lb fr a) (hx : aCap P fr t x = some s) :
    ∃ v, (Builtin.cap_ #[t] ty #[a.eval x]).run P w = .ok v w ∧ VS g w lb s v := by
  unfold aCap at hx
  split at hx
  case h_2 => cases hx
  rename_i e hu
  split at hx
  case h_3 => cases hx
  case h_1 o off n c he =>
    injection hx with hx; subst hx
    have v1 := F.ev_v he
    generalize a.eval x = p at v1
    cases v1 with
    | sl _ _ _ _ _ b rc hb hs hn hrc hex hcap =>
      have := hex rfl
      subst this
      exact ⟨.int .i64 rc, by simp [Builtin.cap_, run_underlying hu, goInt], .int _ _⟩
  case h_2 he =>
    injection hx with hx; subst hx
    have v1 := F.ev_v he
    generalize a.eval x = p at v1
    cases v1
    exact ⟨.int .i64 0, by simp [Builtin.cap_, run_underlying hu, goInt], .int _ _⟩
def aMin (fr : AFr) (x y : Operand) : Option Slot :=
  match fr.ev x, fr.ev y with
  | .v (.int k m), .v (.int _ n) => some (.v (.int k (if n < m then n else m)))
  | _, _ => none
theorem aMin_sound {ty : TypeId} {ts : Array TypeId} {x y : Operand} {s : Slot} (F : FR lt g w base lb fr a) (hx : aMin fr x y = some s) :
    ∃ v, (Builtin.min_ ts ty #[a.eval x, a.eval y]).run P w = .ok v w ∧ VS g w lb s v := by
  unfold aMin at hx
  split at hx
  case h_2 => cases hx
  rename_i k m k' n e1 e2
  injection hx with hx
  subst hx
  have v1 := F.ev_v e1
  have v2 := F.ev_v e2
  generalize a.eval x = p at v1
  generalize a.eval y = q at v2
  cases v1; cases v2
  exact ⟨_, by simp [Builtin.min_, Builtin.min2], .int _ _⟩
def Slot.nf : Slot → Option Slot
  | .v x => some (.v x)
  | .lp d off => some (.lp d off)
  | .junk => some .junk
theorem Slot.nf_eq {s r : Slot} (h : s.nf = some r) : r = s := by
  cases s <;> simp only [Slot.nf] at h <;> injection h with h <;> exact h.symm
def aPick (fr : AFr) (c x y : Operand) : Option Slot :=
  match fr.ev c with
  | .v (.bool b) =>
    match fr.ev x, fr.ev y with
    | .v (.bool p), .v (.bool q) => some (.v (.bool (bif b then p else q)))
    | s, s' => match b with
      | true => s.nf
      | false => s'.nf
  | _ => none
theorem aPick_sound {c x y : Operand} {s : Slot} (F : FR lt g w base lb fr a) (hx : aPick fr c x y = some s) :
    ∃ v, (do pure (Next.value (if ← asBool (a.eval c) then a.eval x else a.eval y)) : Sem Next).run P w = .ok (.value v) w ∧ VS g w lb s v := by
  unfold aPick at hx
  split at hx
  case h_2 => cases hx
  rename_i b e
  have v1 := F.ev_v e
  generalize a.eval c = p0 at v1
  cases v1
  split at hx
  case h_1 p q e1 e2 =>
    injection hx with hx
    subst hx
    have v2 := F.ev_v e1
    have v3 := F.ev_v e2
    generalize a.eval x = p1 at v2
    generalize a.eval y = p2 at v3
    cases v2; cases v3
    exact ⟨_, rfl, by cases b <;> exact .bool _⟩
  case h_2 =>
    have h1 := F.ev x
    have h2 := F.ev y
    cases b <;> simp only [] at hx <;> have hx := Slot.nf_eq hx <;> subst hx
    · exact ⟨_, rfl, h2⟩
    · exact ⟨_, rfl, h1⟩
end
end Go.Am
end
section
set_option linter.unusedVariables false
set_option linter.unusedSimpArgs false
namespace Go.Am
def setAt : Nat → List AV → List AV → List AV
  | _, [], l => l
  | _, _, [] => []
  | 0, c :: cs, _ :: l => c :: setAt 0 cs l
  | n + 1, cs, x :: l => x :: setAt n cs l
def setAtO : Nat → List AV → List AV → Option (List AV)
  | _, [], l => some l
  | _, _ :: _, [] => none
  | 0, [c], _ :: l => some (c :: l)
  | 0, c :: d :: cs, _ :: l => match setAtO 0 (d :: cs) l with
    | some r => some (c :: r)
    | none => none
  | n + 1, c :: cs, x :: l => match setAtO n (c :: cs) l with
    | some r => some (x :: r)
    | none => none
theorem setAtO_eq {n : Nat} {cs l r : List AV} (h : setAtO n cs l = some r) : r = setAt n cs l := by
  induction l generalizing n cs r with
  | nil => cases cs <;> cases n <;> simp [setAtO] at h <;> simp [setAt, h]
  | cons x l ih =>
    cases cs with
    | nil => cases n <;> (simp only [setAtO] at h; injection h with h; subst h; rfl)
    | cons c cs =>
      cases n with
      | zero =>
        cases cs with
        | nil => simp only [setAtO] at h; injection h with h; subst h; cases l <;> rfl
        | cons d cs =>
          simp only [setAtO] at h
          split at h
          case h_2 => cases h
          rename_i r' hr
          injection h with h; subst h
          rw [ih hr]; rfl
      | succ n =>
        simp only [setAtO] at h
        split at h
        case h_2 => cases h
        rename_i r' hr
        injection h with h; subst h
        rw [ih hr]; rfl
theorem setAt_length (n : Nat) (cs l : List AV) : (setAt n cs l).length = l.length := by
  induction l generalizing n cs with
  | nil => cases cs <;> cases n <;> rfl
  | cons x l ih => cases cs <;> cases n <;> simp [setAt, ih]
theorem setAt_get (n : Nat) (cs l : List AV) (i : Nat) (hi : i < l.length) :
    (setAt n cs l)[i]'(by rw [setAt_length]; exact hi) = if h : n ≤ i ∧ i < n + cs.length then cs[i - n]'(by omega) else l[i] := by
  induction l generalizing n cs i with
  | nil => simp at hi
  | cons x l ih =>
    cases cs with
    | nil => rw [dif_neg (by simp; try omega)]; simp [setAt]
    | cons c cs =>
      cases n with
      | zero =>
        cases i with
        | zero => simp [setAt]
        | succ i =>
          simp only [setAt, List.getElem_cons_succ]
          rw [ih 0 cs i (by simpa using hi)]
          by_cases h : i < cs.length
          · simp [h]
          · simp [h]
      | succ n =>
        cases i with
        | zero => simp [setAt]
        | succ i =>
          simp only [setAt, List.getElem_cons_succ]
          rw [ih n (c :: cs) i (by simpa using hi)]
          by_cases h : n ≤ i ∧ i < n + (c :: cs).length
          · rw [dif_pos h, dif_pos (by constructor <;> omega)]
            congr 1; omega
          · rw [dif_neg h, dif_neg (by rintro ⟨h1, h2⟩; exact h ⟨by omega, by omega⟩)]
section
variable {g : Gh} {w : World}
theorem VRc.at_i {cs : List AV} {vs : Array Value} (r : VRc g w cs vs) {i : Nat} (hi : i < cs.length) : VR g w cs[i] (vs.getD i undef) ∧ (vs.getD i undef).oneCell' = true := ⟨r.1.2 i hi, r.2 i hi⟩
theorem VRc.setAt {cs ds : List AV} {vs us ws : Array Value} {n : Nat} (r : VRc g w cs vs) (s : VRc g w ds us) (hn : n + ds.length ≤ cs.length) (hz : ws.size = vs.size)
    (hw : ∀ i, i < vs.size → ws.getD i undef = if n ≤ i ∧ i < n + us.size then us.getD (i - n) undef else vs.getD i undef) : VRc g w (setAt n ds cs) ws := by
  have hl := setAt_length n ds cs
  have hd := s.1.1
  have hc := r.1.1
  refine ⟨⟨by rw [hz, hc, hl], fun i hi => ?_⟩, fun i hi => ?_⟩
  · rw [hl] at hi
    rw [setAt_get n ds cs i hi, hw i (by omega)]
    by_cases h : n ≤ i ∧ i < n + ds.length
    · rw [dif_pos h, if_pos (by omega)]
      exact s.1.2 _ (by omega)
    · rw [dif_neg h, if_neg (by omega)]
      exact r.1.2 i hi
  · rw [hl] at hi
    rw [hw i (by omega)]
    by_cases h : n ≤ i ∧ i < n + ds.length
    · rw [if_pos (by omega)]; exact s.2 _ (by omega)
    · rw [if_neg (by omega)]; exact r.2 i hi
end
theorem fold_set (off : Nat) (vs : List Value) : ∀ (k : Nat) (arr : Array Value), let ws := ((vs.zipIdx k).foldl (fun (cs : Array Value) (p : Value × Nat) => cs.setIfInBounds (off + p.2) p.1) arr);
    ws.size = arr.size ∧ ∀ i, i < arr.size → ws.getD i undef = if off + k ≤ i ∧ i < off + k + vs.length then vs.getD (i - (off + k)) undef else arr.getD i undef := by
  induction vs with
  | nil => intro k arr; exact ⟨rfl, fun i hi => by rw [if_neg (by simp only [List.length_nil]; omega)]; rfl⟩
  | cons v vs ih =>
    intro k arr
    obtain ⟨h1, h2⟩ := ih (k + 1) (arr.setIfInBounds (off + k) v)
    refine ⟨by simpa using h1, fun i hi => ?_⟩
    have := h2 i (by simpa using hi)
    simp only [List.zipIdx_cons, List.foldl_cons]
    rw [this]
    by_cases h : off + k ≤ i ∧ i < off + k + (v :: vs).length
    · rw [if_pos h]
      by_cases h' : i = off + k
      · subst h'
        rw [if_neg (by omega)]
        simp [Array.getD_eq_getD_getElem?, Array.getElem?_setIfInBounds, hi]
      · rw [if_pos (by simp at h; constructor <;> omega)]
        rw [show i - (off + k) = (i - (off + (k + 1))) + 1 by omega]
        simp
    · rw [if_neg h, if_neg (by simp at h; rintro ⟨h3, h4⟩; exact absurd (h (by omega)) (by omega))]
      have : off + k ≠ i := by simp at h; intro e; exact absurd (h (by omega)) (by omega)
      simp [Array.getD_eq_getD_getElem?, Array.getElem?_setIfInBounds, this]
def aFill (fr : AFr) (pl : Nat → Option (Nat × Nat)) (cells : List AV) : List (Nat × Operand) → Option (List AV)
  | [] => some cells
  | (i, x) :: r =>
    match pl i, fr.ev x with
    | some (off, size), .v y => match y.cells with
      | some cs => match Nat.beq cs.length size, Nat.ble (off + cs.length) cells.length with
        | true, true => aFill fr pl (setAt off cs cells) r
        | _, _ => none
      | none => none
    | _, _ => none
section
variable {P : Program} {lt : LT} {g : Gh} {w : World} {h : AH} {base : Nat} {lb : Nat → Option Nat} {fr : AFr} {a : Act}
theorem aFill_sound {pl : Nat → Option (Nat × Nat)} {parts : List (Nat × Operand)} {cells r : List AV} (F : FR lt g w base lb fr a) (hx : aFill fr pl cells parts = some r) {arr : Array Value} (ha : VRc g w cells arr) :
    ∃ arr', Instr.fill pl arr (parts.map fun p => (p.1, a.eval p.2)) = some arr' ∧ VRc g w r arr' := by
  induction parts generalizing cells arr with
  | nil => simp only [aFill] at hx; injection hx with hx; subst hx; exact ⟨arr, rfl, ha⟩
  | cons p parts ih =>
    obtain ⟨i, x⟩ := p
    simp only [aFill] at hx
    split at hx
    case h_2 => cases hx
    rename_i off size y hp e
    split at hx
    case h_2 => cases hx
    rename_i cs hcs
    split at hx
    case h_2 => cases hx
    rename_i h1 h2
    have h1 := Nat.eq_of_beq_eq_true h1
    have h2 := Nat.le_of_ble_eq_true h2
    have hv := (F.ev_v e).cells hcs
    have hsz : (a.eval x).cells.size = size := by rw [hv.1.1, h1]
    simp only [List.map_cons, Instr.fill, hp]
    rw [if_neg (by rw [hsz, ha.1.1]; simp; omega)]
    have hfold : ((a.eval x).cells.zipIdx.foldl (fun cs x => match x with | (c, j) => cs.setIfInBounds (off + j) c) arr) =
        (((a.eval x).cells.toList.zipIdx 0).foldl (fun (cs : Array Value) (p : Value × Nat) => cs.setIfInBounds (off + p.2) p.1) arr) := by
      rw [← Array.foldl_toList, Array.toList_zipIdx]
    rw [hfold]
    obtain ⟨h3, h4⟩ := fold_set off (a.eval x).cells.toList 0 arr
    refine ih hx (ha.setAt hv h2 h3 fun i hi => ?_)
    have := h4 i hi
    rw [this]
    simp [Array.getD_eq_getD_getElem?]
def placesA (P : Program) : List Field → Option (List (Nat × Nat))
  | [] => some []
  | f :: r => match P.info? f.type with
    | some i => match placesA P r with
      | some l => some ((f.offset, i.size) :: l)
      | none => none
    | none => none
theorem placesA_sound {fs : List Field} {l : List (Nat × Nat)} (hx : placesA P fs = some l) : fs.mapM (fun f => (P.info? f.type).map fun i => (f.offset, i.size)) = some l := by
  induction fs generalizing l with
  | nil => simp only [placesA] at hx; injection hx with hx; subst hx; rfl
  | cons f r ih =>
    simp only [placesA] at hx
    split at hx
    case h_2 => cases hx
    rename_i i hi
    split at hx
    case h_2 => cases hx
    rename_i l' hl
    injection hx with hx
    subst hx
    simp [List.mapM_cons, hi, ih hl]
def aBuild (P : Program) (fr : AFr) (t : TypeId) (parts : Array (Nat × Operand)) : Option Slot :=
  match zeroA P t, P.underlying t with
  | some (.agg zs), some (.struct fields) => match placesA P fields.toList with
    | some pl => match aFill fr (fun i => pl[i]?) zs parts.toList with
      | some r => some (.v (.agg r))
      | none => none
    | none => none
  | _, _ => none
theorem zeroA_VR {t : TypeId} {x : AV} (hx : zeroA P t = some x) : ∃ i z, P.info? t = some i ∧ i.zero = some z ∧ ∀ g w, VR g w x z := by
  unfold zeroA at hx
  split at hx
  case h_2 => cases hx
  rename_i i hi
  split at hx
  case h_2 => cases hx
  rename_i z hz
  exact ⟨i, z, hi, hz, fun g w => cAV_sound hx⟩
theorem aBuild_sound {t : TypeId} {parts : Array (Nat × Operand)} {s : Slot} (F : FR lt g w base lb fr a) (hx : aBuild P fr t parts = some s) :
    ∃ v, (Instr.build t (parts.map fun (i, x) => (i, a.eval x))).run P w = .ok v w ∧ VS g w lb s v := by
  unfold aBuild at hx
  split at hx
  case h_2 => cases hx
  rename_i zs fields hz hu
  split at hx
  case h_2 => cases hx
  rename_i pl hpl
  split at hx
  case h_2 => cases hx
  rename_i r hr
  injection hx with hx
  subst hx
  obtain ⟨i, z, hi, hz, hv⟩ := zeroA_VR hz
  have hc := (hv g w).cells (cs := zs) rfl
  obtain ⟨arr, h1, h2⟩ := aFill_sound F hr hc
  refine ⟨.agg arr, run_build w t _ arr ?_, .agg _ _ h2.1.1 h2.1.2 h2.2⟩
  unfold Program.built
  simp only [hi, hu, hz, placesA_sound hpl]
  rw [← h1]
  congr 1
  · funext k; simp
  · simp
def aParts (fr : AFr) (size : Nat) : Nat → List (Nat × Operand) → Option (List (List AV))
  | _, [] => some []
  | k, (i, x) :: r =>
    match Nat.beq i k, fr.ev x with
    | true, .v y => match y.cells with
      | some cs => match Nat.beq cs.length size, aParts fr size (k + 1) r with
        | true, some l => some (cs :: l)
        | _, _ => none
      | none => none
    | _, _ => none
theorem aParts_sound {size : Nat} {parts : List (Nat × Operand)} {k : Nat} {l : List (List AV)} (F : FR lt g w base lb fr a) (hx : aParts fr size k parts = some l) (arr : Array Value) (hz : (k + parts.length) * size ≤ arr.size) :
    l.length = parts.length ∧ (∀ i (hi : i < l.length), l[i].length = size) ∧
    ∃ arr', Instr.fill (fun i => some (i * size, size)) arr (parts.map fun p => (p.1, a.eval p.2)) = some arr' ∧ arr'.size = arr.size ∧
      (∀ i, i < k * size → arr'.getD i undef = arr.getD i undef) ∧
      ∀ i (hi : i < l.length) j (hj : j < l[i].length), VR g w l[i][j] (arr'.getD ((k + i) * size + j) undef) ∧ (arr'.getD ((k + i) * size + j) undef).oneCell' = true := by
  induction parts generalizing k l arr with
  | nil => simp only [aParts] at hx; injection hx with hx; subst hx; exact ⟨rfl, fun i hi => by simp at hi, arr, rfl, rfl, fun _ _ => rfl, fun i hi => by simp at hi⟩
  | cons p parts ih =>
    obtain ⟨i, x⟩ := p
    simp only [aParts] at hx
    split at hx
    case h_2 => cases hx
    rename_i y hik e
    split at hx
    case h_2 => cases hx
    rename_i cs hcs
    split at hx
    case h_2 => cases hx
    rename_i l' h1 hl
    injection hx with hx
    subst hx
    have hik := Nat.eq_of_beq_eq_true hik
    subst hik
    have h1 := Nat.eq_of_beq_eq_true h1
    have hv := (F.ev_v e).cells hcs
    have hsz : (a.eval x).cells.size = size := by rw [hv.1.1, h1]
    have hmul : (i + 1 + parts.length) * size ≤ arr.size := by simpa [Nat.add_assoc, Nat.add_comm 1] using hz
    have hmul1 : (i + 1) * size ≤ arr.size := Nat.le_trans (Nat.mul_le_mul_right _ (by omega)) hmul
    have hmul2 : (i + 1) * size = i * size + size := Nat.succ_mul i size
    simp only [List.map_cons, Instr.fill]
    rw [if_neg (by rw [hsz]; simp; omega)]
    have hfold : ((a.eval x).cells.zipIdx.foldl (fun cs x => match x with | (c, j) => cs.setIfInBounds (i * size + j) c) arr) =
        (((a.eval x).cells.toList.zipIdx 0).foldl (fun (cs : Array Value) (p : Value × Nat) => cs.setIfInBounds (i * size + p.2) p.1) arr) := by
      rw [← Array.foldl_toList, Array.toList_zipIdx]
    rw [hfold]
    obtain ⟨h3, h4⟩ := fold_set (i * size) (a.eval x).cells.toList 0 arr
    generalize (((a.eval x).cells.toList.zipIdx 0).foldl (fun (cs : Array Value) (p : Value × Nat) => cs.setIfInBounds (i * size + p.2) p.1) arr) = arr1 at h3 h4
    obtain ⟨q1, q2, arr', q3, q4, q5, q6⟩ := ih hl arr1 (by rw [h3]; exact hmul)
    refine ⟨by simp [q1], fun j hj => ?_, arr', q3, q4.trans h3, fun j hj => ?_, fun j hj m hm => ?_⟩
    · cases j with
      | zero => exact h1
      | succ j => simpa using q2 j (by simpa using hj)
    · rw [q5 j (by omega), h4 j (by omega), if_neg (by omega)]
    · cases j with
      | zero =>
        have hm' : m < cs.length := hm
        simp only [Nat.add_zero, List.getElem_cons_zero]
        rw [q5 _ (by omega), h4 _ (by omega), if_pos (by simp [hsz]; omega)]
        have := hv.at_i hm'
        simpa [Array.getD_eq_getD_getElem?] using this
      | succ j =>
        have hj' : j < l'.length := by simpa using hj
        have := q6 j hj' m (by simpa using hm)
        rw [show i + (j + 1) = i + 1 + j by omega]
        simpa using this
end
end Go.Am
end
section
set_option linter.unusedVariables false
set_option linter.unusedSimpArgs false
namespace Go.Am
theorem beq_false_of_ne {m n : Nat} (h : m ≠ n) : Nat.beq m n = false := by
  cases hq : Nat.beq m n with
  | false => rfl
  | true => exact absurd (Nat.eq_of_beq_eq_true hq) h
def AFr.putD (fr : AFr) (d : Tmp) (s : Slot) : AFr := { fr with f := fun k => match Nat.beq k d with
      | true => s
      | false => fr.f k }
def AFr.put (fr : AFr) (dst : Option Tmp) (s : Slot) : AFr :=
  match dst with
  | none => fr
  | some d => fr.putD d s
def AFr.junk (fr : AFr) (l : List Nat) : AFr :=
  match l with
  | [] => fr
  | _ => { fr with f := fun k => match l.contains k with
      | true => .junk
      | false => fr.f k }
def AFr.setLoc (fr : AFr) (d : Nat) (cs : List AV) : AFr := { fr with loc := fun k => match Nat.beq k d with
      | true => cs
      | false => fr.loc k }
def slotOK (lt : LT) (dst : Option Tmp) (s : Slot) : Bool :=
  match s with
  | .lp d _ => match dst with
    | some k => lt.mayHold d k
    | none => true
  | _ => true
section
variable {P : Program} {lt : LT} {g : Gh} {w : World} {h : AH} {base : Nat} {lb : Nat → Option Nat} {fr : AFr} {a : Act}
theorem FR.put (F : FR lt g w base lb fr a) {dst : Option Tmp} {s : Slot} {v : Value} (hv : VS g w lb s v) (hs : slotOK lt dst s = true) : FR lt g w base lb (fr.put dst s) (a.put dst v) := by
  cases dst with
  | none => exact F
  | some d =>
    refine ⟨F.defers, by simp only [Act.put, AFr.put, AFr.putD, Array.size_setIfInBounds]; exact F.size, fun k hk => ?_, fun k d' off e => ?_, F.lbi, F.lbo⟩
    · simp only [AFr.put, AFr.putD] at hk ⊢
      split
      · rename_i hb
        have hb := Nat.eq_of_beq_eq_true hb
        subst hb
        have : k < a.tmps.size := by rw [F.size]; exact hk
        have e : (a.put (some k) v).tmps.getD k undef = v := by simp [Act.put, Array.getD_eq_getD_getElem?, Array.getElem?_setIfInBounds, this]
        rw [e]; exact hv
      · rename_i hb
        have hb : k ≠ d := Nat.ne_of_beq_eq_false hb
        have e : (a.put (some d) v).tmps.getD k undef = a.tmps.getD k undef := by simp [Act.put, Array.getD_eq_getD_getElem?, Array.getElem?_setIfInBounds, Ne.symm hb]
        rw [e]; exact F.slot k hk
    · simp only [AFr.put, AFr.putD] at e
      split at e
      · rename_i hb
        have hb := Nat.eq_of_beq_eq_true hb
        subst hb
        subst e
        exact hs
      · exact F.hold k d' off e
theorem new_ob {cs : List AV} {vs : Array Value} {T : TypeId} (R : Rel g w h) (hv : VRc g w cs vs) :
    ∃ g', Ev g w g' (w.alloc (.cells vs T (0, 0))) ∧ Rel g' (w.alloc (.cells vs T (0, 0))) (h.push (.cells cs)) ∧ VR g' (w.alloc (.cells vs T (0, 0))) (.ptr h.n 0) (.pointer (some ⟨w.heap.size, 0, none⟩)) := by
  obtain ⟨E, R'⟩ := alloc_ob R (.cells vs T (0, 0)) (.cells cs) fun g' e => ⟨vs, T, by rw [heap_alloc]; simp, hv.mono e⟩
  exact ⟨_, E, R', .ptr _ _ _ (by simp [Gh.addOb])⟩
def AFr.newLoc (fr : AFr) (d : Nat) (l : List Nat) (cs : List AV) : AFr := ((fr.junk (d :: l)).setLoc d cs)
theorem LT.mayHold_has {d k : Nat} {l : List Nat} (hl : lt.has d = some l) (hm : lt.mayHold d k = true) : (d :: l).contains k = true := by
  induction lt with
  | nil => cases hl
  | cons p r ih =>
    obtain ⟨d', l'⟩ := p
    simp only [LT.has] at hl
    simp only [LT.mayHold] at hm
    by_cases hd : d' = d
    · rw [if_pos hd] at hl hm
      injection hl with hl
      subst hl
      simpa [List.contains_cons] using hm
    · rw [if_neg hd] at hl hm
      exact ih hl hm
theorem new_loc {cs : List AV} {vs : Array Value} {T : TypeId} {d : Nat} {l : List Nat} (hl : lt.has d = some l) (hb : base ≤ w.heap.size) (R : Rel g w h) (F : FR lt g w base lb fr a) (hv : VRc g w cs vs) :
    ∃ lb', Ev g w g (w.alloc (.cells vs T (0, 0))) ∧ Rel g (w.alloc (.cells vs T (0, 0))) h ∧ FR lt g (w.alloc (.cells vs T (0, 0))) base lb' (fr.newLoc d l cs) a ∧
      VS g (w.alloc (.cells vs T (0, 0))) lb' (.lp d 0) (.pointer (some ⟨w.heap.size, 0, none⟩)) := by
  obtain ⟨E, R'⟩ := alloc_free R (.cells vs T (0, 0))
  have F1 := F.mono E
  refine ⟨fun k => if k = d then some w.heap.size else lb k, E, R', ⟨F1.defers, F1.size, fun k hk => ?_, fun k d' off e => ?_, fun d1 d2 b e1 e2 => ?_, fun d' b e => ?_⟩, w.heap.size, by simp, rfl⟩
  · simp only [AFr.newLoc, AFr.setLoc, AFr.junk]
    split
    · trivial
    · rename_i hc
      have := F1.slot k hk
      generalize hsl : fr.f k = sl at this
      cases sl with
      | v x => exact this
      | junk => trivial
      | lp d' off =>
        obtain ⟨b, h1, h2⟩ := this
        refine ⟨b, ?_, h2⟩
        show (if d' = d then some w.heap.size else lb d') = some b
        rw [if_neg, h1]
        rintro rfl
        have := LT.mayHold_has hl (F.hold k d' off hsl)
        rw [this] at hc
        cases hc
  · simp only [AFr.newLoc, AFr.setLoc, AFr.junk] at e
    split at e
    · cases e
    · exact F.hold k d' off e
  · split at e1
    · rename_i h1
      injection e1 with e1
      subst e1
      split at e2
      · rename_i h2; rw [h1, h2]
      · have := (F.lbo _ _ e2).2.1; omega
    · split at e2
      · injection e2 with e2
        subst e2
        have := (F.lbo _ _ e1).2.1; omega
      · exact F.lbi _ _ _ e1 e2
  · simp only [AFr.newLoc, AFr.setLoc, AFr.junk]
    split at e
    · rename_i h1
      injection e with e
      subst e
      refine ⟨hb, by simp, R.ob_new, R.bl_new, R.ext_new, R.pv_new, vs, T, by rw [heap_alloc]; simp, ?_⟩
      rw [h1, show Nat.beq d d = true from Nat.beq_refl d]
      exact hv.mono E.toEvc
    · rename_i h1
      have := F1.lbo d' b e
      rw [beq_false_of_ne h1]
      exact this
def aAlloc (P : Program) (lt : LT) (fr : AFr) (h : AH) (dst : Option Tmp) (cs : Option (List AV)) : Option (Slot × AFr × AH) :=
  match dst, cs with
  | some d, some cs => match lt.has d with
    | some l => some (.lp d 0, fr.newLoc d l cs, h)
    | none => some (.v (.ptr h.n 0), fr, h.push (.cells cs))
  | _, _ => none
def zeroCs (P : Program) (t : TypeId) : Option (List AV) :=
  match zeroA P t with
  | some x => x.cells
  | none => none
def evCs (fr : AFr) (x : Operand) : Option (List AV) :=
  match fr.ev x with
  | .v y => y.cells
  | _ => none
def OpSound (P : Program) (lt : LT) (run : Act → Sem Next) (fr : AFr) (h : AH) (r : Slot × AFr × AH) : Prop :=
  ∀ (g0 : Gh) (w0 : World) (g : Gh) (w : World) (lb : Nat → Option Nat) (a : Act), Ev g0 w0 g w → Rel g w h → FR lt g w w0.heap.size lb fr a →
    ∃ n v g' w' lb', (run a).run P w = .ok n w' ∧ (n = .value v ∨ (n = .skip ∧ v = undef)) ∧ Ev g0 w0 g' w' ∧ Rel g' w' r.2.2 ∧ FR lt g' w' w0.heap.size lb' r.2.1 a ∧ VS g' w' lb' r.1 v
theorem aAlloc_sound {dst : Option Tmp} {cs : Option (List AV)} {r : Slot × AFr × AH} (hx : aAlloc P lt fr h dst cs = some r) (run : Act → Sem Next)
    (hr : ∀ cs', cs = some cs' → ∀ (g : Gh) (w : World) lb base a, FR lt g w base lb fr a → ∃ vs T, VRc g w cs' vs ∧ (run a).run P w = .ok (.value (.pointer (some ⟨w.heap.size, 0, none⟩))) (w.alloc (.cells vs T (0, 0)))) :
    OpSound P lt run fr h r := by
  intro g0 w0 g w lb a E0 R F
  unfold aAlloc at hx
  split at hx
  case h_2 => cases hx
  rename_i d cs'
  obtain ⟨vs, T, h1, h2⟩ := hr _ rfl g w lb _ a F
  split at hx
  · rename_i l hl
    injection hx with hx
    subst hx
    obtain ⟨lb', q1, q2, q3, q4⟩ := new_loc (T := T) hl E0.size R F h1
    exact ⟨_, _, g, _, lb', h2, .inl rfl, E0.trans q1, q2, q3, q4⟩
  · injection hx with hx
    subst hx
    obtain ⟨g', q1, q2, q3⟩ := new_ob (T := T) R h1
    exact ⟨_, _, g', _, lb, h2, .inl rfl, E0.trans q1, q2, F.mono q1, q3⟩
theorem zeroCs_run {t : TypeId} {cs : List AV} (hx : zeroCs P t = some cs) (g : Gh) (w : World) : ∃ z, (zeroValue t).run P w = .ok z w ∧ VRc g w cs z.cells := by
  unfold zeroCs at hx
  split at hx
  case h_2 => cases hx
  rename_i x hz
  obtain ⟨z, h1, h2⟩ := run_zeroA (w := w) hz
  exact ⟨z, h1, (h2 g w).cells hx⟩
theorem run_alloc_new (o : Oper) (t : TypeId) (ho : o.op = .alloc t) (ρ : Operand → Value) (z : Value) (w : World) (hz : (zeroValue t).run P w = .ok z w) :
    (execOp ρ o).run P w = .ok (.value (.pointer (some ⟨w.heap.size, 0, none⟩))) (w.alloc (.cells z.cells t (0, 0))) := by
  simp only [execOp, ho, Instr.alloc, Sem.run_bind, hz, Result.andThen_ok, newVar, newRow, run_newObj, Sem.run_pure]
  rfl
theorem run_box_new (o : Oper) (t : TypeId) (x : Operand) (ho : o.op = .box t x) (ρ : Operand → Value) (w : World) :
    (execOp ρ o).run P w = .ok (.value (.pointer (some ⟨w.heap.size, 0, none⟩))) (w.alloc (.cells (ρ x).cells t (0, 0))) := by
  simp only [execOp, ho, Instr.box, Sem.run_bind, Result.andThen_ok, newVar, newRow, run_newObj, Sem.run_pure]
  rfl
def aStore (P : Program) (fr : AFr) (h : AH) (t : TypeId) (x v : Operand) : Option (Slot × AFr × AH) :=
  match szT P t, evCs fr v with
  | some n, some cs => match Nat.beq cs.length n with
    | true => match fr.ev x with
      | .v (.ptr o off) => match h.get o with
        | some (.cells old) => match Nat.ble (off + cs.length) old.length, setAtO off cs old with
          | true, some r => some (.junk, fr, h.set o (.cells r))
          | _, _ => none
        | _ => none
      | .lp d off => match Nat.ble (off + cs.length) (fr.loc d).length, setAtO off cs (fr.loc d) with
        | true, some r => some (.junk, fr.setLoc d r, h)
        | _, _ => none
      | _ => none
    | false => none
  | _, _ => none
theorem setRow_put1 {b : Nat} {vs us : Array Value} {T : TypeId} (hw : w.heap[b]? = some (.cells vs T (0, 0))) : Put1 w (w.setRow b us) b (.cells us T (0, 0)) :=
  ⟨rfl, rfl, rfl, by simp, setRow_heap w b vs us T (0, 0) hw, fun k hk => by
    simp only [World.setRow, Array.getElem?_modify]; rw [if_neg (fun e => hk e.symm)]⟩
theorem run_store_at {t : TypeId} {n b off : Nat} {cs ds : List AV} {vs : Array Value} {T : TypeId} {v : Value} (hz : szT P t = some n) (hn : ds.length = n) (hw : w.heap[b]? = some (.cells vs T (0, 0)))
    (hc : VRc g w cs vs) (hv : VRc g w ds v.cells) (hfit : off + ds.length ≤ cs.length) :
    ∃ us, (storeVar t ⟨b, off, none⟩ v).run P w = .ok () (w.setRow b us) ∧ us.size = vs.size ∧ VRc g w (setAt off ds cs) us := by
  have hvs := hc.1.1
  have hds := hv.1.1
  have hs := run_storeCells_at (P := P) b off T v.cells.toList 0 vs w hw (by simp; omega) (fun u hu => by
    obtain ⟨i, hi, rfl⟩ := List.getElem_of_mem hu
    have hi' : i < v.cells.size := by simpa using hi
    have := hv.2 i (by omega)
    simpa [Array.getD_eq_getD_getElem?, hi'] using this)
  simp only [Nat.add_zero, Array.length_toList] at hs
  refine ⟨_, by simp only [storeVar, Sem.run_bind, run_sizeOf hz, Result.andThen_ok]; rw [if_neg (by rw [hds, hn]; simp)]; exact hs, ?_, ?_⟩
  · simp; omega
  · have hz' : (vs.toList.take off ++ v.cells.toList ++ vs.toList.drop (off + v.cells.size)).toArray.size = vs.size := by simp; omega
    refine hc.setAt hv hfit hz' fun i hi => ?_
    simp only [Array.getD_eq_getD_getElem?, List.getElem?_toArray, List.getElem?_append, List.length_append, List.length_take, Array.length_toList, List.getElem?_take, List.getElem?_drop, Array.getElem?_toList]
    have hm : min off vs.size = off := by omega
    rw [hm]
    by_cases h1 : i < off
    · rw [if_pos (by omega), if_pos h1, if_pos h1, if_neg (by omega)]
    · by_cases h2 : i < off + v.cells.size
      · rw [if_pos h2, if_neg h1, if_pos (by omega)]
      · rw [if_neg h2, if_neg (by omega)]
        congr 2
        omega
theorem FR.setLoc (F : FR lt g w base lb fr a) {w' : World} {g0 : Gh} {w0 : World} (hbase : base = w0.heap.size) {d b : Nat} {vs us : Array Value} {T : TypeId} {cs : List AV} (R : Rel g w h) (hd : lb d = some b) (hw : w.heap[b]? = some (.cells vs T (0, 0)))
    (p : Put1 w w' b (.cells us T (0, 0))) (hs : us.size = vs.size) (hv : VRc g w cs us) (E0 : Ev g0 w0 g w) : Ev g0 w0 g w' ∧ Rel g w' h ∧ FR lt g w' base lb (fr.setLoc d cs) a := by
  obtain ⟨h1, h2, h3, h4, h5, h8, _⟩ := F.lbo d b hd
  obtain ⟨E, R'⟩ := put_free R h3 h5 h8 hw p hs
  refine ⟨E0.free (hbase ▸ h1) p E, R', F.defers.mono E, F.size, fun k hk => (F.slot k hk).mono E, F.hold, F.lbi, fun d' b' e => ?_⟩
  obtain ⟨k1, k2, k3, k4, k5, k8, vs', T', k6, k7⟩ := F.lbo d' b' e
  refine ⟨k1, by rw [p.size]; exact k2, k3, k4, k5, k8, ?_⟩
  by_cases hd' : d' = d
  · subst hd'
    rw [hd] at e; injection e with e; subst e
    refine ⟨us, T, p.at_, ?_⟩
    simp only [AFr.setLoc, show Nat.beq d' d' = true from Nat.beq_refl _]
    exact hv.mono E
  · refine ⟨vs', T', ?_, ?_⟩
    · rw [p.other b' fun e' => hd' (F.lbi _ _ _ (e' ▸ e) hd)]
      exact k6
    · simp only [AFr.setLoc, beq_false_of_ne hd']
      exact k7.mono E
theorem aStore_sound {t : TypeId} {x v : Operand} {r : Slot × AFr × AH} (hx : aStore P fr h t x v = some r) (o : Oper) (ho : o.op = .store t x v) : OpSound P lt (fun a => execOp a.eval o) fr h r := by
  intro g0 w0 g w lb a E0 R F
  unfold aStore at hx
  split at hx
  case h_2 => cases hx
  rename_i n cs hz hcs
  split at hx
  case h_2 => cases hx
  rename_i hn
  have hn := Nat.eq_of_beq_eq_true hn
  have hvc : VRc g w cs (a.eval v).cells := by
    unfold evCs at hcs
    split at hcs
    case h_2 => cases hcs
    rename_i y ey
    exact (F.ev_v ey).cells hcs
  split at hx
  case h_3 => cases hx
  case h_1 oo off e =>
    split at hx
    case h_2 => cases hx
    rename_i old hg
    split at hx
    case h_2 => cases hx
    rename_i r hle hset
    have hset := setAtO_eq hset
    subst hset
    have hle := Nat.le_of_ble_eq_true hle
    injection hx with hx
    subst hx
    have v1 := F.ev_v e
    generalize hq : a.eval x = p at v1
    cases v1 with
    | ptr _ _ bk hb =>
      obtain ⟨b', hb', vs, T, hw, hc⟩ := R.obj _ _ hg
      rw [hb] at hb'; injection hb' with hb'; subst hb'
      obtain ⟨us, k1, k2, k3⟩ := run_store_at (P := P) hz hn hw hc hvc hle
      obtain ⟨E, R'⟩ := put_ob R hb (by rw [hg]; simp) hw (setRow_put1 hw) k2 k3
      refine ⟨.skip, undef, g, _, lb, ?_, .inr ⟨rfl, rfl⟩, E0.trans E, R', F.mono E, trivial⟩
      simp only [execOp, ho, Instr.storeAt, hq, Instr.sureAddr, Sem.run_bind, Sem.run_pure, Result.andThen_ok, k1]
  case h_2 d off e =>
    split at hx
    case h_2 => cases hx
    rename_i r hle hset
    have hset := setAtO_eq hset
    subst hset
    have hle := Nat.le_of_ble_eq_true hle
    injection hx with hx
    subst hx
    obtain ⟨bk, hb, hq⟩ := F.ev_lp e
    obtain ⟨h1, h2, h3, h4, h5, _, vs, T, hw, hc⟩ := F.lbo d bk hb
    obtain ⟨us, k1, k2, k3⟩ := run_store_at (P := P) hz hn hw hc hvc hle
    obtain ⟨E, R', F'⟩ := F.setLoc rfl R hb hw (setRow_put1 hw) k2 k3 E0
    refine ⟨.skip, undef, g, _, lb, ?_, .inr ⟨rfl, rfl⟩, E, R', F', trivial⟩
    simp only [execOp, ho, Instr.storeAt, hq, Instr.sureAddr, Sem.run_bind, Sem.run_pure, Result.andThen_ok, k1]
end
end Go.Am
end
section
set_option linter.unusedVariables false
set_option linter.unusedSimpArgs false
namespace Go.Am
section
variable {P : Program} {lt : LT} {g : Gh} {w : World} {h : AH} {base : Nat} {lb : Nat → Option Nat} {fr : AFr} {a : Act}
def aBuildSlice (P : Program) (fr : AFr) (t : TypeId) (len : Nat) (parts : Array (Nat × Operand)) : Option Slot :=
  match sliceT P t with
  | some e => match szT P e, zeroA P e with
    | some size, some _ => match Nat.beq parts.toList.length len, Nat.ble (len * (size + 1)) 16777216, aParts fr size 0 parts.toList with
      | true, true, some l => some (.v (.vec .full size l))
      | _, _, _ => none
    | _, _ => none
  | none => none
theorem aBuildSlice_sound {t : TypeId} {len : Nat} {parts : Array (Nat × Operand)} {s : Slot} (hx : aBuildSlice P fr t len parts = some s) (o : Oper) (ho : o.op = .buildSlice t len parts) :
    OpSound P lt (fun a => execOp a.eval o) fr h (s, fr, h) := by
  intro g0 w0 g w lb a E0 R F
  unfold aBuildSlice at hx
  split at hx
  case h_2 => cases hx
  rename_i e he
  split at hx
  case h_2 => cases hx
  rename_i size z hz hza
  split at hx
  case h_2 => cases hx
  rename_i l hlen hle hl
  injection hx with hx
  subst hx
  have hlen := Nat.eq_of_beq_eq_true hlen
  have hle := Nat.le_of_ble_eq_true hle
  rw [Nat.mul_succ] at hle
  unfold sliceT at he
  split at he
  case h_2 => cases he
  rename_i e' hu
  injection he with he
  subst he
  obtain ⟨zv, hzv, _⟩ := run_zeroA (w := w) hza
  let z0 : Array Value := if len * size = 0 then #[] else zv.cells
  let arr0 : Array Value := (Array.range (len * size)).map (z0[· % z0.size]!)
  have harr0 : arr0.size = len * size := by simp [arr0]
  obtain ⟨q1, q2, arr, q3, q4, q5, q6⟩ := aParts_sound F hl arr0 (by rw [harr0, Nat.zero_add, hlen]; exact Nat.le_refl _)
  have hsz : arr.size = len * size := by rw [q4, harr0]
  have hll : l.length = len := by rw [q1, hlen]
  subst hll
  obtain ⟨E, R'⟩ := alloc_ext R (.cells arr e' (0, 0)) (l.length * size) (fun _ => ⟨arr, e', (0, 0), rfl, by omega⟩)
  have hcell : ∀ i j, i < l.length → j < size → (w.alloc (.cells arr e' (0, 0))).cell? ((⟨w.heap.size, 0, none⟩ : Addr).add (i * size + j)) = some (arr.getD (i * size + j) undef) := by
    intro i j hi hj
    have h1 : i * size + j < (i + 1) * size := by rw [Nat.succ_mul]; omega
    have h2 : (i + 1) * size ≤ l.length * size := Nat.mul_le_mul_right _ (by omega)
    rw [add_mk]
    simp only [World.cell?, heap_alloc, if_true]
    simp [Array.getD_eq_getD_getElem?, Array.getElem?_eq_getElem (show i * size + j < arr.size by omega)]
  refine ⟨.value (.slice (some ⟨w.heap.size, 0, none⟩) l.length l.length), .slice (some ⟨w.heap.size, 0, none⟩) l.length l.length, _, w.alloc (.cells arr e' (0, 0)), lb, ?_, .inl rfl, E0.trans E, R', F.mono E, ?_⟩
  · simp only [execOp, ho, Instr.buildSlice, Sem.run_bind, run_underlying hu, Result.andThen_ok, run_sizeOf hz]
    rw [if_neg (by omega)]
    have hfill : Instr.fill (fun i => some (i * size, size)) ((Array.range (l.length * size)).map (z0[· % z0.size]!)) (parts.map fun (i, x) => (i, a.eval x)).toList = some arr := by
      rw [← q3]; congr 1; simp
    by_cases h0 : l.length * size = 0
    · have hz1 : z0 = #[] := by simp only [z0, if_pos h0]
      rw [hz1] at hfill
      simp only [h0, if_true, Sem.run_bind, Sem.run_pure, Result.andThen_ok]
      rw [h0] at hfill
      rw [hfill]
      simp [newRow]
    · have hz1 : z0 = zv.cells := by simp only [z0, if_neg h0]
      rw [hz1] at hfill
      simp only [h0, if_false, Sem.run_bind, hzv, Sem.run_pure, Result.andThen_ok]
      rw [hfill]
      simp [newRow]
  · refine .vec .full size l ⟨w.heap.size, 0, none⟩ l.length (fun i j => arr.getD (i * size + j) undef) q2 hcell (fun i j hi hj => ?_) (fun i j hi hj => ?_) (fun i j hi hj => ?_) (Nat.le_refl _) (by omega) rfl (fun _ => ⟨arr, e', _, by rw [heap_alloc, if_pos rfl]⟩)
    · have := (q6 i hi j hj).1
      rw [Nat.zero_add] at this
      exact this.mono E.toEvc
    · have := (q6 i hi j (by rw [q2 i hi]; exact hj)).2
      rw [Nat.zero_add] at this
      exact this
    · have h1 : i * size + j < (i + 1) * size := by rw [Nat.succ_mul]; omega
      have h2 : (i + 1) * size ≤ l.length * size := Nat.mul_le_mul_right _ (by omega)
      rw [add_mk]
      simp only [Gh.xt, if_true]
      omega
end
end Go.Am
end
section
set_option linter.unusedVariables false
set_option linter.unusedSimpArgs false
namespace Go.Am
def AH.newLin (h : AH) : AH := { h with nt := h.nt + 1, tip := fun l => match Nat.beq l h.nt with
  | true => 0
  | false => h.tip l }
def AH.bump (h : AH) (lin : Nat) : AH := { h with tip := fun l => match Nat.beq l lin with
  | true => h.tip lin + 1
  | false => h.tip l }
def Gh.grow (g : Gh) (lin v nl b n : Nat) : Gh :=
  { g with
    bl := fun k => if k = b then some lin else g.bl k
    tb := fun l => if l = lin then b else g.tb l
    ext := fun k => if k = b then n else g.ext k
    cur := fun l => if l = lin then v else g.cur l
    va := fun l u => if l = lin ∧ u = v then some ⟨b, 0, none⟩ else g.va l u
    nl := nl }
def Gh.more (g : Gh) (lin b n : Nat) (ad : Addr) : Gh :=
  { g with
    ext := fun k => if k = b then n else g.ext k
    cur := fun l => if l = lin then g.cur lin + 1 else g.cur l
    va := fun l u => if l = lin ∧ u = g.cur lin + 1 then some ad else g.va l u }
section
variable {P : Program} {lt : LT} {g : Gh} {w : World} {h : AH} {base : Nat} {lb : Nat → Option Nat} {fr : AFr} {a : Act}
theorem beq_self (n : Nat) : Nat.beq n n = true := Nat.beq_refl n
theorem grow_lin (R : Rel g w h) {lin v nl : Nat} {h' : AH} (hc : (lin = g.nl ∧ v = 0 ∧ nl = g.nl + 1 ∧ h' = h.newLin) ∨ (lin < g.nl ∧ v = g.cur lin + 1 ∧ nl = g.nl ∧ h' = h.bump lin))
    {w' : World} {c : Array Value} {T : TypeId} {n : Nat} (hw : w'.heap = w.heap.push (.cells c T (0, 0))) (hos : w'.os = w.os) (htp : w'.tape = w.tape) (hout : w'.output = w.output) (hn : n ≤ c.size) :
    Ev g w (g.grow lin v nl w.heap.size n) w' ∧ Rel (g.grow lin v nl w.heap.size n) w' h' := by
  have hh : ∀ b, w'.heap[b]? = if b = w.heap.size then some (.cells c T (0, 0)) else w.heap[b]? := fun b => by rw [hw, Array.getElem?_push]
  have old : ∀ b, b < w.heap.size → w'.heap[b]? = w.heap[b]? := fun b hb => by rw [hh, if_neg (by omega)]
  have hnl : g.nl ≤ nl := by rcases hc with ⟨_, _, h3, _⟩ | ⟨_, _, h3, _⟩ <;> omega
  have hlin : lin < nl := by rcases hc with ⟨h1, _, h3, _⟩ | ⟨h1, _, h3, _⟩ <;> omega
  have hcl : lin < g.nl → v = g.cur lin + 1 := fun h1 => by rcases hc with ⟨h2, _⟩ | ⟨_, h2, _⟩ <;> omega
  have hh1 : h'.n = h.n ∧ h'.get = h.get ∧ nl = h'.nt ∧ h'.tabs = h.tabs := by
    rcases hc with ⟨_, _, h3, rfl⟩ | ⟨_, _, h3, rfl⟩
    · exact ⟨rfl, rfl, by rw [h3, R.nt]; rfl, rfl⟩
    · exact ⟨rfl, rfl, by rw [h3, R.nt]; rfl, rfl⟩
  have E : Ev g w (g.grow lin v nl w.heap.size n) w' := by
    refine ⟨⟨hos, htp, hout, by simp [hw], fun _ _ e => e, fun _ _ e => .inl ⟨_, e⟩, fun b l e => ?_, fun b l e => ?_, fun l u ad e => ?_, fun ad e => ?_, hnl, fun l hl => ?_, fun l hl e => ?_, fun b c' T' fz e => ⟨c', ?_, rfl⟩, fun _ _ e => e, fun _ _ e => .inl e⟩, fun b hb _ _ _ => ⟨old b hb, ?_⟩⟩
    · have := (R.bll _ _ e).2
      simp only [Gh.grow]; rw [if_neg (by omega)]; exact e
    · simp only [Gh.grow] at e
      split at e
      · exact .inr (by omega)
      · exact .inl e
    · obtain ⟨h1, h2⟩ := R.vac _ _ _ e
      simp only [Gh.grow]
      rw [if_neg]
      · exact e
      · rintro ⟨rfl, rfl⟩
        have := hcl h1; omega
    · have := R.ext_lt (b := ad.block) (by omega)
      exact ⟨by simp only [Gh.grow]; rw [if_neg (by omega)]; exact e, cell_congr (old _ this)⟩
    · simp only [Gh.grow]
      split
      · rename_i h1; subst h1; have := hcl hl; omega
      · exact Nat.le_refl _
    · have ht := R.tb_lt hl
      simp only [Gh.grow] at e ⊢
      split at e
      · rename_i h1; subst h1; have := hcl hl; omega
      · rename_i h1
        rw [if_neg h1]
        exact ⟨rfl, by rw [if_neg (by omega)]⟩
    · rw [old _ (heap_lt e)]; exact e
    · simp only [Gh.grow]; rw [if_neg (by omega)]
  refine ⟨E, fun o b e => ?_, hh1.2.1 ▸ R.obi, fun o b e => hh1.1 ▸ R.obd o b e, fun o x e => ?_, fun o b e => ?_, hh1.2.2.1, fun l hl => ?_, fun b l e => ?_, fun l hl => ?_, fun l u ad e => ?_, fun b e => ?_, fun k b e => ?_, R.tab_mono E.toEvc hh1.2.2.2⟩
  · obtain ⟨h1, h2, h3⟩ := R.obl o b e
    refine ⟨by rw [hw]; simp; omega, fun hf hf' => ?_, ?_⟩
    · simp only [Gh.grow]; rw [if_neg (by omega)]; exact h2 (hh1.2.1 ▸ hf) (hh1.2.1 ▸ hf')
    · simp only [Gh.grow]; rw [if_neg (by omega)]; exact h3
  · rw [hh1.2.1] at e
    obtain ⟨b, hb, ho⟩ := R.obj o x e
    exact ⟨b, hb, ho.mono E.toEvc (old b (R.obl _ _ hb).1) (R.pv_old old b)⟩
  · rw [hh1.2.1]; exact R.obg o b e
  · simp only [Gh.grow]
    rcases hc with ⟨rfl, rfl, h3, rfl⟩ | ⟨h1, rfl, h3, rfl⟩
    · simp only [AH.newLin, ← R.nt]
      split
      · rename_i h4; rw [h4, beq_self]
      · rename_i h4; rw [beq_false_of_ne h4]; exact R.cur l (by simp only [AH.newLin] at hl; have := R.nt; omega)
    · simp only [AH.bump]
      have := R.nt
      split
      · rename_i h4; rw [h4, beq_self]; simp only [R.cur lin (by omega)]
      · rename_i h4; rw [beq_false_of_ne h4]; exact R.cur l hl
  · simp only [Gh.grow] at e ⊢
    split at e
    · injection e with e; subst e; exact ⟨hlin, by rw [hw]; simp; omega⟩
    · obtain ⟨h1, h2⟩ := R.bll b l e
      exact ⟨by omega, by rw [hw]; simp; omega⟩
  · simp only [Gh.grow] at hl ⊢
    by_cases h1 : l = lin
    · simp [h1]
    · have hl' : l < g.nl := by rcases hc with ⟨h2, _, h3, _⟩ | ⟨_, _, h3, _⟩ <;> omega
      have := R.tb_lt hl'
      rw [if_neg h1, if_neg (by omega)]
      exact R.tbl l hl'
  · simp only [Gh.grow] at e ⊢
    split at e
    · rename_i h1
      obtain ⟨rfl, rfl⟩ := h1
      exact ⟨hlin, by simp⟩
    · obtain ⟨h1, h2⟩ := R.vac _ _ _ e
      refine ⟨by omega, ?_⟩
      split
      · rename_i h3; subst h3; have := hcl h1; omega
      · exact h2
  · simp only [Gh.grow] at e ⊢
    split at e
    · rename_i h1
      subst h1
      exact ⟨c, T, (0, 0), by rw [hh]; simp, by simpa using hn⟩
    · rename_i h1
      rw [if_neg h1]
      obtain ⟨c', T', fz, h2, h3⟩ := R.ext b e
      exact ⟨c', T', fz, by rw [old _ (heap_lt h2)]; exact h2, h3⟩
  · obtain ⟨h1, h2, h3, h4⟩ := R.pvl k b e
    refine ⟨by rw [hw]; simp; omega, ?_, ?_, h4⟩
    · simp only [Gh.grow]; rw [if_neg (by omega)]; exact h2
    · simp only [Gh.grow]; rw [if_neg (by omega)]; exact h3
theorem more_lin (R : Rel g w h) {lin b n : Nat} (hl : lin < g.nl) (hb : b = g.tb lin) {c c' : Array Value} {T : TypeId} (hw : w.heap[b]? = some (.cells c T (0, 0))) {w' : World} (p : Put1 w w' b (.cells c' T (0, 0)))
    (hs : c'.size = c.size) (hn : g.ext b ≤ n) (hn' : n ≤ c.size) (hcc : ∀ i, i < g.ext b → c'[i]? = c[i]?) (ad : Addr) :
    Ev g w (g.more lin b n ad) w' ∧ Rel (g.more lin b n ad) w' (h.bump lin) := by
  have hbl : g.bl b = some lin := hb ▸ R.tbl lin hl
  have E : Ev g w (g.more lin b n ad) w' := by
    refine ⟨⟨p.os, p.tape, p.output, by rw [p.size]; exact Nat.le_refl _, fun _ _ e => e, fun _ _ e => .inl ⟨_, e⟩, fun _ _ e => e, fun _ _ e => .inl e, fun l u a' e => ?_, fun a' e => ?_, Nat.le_refl _, fun l _ => ?_, fun l hl' e => ?_, fun k c1 T1 fz e => ?_, fun _ _ e => e, fun _ _ e => .inl e⟩, fun k hk ho hk' _ => ?_⟩
    · obtain ⟨h1, h2⟩ := R.vac _ _ _ e
      simp only [Gh.more]
      rw [if_neg]
      · exact e
      · rintro ⟨rfl, rfl⟩; omega
    · by_cases hk : a'.block = b
      · refine ⟨?_, ?_⟩
        · simp only [Gh.more]; rw [if_pos hk]; rw [hk] at e; omega
        · simp only [World.cell?, hk, p.at_, hw]
          rw [hk] at e
          rw [hcc _ e]
      · exact ⟨by simp only [Gh.more]; rw [if_neg hk]; exact e, cell_congr (p.other _ hk)⟩
    · simp only [Gh.more]
      split
      · rename_i h1; subst h1; omega
      · exact Nat.le_refl _
    · simp only [Gh.more] at e ⊢
      split at e
      · rename_i h1; subst h1; omega
      · rename_i h1
        refine ⟨trivial, ?_⟩
        rw [if_neg]
        intro h2
        have h3 := R.tbl l hl'
        rw [h2, hbl] at h3
        injection h3 with h3
        exact h1 h3.symm
    · by_cases hk : k = b
      · subst hk
        rw [hw] at e; injection e with e; injection e with e1 e2 e3; subst e1 e2 e3
        exact ⟨c', p.at_, hs⟩
      · exact ⟨c1, by rw [p.other k hk]; exact e, rfl⟩
    · have hkb : k ≠ b := fun e => by rw [e, hbl] at hk'; cases hk'
      exact ⟨p.other k hkb, by simp only [Gh.more]; rw [if_neg hkb]⟩
  refine ⟨E, fun o k e => ?_, R.obi, R.obd, fun o x e => ?_, R.obg, R.nt, fun l hl' => ?_, fun k l e => ?_, R.tbl, fun l u a' e => ?_, fun k e => ?_, fun k c e => ?_, R.tab_mono E.toEvc rfl⟩
  · obtain ⟨h1, h2, h3⟩ := R.obl o k e
    have hkb : k ≠ b := fun e => by rw [e, hbl] at h3; cases h3
    exact ⟨by rw [p.size]; exact h1, fun hf hf' => by simp only [Gh.more]; rw [if_neg hkb]; exact h2 hf hf', h3⟩
  · obtain ⟨k, hk, ho⟩ := R.obj o x e
    have hkb : k ≠ b := fun e => by have := (R.obl _ _ hk).2.2; rw [e, hbl] at this; cases this
    exact ⟨k, hk, ho.mono E.toEvc (p.other k hkb) fun j hj => p.other j fun e => by rw [e, R.pv_bl hbl] at hj; cases hj⟩
  · simp only [Gh.more, AH.bump]
    have := R.nt
    split
    · rename_i h4; rw [h4, beq_self]; simp only [R.cur lin (by omega)]
    · rename_i h4; rw [beq_false_of_ne h4]; exact R.cur l hl'
  · obtain ⟨h1, h2⟩ := R.bll k l e
    exact ⟨h1, by rw [p.size]; exact h2⟩
  · simp only [Gh.more] at e ⊢
    split at e
    · rename_i h1
      obtain ⟨rfl, rfl⟩ := h1
      exact ⟨hl, by simp⟩
    · obtain ⟨h1, h2⟩ := R.vac _ _ _ e
      refine ⟨h1, ?_⟩
      split
      · rename_i h3; subst h3; omega
      · exact h2
  · simp only [Gh.more] at e ⊢
    split at e
    · rename_i h1
      rw [if_pos h1]
      subst h1
      exact ⟨c', T, (0, 0), p.at_, by omega⟩
    · rename_i h1
      rw [if_neg h1]
      obtain ⟨c1, T1, fz, h2, h3⟩ := R.ext k e
      exact ⟨c1, T1, fz, by rw [p.other k h1]; exact h2, h3⟩
  · obtain ⟨h1, h2, h3, h4⟩ := R.pvl k c e
    have hkb : k ≠ b := fun e => by rw [e, hbl] at h3; cases h3
    exact ⟨by rw [p.size]; exact h1, by simp only [Gh.more]; rw [if_neg hkb]; exact h2, h3, h4⟩
def cellsAt (w : World) (ad : Addr) (n : Nat) : List Value := (List.range n).map fun k => (w.cell? (ad.add k)).getD undef
theorem mul_lt {i j n sz : Nat} (hi : i < n) (hj : j < sz) : i * sz + j < n * sz := by
  have h1 : i * sz + j < (i + 1) * sz := by rw [Nat.succ_mul]; omega
  exact Nat.lt_of_lt_of_le h1 (Nat.mul_le_mul_right _ hi)
theorem vec_cells {tk : Tk} {sz : Nat} {es : List (List AV)} {ad : Addr} {n cap : Nat} (r : VR g w (.vec tk sz es) (.slice (some ad) n cap)) (hz : 0 < sz) :
    n = es.length ∧ es.length ≤ cap ∧ cap < 2 ^ 63 ∧ TkOK g w tk ad es.length cap sz ∧ (∀ i (hi : i < es.length), es[i].length = sz) ∧
    ∃ us : List Value, us.length = es.length * sz ∧ (∀ k u, us[k]? = some u → w.cell? (ad.add k) = some u ∧ u.oneCell' = true ∧ (ad.add k).off < g.ext (ad.add k).block) ∧
      ∀ i j (hi : i < es.length) (hj : j < es[i].length), VR g w es[i][j] (us.getD (i * sz + j) undef) := by
  cases r with
  | vec _ _ _ _ _ vs hs hc hv ho hm hn hcap ht =>
    refine ⟨rfl, hn, hcap, ht, hs, cellsAt w ad (es.length * sz), by simp [cellsAt], fun k u hk => ?_, fun i j hi hj => ?_⟩
    · have hlt : k < es.length * sz := by
        obtain ⟨h1, _⟩ := List.getElem?_eq_some_iff.1 hk
        simpa [cellsAt] using h1
      have hi : k / sz < es.length := Nat.div_lt_of_lt_mul (by rw [Nat.mul_comm]; exact hlt)
      have hj : k % sz < sz := Nat.mod_lt _ hz
      have hk2 : k / sz * sz + k % sz = k := by rw [Nat.mul_comm]; exact Nat.div_add_mod k sz
      have h1 := hc _ _ hi hj
      have h2 := ho _ _ hi hj
      have h3 := hm _ _ hi hj
      rw [hk2] at h1 h3
      have : u = vs (k / sz) (k % sz) := by
        simp only [cellsAt, List.getElem?_map, List.getElem?_range hlt, Option.map_some, h1, Option.getD_some, Option.some.injEq] at hk
        exact hk.symm
      rw [this]
      exact ⟨h1, h2, h3⟩
    · have hj' : j < sz := by rw [hs i hi] at hj; exact hj
      have hlt := mul_lt hi hj'
      have : (cellsAt w ad (es.length * sz)).getD (i * sz + j) undef = vs i j := by
        simp [cellsAt, List.getD_eq_getElem?_getD, List.getElem?_range hlt, hc i j hi hj']
      rw [this]
      exact hv i j hi hj
end
end Go.Am
end
section
set_option linter.unusedVariables false
set_option linter.unusedSimpArgs false
namespace Go.Am
section
variable {P : Program} {lt : LT} {g : Gh} {w : World} {h : AH} {base : Nat} {lb : Nat → Option Nat} {fr : AFr} {a : Act}
theorem grown_vec (R : Rel g w h) {lin v nl : Nat} {h' : AH} (hc : (lin = g.nl ∧ v = 0 ∧ nl = g.nl + 1 ∧ h' = h.newLin) ∨ (lin < g.nl ∧ v = g.cur lin + 1 ∧ nl = g.nl ∧ h' = h.bump lin))
    {w' : World} {T : TypeId} {sz cap : Nat} {es ys : List (List AV)} {us ns zs : List Value} (hz : 0 < sz)
    (hw : w'.heap = w.heap.push (.cells (us ++ ns ++ zs).toArray T (0, 0))) (hos : w'.os = w.os) (htp : w'.tape = w.tape) (hout : w'.output = w.output)
    (hes : ∀ i (hi : i < es.length), es[i].length = sz) (hys : ∀ i (hi : i < ys.length), ys[i].length = sz) (hu : us.length = es.length * sz) (hn : ns.length = ys.length * sz)
    (hcap : es.length + ys.length ≤ cap) (hcap2 : cap < 2 ^ 63) (hzs : zs.length = (cap - (es.length + ys.length)) * sz)
    (hu1 : ∀ u ∈ us, u.oneCell' = true) (hn1 : ∀ u ∈ ns, u.oneCell' = true)
    (hu2 : ∀ i j (hi : i < es.length) (hj : j < es[i].length), VR g w es[i][j] (us.getD (i * sz + j) undef))
    (hn2 : ∀ i j (hi : i < ys.length) (hj : j < ys[i].length), VR g w ys[i][j] (ns.getD (i * sz + j) undef)) :
    ∃ g', Ev g w g' w' ∧ Rel g' w' h' ∧ VR g' w' (.vec (.own lin v) sz (es ++ ys)) (.slice (some ⟨w.heap.size, 0, none⟩) (es.length + ys.length) cap) := by
  have hlen : (us ++ ns).length = (es.length + ys.length) * sz := by rw [List.length_append, hu, hn, Nat.add_mul]
  have htot : (us ++ ns ++ zs).toArray.size = cap * sz := by
    simp only [List.size_toArray, List.length_append, hu, hn, hzs, ← Nat.add_mul]
    congr 1; omega
  have hle : (es.length + ys.length) * sz ≤ cap * sz := Nat.mul_le_mul_right _ hcap
  obtain ⟨E, R'⟩ := grow_lin R hc (n := (es.length + ys.length) * sz) hw hos htp hout (by omega)
  refine ⟨_, E, R', ?_⟩
  have hat : ∀ i j, i < (es ++ ys).length → j < sz → ∀ hj : i * sz + j < (us ++ ns).length, w'.cell? ((⟨w.heap.size, 0, none⟩ : Addr).add (i * sz + j)) = some ((us ++ ns)[i * sz + j]) := by
    intro i j hi hj hlt
    rw [add_mk]
    simp only [World.cell?, hw, Array.getElem?_push, if_true, Option.isSome_none, Bool.false_eq_true, if_false, Nat.zero_add]
    rw [List.getElem?_toArray, List.getElem?_append_left hlt, List.getElem?_eq_getElem hlt]
  have hlt : ∀ i j, i < (es ++ ys).length → j < sz → i * sz + j < (us ++ ns).length := fun i j hi hj => by
    rw [hlen]; exact mul_lt (by simpa using hi) hj
  have hval : ∀ i j (hi : i < (es ++ ys).length) (hj : j < (es ++ ys)[i].length) (hj' : j < sz), VR g w (es ++ ys)[i][j] ((us ++ ns)[i * sz + j]'(hlt i j hi hj')) := by
    intro i j hi hj hj'
    have hl := hlt i j hi hj'
    by_cases h1 : i < es.length
    · have h2 : i * sz + j < us.length := by rw [hu]; exact mul_lt h1 hj'
      have e1 : (us ++ ns)[i * sz + j] = us.getD (i * sz + j) undef := by
        rw [List.getElem_append_left h2, List.getD_eq_getElem?_getD, List.getElem?_eq_getElem h2]; rfl
      have := hu2 i j h1 (by rw [hes i h1]; exact hj')
      rw [e1]
      simpa [List.getElem_append_left h1] using this
    · have h3 : i - es.length < ys.length := by simp at hi; omega
      have h4 : es.length * sz ≤ i * sz := Nat.mul_le_mul_right _ (by omega)
      have h5 : i * sz + j - us.length = (i - es.length) * sz + j := by rw [hu, Nat.sub_mul]; omega
      have h6 : ¬ i * sz + j < us.length := by rw [hu]; omega
      have h7 : (i - es.length) * sz + j < ns.length := by rw [hn]; exact mul_lt h3 hj'
      have e1 : (us ++ ns)[i * sz + j] = ns.getD ((i - es.length) * sz + j) undef := by
        rw [List.getElem_append_right (by omega), List.getD_eq_getElem?_getD, List.getElem?_eq_getElem h7]
        simp only [h5, Option.getD_some]
      have := hn2 (i - es.length) j h3 (by rw [hys _ h3]; exact hj')
      rw [e1]
      simpa [List.getElem_append_right (show es.length ≤ i by omega)] using this
  have hsz : ∀ i (hi : i < (es ++ ys).length), (es ++ ys)[i].length = sz := by
    intro i hi
    by_cases h1 : i < es.length
    · rw [List.getElem_append_left h1]; exact hes i h1
    · rw [List.getElem_append_right (by omega)]; exact hys _ _
  have hL : (es ++ ys).length = es.length + ys.length := by simp
  have V : VR (g.grow lin v nl w.heap.size ((es.length + ys.length) * sz)) w' (.vec (.own lin v) sz (es ++ ys)) (.slice (some ⟨w.heap.size, 0, none⟩) (es ++ ys).length cap) := ?_
  · rw [hL] at V; exact V
  refine .vec _ sz _ _ cap (fun i j => (us ++ ns).getD (i * sz + j) undef) hsz (fun i j hi hj => ?_) (fun i j hi hj => ?_) (fun i j hi hj => ?_) (fun i j hi hj => ?_) (by simpa using hcap) hcap2 ?_ (fun _ => ⟨_, _, _, by simp only [hw, Array.getElem?_push, if_true]; rfl⟩)
  · rw [hat i j hi hj (hlt i j hi hj), List.getD_eq_getElem?_getD, List.getElem?_eq_getElem (hlt i j hi hj)]; rfl
  · have hj' : j < sz := by rw [hsz i hi] at hj; exact hj
    have := hval i j hi hj hj'
    rw [List.getD_eq_getElem?_getD, List.getElem?_eq_getElem (hlt i j hi hj')]
    exact this.mono E.toEvc
  · rw [List.getD_eq_getElem?_getD, List.getElem?_eq_getElem (hlt i j hi hj)]
    have hm : (us ++ ns)[i * sz + j]'(hlt i j hi hj) ∈ us ++ ns := List.getElem_mem _
    rcases List.mem_append.1 hm with h1 | h1
    · exact hu1 _ h1
    · exact hn1 _ h1
  · rw [add_mk]
    simp only [Gh.grow, if_true]
    have := hlt i j hi hj
    omega
  · have hlin : lin < nl := by rcases hc with ⟨h1, _, h3, _⟩ | ⟨h1, _, h3, _⟩ <;> omega
    refine ⟨hlin, by simp [Gh.grow], fun _ _ => ⟨rfl, by simp [Gh.grow], by simp [Gh.grow], (us ++ ns ++ zs).toArray, T, by rw [hw, Array.getElem?_push]; simp, ?_⟩, by simp [Gh.grow], by simp [Gh.grow]⟩
    show 0 + cap * sz ≤ _
    rw [htot]
    omega
structure AppT (P : Program) (t t' e : TypeId) (i : TypeInfo) (z : Value) (sz : Nat) : Prop where
  ht : P.underlying t = some (.slice e)
  hs : t' = t
  hi : P.info? e = some i
  hz : i.zero = some z
  hsz : i.size = sz
  h0 : 0 < sz
  hzs : z.cells.size = sz
def elemsOf (sz : Nat) : AV → Option (List (List AV))
  | .nilsl => some []
  | .vec _ sz' es => match Nat.beq sz' sz with
    | true => some es
    | false => none
  | _ => none
theorem elemsOf_run {sz : Nat} {x : AV} {v : Value} {ys : List (List AV)} (hz : 0 < sz) (r : VR g w x v) (hx : elemsOf sz x = some ys) :
    (v = .slice none 0 0 ∧ ys = []) ∨ ∃ ad cap, v = .slice (some ad) ys.length cap ∧ (∀ i (hi : i < ys.length), ys[i].length = sz) ∧
      ∃ us : List Value, us.length = ys.length * sz ∧ (∀ k u, us[k]? = some u → w.cell? (ad.add k) = some u ∧ u.oneCell' = true ∧ (ad.add k).off < g.ext (ad.add k).block) ∧
      ∀ i j (hi : i < ys.length) (hj : j < ys[i].length), VR g w ys[i][j] (us.getD (i * sz + j) undef) := by
  unfold elemsOf at hx
  split at hx
  case h_1 => injection hx with hx; subst hx; cases r; exact .inl ⟨rfl, rfl⟩
  case h_2 tk sz' es =>
    split at hx
    case h_2 => cases hx
    rename_i hb
    injection hx with hx; subst hx
    have hb := Nat.eq_of_beq_eq_true hb
    subst hb
    have r' := r
    cases r' with
    | vec _ _ _ ad cap vs => 
      obtain ⟨_, _, _, _, h1, h2⟩ := vec_cells r hz
      exact .inr ⟨ad, cap, rfl, h1, h2⟩
  case h_3 => cases hx
theorem append_nothing {t t' ty e : TypeId} {i : TypeInfo} {z : Value} {sz : Nat} (T : AppT P t t' e i z sz) {xs x : AV} {vs vx : Value} {es : List (List AV)} (rs : VR g w xs vs) (hs : elemsOf sz xs = some es) (rx : VR g w x vx) (hx : elemsOf sz x = some []) :
    (Builtin.append_ #[t, t'] ty #[vs, vx]).run P w = .ok vs w := by
  have ht' := T.hs
  subst ht'
  rcases elemsOf_run T.h0 rs hs with ⟨rfl, rfl⟩ | ⟨ad, cap, rfl, h1, us, h2, h3, h4⟩
  · rcases elemsOf_run T.h0 rx hx with ⟨rfl, _⟩ | ⟨ad', cap', rfl, _⟩
    · simp [Builtin.append_, run_underlying T.ht, sizeOf, typeInfo, T.hi, Builtin.lenOf, Builtin.firstCells]
    · simp [Builtin.append_, run_underlying T.ht, sizeOf, typeInfo, T.hi, Builtin.lenOf, Builtin.firstCells, loadCells, loadCellsFrom]
  · have hcap : es.length ≤ cap := by
      unfold elemsOf at hs
      split at hs <;> (try cases hs)
      · cases rs
      · split at hs <;> (try cases hs)
        cases rs; assumption
    rcases elemsOf_run T.h0 rx hx with ⟨rfl, _⟩ | ⟨ad', cap', rfl, _⟩
    · simp [Builtin.append_, run_underlying T.ht, sizeOf, typeInfo, T.hi, Builtin.lenOf, Builtin.firstCells, hcap, storeCells]
    · simp [Builtin.append_, run_underlying T.ht, sizeOf, typeInfo, T.hi, Builtin.lenOf, Builtin.firstCells, loadCells, loadCellsFrom, hcap, storeCells]
theorem zeroCells_len {z : Value} {sz k : Nat} (hz : z.cells.size = sz) : (Builtin.zeroCells z.cells k).toList.length = k * sz := by simp [Builtin.zeroCells, hz]
def AppS (h : AH) (sz : Nat) (xs : AV) (es : List (List AV)) (lin v : Nat) (h' : AH) : Prop :=
  (xs = .nilsl ∧ es = [] ∧ lin = h.nt ∧ v = 0 ∧ h' = h.newLin) ∨ (xs = .vec .full sz es ∧ lin = h.nt ∧ v = 0 ∧ h' = h.newLin) ∨
  (∃ ver, (xs = .vec (.own lin ver) sz es ∨ xs = .vec (.suf lin ver) sz es) ∧ h.tip lin = ver ∧ v = ver + 1 ∧ h' = h.bump lin)
theorem append_more {t t' ty e : TypeId} {i : TypeInfo} {z : Value} {sz : Nat} (T : AppT P t t' e i z sz) (R : Rel g w h) {xs x : AV} {vs vx : Value} {es ys : List (List AV)} {lin v : Nat} {h' : AH} (rs : VR g w xs vs)
    (hs : AppS h sz xs es lin v h') (rx : VR g w x vx) (hx : elemsOf sz x = some ys) (hne : ys ≠ []) (hb : (es.length + ys.length) * (i.bytes + 1) ≤ 140737488355328) :
    ∃ u g' w', (Builtin.append_ #[t, t'] ty #[vs, vx]).run P w = .ok u w' ∧ Ev g w g' w' ∧ Rel g' w' h' ∧ VR g' w' (.vec (.own lin v) sz (es ++ ys)) u := by
  have ht' := T.hs
  subst ht'
  have hy0 : 0 < ys.length := List.length_pos_iff.2 hne
  rw [Nat.mul_succ] at hb
  obtain ⟨hy1, ad', cap', rfl, hy2, ns, hy3, hy4, hy5⟩ : ys ≠ [] ∧ ∃ ad cap, vx = .slice (some ad) ys.length cap ∧ (∀ i (hi : i < ys.length), ys[i].length = sz) ∧
      ∃ us : List Value, us.length = ys.length * sz ∧ (∀ k u, us[k]? = some u → w.cell? (ad.add k) = some u ∧ u.oneCell' = true ∧ (ad.add k).off < g.ext (ad.add k).block) ∧
      ∀ i j (hi : i < ys.length) (hj : j < ys[i].length), VR g w ys[i][j] (us.getD (i * sz + j) undef) := by
    rcases elemsOf_run T.h0 rx hx with ⟨_, h1⟩ | h1
    · exact absurd h1 hne
    · exact ⟨hne, h1⟩
  have hn1 : ∀ u ∈ ns, u.oneCell' = true := fun u hu => by
    obtain ⟨k, hk, rfl⟩ := List.getElem_of_mem hu
    exact (hy4 k _ (List.getElem?_eq_getElem hk)).2.1
  have hncell : ∀ j u, ns[j]? = some u → w.cell? (ad'.add j) = some u := fun j u hj => (hy4 j u hj).1
  
  have grow : ∀ (b : Addr) (cap : Nat) (us : List Value), vs = .slice (some b) es.length cap → cap < es.length + ys.length → us.length = es.length * sz → (∀ k u, us[k]? = some u → w.cell? (b.add k) = some u ∧ u.oneCell' = true ∧ (b.add k).off < g.ext (b.add k).block) →
      (∀ i (hi : i < es.length), es[i].length = sz) → (∀ i j (hi : i < es.length) (hj : j < es[i].length), VR g w es[i][j] (us.getD (i * sz + j) undef)) →
      ∀ nl, ((lin = g.nl ∧ v = 0 ∧ nl = g.nl + 1 ∧ h' = h.newLin) ∨ (lin < g.nl ∧ v = g.cur lin + 1 ∧ nl = g.nl ∧ h' = h.bump lin)) →
      ∃ u g' w', (Builtin.append_ #[t', t'] ty #[vs, .slice (some ad') ys.length cap']).run P w = .ok u w' ∧ Ev g w g' w' ∧ Rel g' w' h' ∧ VR g' w' (.vec (.own lin v) sz (es ++ ys)) u := by
    intro b cap us hvs hcap hu1 hu2 hu3 hu4 nl hc
    subst hvs
    have hr := run_append_grow (P := P) w t' ty e i z T.ht T.hi T.hz b es.length cap us (by rw [T.hsz]; exact hu1) (fun j u hj => (hu2 j u hj).1) ad' ys.length cap' ns (by rw [T.hsz]; exact hy3) hncell hcap (by omega) (growslice_fits hcap (by omega))
    have hge := grownCap_ge w (es.length + ys.length) cap e
    have hle := grownCap_le_maxLen w (es.length + ys.length) cap e (by simp only [maxLen]; omega)
    simp only [maxLen] at hle
    obtain ⟨g', E, R', V⟩ := grown_vec (w' := w.drew.alloc (.cells (us.toArray ++ ns.toArray ++ Builtin.zeroCells z.cells (grownCap w (es.length + ys.length) cap e - (es.length + ys.length))) e)) R hc (T := e) (cap := grownCap w (es.length + ys.length) cap e) (es := es) (ys := ys) (us := us) (ns := ns)
      (zs := (Builtin.zeroCells z.cells (grownCap w (es.length + ys.length) cap e - (es.length + ys.length))).toList) T.h0 (by show w.heap.push _ = w.heap.push _; congr 2; apply Array.ext'; simp) rfl rfl rfl hu3 hy2 hu1 hy3 hge (by omega) (zeroCells_len T.hzs)
      (fun u hu => by obtain ⟨k, hk, rfl⟩ := List.getElem_of_mem hu; exact (hu2 k _ (List.getElem?_eq_getElem hk)).2.1) hn1 hu4 hy5
    exact ⟨_, g', _, hr, E, R', V⟩
  rcases hs with ⟨rfl, rfl, rfl, rfl, rfl⟩ | ⟨rfl, rfl, rfl, rfl⟩ | ⟨ver, hxs, htip, rfl, rfl⟩
  · cases rs
    have hr := run_append_nil (P := P) w t' ty e i z T.ht T.hi T.hz ad' ys.length cap' ns (by rw [T.hsz]; exact hy3) hncell hy0 (by simp at hb; omega) (by simp at hb; omega)
    have hge := grownCap_ge w ys.length 0 e
    have hle := grownCap_le_maxLen w ys.length 0 e (by simp only [maxLen]; simp at hb; omega)
    simp only [maxLen] at hle
    obtain ⟨g', E, R', V⟩ := grown_vec (w' := w.drew.alloc (.cells (ns.toArray ++ Builtin.zeroCells z.cells (grownCap w ys.length 0 e - ys.length)) e)) R (h' := h.newLin) (lin := h.nt) (v := 0) (.inl ⟨R.nt.symm, rfl, rfl, rfl⟩) (T := e) (cap := grownCap w ys.length 0 e) (es := []) (ys := ys) (us := []) (ns := ns)
      (zs := (Builtin.zeroCells z.cells (grownCap w ys.length 0 e - ys.length)).toList) T.h0 (by show w.heap.push _ = w.heap.push _; congr 2; apply Array.ext'; simp) rfl rfl rfl (fun i hi => by simp at hi) hy2 (by simp) hy3 (by simpa using hge) (by omega) (by rw [zeroCells_len T.hzs]; simp) (by simp) hn1 (fun i j hi => by simp at hi) hy5
    exact ⟨_, g', _, hr, E, R', by simpa using V⟩
  · have rs' := rs
    cases rs' with
    | vec _ _ _ b cap vs' _ _ _ _ _ _ _ ht =>
      obtain ⟨_, _, _, _, h1, us, h2, h3, h4⟩ := vec_cells rs T.h0
      simp only [TkOK] at ht
      exact grow b cap us rfl (by omega) h2 h3 h1 h4 (g.nl + 1) (.inl ⟨R.nt.symm, rfl, rfl, rfl⟩)
  · 
    have key : ∀ tk, (tk = .own lin ver ∨ tk = .suf lin ver) → xs = .vec tk sz es → ∃ u g' w', (Builtin.append_ #[t', t'] ty #[vs, .slice (some ad') ys.length cap']).run P w = .ok u w' ∧ Ev g w g' w' ∧ Rel g' w' (h.bump lin) ∧ VR g' w' (.vec (.own lin (ver + 1)) sz (es ++ ys)) u := by
      intro tk htk hxs
      subst hxs
      have rs' := rs
      cases rs' with
      | vec _ _ _ b cap vs' _ _ _ _ _ hn hcap2 ht =>
        obtain ⟨_, _, _, _, h1, us, h2, h3, h4⟩ := vec_cells rs T.h0
        obtain ⟨hlin, hver, htipF⟩ : lin < g.nl ∧ ver ≤ g.cur lin ∧ (g.cur lin = ver → es.length < cap → TipF g w lin b es.length cap sz) := by
          rcases htk with rfl | rfl
          · exact ⟨ht.1, ht.2.1, ht.2.2.1⟩
          · exact ht
        have hcur : g.cur lin = ver := by rw [R.cur lin (by rw [← R.nt]; exact hlin)]; exact htip
        by_cases hroom : es.length + ys.length ≤ cap
        · obtain ⟨f1, f2, f3, c, Tc, f4, f5⟩ := htipF hcur (by omega)
          obtain ⟨bb, bo, bs⟩ := b
          simp only at f1 f2 f3 f4 f5
          subst f1
          have hfit : bo + es.length * sz + ns.length ≤ c.size := by
            have : (es.length + ys.length) * sz ≤ cap * sz := Nat.mul_le_mul_right _ hroom
            rw [Nat.add_mul] at this
            rw [hy3]; omega
          have hst := run_storeCells_at (P := P) bb (bo + es.length * sz) Tc ns 0 c w f4 (by omega) hn1
          simp only [Nat.add_zero] at hst
          have hf := run_firstCells_some (P := P) w i.size ys.length ad' ys.length cap' ns (by rw [T.hsz]; exact hy3) hncell
          generalize hcc : (c.toList.take (bo + es.length * sz) ++ ns ++ c.toList.drop (bo + es.length * sz + ns.length)).toArray = c' at hst
          have hc's : c'.size = c.size := by rw [← hcc]; simp; omega
          have hc'o : ∀ k, k < bo + es.length * sz → c'[k]? = c[k]? := fun k hk => by
            rw [← hcc]
            simp only [List.getElem?_toArray]
            rw [List.append_assoc, List.getElem?_append_left (by simp; omega), List.getElem?_take, if_pos hk, Array.getElem?_toList]
          have hc'n : ∀ k (hk : k < ns.length), c'[bo + es.length * sz + k]? = some ns[k] := fun k hk => by
            rw [← hcc]
            simp only [List.getElem?_toArray]
            have hm : min (bo + es.length * sz) c.size = bo + es.length * sz := by omega
            rw [List.append_assoc, List.getElem?_append_right (by simp; omega), List.getElem?_append_left (by simp; omega)]
            simp [hm]
          obtain ⟨E, R'⟩ := more_lin R hlin f2 f4 (setRow_put1 f4 (us := c')) hc's (n := bo + (es.length + ys.length) * sz) (by rw [f3]; have := Nat.mul_le_mul_right sz (show es.length ≤ es.length + ys.length by omega); omega) (by rw [hy3] at hfit; rw [Nat.add_mul]; omega) (fun k hk => hc'o k (by omega)) ⟨bb, bo, none⟩
          refine ⟨.slice (some ⟨bb, bo, none⟩) (es.length + ys.length) cap, _, _, ?_, E, R', ?_⟩
          · simp only [T.hsz] at hf
            simp [Builtin.append_, run_underlying T.ht, sizeOf, typeInfo, T.hi, T.hsz, Builtin.lenOf, hroom, hf, add_mk, hst]
          · have hL : (es ++ ys).length = es.length + ys.length := by simp
            have hsz : ∀ i (hi : i < (es ++ ys).length), (es ++ ys)[i].length = sz := by
              intro i hi
              by_cases h1' : i < es.length
              · rw [List.getElem_append_left h1']; exact h1 i h1'
              · rw [List.getElem_append_right (by omega)]; exact hy2 _ _
            
            have hcell : ∀ k (hk : k < (us ++ ns).length), (w.setRow bb c').cell? ((⟨bb, bo, none⟩ : Addr).add k) = some (us ++ ns)[k] := by
              intro k hk
              rw [add_mk]
              simp only [World.cell?, setRow_heap w bb c c' Tc (0, 0) f4, Option.isSome_none, Bool.false_eq_true, if_false]
              by_cases h6 : k < us.length
              · have h7 := (h3 k us[k] (List.getElem?_eq_getElem h6)).1
                rw [add_mk] at h7
                simp only [World.cell?, f4, Option.isSome_none, Bool.false_eq_true, if_false] at h7
                rw [hc'o _ (by omega), h7, List.getElem_append_left h6]
              · have h7 : k - us.length < ns.length := by simp at hk; omega
                have h8 := hc'n _ h7
                rw [show bo + k = bo + es.length * sz + (k - us.length) by omega, h8, List.getElem_append_right (by omega)]
            have hlen : (us ++ ns).length = (es.length + ys.length) * sz := by rw [List.length_append, h2, hy3, Nat.add_mul]
            have hlt : ∀ i j, i < (es ++ ys).length → j < sz → i * sz + j < (us ++ ns).length := fun i j hi hj => by
              rw [hlen]; exact mul_lt (by simpa using hi) hj
            have V : VR (g.more lin bb (bo + (es.length + ys.length) * sz) ⟨bb, bo, none⟩) (w.setRow bb c') (.vec (.own lin (ver + 1)) sz (es ++ ys)) (.slice (some ⟨bb, bo, none⟩) (es ++ ys).length cap) := ?_
            · rw [hL] at V; exact V
            refine .vec _ sz _ _ cap (fun i j => (us ++ ns).getD (i * sz + j) undef) hsz (fun i j hi hj => ?_) (fun i j hi hj => ?_) (fun i j hi hj => ?_) (fun i j hi hj => ?_) (by simpa using hroom) hcap2 ?_ (fun _ => ⟨c', Tc, _, setRow_heap w bb c c' Tc (0, 0) f4⟩)
            · rw [hcell _ (hlt i j hi hj), List.getD_eq_getElem?_getD, List.getElem?_eq_getElem (hlt i j hi hj)]; rfl
            · have hj' : j < sz := by rw [hsz i hi] at hj; exact hj
              refine VR.mono E.toEvc ?_
              by_cases h1' : i < es.length
              · have h5 : i * sz + j < us.length := by rw [h2]; exact mul_lt h1' hj'
                have e1 : (us ++ ns).getD (i * sz + j) undef = us.getD (i * sz + j) undef := by
                  rw [List.getD_eq_getElem?_getD, List.getElem?_append_left h5, List.getD_eq_getElem?_getD]
                have := h4 i j h1' (by rw [h1 i h1']; exact hj')
                rw [e1]
                simpa [List.getElem_append_left h1'] using this
              · have h3' : i - es.length < ys.length := by simp at hi; omega
                have h4' : es.length * sz ≤ i * sz := Nat.mul_le_mul_right _ (by omega)
                have e1 : (us ++ ns).getD (i * sz + j) undef = ns.getD ((i - es.length) * sz + j) undef := by
                  rw [List.getD_eq_getElem?_getD, List.getElem?_append_right (by omega), List.getD_eq_getElem?_getD, h2, Nat.sub_mul]
                  congr 2; omega
                have := hy5 (i - es.length) j h3' (by rw [hy2 _ h3']; exact hj')
                rw [e1]
                simpa [List.getElem_append_right (show es.length ≤ i by omega)] using this
            · rw [List.getD_eq_getElem?_getD, List.getElem?_eq_getElem (hlt i j hi hj)]
              have hm : (us ++ ns)[i * sz + j]'(hlt i j hi hj) ∈ us ++ ns := List.getElem_mem _
              rcases List.mem_append.1 hm with h5 | h5
              · obtain ⟨k, hk, hk2⟩ := List.getElem_of_mem h5
                have := (h3 k _ (List.getElem?_eq_getElem hk)).2.1
                rw [hk2] at this
                exact this
              · exact hn1 _ h5
            · rw [add_mk]
              simp only [Gh.more, if_true]
              have := hlt i j hi hj
              omega
            · refine ⟨hlin, by simp [Gh.more, hcur], fun _ _ => ⟨rfl, f2, by simp [Gh.more], c', Tc, setRow_heap w bb c c' Tc (0, 0) f4, by simp only; omega⟩, by simp [Gh.more, hcur], ?_⟩
              show g.bl bb = some lin
              rw [f2]; exact R.tbl lin hlin
        · exact grow b cap us rfl (by omega) h2 h3 h1 h4 g.nl (.inr ⟨hlin, by rw [hcur], rfl, rfl⟩)
    rcases hxs with hxs | hxs
    · exact key _ (.inl rfl) hxs
    · exact key _ (.inr rfl) hxs
end
end Go.Am
end
section
set_option linter.unusedVariables false
set_option linter.unusedSimpArgs false
namespace Go.Am
section
variable {P : Program} {lt : LT} {g : Gh} {w : World} {h : AH} {base : Nat} {lb : Nat → Option Nat} {fr : AFr} {a : Act}
theorem aMakeMap_sound {t : TypeId} (o : Oper) (ho : o.op = .makeMap t none) : OpSound P lt (fun a => execOp a.eval o) fr h (.v (.map h.n), fr, h.push (.map [])) := by
  intro g0 w0 g w lb a E0 R F
  obtain ⟨E, R'⟩ := alloc_ob R (.map #[] 0) (.map []) fun g' e => ⟨#[], 0, by rw [heap_alloc]; simp, ⟨rfl, rfl, fun i m e => by simp at e⟩, fun i hi => by simp at hi⟩
  exact ⟨_, .map (some w.heap.size), _, w.alloc (.map #[] 0), lb, by simp [execOp, ho, Instr.makeMap], .inl rfl, E0.trans E, R', F.mono E, .map _ _ (by simp [Gh.addOb])⟩
def putA (k : List UInt8) (v : AV) : List (AV × AV) → Option (List (AV × AV))
  | [] => some [(.str k, v)]
  | (.str k', v') :: r => match k == k' with
    | true => some ((.str k, v) :: r)
    | false => match putA k v r with
      | some r' => some ((.str k', v') :: r')
      | none => none
  | _ => none
theorem putA_length {k : List UInt8} {v : AV} {es es' : List (AV × AV)} (hx : putA k v es = some es') : (findA k es = some none ∧ es' = es ++ [(.str k, v)]) ∨ ∃ j x, findA k es = some (some x) ∧ j = posA k es ∧ ∃ hj : j < es.length, es[j].1 = .str k ∧ es[j].2 = x ∧ es' = es.set j (.str k, v) := by
  induction es generalizing es' with
  | nil => simp only [putA] at hx; injection hx with hx; subst hx; exact .inl ⟨rfl, rfl⟩
  | cons e es ih =>
    unfold putA at hx
    split at hx
    case h_1 heq => cases heq
    case h_3 => cases hx
    rename_i k' v' r heq
    injection heq with h1 h2
    subst h1 h2
    split at hx
    · rename_i hb
      injection hx with hx
      subst hx
      have : k = k' := by simpa using hb
      subst this
      exact .inr ⟨0, v', by simp [findA], by simp [posA], by simp, rfl, rfl, rfl⟩
    · rename_i hb
      split at hx
      case h_2 => cases hx
      rename_i r' hr
      injection hx with hx
      subst hx
      rcases ih hr with ⟨h1, h2⟩ | ⟨j, x, h1, h6, h2, h3, h4, h5⟩
      · exact .inl ⟨by simp [findA, hb, h1], by rw [h2]; rfl⟩
      · exact .inr ⟨j + 1, x, by simp [findA, hb, h1], by simp [posA, hb, h6], by simpa using h2, by simpa using h3, by simpa using h4, by rw [h5]; rfl⟩
def aMapPut (P : Program) (fr : AFr) (h : AH) (t : TypeId) (m k v : Operand) : Option (Slot × AFr × AH) :=
  match mapT P t, fr.ev m, fr.ev k, fr.ev v with
  | some _, .v (.map o), .v (.str ks), .v y => match h.get o with
    | some (.map es) => match putA ks y es with
      | some es' => some (.junk, fr, h.set o (.map es'))
      | none => none
    | _ => none
  | _, _, _, _ => none
theorem sameBits_str (s : ByteArray) : Instr.sameBits 10000 (.string s) (.string s) = true := by
  have : ∃ d, Instr.sameBits 10000 (.string s) (.string s) = Instr.sameBits (d + 1) (.string s) (.string s) := ⟨9999, rfl⟩
  obtain ⟨d, hd⟩ := this
  rw [hd]
  simp [Instr.sameBits, str_beq]
theorem setObj_put1 {b : Nat} {o o' : Obj} (hw : w.heap[b]? = some o) : Put1 w { w with heap := w.heap.set! b o' } b o' := by
  have hlt := heap_lt hw
  refine ⟨rfl, rfl, rfl, by simp, by simp [hlt], fun k hk => ?_⟩
  simp [Array.getElem?_setIfInBounds, Ne.symm hk]
theorem run_setObj_map {b clk : Nat} {ms : Array MapEntry} {o' : Obj} (hw : w.heap[b]? = some (.map ms clk)) : (setObj b o').run P w = .ok () { w with heap := w.heap.set! b o' } := by
  simp only [setObj, Sem.run, hw]; rfl
theorem aMapPut_sound {t : TypeId} {m k v : Operand} {r : Slot × AFr × AH} (hx : aMapPut P fr h t m k v = some r) (o : Oper) (ho : o.op = .mapUpdate t m k v ∨ o.op = .insert t m k v) : OpSound P lt (fun a => execOp a.eval o) fr h r := by
  intro g0 w0 g w lb a E0 R F
  unfold aMapPut at hx
  split at hx
  case h_2 => cases hx
  rename_i kt oo ks y hm em ek ey
  split at hx
  case h_2 => cases hx
  rename_i es hg
  split at hx
  case h_2 => cases hx
  rename_i es' hes
  injection hx with hx
  subst hx
  have hnf : h.get oo ≠ some .frz ∧ h.get oo ≠ some .gone := ⟨by rw [hg]; simp, by rw [hg]; simp⟩
  obtain ⟨kt, et⟩ := kt
  obtain ⟨hu, hk⟩ := mapT_sound hm
  have v1 := F.ev_v em
  have v2 := F.ev_v ek
  have v3 := F.ev_v ey
  have hexec : execOp a.eval o = (do Instr.mapUpdate t (a.eval m) (a.eval k) (a.eval v); pure .skip) := by
    rcases ho with ho | ho <;> simp only [execOp, ho]
  generalize a.eval m = pm at v1 hexec
  generalize a.eval k = pk at v2 hexec
  cases v1 with
  | map _ b hb =>
    obtain ⟨b', hb', ms, clk, hw, ⟨hs, hk1, hk2⟩, hv⟩ := R.obj _ _ hg
    rw [hb] at hb'; injection hb' with hb'; subst hb'
    cases v2 with
    | str kb =>
      obtain ⟨fr0, hfr0⟩ : ∃ r, findA kb.data.toList es = some r := by
        rcases putA_length hes with ⟨h1, _⟩ | ⟨j, x, h1, _⟩
        · exact ⟨_, h1⟩
        · exact ⟨_, h1⟩
      obtain ⟨q, hq, hq2⟩ := findNow_sound (ms := ms.toList) (by simpa using hs) (fun i hi => by simpa using hv i hi) hfr0 0
      have hf : (Instr.findKey kt (.string kb) ms.toList).run P w = .ok q w := by
        simp only [Instr.findKey, Sem.run_bind, run_underlying hk, Result.andThen_ok, hq, Sem.run_pure]
      rcases putA_length hes with ⟨h1, h2⟩ | ⟨j, x, h1, hj0, hj, h3, h4, h5⟩
      · rw [h1] at hfr0
        injection hfr0 with hfr0
        subst hfr0
        simp only at hq2
        subst hq2
        have p := setObj_put1 (o' := .map (ms.push { key := .string kb, val := a.eval v, born := clk }) (clk + 1)) hw
        obtain ⟨E, R'⟩ := put_map (es' := es') R hb hnf hw p ⟨by rw [h2]; simp [hs], by rw [h2]; simp [hk1], fun i m e => by
          rw [Array.getElem?_push] at e
          split at e
          · rename_i hi; injection e with e; rw [← e, hi, hs]; exact hk1
          · exact hk2 i m e⟩ (fun i hi => by
          rw [h2] at hi
          by_cases hi' : i < es.length
          · obtain ⟨m', k1, k2, k3⟩ := hv i hi'
            refine ⟨m', by rw [Array.getElem?_push, if_neg (by omega)]; exact k1, ?_, ?_⟩
            · simp only [h2]; rw [List.getElem_append_left hi']; exact k2
            · simp only [h2]; rw [List.getElem_append_left hi']; exact k3
          · have hie : i = es.length := by simp at hi; omega
            subst hie
            refine ⟨{ key := .string kb, val := a.eval v, born := clk }, by rw [Array.getElem?_push, if_pos hs.symm], ?_, ?_⟩
            · simp only [h2]; rw [List.getElem_append_right (by omega)]; simpa using VR.str kb
            · simp only [h2]; rw [List.getElem_append_right (by omega)]; simpa using v3)
        refine ⟨.skip, undef, g, _, lb, ?_, .inr ⟨rfl, rfl⟩, E0.trans E, R', F.mono E, trivial⟩
        show (execOp a.eval o).run P w = _
        rw [hexec]
        simp only [Instr.mapUpdate, Sem.run_bind, run_underlying hu, Result.andThen_ok, getObj, Sem.run, hw, Sem.run_pure, checkKey_str hk, hf]
        rw [run_setObj_map hw]; rfl
      · rw [h1] at hfr0
        injection hfr0 with hfr0
        subst hfr0
        obtain ⟨j', v', k1, k2, k7, k3, k4, k5, k6⟩ := hq2
        subst k1
        have hjj : j' = j := by rw [k7, hj0]
        subst hjj
        obtain ⟨m', n1, n2, n3⟩ := hv j' hj
        have hkey : m'.key = .string kb := k6 m' (by simpa using n1)
        have hkeep : (Instr.keyThatStays (((ms[j']?).map (·.key)).getD (.string kb)) (.string kb)).run P w = .ok (.string kb) w := by
          simp [n1, hkey, Instr.keyThatStays, sameBits_str]
        have p := setObj_put1 (o' := .map (ms.modify j' fun e => { e with key := .string kb, val := a.eval v }) clk) hw
        obtain ⟨E, R'⟩ := put_map (es' := es') R hb hnf hw p ⟨by rw [h5]; simp [hs], by rw [h5]; simpa using hk1, fun i m e => by
          rw [Array.getElem?_modify] at e
          split at e
          · cases hm : ms[i]? with
            | none => rw [hm] at e; cases e
            | some m0 => rw [hm] at e; injection e with e; rw [← e]; exact hk2 i m0 hm
          · exact hk2 i m e⟩ (fun i hi => by
          have hi' : i < es.length := by rw [h5] at hi; simpa using hi
          obtain ⟨m2, q1, q2, q3⟩ := hv i hi'
          by_cases hij : j' = i
          · subst hij
            refine ⟨{ m2 with key := .string kb, val := a.eval v }, by simp [Array.getElem?_modify, q1], ?_, ?_⟩
            · simp only [h5, List.getElem_set_self]; exact VR.str kb
            · simp only [h5, List.getElem_set_self]; exact v3
          · refine ⟨m2, by simp [Array.getElem?_modify, hij, q1], ?_, ?_⟩
            · simp only [h5, List.getElem_set_ne hij]; exact q2
            · simp only [h5, List.getElem_set_ne hij]; exact q3)
        refine ⟨.skip, undef, g, _, lb, ?_, .inr ⟨rfl, rfl⟩, E0.trans E, R', F.mono E, trivial⟩
        show (execOp a.eval o).run P w = _
        rw [hexec]
        simp only [Instr.mapUpdate, Sem.run_bind, run_underlying hu, Result.andThen_ok, getObj, Sem.run, hw, Sem.run_pure, checkKey_str hk, hf, Nat.zero_add, hkeep]
        rw [run_setObj_map hw]; rfl
end
end Go.Am
end
section
set_option linter.unusedVariables false
set_option linter.unusedSimpArgs false
namespace Go.Am
def aBlt (P : Program) (fr : AFr) (h : AH) (c : Call) : Option Slot :=
  match c.callee with
  | .builtin .len => match c.args.toList, c.argTypes.toList with
    | [x], [t] => aLen P fr h t x
    | _, _ => none
  | .builtin .min => match c.args.toList with
    | [x, y] => aMin fr x y
    | _ => none
  | .builtin .cap => match c.args.toList, c.argTypes.toList with
    | [x], [t] => aCap P fr t x
    | _, _ => none
  | _ => none
def aPure (P : Program) (fr : AFr) (h : AH) (op : Op) : Option Slot :=
  match op with
  | .move x => (fr.ev x).nf
  | .assign x => (fr.ev x).nf
  | .pick c x y => aPick fr c x y
  | .load t x => aLoad P fr h t x
  | .nilCheck x => aNil fr x
  | .binOp op t x y _ => aBin P fr op t x y
  | .unOp op _ x => aUn fr op x
  | .convert s d x => aConv P fr s d x
  | .makeInterface t x => aMkIface P fr t x
  | .makeFunc fn f c => aMkFunc fr fn f c
  | .slice t x lo hi mx => aSlice P fr t x lo hi mx
  | .fieldAddr s x f => aFieldAddr P fr s x f
  | .field s x f => aField P fr s x f
  | .indexAddr t x i => aIndexAddr P fr t x i
  | .index t x i => aIndex P fr t x i
  | .lookup t x i ok => aLookup P fr h t x i ok
  | .typeAssert x _ t ok => aAssert P fr x t ok
  | .extract x i => aExtract fr x i
  | .build t parts => aBuild P fr t parts
  | .call c => aBlt P fr h c
  | _ => none
def aEff (P : Program) (lt : LT) (fr : AFr) (h : AH) (dst : Option Tmp) (op : Op) : Option (Slot × AFr × AH) :=
  match op with
  | .alloc t => aAlloc P lt fr h dst (zeroCs P t)
  | .box _ x => aAlloc P lt fr h dst (evCs fr x)
  | .store t x v => aStore P fr h t x v
  | .buildSlice t n parts => match aBuildSlice P fr t n parts with
    | some s => some (s, fr, h)
    | none => none
  | .makeMap _ none => some (.v (.map h.n), fr, h.push (.map []))
  | .mapUpdate t m k v => aMapPut P fr h t m k v
  | .insert t m k v => aMapPut P fr h t m k v
  | op => match aPure P fr h op with
    | some s => some (s, fr, h)
    | none => none
section
variable {P : Program} {lt : LT} {g : Gh} {w : World} {h : AH} {base : Nat} {lb : Nat → Option Nat} {fr : AFr} {a : Act}
theorem aBlt_sound {c : Call} {o : Oper} {s : Slot} (R : Rel g w h) (F : FR lt g w base lb fr a) (ho : o.op = .call c) (hx : aBlt P fr h c = some s) :
    ∃ v, (execOp a.eval o).run P w = .ok (.value v) w ∧ VS g w lb s v := by
  obtain ⟨dst, op, ty, pos, after, guard⟩ := o
  simp only at ho
  subst ho
  obtain ⟨callee, args, argTypes⟩ := c
  unfold aBlt at hx
  simp only at hx
  split at hx
  · split at hx
    case h_2 => cases hx
    rename_i x t h1 h2
    have h1 : args = #[x] := Array.ext' h1
    have h2 : argTypes = #[t] := Array.ext' h2
    subst h1 h2
    obtain ⟨v, h1, h2⟩ := aLen_sound (ty := ty) R F hx
    refine ⟨v, ?_, h2⟩
    simp [execOp, resolve, invoke, builtin, h1]
  · split at hx
    case h_2 => cases hx
    rename_i x y h1
    have h1 : args = #[x, y] := Array.ext' h1
    subst h1
    obtain ⟨v, h1, h2⟩ := aMin_sound (ty := ty) (ts := argTypes) (P := P) (w := w) F hx
    refine ⟨v, ?_, h2⟩
    simp [execOp, resolve, invoke, builtin, h1]
  · split at hx
    case h_2 => cases hx
    rename_i x t h1 h2
    have h1 : args = #[x] := Array.ext' h1
    have h2 : argTypes = #[t] := Array.ext' h2
    subst h1 h2
    obtain ⟨v, h1, h2⟩ := aCap_sound (ty := ty) F hx
    refine ⟨v, ?_, h2⟩
    simp [execOp, resolve, invoke, builtin, h1]
  · cases hx
theorem aPure_sound {o : Oper} {s : Slot} (R : Rel g w h) (F : FR lt g w base lb fr a) (hx : aPure P fr h o.op = some s) :
    ∃ v, (execOp a.eval o).run P w = .ok (.value v) w ∧ VS g w lb s v := by
  have lift : ∀ (c : Sem Value), (∃ v, c.run P w = .ok v w ∧ VS g w lb s v) → ∃ v, (do pure (Next.value (← c)) : Sem Next).run P w = .ok (.value v) w ∧ VS g w lb s v := by
    rintro c ⟨v, h1, h2⟩
    exact ⟨v, by simp [h1], h2⟩
  obtain ⟨dst, op, ty, pos, after, guard⟩ := o
  unfold aPure at hx
  simp only at hx
  split at hx
  · have hx := Slot.nf_eq hx; subst hx; exact ⟨_, rfl, F.ev _⟩
  · have hx := Slot.nf_eq hx; subst hx; exact ⟨_, rfl, F.ev _⟩
  · exact aPick_sound F hx
  · exact lift _ (aLoad_sound R F hx)
  · exact aNil_sound F hx _ rfl
  · exact lift _ (aBin_sound R F hx)
  · exact lift _ (aUn_sound F hx)
  · exact lift _ (aConv_sound F hx)
  · exact lift _ (aMkIface_sound F hx)
  · exact lift _ (aMkFunc_sound F hx)
  · exact lift _ (aSlice_sound F hx)
  · exact lift _ (aFieldAddr_sound R F hx)
  · exact lift _ (aField_sound F hx)
  · exact lift _ (aIndexAddr_sound R F hx)
  · exact lift _ (aIndex_sound F hx)
  · exact lift _ (aLookup_sound R F hx)
  · exact lift _ (aAssert_sound F hx)
  · exact lift _ (aExtract_sound F hx)
  · exact lift _ (aBuild_sound F hx)
  · exact aBlt_sound R F rfl hx
  · cases hx
theorem aEff_sound {o : Oper} {r : Slot × AFr × AH} (hx : aEff P lt fr h o.dst o.op = some r) : OpSound P lt (fun a => execOp a.eval o) fr h r := by
  have pure_ : ∀ s, aPure P fr h o.op = some s → OpSound P lt (fun a => execOp a.eval o) fr h (s, fr, h) := by
    intro s hs g0 w0 g w lb a E R F
    obtain ⟨v, h1, h2⟩ := aPure_sound R F hs
    exact ⟨_, v, g, w, lb, h1, .inl rfl, E, R, F, h2⟩
  unfold aEff at hx
  split at hx
  · rename_i t ho
    refine aAlloc_sound hx _ fun cs hcs g w lb base a F => ?_
    obtain ⟨z, h1, h2⟩ := zeroCs_run hcs g w
    exact ⟨_, t, h2, run_alloc_new o t ho _ z w h1⟩
  · rename_i t x ho
    refine aAlloc_sound hx _ fun cs hcs g w lb base a F => ⟨(a.eval x).cells, t, ?_, run_box_new o t x ho _ w⟩
    unfold evCs at hcs
    split at hcs
    case h_2 => cases hcs
    rename_i y ey
    exact (F.ev_v ey).cells hcs
  · rename_i t x v ho
    exact aStore_sound hx o ho
  · rename_i t n parts ho
    split at hx
    case h_2 => cases hx
    rename_i s hs
    injection hx with hx
    subst hx
    exact aBuildSlice_sound hs o ho
  · rename_i t ho
    injection hx with hx
    subst hx
    exact aMakeMap_sound o ho
  · rename_i t m k v ho
    exact aMapPut_sound hx o (.inl ho)
  · rename_i t m k v ho
    exact aMapPut_sound hx o (.inr ho)
  · split at hx
    case h_2 => cases hx
    rename_i s hs
    injection hx with hx
    subst hx
    exact pure_ s hs
def gdst (ops : List Oper) (j : Nat) : Option Tmp :=
  match ops[j]? with
  | some o => o.dst
  | none => none
def aWanted (ops : List Oper) (fr : AFr) (gd : Option (Nat × Bool)) : Option Bool :=
  match gd with
  | none => some true
  | some (j, want) => match gdst ops j with
    | some t => match fr.ev (.tmp t) with
      | .v (.bool b) => some (bif want then b else !b)
      | .v (.tup _) => some false
      | _ => none
    | none => none
def aStep (P : Program) (lt : LT) (ops : List Oper) (o : Oper) (fr : AFr) (h : AH) : Option (AFr × AH) :=
  match aWanted ops fr o.guard with
  | some true => match aEff P lt fr h o.dst o.op with
    | some (s, fr', h') => match o.dst with
      | some d => match slotOK lt (some d) s with
        | true => some (fr'.putD d s, h')
        | false => none
      | none => some (fr', h')
    | none => none
  | some false => match o.dst with
    | some d => some (fr.putD d (.v (.tup [])), h)
    | none => some (fr, h)
  | none => none
theorem aWanted_sound {ops : List Oper} {o : Oper} {b : Bool} (F : FR lt g w base lb fr a) (hx : aWanted ops fr o.guard = some b) : Region.wanted o (yielded ops.toArray a.tmps) = b := by
  unfold aWanted at hx
  unfold Region.wanted
  split at hx
  · rename_i hg; injection hx with hx; rw [hg]; exact hx
  · rename_i j want hg
    rw [hg]
    split at hx
    case h_2 => cases hx
    rename_i t ht
    split at hx
    case h_3 => cases hx
    case h_2 vs e =>
      injection hx with hx
      subst hx
      have hv := F.ev_v e
      simp only [Act.eval] at hv
      have hy : yielded ops.toArray a.tmps j = none := by
        unfold yielded
        unfold gdst at ht
        split at ht
        case h_2 => cases ht
        rename_i o' ho'
        simp only [List.getElem?_toArray, ho', Option.bind_some, ht]
        generalize hq : a.tmps.getD t undef = q at hv
        cases hv
        rw [Array.getD_eq_getD_getElem?] at hq
        cases hq2 : a.tmps[t]? with
        | none => rfl
        | some v => rw [hq2] at hq; simp at hq; rw [hq]
      simp only [hy]
      cases want <;> rfl
    rename_i b' e
    injection hx with hx
    subst hx
    have hv := F.ev_v e
    simp only [Act.eval] at hv
    have hy : yielded ops.toArray a.tmps j = some b' := by
      unfold yielded
      unfold gdst at ht
      split at ht
      case h_2 => cases ht
      rename_i o' ho'
      simp only [List.getElem?_toArray, ho', Option.bind_some, ht]
      generalize hq : a.tmps.getD t undef = q at hv
      cases hv
      rw [Array.getD_eq_getD_getElem?] at hq
      cases hq2 : a.tmps[t]? with
      | none => rw [hq2] at hq; simp [undef] at hq
      | some v => rw [hq2] at hq; simp at hq; rw [hq]
    simp only [hy]
    cases b' <;> cases want <;> rfl
def AS (lt : LT) (h : AH) (fr : AFr) (g0 : Gh) (w0 : World) (a : Act) (w : World) : Prop := ∃ g lb, Ev g0 w0 g w ∧ Rel g w h ∧ FR lt g w w0.heap.size lb fr a
theorem aStep_sound {ops : List Oper} {o : Oper} {fr' : AFr} {h' : AH} (hx : aStep P lt ops o fr h = some (fr', h')) {g0 : Gh} {w0 : World} (S : AS lt h fr g0 w0 a w) {Q : Exit → Act → World → Prop} {K : Act → World → Prop}
    (hK : ∀ a' w', AS lt h' fr' g0 w0 a' w' → K a' w') :
    if Region.wanted o (yielded ops.toArray a.tmps) then o.wp P a w K Q else K (a.put o.dst undef) w := by
  obtain ⟨g, lb, E, R, F⟩ := S
  unfold aStep at hx
  split at hx
  · rename_i hg
    rw [if_pos (aWanted_sound F hg)]
    split at hx
    case h_2 => cases hx
    rename_i s fr1 h1 he
    have hx : slotOK lt o.dst s = true ∧ fr1.put o.dst s = fr' ∧ h1 = h' := by
      split at hx
      · rename_i d hd
        split at hx
        case h_2 => cases hx
        rename_i hs
        injection hx with hx
        injection hx with hx hy
        rw [hd]
        exact ⟨hs, hx, hy⟩
      · rename_i hd
        injection hx with hx
        injection hx with hx hy
        rw [hd]
        exact ⟨by cases s <;> rfl, hx, hy⟩
    obtain ⟨hs, hx, hy⟩ := hx
    subst hx hy
    obtain ⟨n, v, g', w', lb', k1, k2, k3, k4, k5, k6⟩ := aEff_sound he g0 w0 g w lb a E R F
    simp only at k4 k5 k6
    unfold Oper.wp
    simp only at k1
    rw [k1]
    rcases k2 with rfl | ⟨rfl, rfl⟩
    · exact hK _ _ ⟨g', lb', k3, k4, k5.put k6 hs⟩
    · exact hK _ _ ⟨g', lb', k3, k4, k5.put k6 hs⟩
  · rename_i hg
    have hx : fr.put o.dst (.v (.tup [])) = fr' ∧ h = h' := by
      split at hx
      · rename_i d hd
        injection hx with hx
        injection hx with hx hy
        rw [hd]
        exact ⟨hx, hy⟩
      · rename_i hd
        injection hx with hx
        injection hx with hx hy
        rw [hd]
        exact ⟨hx, hy⟩
    obtain ⟨hx, hy⟩ := hx
    subst hx hy
    rw [if_neg (by rw [aWanted_sound F hg]; simp)]
    exact hK _ _ ⟨g, lb, E, R, F.put (s := .v (.tup [])) (VR.tup [] #[] rfl fun i hi => by simp at hi) rfl⟩
  · cases hx
end
end Go.Am
end
