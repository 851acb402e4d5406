import Derived.Test.YtlnpifmdjcnflaaGreatDoorS3
import Derived.Test.YtlnpifmdjcnflaaGreatDoorProg
set_option linter.unusedVariables false
set_option linter.unusedSimpArgs false
section
set_option linter.unusedVariables false
set_option linter.unusedSimpArgs false
namespace Go.Am
section
variable {P : Program} {lt : LT} {h : AH} {fr : AFr} {ops l : List Oper} {o : Oper}
theorem StepD.loadO {t : TypeId} {x : Operand} {b : Bool} {n ob off : Nat} {cs : List AV} {y : AV} (ho : o.op = .load t x) (hw : aWanted ops fr o.guard = some true) (ha : aggT P t = some b) (hz : szT P t = some n)
    (ex : fr.ev x = .v (.ptr ob off)) (hg : h.get ob = some (.cells cs)) (hy : AV.ld b n cs off = some y) : StepD P lt ops o fr h (.v y) h :=
  StepD.op hw (by rw [ho]; simp only [aEffD, aPureD, aPure, aLoad, ha, hz, ex, hg, hy]) rfl
theorem StepD.storeO {t : TypeId} {x v : Operand} {n ob off : Nat} {cs old r : List AV} (ho : o.op = .store t x v) (hw : aWanted ops fr o.guard = some true) (hz : szT P t = some n) (hv : evCs fr v = some cs) (hn : Nat.beq cs.length n = true)
    (ex : fr.ev x = .v (.ptr ob off)) (hg : h.get ob = some (.cells old)) (hb : Nat.ble (off + cs.length) old.length = true) (hr : setAtO off cs old = some r) : StepD P lt ops o fr h .junk (h.set ob (.cells r)) :=
  StepD.op hw (by rw [ho]; simp only [aEffD, aStoreD, hz, hv, ex, hn, hg, hb, hr]) rfl
theorem AD.loadO {t : TypeId} {x : Operand} {b : Bool} {n ob off k : Nat} {cs : List AV} {y : AV} {K : List Ent → List AH → AFr → AH → Prop} (ho : o.op = .load t x) (hw : aWanted ops fr o.guard = some true) (ha : aggT P t = some b) (hz : szT P t = some n)
    (ex : fr.ev x = .v (.ptr ob off)) (hg : h.get ob = some (.cells cs)) (hy : AV.ld b n cs off = some y) {d : Tmp} (hd : o.dst = some d) (T : AD P lt ops l (fr.putD d (.v y)) h k fun ents hs fr' h' => K (⟨o, fr, .v y, 1, k⟩ :: ents) hs fr' h') : AD P lt ops (o :: l) fr h k K :=
  AD.read (StepD.loadO ho hw ha hz ex hg hy) hd T
def aCalleeV (fr : AFr) (o : Op) : Option (Operand × List AV) :=
  match o with
  | .call c => match c.callee with
    | .value x => match fr.evs c.args.toList with
      | some args => some (x, args)
      | none => none
    | _ => none
  | _ => none
theorem aCalleeV_run {x : Operand} {f : FuncId} {args caps : List AV} (hc : aCalleeV fr o.op = some (x, args)) (hx : fr.ev x = .v (.clo f caps)) : ∃ ays, aCallee fr o.op = some (f, ays) ∧ ays = args ++ caps := by
  unfold aCalleeV at hc
  split at hc
  case h_2 => cases hc
  rename_i c hop
  split at hc
  case h_2 => cases hc
  rename_i y hy
  split at hc
  case h_2 => cases hc
  rename_i ays has
  injection hc with hc; injection hc with h1 h2
  subst h1 h2
  cases caps with
  | nil => exact ⟨ays, by simp only [aCallee, hop, hy, hx, has], by simp⟩
  | cons a r => exact ⟨ays ++ a :: r, by simp only [aCallee, hop, hy, hx, has], rfl⟩
theorem AL.callVE {x : Operand} {f : FuncId} {args caps : List AV} {Q : AV → AH → Prop} {K : AFr → AH → Prop} (hc : aCalleeV fr o.op = some (x, args)) (hx : fr.ev x = .v (.clo f caps)) (hg : aWanted ops fr o.guard = some true) (hf : ∀ (vs : Array Value) (w : World), (callFunc f vs).run P w = .ok (.enter f vs) w)
    (H : ARunE P f (args ++ caps) h Q) {d : Tmp} (hd : o.dst = some d) (T : ∀ v h1, Q v h1 → AL P lt ops l (fr.putD d (.v v)) h1 K) : AL P lt ops (o :: l) fr h K := by
  obtain ⟨ays, h1, rfl⟩ := aCalleeV_run hc hx
  exact AL.callE h1 hg hf H hd T
def Tk.tail : Tk → Tk
  | .own l v => .suf l v
  | tk => tk
theorem StepD.sliceFrom {t e : TypeId} {x y : Operand} {tk : Tk} {sz : Nat} {es : List (List AV)} {n : Nat} (ho : o.op = .slice t x (some y) none none) (hw : aWanted ops fr o.guard = some true) (ht : P.underlying t = some (.slice e)) (hz : szT P e = some sz) (ex : fr.ev x = .v (.vec tk sz es)) (h1 : aBnd fr (some y) 0 = some n) (h3 : n ≤ es.length) :
    ∀ h, StepD P lt ops o fr h (.v (.vec tk.tail sz (es.drop n))) h :=
  StepD.pure hw (fun h => by
    rw [ho]; simp only [aPure, aSlice, ht, ex, h1, bnd_none]
    rw [if_pos ⟨hz, h3, Nat.le_refl _⟩]
    cases tk <;> rfl) rfl (fun h => by rw [ho]; rfl)
end
end Go.Am
end
section
set_option linter.unusedVariables false
set_option linter.unusedSimpArgs false
namespace Go.Am
abbrev View := List (Nat × List AV)
def HV (h : AH) : View → Prop
  | [] => True
  | (o, cs) :: r => (h.get o = some (.cells cs) ∧ o < h.n ∧ ∀ e ∈ r, e.1 ≠ o) ∧ HV h r
structure Kp (ids : List Nat) (h0 h : AH) : Prop where
  n : h0.n ≤ h.n
  get : ∀ k, k < h0.n → k ∉ ids → h.get k = h0.get k
  nt : h0.nt ≤ h.nt
  tip : ∀ l, l < h0.nt → h.tip l = h0.tip l
  tabs : h.tabs = h0.tabs
theorem Kp.refl {ids : List Nat} {h : AH} : Kp ids h h := ⟨Nat.le_refl _, fun _ _ _ => rfl, Nat.le_refl _, fun _ _ => rfl, rfl⟩
theorem Kp.trans {ids : List Nat} {h0 h1 h2 : AH} (a : Kp ids h0 h1) (b : Kp ids h1 h2) : Kp ids h0 h2 :=
  ⟨Nat.le_trans a.n b.n, fun k hk hi => (b.get k (Nat.lt_of_lt_of_le hk a.n) hi).trans (a.get k hk hi), Nat.le_trans a.nt b.nt, fun l hl => (b.tip l (Nat.lt_of_lt_of_le hl a.nt)).trans (a.tip l hl), b.tabs.trans a.tabs⟩
theorem Kp.sub {ids ids' : List Nat} {h0 h1 : AH} (a : Kp ids h0 h1) (hs : ∀ i ∈ ids, i ∈ ids' ∨ h0.n ≤ i) : Kp ids' h0 h1 :=
  ⟨a.n, fun k hk hi => a.get k hk fun hm => (hs k hm).elim hi (by omega), a.nt, a.tip, a.tabs⟩
theorem Kp.step {ids ids' : List Nat} {h0 h1 h2 : AH} (a : Kp ids h0 h1) (b : Kp ids' h1 h2) (hs : ∀ i ∈ ids', i ∈ ids ∨ h0.n ≤ i) : Kp ids h0 h2 :=
  ⟨Nat.le_trans a.n b.n, fun k hk hi => (b.get k (Nat.lt_of_lt_of_le hk a.n) fun hm => (hs k hm).elim hi (by omega)).trans (a.get k hk hi), Nat.le_trans a.nt b.nt, fun l hl => (b.tip l (Nat.lt_of_lt_of_le hl a.nt)).trans (a.tip l hl), b.tabs.trans a.tabs⟩
structure HI (h0 : AH) (ids : List Nat) (h : AH) (V : View) : Prop where
  hv : HV h V
  kp : Kp ids h0 h
  new : ∀ e ∈ V, e.1 ∈ ids ∨ h0.n ≤ e.1
theorem HV.get {h : AH} {V : View} (H : HV h V) {e : Nat × List AV} (he : e ∈ V) : h.get e.1 = some (.cells e.2) ∧ e.1 < h.n := by
  induction V with
  | nil => simp at he
  | cons x r ih =>
    obtain ⟨o, cs⟩ := x
    rcases List.mem_cons.1 he with rfl | he
    · exact ⟨H.1.1, H.1.2.1⟩
    · exact ih H.2 he
theorem HV.of {h : AH} {V : View} (hg : ∀ e ∈ V, h.get e.1 = some (.cells e.2) ∧ e.1 < h.n) (hd : (V.map (·.1)).Nodup) : HV h V := by
  induction V with
  | nil => trivial
  | cons x r ih =>
    obtain ⟨o, cs⟩ := x
    rw [List.map_cons, List.nodup_cons] at hd
    obtain ⟨h1, h2⟩ := hg (o, cs) (by simp)
    exact ⟨⟨h1, h2, fun e he hx => hd.1 (List.mem_map.2 ⟨e, he, hx⟩)⟩, ih (fun e he => hg e (by simp [he])) hd.2⟩
theorem HV.nodup {h : AH} {V : View} (H : HV h V) : (V.map (·.1)).Nodup := by
  induction V with
  | nil => exact List.nodup_nil
  | cons x r ih =>
    obtain ⟨o, cs⟩ := x
    rw [List.map_cons, List.nodup_cons]
    refine ⟨fun hm => ?_, ih H.2⟩
    obtain ⟨e, he, hx⟩ := List.mem_map.1 hm
    exact H.1.2.2 e he hx
def setV : Nat → Nat → List AV → View → Option View
  | 0, o, r, _ :: V => some ((o, r) :: V)
  | j + 1, o, r, e :: V => match setV j o r V with
    | some V' => some (e :: V')
    | none => none
  | _, _, _, [] => none
def getV : Nat → View → Option (Nat × List AV)
  | 0, e :: _ => some e
  | j + 1, _ :: V => getV j V
  | _, [] => none
theorem getV_mem {j : Nat} {V : View} {e : Nat × List AV} (h : getV j V = some e) : e ∈ V := by
  induction V generalizing j with
  | nil => cases j <;> simp [getV] at h
  | cons x r ih =>
    cases j with
    | zero => simp only [getV] at h; injection h with h; subst h; simp
    | succ j => exact List.mem_cons_of_mem _ (ih h)
theorem setV_spec {j o : Nat} {r cs : List AV} {V V' : View} (hg : getV j V = some (o, cs)) (hs : setV j o r V = some V') :
    V'.map (·.1) = V.map (·.1) ∧ (o, r) ∈ V' ∧ ∀ e ∈ V', e = (o, r) ∨ e ∈ V := by
  induction V generalizing j V' with
  | nil => cases j <;> simp [getV] at hg
  | cons x V ih =>
    cases j with
    | zero =>
      simp only [getV] at hg; injection hg with hg; subst hg
      simp only [setV] at hs; injection hs with hs; subst hs
      exact ⟨rfl, by simp, fun e he => by rcases List.mem_cons.1 he with h | h; exact .inl h; exact .inr (List.mem_cons_of_mem _ h)⟩
    | succ j =>
      simp only [getV] at hg
      simp only [setV] at hs
      split at hs
      case h_2 => cases hs
      rename_i V1 h1
      injection hs with hs; subst hs
      obtain ⟨k1, k2, k3⟩ := ih hg h1
      refine ⟨by simp [k1], by simp [k2], fun e he => ?_⟩
      rcases List.mem_cons.1 he with h | h
      · exact .inr (by simp [h])
      · rcases k3 e h with h | h
        · exact .inl h
        · exact .inr (by simp [h])
theorem HV.set {h : AH} {V V' : View} {j o : Nat} {cs r : List AV} (H : HV h V) (hg : getV j V = some (o, cs)) (hs : setV j o r V = some V') : HV (h.set o (.cells r)) V' := by
  obtain ⟨k1, k2, k3⟩ := setV_spec hg hs
  have hnd : (V'.map (·.1)).Nodup := by rw [k1]; exact H.nodup
  refine HV.of (fun e he => ?_) hnd
  by_cases heo : e.1 = o
  · have : e = (o, r) := by
      have inj : ∀ (W : View), (W.map (·.1)).Nodup → ∀ a ∈ W, ∀ b ∈ W, a.1 = b.1 → a = b := by
        intro W
        induction W with
        | nil => intro _ a ha; simp at ha
        | cons x W ih =>
          intro hn a ha b hb hab
          rw [List.map_cons, List.nodup_cons] at hn
          rcases List.mem_cons.1 ha with ha | ha <;> rcases List.mem_cons.1 hb with hb | hb
          · rw [ha, hb]
          · exact absurd (List.mem_map.2 ⟨b, hb, by rw [← hab, ha]⟩) hn.1
          · exact absurd (List.mem_map.2 ⟨a, ha, by rw [hab, hb]⟩) hn.1
          · exact ih hn.2 a ha b hb hab
      exact inj _ hnd _ he _ k2 heo
    subst this
    refine ⟨by simp [AH.set], ?_⟩
    exact (H.get (getV_mem hg)).2
  · rcases k3 e he with h1 | h1
    · exact absurd (by rw [h1]) heo
    · obtain ⟨q1, q2⟩ := H.get h1
      exact ⟨by simp only [AH.set]; rw [if_neg heo]; exact q1, q2⟩
theorem HV.push {h : AH} {V : View} {cs : List AV} (H : HV h V) : HV (h.push (.cells cs)) (V ++ [(h.n, cs)]) := by
  refine HV.of (fun e he => ?_) ?_
  · rcases List.mem_append.1 he with he | he
    · obtain ⟨q1, q2⟩ := H.get he
      exact ⟨by simp only [AH.push]; rw [if_neg (by omega)]; exact q1, by simp only [AH.push]; omega⟩
    · rw [List.mem_singleton] at he; subst he
      exact ⟨by simp [AH.push], by simp [AH.push]⟩
  · rw [List.map_append, List.nodup_append]
    refine ⟨H.nodup, by simp, fun x hx y hy => ?_⟩
    obtain ⟨e, he, rfl⟩ := List.mem_map.1 hx
    have := (H.get he).2
    simp at hy
    omega
def AH.none : AH := ⟨0, fun _ => .none, 0, fun _ => 0, fun _ => .none⟩
def hardOp : Op → Bool
  | .slice .. => true
  | .indexAddr .. => true
  | .typeAssert .. => true
  | .lookup .. => true
  | .makeMap .. => true
  | .mapUpdate .. => true
  | .insert .. => true
  | .defer .. => true
  | _ => false
abbrev SRes := Nat × Slot × AFr × View × Nat × Option (Nat × Nat) × Option (Int × Nat)
def pureV (P : Program) (lt : LT) (o : Oper) (fr : AFr) (V : View) (n : Nat) : Option SRes :=
  match hardOp o.op with
  | true => none
  | false => match kindOf fr o.op with
    | 0 => match aPure P fr AH.none o.op with
      | some s => match o.dst with
        | some d => match slotOK lt (some d) s with
          | true => some (0, s, fr.putD d s, V, n, none, none)
          | false => none
        | none => none
      | none => none
    | _ => none
def allocV (lt : LT) (dst : Option Tmp) (fr : AFr) (V : View) (n : Nat) (cs : Option (List AV)) : Option SRes :=
  match dst, cs with
  | some d, some cs => match lt.has d with
    | none => some (2, .v (.ptr n 0), fr.putD d (.v (.ptr n 0)), V ++ [(n, cs)], n + 1, none, none)
    | some l => some (3, .lp d 0, (fr.newLoc d l cs).putD d (.lp d 0), V, n, none, none)
  | _, _ => none
def loadV (P : Program) (lt : LT) (o : Oper) (t : TypeId) (x : Operand) (fr : AFr) (V : View) (n j : Nat) : Option SRes :=
  match fr.ev x with
  | .v (.ptr ob off) => match getV j V, aggT P t, szT P t, o.dst with
    | some (o', cs), some b, some m, some d => match AV.ld b m cs off with
      | some y => some (1, .v y, fr.putD d (.v y), V, n, some (ob, o'), none)
      | none => none
    | _, _, _, _ => none
  | _ => pureV P lt o fr V n
def storeV (P : Program) (lt : LT) (o : Oper) (t : TypeId) (x v : Operand) (fr : AFr) (V : View) (n j : Nat) : Option SRes :=
  match fr.ev x with
  | .v (.ptr ob off) => match getV j V, szT P t, evCs fr v, o.dst with
    | some (o', old), some m, some cs, none => match Nat.beq cs.length m, Nat.ble (off + cs.length) old.length, setAtO off cs old with
      | true, true, some r => match setV j o' r V with
        | some V' => some (2, .junk, fr, V', n, some (ob, o'), none)
        | none => none
      | _, _, _ => none
    | _, _, _, _ => none
  | .lp _ _ => match aStore P fr AH.none t x v, o.dst with
    | some (s, fr', _), none => some (3, s, fr', V, n, none, none)
    | _, _ => none
  | _ => none
def indexV (P : Program) (o : Oper) (t : TypeId) (x i : Operand) (fr : AFr) (V : View) (n : Nat) : Option SRes :=
  match P.underlying t, fr.ev x, fr.ev i, o.dst with
  | some .string, .v (.str s), .v (.int _ m), some d => some (0, .v (.int .u8 (s.getD m.toNat 0).toNat), fr.putD d (.v (.int .u8 (s.getD m.toNat 0).toNat)), V, n, none, some (m, s.length))
  | _, _, _, _ => none
def litV (P : Program) (o : Oper) (t : TypeId) (k : Nat) (parts : Array (Nat × Operand)) (fr : AFr) (V : View) (n : Nat) : Option SRes :=
  match aBuildSlice P fr t k parts, o.dst with
  | some (.v x), some d => some (0, .v x, fr.putD d (.v x), V, n, none, none)
  | _, _ => none
def boxV (lt : LT) (im : List Nat) (o : Oper) (x : Operand) (fr : AFr) (V : View) (n : Nat) : Option SRes :=
  match o.dst with
  | some d => match im.contains d with
    | true => match evCs fr x with
      | some cs => some (0, .v (.ref none cs), fr.putD d (.v (.ref none cs)), V, n, none, none)
      | none => none
    | false => allocV lt o.dst fr V n (evCs fr x)
  | none => none
def coreV (P : Program) (lt : LT) (im : List Nat) (o : Oper) (fr : AFr) (V : View) (n j : Nat) : Option SRes :=
  match o.op with
  | .load t x => loadV P lt o t x fr V n j
  | .store t x v => storeV P lt o t x v fr V n j
  | .alloc t => allocV lt o.dst fr V n (zeroCs P t)
  | .box _ x => boxV lt im o x fr V n
  | .index t x i => indexV P o t x i fr V n
  | .buildSlice t k parts => litV P o t k parts fr V n
  | _ => pureV P lt o fr V n
def stepV (P : Program) (lt : LT) (im : List Nat) (ops : List Oper) (o : Oper) (fr : AFr) (V : View) (n j : Nat) : Option SRes :=
  match aWanted ops fr o.guard with
  | some true => coreV P lt im o fr V n j
  | some false => match o.dst with
    | some d => some (0, .v (.tup []), fr.putD d (.v (.tup [])), V, n, none, none)
    | none => some (0, .v (.tup []), fr, V, n, none, none)
  | none => none
def trOK (p : Option (Nat × Nat)) : Prop := ∀ a b, p = some (a, b) → a = b
def obOK (p : Option (Int × Nat)) : Prop := ∀ a b, p = some (a, b) → 0 ≤ a ∧ a < b
def NewH (h h' : AH) (V V' : View) (n' : Nat) : Prop := HV h' V' ∧ h'.n = n' ∧ (∀ h0 ids, HI h0 ids h V → HI h0 ids h' V') ∧ h'.nt = h.nt ∧ h'.tip = h.tip ∧ h.n ≤ n' ∧ (V = [] → n' = h.n → V' = [] ∧ h' = h)
def SOK (P : Program) (lt : LT) (ops : List Oper) (o : Oper) (fr : AFr) (h : AH) (V : View) (n : Nat) : SRes → Prop
  | (k, s, fr', V', n', _, _) =>
    (k = 0 ∧ fr' = fr.put o.dst s ∧ V' = V ∧ n' = n ∧ ∀ h, StepD P lt ops o fr h s h) ∨ (k = 1 ∧ fr' = fr.put o.dst s ∧ V' = V ∧ n' = n ∧ StepD P lt ops o fr h s h) ∨
    (k = 2 ∧ fr' = fr.put o.dst s ∧ ∃ h', StepD P lt ops o fr h s h' ∧ NewH h h' V V' n') ∨ (k = 3 ∧ V' = V ∧ n' = n ∧ ∀ h, aStep P lt ops o fr h = some (fr', h))
section
variable {P : Program} {lt : LT} {im : List Nat} {ops l : List Oper} {o : Oper} {fr : AFr} {h : AH} {V : View} {n j : Nat}
theorem aEffD_pure {op : Op} {dst : Option Tmp} {s : Slot} (hh : hardOp op = false) (hx : aPure P fr h op = some s) : aEffD P lt fr h dst op = some (s, h) := by
  cases op <;> first
    | (cases hh; done)
    | (simp only [aEffD, aPureD, hx]; done)
    | (simp [aPure] at hx; done)
theorem pureV_ok {r : SRes} (hw : aWanted ops fr o.guard = some true) (hx : pureV P lt o fr V n = some r) : SOK P lt ops o fr h V n r := by
  unfold pureV at hx
  split at hx
  case h_1 => cases hx
  rename_i hh
  split at hx
  case h_2 => cases hx
  rename_i hk
  split at hx
  case h_2 => cases hx
  rename_i s hs
  split at hx
  case h_2 => cases hx
  rename_i d hd
  split at hx
  case h_2 => cases hx
  rename_i ho
  injection hx with hx; subst hx
  refine .inl ⟨rfl, by rw [hd]; rfl, rfl, rfl, fun h2 => StepD.op hw (aEffD_pure hh (aPure_free hk hs h2)) (by rw [hd]; exact ho)⟩
theorem allocV_ok {r : SRes} {cs : Option (List AV)} (hw : aWanted ops fr o.guard = some true) (hv : HV h V) (hn : h.n = n) (hop : ∀ h, aEffD P lt fr h o.dst o.op = aAllocD lt h o.dst cs)
    (hop2 : ∀ h, aEff P lt fr h o.dst o.op = aAlloc P lt fr h o.dst cs) (hx : allocV lt o.dst fr V n cs = some r) : SOK P lt ops o fr h V n r := by
  unfold allocV at hx
  split at hx
  case h_2 => cases hx
  rename_i d cs hd
  split at hx
  · rename_i hl
    injection hx with hx; subst hx hn
    refine .inr (.inr (.inl ⟨rfl, by rw [hd]; rfl, h.push (.cells cs), StepD.op hw (by rw [hop, hd]; simp only [aAllocD, hl]) (by rw [hd]; rfl), hv.push, rfl, fun h0 ids H => ⟨hv.push, ?_, fun e he => ?_⟩, rfl, rfl, Nat.le_succ _, fun _ e => absurd e (Nat.succ_ne_self _)⟩))
    · exact ⟨by have := H.kp.n; simp only [AH.push]; omega, fun k hk hi => by have := H.kp.n; simp only [AH.push]; rw [if_neg (by omega)]; exact H.kp.get k hk hi, H.kp.nt, H.kp.tip, H.kp.tabs⟩
    · rcases List.mem_append.1 he with he | he
      · exact H.new e he
      · rw [List.mem_singleton] at he; subst he
        exact .inr H.kp.n
  · rename_i l hl
    injection hx with hx; subst hx
    refine .inr (.inr (.inr ⟨rfl, rfl, rfl, fun h2 => ?_⟩))
    have hop3 := hop2 h2
    rw [hd] at hop3
    simp only [aStep, hw, hd, hop3, aAlloc, hl]
    rw [show slotOK lt (some d) (.lp d 0) = true from by
      simp only [slotOK]
      clear hop hop2 hop3 hw
      induction lt with
      | nil => cases hl
      | cons p r ih =>
        obtain ⟨d', l'⟩ := p
        simp only [LT.has] at hl
        simp only [LT.mayHold]
        by_cases hdd : d' = d
        · rw [if_pos hdd]; simp
        · rw [if_neg hdd] at hl ⊢; exact ih hl]
theorem loadV_ok {r : SRes} {t : TypeId} {x : Operand} (ho : o.op = .load t x) (hw : aWanted ops fr o.guard = some true) (hv : HV h V) (hx : loadV P lt o t x fr V n j = some r) (ht : trOK r.2.2.2.2.2.1) : SOK P lt ops o fr h V n r := by
  unfold loadV at hx
  split at hx
  · rename_i ob off ex
    split at hx
    case h_2 => cases hx
    rename_i o' cs b m d hg ha hz hd
    split at hx
    case h_2 => cases hx
    rename_i y hy
    injection hx with hx; subst hx
    have := ht ob o' rfl; subst this
    exact .inr (.inl ⟨rfl, by rw [hd]; rfl, rfl, rfl, StepD.loadO ho hw ha hz ex (hv.get (getV_mem hg)).1 hy⟩)
  · exact pureV_ok hw hx
theorem storeV_ok {r : SRes} {t : TypeId} {x v : Operand} (ho : o.op = .store t x v) (hw : aWanted ops fr o.guard = some true) (hv : HV h V) (hn : h.n = n) (hx : storeV P lt o t x v fr V n j = some r) (ht : trOK r.2.2.2.2.2.1) : SOK P lt ops o fr h V n r := by
  unfold storeV at hx
  split at hx
  · rename_i ob off ex
    split at hx
    case h_2 => cases hx
    rename_i o' old m cs hg hz hcs hd
    split at hx
    case h_2 => cases hx
    rename_i r' h1 h2 h3
    split at hx
    case h_2 => cases hx
    rename_i V' hs
    injection hx with hx; subst hx
    have := ht ob o' rfl; subst this
    have hmem := getV_mem hg
    have hset := hv.set hg hs
    obtain ⟨k1, k2, k3⟩ := setV_spec hg hs
    refine .inr (.inr (.inl ⟨rfl, by rw [hd]; rfl, _, StepD.storeO ho hw hz hcs h1 ex (hv.get hmem).1 h2 h3, hset, hn, fun h0 ids H => ⟨hset, ⟨H.kp.n, fun k hk hi => ?_, H.kp.nt, H.kp.tip, H.kp.tabs⟩, fun e he => ?_⟩, rfl, rfl, Nat.le_of_eq hn, fun e _ => by rw [e] at hmem; cases hmem⟩))
    · simp only [AH.set]
      rw [if_neg]
      · exact H.kp.get k hk hi
      · rintro rfl
        rcases H.new _ hmem with h4 | h4
        · exact hi h4
        · simp only at h4; omega
    · rcases k3 e he with h4 | h4
      · subst h4; exact H.new (ob, old) hmem
      · exact H.new e h4
  · rename_i d off ex
    split at hx
    case h_2 => cases hx
    rename_i s fr' h3 hs hd
    injection hx with hx; subst hx
    refine .inr (.inr (.inr ⟨rfl, rfl, rfl, fun h2 => ?_⟩))
    have : aStore P fr h2 t x v = some (s, fr', h2) := by
      unfold aStore at hs ⊢
      cases hz : szT P t with
      | none => rw [hz] at hs; cases hs
      | some m =>
        cases hc : evCs fr v with
        | none => rw [hz, hc] at hs; cases hs
        | some cs =>
          simp only [hz, hc] at hs ⊢
          cases hb : Nat.beq cs.length m with
          | false => rw [hb] at hs; cases hs
          | true =>
            rw [hb, ex] at hs
            simp only [ex]
            simp only at hs
            cases hl : Nat.ble (off + cs.length) (fr.loc d).length with
            | false => rw [hl] at hs; cases hs
            | true =>
              cases hr : setAtO off cs (fr.loc d) with
              | none => rw [hl, hr] at hs; cases hs
              | some r =>
                rw [hl, hr] at hs
                injection hs with hs; injection hs with q1 hs; injection hs with q2 q3
                subst q1 q2
                rfl
    simp only [aStep, hw, ho, aEff, this, hd]
  · cases hx
theorem indexV_ok {r : SRes} {t : TypeId} {x i : Operand} (ho : o.op = .index t x i) (hw : aWanted ops fr o.guard = some true) (hx : indexV P o t x i fr V n = some r) (hb : obOK r.2.2.2.2.2.2) : SOK P lt ops o fr h V n r := by
  unfold indexV at hx
  split at hx
  case h_2 => cases hx
  rename_i s k m d hu ex ei hd
  injection hx with hx; subst hx
  obtain ⟨h0, h1⟩ := hb m s.length rfl
  have hlt : m.toNat < s.length := by omega
  refine .inl ⟨rfl, by rw [hd]; rfl, rfl, rfl, StepD.index ho hw hu ex ei h0 ?_⟩
  rw [List.getD_eq_getElem?_getD, List.getElem?_eq_getElem hlt]; rfl
theorem litV_ok {r : SRes} {t : TypeId} {k : Nat} {parts : Array (Nat × Operand)} (ho : o.op = .buildSlice t k parts) (hw : aWanted ops fr o.guard = some true) (hx : litV P o t k parts fr V n = some r) : SOK P lt ops o fr h V n r := by
  unfold litV at hx
  split at hx
  case h_2 => cases hx
  rename_i x d hb hd
  injection hx with hx; subst hx
  exact .inl ⟨rfl, by rw [hd]; rfl, rfl, rfl, fun h2 => StepD.op hw (by rw [ho]; simp only [aEffD, aLitD, hb]) rfl⟩
theorem evCs_ev {x : Operand} {cs : List AV} (hc : evCs fr x = some cs) : ∃ y, fr.ev x = .v y ∧ y.cells = some cs := by
  unfold evCs at hc
  split at hc
  case h_2 => cases hc
  rename_i y ey
  exact ⟨y, ey, hc⟩
theorem boxV_ok {r : SRes} {t : TypeId} {x : Operand} (ho : o.op = .box t x) (hw : aWanted ops fr o.guard = some true) (hv : HV h V) (hn : h.n = n) (hx : boxV lt im o x fr V n = some r) : SOK P lt ops o fr h V n r := by
  unfold boxV at hx
  split at hx
  case h_2 => cases hx
  rename_i d hd
  split at hx
  · split at hx
    case h_2 => cases hx
    rename_i cs hc
    injection hx with hx; subst hx
    obtain ⟨y, ey, hy⟩ := evCs_ev hc
    exact .inl ⟨rfl, by rw [hd]; rfl, rfl, rfl, StepD.boxRef ho hw ey hy⟩
  · exact allocV_ok hw hv hn (fun h => by rw [ho]; rfl) (fun h => by rw [ho]; rfl) hx
theorem stepV_ok {r : SRes} (hv : HV h V) (hn : h.n = n) (hx : stepV P lt im ops o fr V n j = some r) (ht : trOK r.2.2.2.2.2.1) (hb : obOK r.2.2.2.2.2.2) : SOK P lt ops o fr h V n r := by
  unfold stepV at hx
  split at hx
  · rename_i hw
    unfold coreV at hx
    split at hx
    · rename_i ho; exact loadV_ok ho hw hv hx ht
    · rename_i ho; exact storeV_ok ho hw hv hn hx ht
    · rename_i ho; exact allocV_ok hw hv hn (fun h => by rw [ho]; rfl) (fun h => by rw [ho]; rfl) hx
    · rename_i ho; exact boxV_ok ho hw hv hn hx
    · rename_i ho; exact indexV_ok ho hw hx hb
    · rename_i ho; exact litV_ok ho hw hx
    · exact pureV_ok hw hx
  · rename_i hw
    split at hx
    · rename_i d hd
      injection hx with hx; subst hx
      exact .inl ⟨rfl, by rw [hd]; rfl, rfl, rfl, fun h => StepD.off hw⟩
    · rename_i hd
      injection hx with hx; subst hx
      exact .inl ⟨rfl, by rw [hd]; rfl, rfl, rfl, fun h => StepD.off hw⟩
  · cases hx
end
end Go.Am
end
section
set_option linter.unusedVariables false
set_option linter.unusedSimpArgs false
namespace Go.Am
inductive Kt where
  | seq (c : Code)
  | blk (id : Nat)
  | lp (c : Code)
  | stp
inductive Cur where
  | code (c : Code)
  | ops (ops l : List Oper) (D : List Nat)
  | dops (ops l : List Oper) (D pre : List Nat)
  | ext (e : Exit)
def contK (P : Program) (lt : LT) (C : Exit → AFr → AH → Prop) : List Kt → Exit → AFr → AH → Prop
  | [] => C
  | .seq y :: ks => thenC (fun fr h => AC P lt y fr h (contK P lt C ks)) (contK P lt C ks)
  | .blk id :: ks => blockC id (contK P lt C ks)
  | .lp c :: ks => thenC (fun fr h => AW P lt c fr h (contK P lt C ks)) (contK P lt C ks)
  | .stp :: ks => contK P lt C ks
def drawOK' (ops : List Oper) (kinds : List Nat) : Bool := drawOK ops kinds && (pend (ancs ops []) (effsOf 0 kinds) (effsOf 0 kinds).length 0 kinds).isEmpty
def DK (ops : List Oper) (pre : List Nat) (C : AFr → AH → Prop) : List Ent → List AH → AFr → AH → Prop := fun ents _ fr' h' => drawOK' ops (pre.reverse ++ ents.map (·.kind)) = true ∧ C fr' h'
def XS (P : Program) (lt : LT) (C : Exit → AFr → AH → Prop) : Cur → List Kt → AFr → AH → Prop
  | .code c, ks, fr, h => AC P lt c fr h (contK P lt C ks)
  | .ops ops l _, ks, fr, h => AL P lt ops l fr h (contK P lt C ks .normal)
  | .dops ops l _ pre, ks, fr, h => ∀ k, AD P lt ops l fr h k (DK ops pre (contK P lt C ks .normal))
  | .ext e, ks, fr, h => contK P lt C ks e fr h
structure XR where
  cur : Cur
  ks : List Kt
  fr : AFr
  V : View
  n : Nat
  tr : List (Nat × Nat)
  ob : List (Int × Nat)
  dr : List (List Oper × List Nat)
def gOK (ops : List Oper) (fr : AFr) (g : Option (Nat × Bool)) (D : List Nat) : Bool :=
  match g with
  | none => true
  | some (j, _) => match gdst ops j with
    | some t => match fr.ev (.tmp t) with
      | .v (.tup _) => true
      | _ => D.contains j
    | none => D.contains j
/-- A hint below 90: an object of the view. 91, 90: a condition is true, false. 92: a guard is decided. -/
def hd0 : List Nat → Nat
  | [] => 0
  | j :: _ => match Nat.ble 90 j with
    | true => 0
    | false => j
def tl0 : List Nat → List Nat
  | [] => []
  | j :: r => match Nat.ble 90 j with
    | true => j :: r
    | false => r
def nd : List Nat → List Nat
  | [] => []
  | j :: r => match Nat.ble 90 j with
    | true => j :: r
    | false => nd r
def dcs : List Nat → Option Bool
  | [] => none
  | j :: _ => match Nat.beq j 91 with
    | true => some true
    | false => match Nat.beq j 90 with
      | true => some false
      | false => none
def dgd : List Nat → Option (Nat × Bool) → Option Nat
  | j :: _, some (k, _) => match Nat.beq j 92 with
    | true => some k
    | false => none
  | _, _ => none
def bcd : Slot → Nat
  | .v (.bool true) => 1
  | .v (.bool false) => 0
  | _ => 2
theorem bcd1 {x : Slot} (h : bcd x = 1) : x = .v (.bool true) := by
  unfold bcd at h
  split at h <;> first | rfl | cases h
theorem bcd0 {x : Slot} (h : bcd x = 0) : x = .v (.bool false) := by
  unfold bcd at h
  split at h <;> first | rfl | cases h
def consO {α : Type} (x : Option α) (l : List α) : List α :=
  match x with
  | none => l
  | some x => x :: l
def tlO {α : Type} (x : Option α) (l : List Nat) : List Nat :=
  match x with
  | none => l
  | some _ => tl0 l
def xrun (P : Program) (lt : LT) (im : List Nat) : Nat → Cur → List Kt → AFr → View → Nat → List Nat → List (Nat × Nat) → List (Int × Nat) → List (List Oper × List Nat) → XR
  | 0, cur, ks, fr, V, n, _, tr, ob, dr => ⟨cur, ks, fr, V, n, tr, ob, dr⟩
  | f + 1, .code c, ks, fr, V, n, hs, tr, ob, dr => match c with
    | .seq x y => xrun P lt im f (.code x) (.seq y :: ks) fr V n hs tr ob dr
    | .region _ ops false => xrun P lt im f (.ops ops.toList ops.toList []) ks fr V n hs tr ob dr
    | .region _ ops true => xrun P lt im f (.dops ops.toList ops.toList [] []) ks fr V n hs tr ob dr
    | .skip => xrun P lt im f (.ext .normal) ks fr V n hs tr ob dr
    | .ret => xrun P lt im f (.ext .ret) ks fr V n hs tr ob dr
    | .exit id => xrun P lt im f (.ext (.exit id)) ks fr V n hs tr ob dr
    | .block id c => xrun P lt im f (.code c) (.blk id :: ks) fr V n hs tr ob dr
    | .cond c x y => match dcs (nd hs) with
      | some true => xrun P lt im f (.code x) ks fr V n (nd hs).tail ((bcd (fr.ev c), 1) :: tr) ob dr
      | some false => xrun P lt im f (.code y) ks fr V n (nd hs).tail ((bcd (fr.ev c), 0) :: tr) ob dr
      | none => ⟨.code (.cond c x y), ks, fr, V, n, tr, ob, dr⟩
    | c => ⟨.code c, ks, fr, V, n, tr, ob, dr⟩
  | f + 1, .ops ops [] D, ks, fr, V, n, hs, tr, ob, dr => xrun P lt im f (.ext .normal) ks fr V n hs tr ob dr
  | f + 1, .ops ops (o :: l) D, ks, fr, V, n, hs, tr, ob, dr => match gOK ops fr o.guard D with
    | false => match dgd (nd hs) o.guard with
      | some j => xrun P lt im f (.ops ops (o :: l) (j :: D)) ks fr V n (nd hs).tail tr ob dr
      | none => ⟨.ops ops (o :: l) D, ks, fr, V, n, tr, ob, dr⟩
    | true => match stepV P lt im ops o fr V n (hd0 hs) with
      | none => ⟨.ops ops (o :: l) D, ks, fr, V, n, tr, ob, dr⟩
      | some (_, _, fr', V', n', none, none) => xrun P lt im f (.ops ops l D) ks fr' V' n' hs tr ob dr
      | some (_, _, fr', V', n', some t, none) => xrun P lt im f (.ops ops l D) ks fr' V' n' (tl0 hs) (t :: tr) ob dr
      | some (_, _, fr', V', n', none, some b) => xrun P lt im f (.ops ops l D) ks fr' V' n' hs tr (b :: ob) dr
      | some (_, _, fr', V', n', some t, some b) => xrun P lt im f (.ops ops l D) ks fr' V' n' (tl0 hs) (t :: tr) (b :: ob) dr
  | f + 1, .dops ops [] D pre, ks, fr, V, n, hs, tr, ob, dr => xrun P lt im f (.ext .normal) ks fr V n hs tr ob ((ops, pre) :: dr)
  | f + 1, .dops ops (o :: l) D pre, ks, fr, V, n, hs, tr, ob, dr => match gOK ops fr o.guard D with
    | false => match dgd (nd hs) o.guard with
      | some j => xrun P lt im f (.dops ops (o :: l) (j :: D) pre) ks fr V n (nd hs).tail tr ob dr
      | none => ⟨.dops ops (o :: l) D pre, ks, fr, V, n, tr, ob, dr⟩
    | true => match stepV P lt im ops o fr V n (hd0 hs) with
      | none => ⟨.dops ops (o :: l) D pre, ks, fr, V, n, tr, ob, dr⟩
      | some (3, _, _, _, _, _, _) => ⟨.dops ops (o :: l) D pre, ks, fr, V, n, tr, ob, dr⟩
      | some (k, _, fr', V', n', none, none) => xrun P lt im f (.dops ops l D (k :: pre)) ks fr' V' n' hs tr ob dr
      | some (k, _, fr', V', n', some t, none) => xrun P lt im f (.dops ops l D (k :: pre)) ks fr' V' n' (tl0 hs) (t :: tr) ob dr
      | some (k, _, fr', V', n', none, some b) => xrun P lt im f (.dops ops l D (k :: pre)) ks fr' V' n' hs tr (b :: ob) dr
      | some (k, _, fr', V', n', some t, some b) => xrun P lt im f (.dops ops l D (k :: pre)) ks fr' V' n' (tl0 hs) (t :: tr) (b :: ob) dr
  | _ + 1, .ext e, [], fr, V, n, _, tr, ob, dr => ⟨.ext e, [], fr, V, n, tr, ob, dr⟩
  | f + 1, .ext .normal, .seq y :: ks, fr, V, n, hs, tr, ob, dr => xrun P lt im f (.code y) ks fr V n hs tr ob dr
  | f + 1, .ext e, .seq _ :: ks, fr, V, n, hs, tr, ob, dr => xrun P lt im f (.ext e) ks fr V n hs tr ob dr
  | f + 1, .ext (.exit id'), .blk id :: ks, fr, V, n, hs, tr, ob, dr => match Nat.beq id' id with
    | true => xrun P lt im f (.ext .normal) ks fr V n hs tr ob dr
    | false => xrun P lt im f (.ext (.exit id')) ks fr V n hs tr ob dr
  | f + 1, .ext e, .blk _ :: ks, fr, V, n, hs, tr, ob, dr => xrun P lt im f (.ext e) ks fr V n hs tr ob dr
  | _ + 1, .ext .normal, .lp c :: ks, fr, V, n, _, tr, ob, dr => ⟨.ext .normal, .lp c :: ks, fr, V, n, tr, ob, dr⟩
  | f + 1, .ext e, .lp _ :: ks, fr, V, n, hs, tr, ob, dr => xrun P lt im f (.ext e) ks fr V n hs tr ob dr
  | _ + 1, .ext .normal, .stp :: ks, fr, V, n, _, tr, ob, dr => ⟨.ext .normal, .stp :: ks, fr, V, n, tr, ob, dr⟩
  | f + 1, .ext e, .stp :: ks, fr, V, n, hs, tr, ob, dr => xrun P lt im f (.ext e) ks fr V n hs tr ob dr
section
variable {P : Program} {lt : LT} {im : List Nat} {C : Exit → AFr → AH → Prop}
theorem mem_consO {α : Type} {x : α} {y : Option α} {l : List α} (h : x ∈ l) : x ∈ consO y l := by
  cases y with
  | none => exact h
  | some y => exact List.mem_cons_of_mem _ h
def Sub (tr : List (Nat × Nat)) (ob : List (Int × Nat)) (dr : List (List Oper × List Nat)) (R : XR) : Prop := (∀ p ∈ tr, p ∈ R.tr) ∧ (∀ p ∈ ob, p ∈ R.ob) ∧ ∀ p ∈ dr, p ∈ R.dr
theorem Sub.refl {cur : Cur} {ks : List Kt} {fr : AFr} {V : View} {n : Nat} {tr : List (Nat × Nat)} {ob : List (Int × Nat)} {dr : List (List Oper × List Nat)} : Sub tr ob dr ⟨cur, ks, fr, V, n, tr, ob, dr⟩ := ⟨fun _ h => h, fun _ h => h, fun _ h => h⟩
theorem xrun_sub : ∀ (f : Nat) (cur : Cur) (ks : List Kt) (fr : AFr) (V : View) (n : Nat) (hs : List Nat) (tr : List (Nat × Nat)) (ob : List (Int × Nat)) (dr : List (List Oper × List Nat)), Sub tr ob dr (xrun P lt im f cur ks fr V n hs tr ob dr) := by
  intro f
  induction f with
  | zero => intro cur ks fr V n hs tr ob dr; simp only [xrun]; exact .refl
  | succ f ih =>
    intro cur ks fr V n hs tr ob dr
    have stop : xrun P lt im (f + 1) cur ks fr V n hs tr ob dr = ⟨cur, ks, fr, V, n, tr, ob, dr⟩ → Sub tr ob dr (xrun P lt im (f + 1) cur ks fr V n hs tr ob dr) := fun e => by rw [e]; exact .refl
    have next : ∀ {cur1 ks1 fr1 V1 n1 hs1}, xrun P lt im (f + 1) cur ks fr V n hs tr ob dr = xrun P lt im f cur1 ks1 fr1 V1 n1 hs1 tr ob dr → Sub tr ob dr (xrun P lt im (f + 1) cur ks fr V n hs tr ob dr) := fun e => by
      rw [e]; exact ih _ _ _ _ _ _ _ _ _
    have step : ∀ {cur1 ks1 fr1 V1 n1 hs1 t b}, xrun P lt im (f + 1) cur ks fr V n hs tr ob dr = xrun P lt im f cur1 ks1 fr1 V1 n1 hs1 (consO t tr) (consO b ob) dr → Sub tr ob dr (xrun P lt im (f + 1) cur ks fr V n hs tr ob dr) := fun {cur1 ks1 fr1 V1 n1 hs1 t b} e => by
      rw [e]
      have := ih cur1 ks1 fr1 V1 n1 hs1 (consO t tr) (consO b ob) dr
      exact ⟨fun p hp => this.1 p (mem_consO hp), fun p hp => this.2.1 p (mem_consO hp), this.2.2⟩
    cases cur with
    | code c =>
      cases c with
      | seq x y => exact next rfl
      | region id ops d => cases d <;> exact next rfl
      | skip => exact next rfl
      | ret => exact next rfl
      | exit id => exact next rfl
      | block id c => exact next rfl
      | cond c x y =>
        cases hd : dcs (nd hs) with
        | none => exact stop (by simp only [xrun, hd])
        | some b => cases b
                    · exact step (t := some (bcd (fr.ev c), 0)) (b := none) (cur1 := .code y) (ks1 := ks) (fr1 := fr) (V1 := V) (n1 := n) (hs1 := (nd hs).tail) (by simp only [xrun, hd, consO])
                    · exact step (t := some (bcd (fr.ev c), 1)) (b := none) (cur1 := .code x) (ks1 := ks) (fr1 := fr) (V1 := V) (n1 := n) (hs1 := (nd hs).tail) (by simp only [xrun, hd, consO])
      | _ => exact stop rfl
    | ops ops l D =>
      cases l with
      | nil => exact next rfl
      | cons o l =>
        cases hg : gOK ops fr o.guard D with
        | false =>
          cases hd : dgd (nd hs) o.guard with
          | none => exact stop (by simp only [xrun, hg, hd])
          | some j => exact next (hs1 := (nd hs).tail) (by simp only [xrun, hg, hd]; rfl)
        | true =>
          cases hst : stepV P lt im ops o fr V n (hd0 hs) with
          | none => exact stop (by simp only [xrun, hg, hst])
          | some r =>
            obtain ⟨k, s, fr1, V1, n1, t, b⟩ := r
            exact step (t := t) (b := b) (cur1 := .ops ops l D) (ks1 := ks) (fr1 := fr1) (V1 := V1) (n1 := n1) (hs1 := tlO t hs) (by cases t <;> cases b <;> simp only [xrun, hg, hst, tlO, consO])
    | dops ops l D pre =>
      cases l with
      | nil =>
        have := ih (.ext .normal) ks fr V n hs tr ob ((ops, pre) :: dr)
        exact ⟨this.1, this.2.1, fun p hp => this.2.2 p (List.mem_cons_of_mem _ hp)⟩
      | cons o l =>
        cases hg : gOK ops fr o.guard D with
        | false =>
          cases hd : dgd (nd hs) o.guard with
          | none => exact stop (by simp only [xrun, hg, hd])
          | some j => exact next (hs1 := (nd hs).tail) (by simp only [xrun, hg, hd]; rfl)
        | true =>
          cases hst : stepV P lt im ops o fr V n (hd0 hs) with
          | none => exact stop (by simp only [xrun, hg, hst])
          | some r =>
            obtain ⟨k, s, fr1, V1, n1, t, b⟩ := r
            by_cases hk : k = 3
            · subst hk; exact stop (by simp only [xrun, hg, hst])
            · exact step (t := t) (b := b) (cur1 := .dops ops l D (k :: pre)) (ks1 := ks) (fr1 := fr1) (V1 := V1) (n1 := n1) (hs1 := tlO t hs) (by cases t <;> cases b <;> simp only [xrun, hg, hst, tlO, consO])
    | ext e =>
      cases ks with
      | nil => exact stop (by cases e <;> rfl)
      | cons x ks =>
        cases x with
        | seq y => cases e <;> exact next rfl
        | blk id => cases e with
          | exit id' =>
            cases hb : Nat.beq id' id with
            | true => exact next (cur1 := .ext .normal) (ks1 := ks) (by show (match Nat.beq id' id with | true => _ | false => _) = _; rw [hb])
            | false => exact next (cur1 := .ext (.exit id')) (ks1 := ks) (by show (match Nat.beq id' id with | true => _ | false => _) = _; rw [hb])
          | _ => exact next rfl
        | lp c => cases e with
          | normal => exact stop rfl
          | _ => exact next rfl
        | stp => cases e with
          | normal => exact stop rfl
          | _ => exact next rfl
structure RunOK (R : XR) : Prop where
  tr : ∀ p ∈ R.tr, p.1 = p.2
  ob : ∀ p ∈ R.ob, 0 ≤ p.1 ∧ p.1 < p.2
  dr : ∀ p ∈ R.dr, drawOK' p.1 p.2.reverse = true
def Past (h h' : AH) (V V' : View) (n' : Nat) : Prop := HV h' V' ∧ h'.n = n' ∧ (∀ h0 ids, HI h0 ids h V → HI h0 ids h' V') ∧ h'.nt = h.nt ∧ h'.tip = h.tip ∧ h.n ≤ n' ∧ (V = [] → n' = h.n → V' = [] ∧ h' = h)
theorem Past.trans {h h1 h2 : AH} {V V1 V2 : View} {n1 n2 : Nat} (a : Past h h1 V V1 n1) (b : Past h1 h2 V1 V2 n2) : Past h h2 V V2 n2 :=
  ⟨b.1, b.2.1, fun h0 ids H => b.2.2.1 h0 ids (a.2.2.1 h0 ids H), b.2.2.2.1.trans a.2.2.2.1, b.2.2.2.2.1.trans a.2.2.2.2.1, Nat.le_trans (a.2.1 ▸ a.2.2.2.2.2.1) b.2.2.2.2.2.1, fun e1 e2 => by
    have q1 := a.2.2.2.2.2.1
    have q2 := b.2.2.2.2.2.1
    have q3 := a.2.1
    obtain ⟨r1, r2⟩ := a.2.2.2.2.2.2 e1 (by omega)
    obtain ⟨r3, r4⟩ := b.2.2.2.2.2.2 r1 (by omega)
    exact ⟨r3, r4.trans r2⟩⟩
theorem AL.ofStepD {o : Oper} {ops l : List Oper} {s : Slot} {h h1 : AH} {fr : AFr} {K : AFr → AH → Prop} (st : StepD P lt ops o fr h s h1) (H : AL P lt ops l (fr.put o.dst s) h1 K) : AL P lt ops (o :: l) fr h K :=
  AL.any (fun g0 w0 a w Q K S hK => st fr rfl rfl (fun _ _ => rfl) g0 w0 a w Q K S hK) H
theorem stepD_AD {o : Oper} {ops l : List Oper} {s : Slot} {h h1 : AH} {fr : AFr} {kd : Nat} {D pre : List Nat} {ks : List Kt} (hk : (kd = 0 ∧ h1 = h ∧ ∀ h, StepD P lt ops o fr h s h) ∨ (kd = 1 ∧ h1 = h ∧ StepD P lt ops o fr h s h) ∨ (kd = 2 ∧ StepD P lt ops o fr h s h1))
    (H : XS P lt C (.dops ops l D (kd :: pre)) ks (fr.put o.dst s) h1) : XS P lt C (.dops ops (o :: l) D pre) ks fr h := by
  intro k
  rcases hk with ⟨rfl, rfl, st⟩ | ⟨rfl, rfl, st⟩ | ⟨rfl, st⟩
  · obtain ⟨ents, hs, fr', h', ⟨q1, q2⟩, T⟩ := H k
    exact ⟨_, _, _, _, ⟨by simpa using q1, q2⟩, .free st T⟩
  · obtain ⟨ents, hs, fr', h', ⟨q1, q2⟩, T⟩ := H k
    exact ⟨_, _, _, _, ⟨by simpa using q1, q2⟩, .read st T⟩
  · obtain ⟨ents, hs, fr', h', ⟨q1, q2⟩, T⟩ := H (k + 1)
    exact ⟨_, _, _, _, ⟨by simpa using q1, q2⟩, .eff st T⟩
theorem AC.ofDrawn {id : Nat} {ops : List Oper} {fr : AFr} {h : AH} (hm : P.follows .mixedOrders = true) (H : ∀ k, AD P lt ops ops fr h k (DK ops [] (C .normal))) : AC P lt (.region id ops.toArray true) fr h C := by
  refine AC.drawn hm ?_
  obtain ⟨ents, hs, fr', h', ⟨q1, q2⟩, T⟩ := H 0
  refine ⟨ents, hs, fr', h', ?_, T⟩
  simp only [List.reverse_nil, List.nil_append, drawOK', Bool.and_eq_true] at q1
  exact ⟨_, [], rfl, q1.1, List.isEmpty_iff.1 q1.2, trivial, q2⟩
theorem xrun_ok (hm : P.follows .mixedOrders = true) : ∀ (f : Nat) (cur : Cur) (ks : List Kt) (fr : AFr) (V : View) (n : Nat) (hs : List Nat) (tr : List (Nat × Nat)) (ob : List (Int × Nat)) (dr : List (List Oper × List Nat)) (h : AH),
    RunOK (xrun P lt im f cur ks fr V n hs tr ob dr) → HV h V → h.n = n →
    (∀ h', Past h h' V (xrun P lt im f cur ks fr V n hs tr ob dr).V (xrun P lt im f cur ks fr V n hs tr ob dr).n → XS P lt C (xrun P lt im f cur ks fr V n hs tr ob dr).cur (xrun P lt im f cur ks fr V n hs tr ob dr).ks (xrun P lt im f cur ks fr V n hs tr ob dr).fr h') →
    XS P lt C cur ks fr h := by
  intro f
  induction f with
  | zero =>
    intro cur ks fr V n hs tr ob dr h hR hv hn K
    exact K h ⟨hv, hn, fun _ _ H => H, rfl, rfl, Nat.le_of_eq hn, fun e _ => ⟨e, rfl⟩⟩
  | succ f ih =>
    intro cur ks fr V n hs tr ob dr h hR hv hn K
    have stop : xrun P lt im (f + 1) cur ks fr V n hs tr ob dr = ⟨cur, ks, fr, V, n, tr, ob, dr⟩ → XS P lt C cur ks fr h := fun e => by
      rw [e] at K
      exact K h ⟨hv, hn, fun _ _ H => H, rfl, rfl, Nat.le_of_eq hn, fun e _ => ⟨e, rfl⟩⟩
    have nextH : ∀ {cur1 ks1 hs1}, xrun P lt im (f + 1) cur ks fr V n hs tr ob dr = xrun P lt im f cur1 ks1 fr V n hs1 tr ob dr → XS P lt C cur1 ks1 fr h := fun {cur1 ks1 hs1} e => by
      rw [e] at K hR
      exact ih cur1 ks1 fr V n hs1 tr ob dr h hR hv hn K
    have next : ∀ {cur1 ks1}, xrun P lt im (f + 1) cur ks fr V n hs tr ob dr = xrun P lt im f cur1 ks1 fr V n hs tr ob dr → XS P lt C cur1 ks1 fr h := fun e => nextH e
    have opstep : ∀ {ops o r} {cur1 : Nat → Cur}, stepV P lt im ops o fr V n (hd0 hs) = some r →
        xrun P lt im (f + 1) cur ks fr V n hs tr ob dr = xrun P lt im f (cur1 r.1) ks r.2.2.1 r.2.2.2.1 r.2.2.2.2.1 (tlO r.2.2.2.2.2.1 hs) (consO r.2.2.2.2.2.1 tr) (consO r.2.2.2.2.2.2 ob) dr →
        SOK P lt ops o fr h V n r ∧ ∀ h1, Past h h1 V r.2.2.2.1 r.2.2.2.2.1 → XS P lt C (cur1 r.1) ks r.2.2.1 h1 := fun {ops o r cur1} hs1 e => by
      rw [e] at K hR
      have hsub := xrun_sub (P := P) (lt := lt) (im := im) f (cur1 r.1) ks r.2.2.1 r.2.2.2.1 r.2.2.2.2.1 (tlO r.2.2.2.2.2.1 hs) (consO r.2.2.2.2.2.1 tr) (consO r.2.2.2.2.2.2 ob) dr
      refine ⟨stepV_ok hv hn hs1 (fun a b q => ?_) (fun a b q => ?_), fun h1 pst => ?_⟩
      · exact hR.tr _ (hsub.1 (a, b) (by rw [q]; simp [consO]))
      · exact hR.ob _ (hsub.2.1 (a, b) (by rw [q]; simp [consO]))
      · exact ih _ _ _ _ _ _ _ _ _ h1 hR pst.1 pst.2.1 fun h' p' => K h' (pst.trans p')
    have past0 : ∀ {h1 : AH} {V1 : View} {n1 : Nat}, V1 = V → n1 = n → h1 = h → Past h h1 V V1 n1 := fun e1 e2 e3 => by subst e1 e2 e3; exact ⟨hv, hn, fun _ _ H => H, rfl, rfl, Nat.le_of_eq hn, fun e _ => ⟨e, rfl⟩⟩
    cases cur with
    | code c =>
      cases c with
      | seq x y => exact AC.seq (next (cur1 := .code x) (ks1 := .seq y :: ks) rfl)
      | region id ops d =>
        obtain ⟨l⟩ := ops
        cases d with
        | false => exact AC.region (next (cur1 := .ops l l []) rfl)
        | true => exact AC.ofDrawn hm (next (cur1 := .dops l l [] []) rfl)
      | skip => exact AC.skip (next (cur1 := .ext .normal) rfl)
      | ret => exact AC.ret (next (cur1 := .ext .ret) rfl)
      | exit id => exact AC.exit (next (cur1 := .ext (.exit id)) rfl)
      | block id c => exact AC.block (next (cur1 := .code c) (ks1 := .blk id :: ks) rfl)
      | cond c x y =>
        cases hd : dcs (nd hs) with
        | none => exact stop (by simp only [xrun, hd])
        | some b =>
          cases b with
          | true =>
            have e : xrun P lt im (f + 1) (.code (.cond c x y)) ks fr V n hs tr ob dr = xrun P lt im f (.code x) ks fr V n (nd hs).tail ((bcd (fr.ev c), 1) :: tr) ob dr := by simp only [xrun, hd]
            rw [e] at K hR
            exact AC.ct (bcd1 (hR.tr _ ((xrun_sub f (.code x) ks fr V n (nd hs).tail ((bcd (fr.ev c), 1) :: tr) ob dr).1 (bcd (fr.ev c), 1) (by simp)))) (ih _ _ _ _ _ _ _ _ _ h hR hv hn K)
          | false =>
            have e : xrun P lt im (f + 1) (.code (.cond c x y)) ks fr V n hs tr ob dr = xrun P lt im f (.code y) ks fr V n (nd hs).tail ((bcd (fr.ev c), 0) :: tr) ob dr := by simp only [xrun, hd]
            rw [e] at K hR
            exact AC.cf (bcd0 (hR.tr _ ((xrun_sub f (.code y) ks fr V n (nd hs).tail ((bcd (fr.ev c), 0) :: tr) ob dr).1 (bcd (fr.ev c), 0) (by simp)))) (ih _ _ _ _ _ _ _ _ _ h hR hv hn K)
      | _ => exact stop rfl
    | ops ops l D =>
      cases l with
      | nil => exact AL.nil (next (cur1 := .ext .normal) rfl)
      | cons o l =>
        cases hg : gOK ops fr o.guard D with
        | false =>
          cases hd : dgd (nd hs) o.guard with
          | none => exact stop (by simp only [xrun, hg, hd])
          | some j => exact nextH (cur1 := .ops ops (o :: l) (j :: D)) (hs1 := (nd hs).tail) (by simp only [xrun, hg, hd])
        | true =>
          cases hst : stepV P lt im ops o fr V n (hd0 hs) with
          | none => exact stop (by simp only [xrun, hg, hst])
          | some r =>
            obtain ⟨k, s, fr1, V1, n1, t, b⟩ := r
            obtain ⟨q1, q2⟩ := opstep (cur1 := fun _ => .ops ops l D) hst (by cases t <;> cases b <;> simp only [xrun, hg, hst, tlO, consO])
            simp only at q2
            rcases q1 with ⟨rfl, rfl, e1, e2, st⟩ | ⟨rfl, rfl, e1, e2, st⟩ | ⟨rfl, rfl, h1, st, p⟩ | ⟨rfl, e1, e2, st⟩
            · exact AL.ofStepD (st h) (q2 h (past0 e1 e2 rfl))
            · exact AL.ofStepD st (q2 h (past0 e1 e2 rfl))
            · exact AL.ofStepD st (q2 h1 p)
            · exact AL.step (st h) (q2 h (past0 e1 e2 rfl))
    | dops ops l D pre =>
      cases l with
      | nil =>
        have e : xrun P lt im (f + 1) (.dops ops [] D pre) ks fr V n hs tr ob dr = xrun P lt im f (.ext .normal) ks fr V n hs tr ob ((ops, pre) :: dr) := rfl
        rw [e] at K hR
        have hsub := xrun_sub (P := P) (lt := lt) (im := im) f (.ext .normal) ks fr V n hs tr ob ((ops, pre) :: dr)
        intro k
        refine ⟨[], [], fr, h, ⟨?_, ih _ _ _ _ _ _ _ _ _ h hR hv hn K⟩, .nil⟩
        have := hR.dr _ (hsub.2.2 (ops, pre) (by simp))
        simpa using this
      | cons o l =>
        cases hg : gOK ops fr o.guard D with
        | false =>
          cases hd : dgd (nd hs) o.guard with
          | none => exact stop (by simp only [xrun, hg, hd])
          | some j => exact nextH (cur1 := .dops ops (o :: l) (j :: D) pre) (hs1 := (nd hs).tail) (by simp only [xrun, hg, hd])
        | true =>
          cases hst : stepV P lt im ops o fr V n (hd0 hs) with
          | none => exact stop (by simp only [xrun, hg, hst])
          | some r =>
            obtain ⟨k, s, fr1, V1, n1, t, b⟩ := r
            by_cases hk : k = 3
            · subst hk; exact stop (by simp only [xrun, hg, hst])
            · obtain ⟨q1, q2⟩ := opstep (cur1 := fun k => .dops ops l D (k :: pre)) hst (by cases t <;> cases b <;> simp only [xrun, hg, hst, tlO, consO])
              simp only at q2
              rcases q1 with ⟨rfl, rfl, e1, e2, st⟩ | ⟨rfl, rfl, e1, e2, st⟩ | ⟨rfl, rfl, h1, st, p⟩ | ⟨rfl, e1, e2, st⟩
              · exact stepD_AD (.inl ⟨rfl, rfl, st⟩) (q2 h (past0 e1 e2 rfl))
              · exact stepD_AD (.inr (.inl ⟨rfl, rfl, st⟩)) (q2 h (past0 e1 e2 rfl))
              · exact stepD_AD (.inr (.inr ⟨rfl, st⟩)) (q2 h1 p)
              · exact absurd rfl hk
    | ext e =>
      cases ks with
      | nil => exact stop (by cases e <;> rfl)
      | cons x ks =>
        cases x with
        | seq y => cases e with
          | normal => exact next (cur1 := .code y) (ks1 := ks) rfl
          | ret => exact next (cur1 := .ext _) (ks1 := ks) rfl
          | exit id => exact next (cur1 := .ext (.exit id)) (ks1 := ks) rfl
          | _ => exact next (cur1 := .ext _) (ks1 := ks) rfl
        | blk id => cases e with
          | exit id' =>
            show blockC id _ (.exit id') fr h
            cases hb : Nat.beq id' id with
            | true => simp only [blockC, hb]; exact next (cur1 := .ext .normal) (ks1 := ks) (by show (match Nat.beq id' id with | true => _ | false => _) = _; rw [hb])
            | false => simp only [blockC, hb]; exact next (cur1 := .ext (.exit id')) (ks1 := ks) (by show (match Nat.beq id' id with | true => _ | false => _) = _; rw [hb])
          | normal => exact next (cur1 := .ext .normal) (ks1 := ks) rfl
          | ret => exact next (cur1 := .ext .ret) (ks1 := ks) rfl
          | _ => exact next (cur1 := .ext _) (ks1 := ks) rfl
        | lp c => cases e with
          | normal => exact stop rfl
          | ret => exact next (cur1 := .ext .ret) (ks1 := ks) rfl
          | exit id => exact next (cur1 := .ext (.exit id)) (ks1 := ks) rfl
          | _ => exact next (cur1 := .ext _) (ks1 := ks) rfl
        | stp => cases e with
          | normal => exact stop rfl
          | ret => exact next (cur1 := .ext .ret) (ks1 := ks) rfl
          | exit id => exact next (cur1 := .ext (.exit id)) (ks1 := ks) rfl
          | _ => exact next (cur1 := .ext _) (ks1 := ks) rfl
end
end Go.Am
end
section
set_option linter.unusedVariables false
set_option linter.unusedSimpArgs false
namespace Go.Am
section
variable {P : Program} {lt : LT} {C : Exit → AFr → AH → Prop} {h h0 : AH} {ids : List Nat} {V : View} {fr fr' : AFr} {cur cur' : Cur} {ks ks' : List Kt} {V' : View} {n' : Nat}
theorem X.goP (im : List Nat) (hm : P.follows .mixedOrders = true) {ob : List (Int × Nat)} {dr : List (List Oper × List Nat)}
    (hx : xrun P lt im 3000 cur ks fr [] h.n [] [] [] [] = ⟨cur', ks', fr', V', h.n, [], ob, dr⟩) (hd : (dr.all fun p => drawOK' p.1 p.2.reverse) = true) (hb : ∀ p ∈ ob, 0 ≤ p.1 ∧ p.1 < p.2)
    (K : XS P lt C cur' ks' fr' h) : XS P lt C cur ks fr h := by
  refine xrun_ok (im := im) hm 3000 cur ks fr [] h.n [] [] [] [] h ⟨?_, ?_, ?_⟩ trivial rfl ?_
  · rw [hx]; intro p hp; simp at hp
  · rw [hx]; exact hb
  · rw [hx]; intro p hp; exact List.all_eq_true.1 hd p hp
  · rw [hx]
    intro h' p
    obtain ⟨_, rfl⟩ := p.2.2.2.2.2.2 rfl rfl
    exact K
theorem X.cond {c : Operand} {x y : Code} {b : Bool} (hc : fr.ev c = .v (.bool b)) (ht : b = true → XS P lt C (.code x) ks fr h) (hf : b = false → XS P lt C (.code y) ks fr h) : XS P lt C (.code (.cond c x y)) ks fr h :=
  AC.cond hc ht hf
theorem X.ct {c : Operand} {x y : Code} (hc : fr.ev c = .v (.bool true)) (H : XS P lt C (.code x) ks fr h) : XS P lt C (.code (.cond c x y)) ks fr h := AC.ct hc H
theorem X.cf {c : Operand} {x y : Code} (hc : fr.ev c = .v (.bool false)) (H : XS P lt C (.code y) ks fr h) : XS P lt C (.code (.cond c x y)) ks fr h := AC.cf hc H
theorem X.loop {c : Code} (H : AW P lt c fr h (contK P lt C ks)) : XS P lt C (.code (.loop c)) ks fr h := AC.loop H
theorem X.round {c : Code} (H : XS P lt C (.code c) (.lp c :: ks) fr h) : AW P lt c fr h (contK P lt C ks) := AW.round H
theorem putD_self {t : Tmp} {s : Slot} (hf : fr.f t = s) : fr.putD t s = fr := by
  obtain ⟨n, f, loc, df⟩ := fr
  simp only [AFr.putD]
  congr 1
  funext k
  split
  · rename_i hb
    have hb := Nat.eq_of_beq_eq_true hb
    subst hb; exact hf.symm
  · rfl
theorem ev_f {t : Tmp} {x : AV} (h : fr.ev (.tmp t) = .v x) : fr.f t = .v x := by
  simp only [AFr.ev] at h
  split at h
  · exact h
  · cases h
theorem X.split {o : Oper} {ops l : List Oper} {D : List Nat} {j : Nat} {t : Tmp} {want b : Bool} (hq : (o.guard, gdst ops j, fr.ev (.tmp t)) = (some (j, want), some t, .v (.bool b)))
    (ht : b = true → XS P lt C (.ops ops (o :: l) (j :: D)) ks (fr.putD t (.v (.bool true))) h) (hf : b = false → XS P lt C (.ops ops (o :: l) (j :: D)) ks (fr.putD t (.v (.bool false))) h) : XS P lt C (.ops ops (o :: l) D) ks fr h := by
  injection hq with hg hq
  injection hq with hj hb
  have e := ev_f hb
  cases b with
  | true => have := ht rfl; rw [putD_self e] at this; exact this
  | false => have := hf rfl; rw [putD_self e] at this; exact this
theorem X.splitD {o : Oper} {ops l : List Oper} {D pre : List Nat} {j : Nat} {t : Tmp} {want b : Bool} (hq : (o.guard, gdst ops j, fr.ev (.tmp t)) = (some (j, want), some t, .v (.bool b)))
    (ht : b = true → XS P lt C (.dops ops (o :: l) (j :: D) pre) ks (fr.putD t (.v (.bool true))) h) (hf : b = false → XS P lt C (.dops ops (o :: l) (j :: D) pre) ks (fr.putD t (.v (.bool false))) h) : XS P lt C (.dops ops (o :: l) D pre) ks fr h := by
  injection hq with hg hq
  injection hq with hj hb
  have e := ev_f hb
  cases b with
  | true => have := ht rfl; rw [putD_self e] at this; exact this
  | false => have := hf rfl; rw [putD_self e] at this; exact this
abbrev Callable (P : Program) (f : FuncId) : Prop := ∀ (vs : Array Value) (w : World), (callFunc f vs).run P w = .ok (.enter f vs) w
theorem X.call {o : Oper} {ops l : List Oper} {D : List Nat} {f : FuncId} {args : List AV} {Q : AV → AH → Prop} {d : Tmp} (hc : (aCallee fr o.op, aWanted ops fr o.guard, o.dst) = (some (f, args), some true, some d)) (hf : Callable P f)
    (H : ARunE P f args h Q) (K : ∀ v h1, Q v h1 → XS P lt C (.ops ops l D) ks (fr.putD d (.v v)) h1) : XS P lt C (.ops ops (o :: l) D) ks fr h := by
  injection hc with hc hg
  injection hg with hg hd
  exact AL.callE hc hg hf H hd K
theorem X.callV {o : Oper} {ops l : List Oper} {D : List Nat} {x : Operand} {f : FuncId} {args caps : List AV} {Q : AV → AH → Prop} {d : Tmp} (hc : aCalleeV fr o.op = some (x, args)) (hx : fr.ev x = .v (.clo f caps)) (hg : aWanted ops fr o.guard = some true) (hf : Callable P f) (hd : o.dst = some d)
    (H : ARunE P f (args ++ caps) h Q) (K : ∀ v h1, Q v h1 → XS P lt C (.ops ops l D) ks (fr.putD d (.v v)) h1) : XS P lt C (.ops ops (o :: l) D) ks fr h :=
  AL.callVE hc hx hg hf H hd K
theorem X.callD {o : Oper} {ops l : List Oper} {D pre : List Nat} {f : FuncId} {args : List AV} {Q : AV → AH → Prop} {d : Tmp} (hc : (aCallee fr o.op, aWanted ops fr o.guard, o.dst) = (some (f, args), some true, some d)) (hf : Callable P f)
    (H : ARunE P f args h Q) (K : ∀ v h1, Q v h1 → XS P lt C (.dops ops l D (2 :: pre)) ks (fr.putD d (.v v)) h1) : XS P lt C (.dops ops (o :: l) D pre) ks fr h := by
  injection hc with hc hg
  injection hg with hg hd
  obtain ⟨v, h1, q, r⟩ := H
  refine stepD_AD (s := .v v) (h1 := h1) (kd := 2) (.inr (.inr ⟨rfl, StepD.call hc hg hf r⟩)) ?_
  rw [hd]; exact K v h1 q
theorem X.callP {o : Oper} {ops l : List Oper} {D pre : List Nat} {f : FuncId} {args : List AV} {v : AV} {d : Tmp} (hc : (aCallee fr o.op, aWanted ops fr o.guard, o.dst) = (some (f, args), some true, some d)) (hf : Callable P f)
    (H : ∀ h, ARun P f args h v h) (K : XS P lt C (.dops ops l D (0 :: pre)) ks (fr.putD d (.v v)) h) : XS P lt C (.dops ops (o :: l) D pre) ks fr h := by
  injection hc with hc hg
  injection hg with hg hd
  refine stepD_AD (s := .v v) (h1 := h) (kd := 0) (.inl ⟨rfl, rfl, fun h => StepD.call hc hg hf (H h)⟩) ?_
  rw [hd]; exact K
theorem X.free {o : Oper} {ops l : List Oper} {D : List Nat} {s : Slot} {d : Tmp} (st : ∀ h, StepD P lt ops o fr h s h) (hd : o.dst = some d) (K : XS P lt C (.ops ops l D) ks (fr.putD d s) h) : XS P lt C (.ops ops (o :: l) D) ks fr h := by
  refine AL.ofStepD (st h) ?_
  rw [hd]; exact K
theorem X.freeD {o : Oper} {ops l : List Oper} {D pre : List Nat} {s : Slot} {d : Tmp} (st : ∀ h, StepD P lt ops o fr h s h) (hd : o.dst = some d) (K : XS P lt C (.dops ops l D (0 :: pre)) ks (fr.putD d s) h) : XS P lt C (.dops ops (o :: l) D pre) ks fr h := by
  refine stepD_AD (s := s) (h1 := h) (kd := 0) (.inl ⟨rfl, rfl, st⟩) ?_
  rw [hd]; exact K
theorem X.of {f : FuncId} {c : Code} {n : Nat} {rs : List ResultVar} {fn : Func} {args : List AV} {Q : AV → AH → Prop} (lt : LT) (I : FnIs P f c n rs fn) (hn : Nat.ble args.length n = true)
    (H : XS P lt (retE P rs Q) (.code c) [] (AFr.enter n args) h) : ARunE P f args h Q := ARunE.of I lt hn H
theorem X.ret {rs : List ResultVar} {Q : AV → AH → Prop} {v : AV} (hv : aResults P fr h rs = some v) (q : Q v h) : XS P lt (retE P rs Q) (.ext .ret) [] fr h := ⟨v, hv, q⟩
theorem X.end {rs : List ResultVar} {Q : AV → AH → Prop} {v : AV} (hv : aResults P fr h rs = some v) (q : Q v h) : XS P lt (retE P rs Q) (.ext .normal) [] fr h := ⟨v, hv, q⟩
theorem X.ghost {h1 : AH} (G : ∀ g0 w0 a w, AS lt h fr g0 w0 a w → AS lt h1 fr' g0 w0 a w) {c : Code} (H : XS P lt C (.code c) ks fr' h1) : XS P lt C (.code c) ks fr h := by
  obtain ⟨e, fr2, h2, k, r⟩ := H
  exact ⟨e, fr2, h2, k, fun g0 w0 a w S => r g0 w0 a w (G g0 w0 a w S)⟩
theorem X.ghostO {h1 : AH} (G : ∀ g0 w0 a w, AS lt h fr g0 w0 a w → AS lt h1 fr' g0 w0 a w) {ops l : List Oper} {D : List Nat} (H : XS P lt C (.ops ops l D) ks fr' h1) : XS P lt C (.ops ops l D) ks fr h := by
  obtain ⟨fr2, h2, k, r⟩ := H
  exact ⟨fr2, h2, k, fun g0 w0 a w Q S hQ => r g0 w0 a w Q (G g0 w0 a w S) hQ⟩
theorem HI.take {k : Nat} (H : HI h0 ids h V) : HI h0 ids h (V.take k) := by
  refine ⟨HV.of (fun e he => H.hv.get (List.mem_of_mem_take he)) ?_, H.kp, fun e he => H.new e (List.mem_of_mem_take he)⟩
  have := H.hv.nodup
  rw [List.map_take]
  exact this.sublist (List.take_sublist _ _)
theorem Weak.slots {n : Nat} {loc : Nat → List AV} {l : List (Nat × AV)} (hn : fr.n = n) (hd : fr.df = []) (hl : holds fr l) : Weak lt fr ((AFr.bare n loc).puts l) := by
  induction l with
  | nil => exact Weak.bare hn hd
  | cons x l ih => exact Weak.put (ih hl.2) hl.1
def slF (fr : AFr) : List (Nat × AV) → List Slot
  | [] => []
  | (d, _) :: r => fr.f d :: slF fr r
def slV : List (Nat × AV) → List Slot
  | [] => []
  | (_, x) :: r => .v x :: slV r
theorem holds_of {l : List (Nat × AV)} (h : slF fr l = slV l) : holds fr l := by
  induction l with
  | nil => trivial
  | cons x l ih => injection h with h1 h2; exact ⟨h1, ih h2⟩
abbrev HQ (fr : AFr) (n : Nat) (l : List (Nat × AV)) : Prop := (fr.n, fr.df, slF fr l) = (n, [], slV l)
theorem HQ.mk {n : Nat} {l : List (Nat × AV)} (h : (fr.n, fr.df) = (n, [])) (hl : holds fr l) : HQ fr n l := by
  injection h with h1 h2
  have : slF fr l = slV l := by
    clear h1 h2
    induction l with
    | nil => rfl
    | cons x l ih => simp only [slF, slV, hl.1, ih hl.2]
  rw [HQ, h1, h2, this]
theorem Weak.sl {n : Nat} {loc : Nat → List AV} {l : List (Nat × AV)} (h : HQ fr n l) : Weak lt fr ((AFr.bare n loc).puts l) := by
  injection h with h1 h2
  injection h2 with h2 h3
  exact Weak.slots h1 h2 (holds_of h3)
theorem X.while {c : Code} {σ : Type} (m : σ → Nat) (n : Nat) (S : σ → List (Nat × AV)) (I : σ → AH → Prop) (s0 : σ) (hl : HQ fr n (S s0)) (hI : I s0 h)
    (step : ∀ s h, I s h → (∀ s' {h' fr'}, m s' < m s → HQ fr' n (S s') → I s' h' → XS P lt C (.ext .normal) (.lp c :: ks) fr' h') → XS P lt C (.code c) (.lp c :: ks) ((AFr.bare n fun _ => []).puts (S s)) h) :
    XS P lt C (.code (.loop c)) ks fr h := by
  have main : ∀ (k : Nat) (s : σ) (h : AH), m s < k → I s h → AW P lt c ((AFr.bare n fun _ => []).puts (S s)) h (contK P lt C ks) := by
    intro k
    induction k with
    | zero => intro s h hk; omega
    | succ k ih =>
      intro s h hk hI
      exact X.round (step s h hI fun s' h' fr' hm hl hI' => AW.weak (Weak.sl hl) (ih s' h' (by omega) hI'))
  exact AC.loop (AW.weak (Weak.sl hl) (main _ s0 h (Nat.lt_succ_self _) hI))
theorem X.sliceS {o : Oper} {ops l : List Oper} {D : List Nat} {t : TypeId} {x : Operand} {lo hi : Option Operand} {s : List UInt8} {a b : Nat} {d : Tmp} (ho : o.op = .slice t x lo hi none) (hw : aWanted ops fr o.guard = some true) (ht : P.underlying t = some .string) (ex : fr.ev x = .v (.str s))
    (h1 : aBnd fr lo 0 = some a) (h2 : aBnd fr hi s.length = some b) (h3 : a ≤ b) (h4 : b ≤ s.length) (hd : o.dst = some d) (K : XS P lt C (.ops ops l D) ks (fr.putD d (.v (.str ((s.take b).drop a)))) h) : XS P lt C (.ops ops (o :: l) D) ks fr h :=
  X.free (StepD.sliceS ho hw ht ex h1 h2 h3 h4) hd K
theorem X.sliceSD {o : Oper} {ops l : List Oper} {D pre : List Nat} {t : TypeId} {x : Operand} {lo hi : Option Operand} {s : List UInt8} {a b : Nat} {d : Tmp} (ho : o.op = .slice t x lo hi none) (hw : aWanted ops fr o.guard = some true) (ht : P.underlying t = some .string) (ex : fr.ev x = .v (.str s))
    (h1 : aBnd fr lo 0 = some a) (h2 : aBnd fr hi s.length = some b) (h3 : a ≤ b) (h4 : b ≤ s.length) (hd : o.dst = some d) (K : XS P lt C (.dops ops l D (0 :: pre)) ks (fr.putD d (.v (.str ((s.take b).drop a)))) h) : XS P lt C (.dops ops (o :: l) D pre) ks fr h :=
  X.freeD (StepD.sliceS ho hw ht ex h1 h2 h3 h4) hd K
end
end Go.Am
end
section
set_option linter.unusedVariables false
set_option linter.unusedSimpArgs false
namespace Go.Am
section
variable {P : Program} {lt : LT} {C : Exit → AFr → AH → Prop} {h h0 h1 : AH} {ids : List Nat} {V : View} {fr fr' : AFr} {ks : List Kt}
def tupOf : List AV → AV
  | [x] => x
  | xs => .tup xs
def resV (P : Program) (fr : AFr) (V : View) : List Nat → List ResultVar → Option (List AV × List (Nat × Nat))
  | _, [] => some ([], [])
  | js, .tmp t :: rs => match fr.ev (.tmp t), resV P fr V js rs with
    | .v x, some (xs, tr) => some (x :: xs, tr)
    | _, _ => none
  | js, .cell a t :: rs => match fr.ev (.tmp a), getV (hd0 js) V, resV P fr V js.tail rs with
    | .v (.ptr ob off), some (o', cs), some (xs, tr) => match aggT P t, szT P t with
      | some b, some m => match AV.ld b m cs off with
        | some y => some (y :: xs, (ob, o') :: tr)
        | none => none
      | _, _ => none
    | _, _, _ => none
theorem resV_ok (H : HV h V) : ∀ {rs : List ResultVar} {js : List Nat} {xs : List AV} {tr : List (Nat × Nat)}, resV P fr V js rs = some (xs, tr) → tr.map (·.1) = tr.map (·.2) → aRess P fr h rs = some xs
  | [], js, xs, tr, hx, ht => by simp only [resV] at hx; injection hx with hx; injection hx with h1 h2; subst h1; rfl
  | .tmp t :: rs, js, xs, tr, hx, ht => by
    simp only [resV] at hx
    split at hx
    case h_2 => cases hx
    rename_i x xs' tr' e1 e2
    injection hx with hx; injection hx with q1 q2; subst q1 q2
    have := resV_ok H e2 ht
    simp only [aRess, aRes1, e1, this]
  | .cell a t :: rs, js, xs, tr, hx, ht => by
    simp only [resV] at hx
    split at hx
    case h_2 => cases hx
    rename_i ob off o' cs xs' tr' e1 e2 e3
    split at hx
    case h_2 => cases hx
    rename_i b m e4 e5
    split at hx
    case h_2 => cases hx
    rename_i y e6
    injection hx with hx; injection hx with q1 q2; subst q1 q2
    simp only [List.map_cons, List.cons.injEq] at ht
    obtain ⟨h1, h2⟩ := ht
    subst h1
    have := resV_ok H e3 h2
    simp only [aRess, aRes1, aLoad, e1, e4, e5, (H.get (getV_mem e2)).1, e6, this]
theorem aResults_of {rs : List ResultVar} {xs : List AV} (hd : fr.df = []) (hx : aRess P fr h rs = some xs) : aResults P fr h rs = some (tupOf xs) := by
  simp only [aResults, hd, aResultsN, hx]
  match xs with
  | [] => rfl
  | [x] => rfl
  | _ :: _ :: _ => rfl
theorem X.retV {rs : List ResultVar} {Q : AV → AH → Prop} {xs : List AV} {tr : List (Nat × Nat)} (js : List Nat) (H : HI h0 ids h V) (hx : resV P fr V js rs = some (xs, tr)) (q : Q (tupOf xs) h) (ht : tr.map (·.1) = tr.map (·.2) := by rfl) (hd : fr.df = [] := by rfl) :
    XS P lt (retE P rs Q) (.ext .ret) [] fr h := X.ret (aResults_of hd (resV_ok H.hv hx ht)) q
theorem X.endV {rs : List ResultVar} {Q : AV → AH → Prop} {xs : List AV} {tr : List (Nat × Nat)} (js : List Nat) (H : HI h0 ids h V) (hx : resV P fr V js rs = some (xs, tr)) (q : Q (tupOf xs) h) (ht : tr.map (·.1) = tr.map (·.2) := by rfl) (hd : fr.df = [] := by rfl) :
    XS P lt (retE P rs Q) (.ext .normal) [] fr h := X.end (aResults_of hd (resV_ok H.hv hx ht)) q
theorem X.retP {rs : List ResultVar} {Q : AV → AH → Prop} {xs : List AV} (hx : resV P fr [] [] rs = some (xs, [])) (q : Q (tupOf xs) h) (hd : fr.df = [] := by rfl) : XS P lt (retE P rs Q) (.ext .ret) [] fr h :=
  X.ret (aResults_of hd (resV_ok (V := []) trivial hx rfl)) q
theorem X.callF {o : Oper} {ops l : List Oper} {D pre : List Nat} {f : FuncId} {args : List AV} {Q : AV → Prop} {d : Tmp} (hc : (aCallee fr o.op, aWanted ops fr o.guard, o.dst) = (some (f, args), some true, some d)) (hf : Callable P f)
    (H : ∃ v, Q v ∧ ∀ h, ARun P f args h v h) (K : ∀ v, Q v → XS P lt C (.dops ops l D (0 :: pre)) ks (fr.putD d (.v v)) h) : XS P lt C (.dops ops (o :: l) D pre) ks fr h := by
  obtain ⟨v, q, r⟩ := H
  exact X.callP hc hf r (K v q)
theorem ARunE.pure {f : FuncId} {args : List AV} {v : AV} (H : ∀ h, ARunE P f args h fun v' h' => v' = v ∧ h = h') : ∀ h, ARun P f args h v h := fun h => by
  obtain ⟨v', h', ⟨rfl, rfl⟩, r⟩ := H h
  exact r
theorem X.ctb {c : Operand} {x y : Code} {b : Bool} (hc : fr.ev c = .v (.bool b)) (hb : b = true) (H : XS P lt C (.code x) ks fr h) : XS P lt C (.code (.cond c x y)) ks fr h := X.cond hc (fun _ => H) (fun e => by rw [hb] at e; cases e)
theorem X.cfb {c : Operand} {x y : Code} {b : Bool} (hc : fr.ev c = .v (.bool b)) (hb : b = false) (H : XS P lt C (.code y) ks fr h) : XS P lt C (.code (.cond c x y)) ks fr h := X.cond hc (fun e => by rw [hb] at e; cases e) (fun _ => H)
theorem X.condJ {c : Operand} {x y z : Code} {b : Bool} {σ : Type} (n : Nat) (S : σ → List (Nat × AV)) (I : σ → AH → Prop) (hc : fr.ev c = .v (.bool b))
    (ht : b = true → (∀ s {h fr'}, HQ fr' n (S s) → I s h → XS P lt C (.ext .normal) (.stp :: .seq z :: ks) fr' h) → XS P lt C (.code x) (.stp :: .seq z :: ks) fr h)
    (hf : b = false → (∀ s {h fr'}, HQ fr' n (S s) → I s h → XS P lt C (.ext .normal) (.stp :: .seq z :: ks) fr' h) → XS P lt C (.code y) (.stp :: .seq z :: ks) fr h)
    (join : ∀ s h, I s h → XS P lt C (.code z) ks ((AFr.bare n fun _ => []).puts (S s)) h) : XS P lt C (.code (.cond c x y)) (.seq z :: ks) fr h := by
  have J : ∀ s {h fr'}, HQ fr' n (S s) → I s h → XS P lt C (.ext .normal) (.seq z :: ks) fr' h := fun s h fr' h1 h4 => AC.weak (Weak.sl h1) (join s h h4)
  exact X.cond hc (fun e => ht e J) (fun e => hf e J)
theorem HI.nil : HI h ids h [] := ⟨trivial, .refl, by simp⟩
theorem HI.one {o : Nat} {cs : List AV} (hg : h.get o = some (.cells cs)) (ho : o < h.n) : HI h [o] h [(o, cs)] := ⟨⟨⟨hg, ho, by simp⟩, trivial⟩, .refl, by simp⟩
theorem HI.at_ {o : Nat} {cs : List AV} {V : View} (H : HI h0 ids h ((o, cs) :: V)) : h.get o = some (.cells cs) ∧ o < h.n := ⟨H.hv.1.1, H.hv.1.2.1⟩
theorem HI.at2 {e : Nat × List AV} {o : Nat} {cs : List AV} {V : View} (H : HI h0 ids h (e :: (o, cs) :: V)) : h.get o = some (.cells cs) ∧ o < h.n := ⟨H.hv.2.1.1, H.hv.2.1.2.1⟩
theorem HI.upd {o : Nat} {cs cs' : List AV} {V : View} (H : HI h0 ids h ((o, cs) :: V)) (k : Kp [o] h h1) (hg : h1.get o = some (.cells cs')) : HI h0 ids h1 ((o, cs') :: V) := by
  have hnd := H.hv.nodup
  refine ⟨HV.of (fun e he => ?_) hnd, H.kp.step k fun i hi => ?_, fun e he => ?_⟩
  · rcases List.mem_cons.1 he with rfl | he
    · exact ⟨hg, Nat.lt_of_lt_of_le H.at_.2 k.n⟩
    · obtain ⟨q1, q2⟩ := H.hv.2.get he
      exact ⟨(k.get _ q2 (by simpa using H.hv.1.2.2 e he)).trans q1, Nat.lt_of_lt_of_le q2 k.n⟩
  · rw [List.mem_singleton] at hi; subst hi
    exact H.new (i, cs) (by simp)
  · rcases List.mem_cons.1 he with rfl | he
    · exact H.new (o, cs) (by simp)
    · exact H.new e (by simp [he])
theorem HI.same {V : View} (H : HI h0 ids h V) (k : Kp [] h h1) : HI h0 ids h1 V :=
  ⟨HV.of (fun e he => by
    obtain ⟨q1, q2⟩ := H.hv.get he
    exact ⟨(k.get _ q2 (by simp)).trans q1, Nat.lt_of_lt_of_le q2 k.n⟩) H.hv.nodup, H.kp.step k (by simp), H.new⟩
theorem Kp.nil_of {ids : List Nat} (k : Kp [] h h1) : Kp ids h h1 := k.sub (by simp)
theorem Grows.kp {hb : AH} {sz : Nat} {x : AV} {es : List (List AV)} {ids : List Nat} (g : Grows hb h sz x es) (k : Kp ids h h1) : Grows hb h1 sz x es := by
  rcases g with ⟨rfl, rfl⟩ | ⟨lin, ver, hx, q1, q2, q3⟩
  · exact .inl ⟨rfl, rfl⟩
  · exact .inr ⟨lin, ver, hx, q1, Nat.lt_of_lt_of_le q2 k.nt, (k.tip lin q2).trans q3⟩
theorem Grows.eq {hb : AH} {sz : Nat} {x : AV} {es : List (List AV)} (g : Grows hb h sz x es) (e1 : h1.nt = h.nt) (e2 : h1.tip = h.tip) : Grows hb h1 sz x es := by
  rcases g with ⟨rfl, rfl⟩ | ⟨lin, ver, hx, q1, q2, q3⟩
  · exact .inl ⟨rfl, rfl⟩
  · exact .inr ⟨lin, ver, hx, q1, by rw [e1]; exact q2, by rw [e2]; exact q3⟩
theorem vi {k : IntKind} {x y : Int} (h : x = y) : Slot.v (.int k x) = .v (.int k y) := by rw [h]
theorem app_key {o : Oper} {ops : List Oper} {s x : Operand} {t : TypeId} {sz by_ : Nat} {xs y : AV} {es ys : List (List AV)} (H : HI h0 ids h V) (ha : appArgs o.op = some (s, x, t)) (hw : aWanted ops fr o.guard = some true) (hi : appInfo P t = some (sz, by_))
    (es_ : fr.ev s = .v xs) (ex : fr.ev x = .v y) (hy : elemsOf sz y = some ys) (hG : Grows h0 h sz xs es) (hb_ : (es.length + ys.length) * (by_ + 1) ≤ 140737488355328) :
    ∃ x' h', StepD P lt ops o fr h (.v x') h' ∧ HI h0 ids h' V ∧ Grows h0 h' sz x' (es ++ ys) ∧ h'.n = h.n ∧ h'.get = h.get := by
  by_cases hne : ys = []
  · subst hne
    exact ⟨xs, h, StepD.app0 ha hw hi es_ ex hG.elems hy h, H, by rw [List.append_nil]; exact hG, rfl, rfl⟩
  · have fin : ∀ (lin v : Nat) (h' : AH), AppS h sz xs es lin v h' → h'.n = h.n → h'.get = h.get → h'.tabs = h.tabs → h.nt ≤ h'.nt → (∀ l, l < h0.nt → h'.tip l = h.tip l) → Grows h0 h' sz (.vec (.own lin v) sz (es ++ ys)) (es ++ ys) → ∃ x' h', StepD P lt ops o fr h (.v x') h' ∧ HI h0 ids h' V ∧ Grows h0 h' sz x' (es ++ ys) ∧ h'.n = h.n ∧ h'.get = h.get := by
      intro lin v h' k1 k2 k3 k4 k5 k6 k7
      refine ⟨_, h', StepD.app ha hw hi es_ ex k1 hy hne hb_, ⟨HV.of (fun e he => ?_) H.hv.nodup, ⟨by rw [k2]; exact H.kp.n, fun k hk hi => by rw [k3]; exact H.kp.get k hk hi, Nat.le_trans H.kp.nt k5, fun l hl => (k6 l hl).trans (H.kp.tip l hl), k4.trans H.kp.tabs⟩, H.new⟩, k7, k2, k3⟩
      obtain ⟨q1, q2⟩ := H.hv.get he
      exact ⟨by rw [k3]; exact q1, by rw [k2]; exact q2⟩
    have hnt := H.kp.nt
    rcases hG with ⟨rfl, rfl⟩ | ⟨lin, ver, hx, q1, q2, q3⟩
    · refine fin h.nt 0 h.newLin (.inl ⟨rfl, rfl, rfl, rfl, rfl⟩) rfl rfl rfl (Nat.le_succ _) (fun l hl => ?_) (.inr ⟨h.nt, 0, .inl rfl, hnt, Nat.lt_succ_self _, ?_⟩)
      · simp only [AH.newLin]; rw [beq_false_of_ne (by omega)]
      · simp only [AH.newLin]; rw [beq_self]
    · refine fin lin (ver + 1) (h.bump lin) (.inr (.inr ⟨ver, hx, q3, rfl, rfl⟩)) rfl rfl rfl (Nat.le_refl _) (fun l hl => ?_) (.inr ⟨lin, ver + 1, .inl rfl, q1, q2, ?_⟩)
      · simp only [AH.bump]; rw [beq_false_of_ne (by omega)]
      · simp only [AH.bump]; rw [beq_self, q3]
theorem X.app {o : Oper} {ops l : List Oper} {D : List Nat} {s x : Operand} {t : TypeId} {sz by_ : Nat} {xs y : AV} {es ys : List (List AV)} {d : Tmp} (H : HI h0 ids h V) (ha : appArgs o.op = some (s, x, t)) (hw : aWanted ops fr o.guard = some true) (hi : appInfo P t = some (sz, by_))
    (es_ : fr.ev s = .v xs) (ex : fr.ev x = .v y) (hy : elemsOf sz y = some ys) (hd : o.dst = some d) (hG : Grows h0 h sz xs es) (hb_ : (es.length + ys.length) * (by_ + 1) ≤ 140737488355328)
    (T : ∀ x' h', HI h0 ids h' V → Grows h0 h' sz x' (es ++ ys) → h'.n = h.n → XS P lt C (.ops ops l D) ks (fr.putD d (.v x')) h') : XS P lt C (.ops ops (o :: l) D) ks fr h := by
  obtain ⟨x', h', st, k1, k2, k3, k4⟩ := app_key (lt := lt) H ha hw hi es_ ex hy hG hb_
  refine AL.ofStepD st ?_
  rw [hd]; exact T x' h' k1 k2 k3
theorem X.appD {o : Oper} {ops l : List Oper} {D pre : List Nat} {s x : Operand} {t : TypeId} {sz by_ : Nat} {xs y : AV} {es ys : List (List AV)} {d : Tmp} (H : HI h0 ids h V) (ha : appArgs o.op = some (s, x, t)) (hw : aWanted ops fr o.guard = some true) (hi : appInfo P t = some (sz, by_))
    (es_ : fr.ev s = .v xs) (ex : fr.ev x = .v y) (hy : elemsOf sz y = some ys) (hd : o.dst = some d) (hG : Grows h0 h sz xs es) (hb_ : (es.length + ys.length) * (by_ + 1) ≤ 140737488355328)
    (T : ∀ x' h', HI h0 ids h' V → Grows h0 h' sz x' (es ++ ys) → h'.n = h.n → XS P lt C (.dops ops l D (2 :: pre)) ks (fr.putD d (.v x')) h') : XS P lt C (.dops ops (o :: l) D pre) ks fr h := by
  obtain ⟨x', h', st, k1, k2, k3, k4⟩ := app_key (lt := lt) H ha hw hi es_ ex hy hG hb_
  refine stepD_AD (s := .v x') (h1 := h') (kd := 2) (.inr (.inr ⟨rfl, st⟩)) ?_
  rw [hd]; exact T x' h' k1 k2 k3
end
end Go.Am
end
section
namespace Go.Am
open Go.Proofs
theorem mx : Tryz.prog.follows .mixedOrders = true := by decide +kernel
section
variable {lt : LT} {C : Exit → AFr → AH → Prop} {h h0 : AH} {ids : List Nat} {V V' : View} {fr fr' : AFr} {cur cur' : Cur} {ks ks' : List Kt} {n' : Nat} {tr : List (Nat × Nat)} {dr : List (List Oper × List Nat)} {ob : List (Int × Nat)}
abbrev ZR (lt : LT) (im : List Nat) (f : Nat) (cur : Cur) (ks : List Kt) (fr : AFr) (V : View) (n : Nat) (hs : List Nat) (cur' : Cur) (ks' : List Kt) (fr' : AFr) (V' : View) (n' : Nat) (tr : List (Nat × Nat)) (ob : List (Int × Nat)) (dr : List (List Oper × List Nat)) : Prop :=
  xrun Tryz.prog lt im f cur ks fr V n hs [] [] [] = ⟨cur', ks', fr', V', n', tr, ob, dr⟩
abbrev ZN (h h' : AH) (n : Nat) : Prop := h'.n = n ∧ h'.nt = h.nt ∧ h'.tip = h.tip
abbrev ZT (tr : List (Nat × Nat)) : Prop := tr.map (·.1) = tr.map (·.2)
abbrev ZD (dr : List (List Oper × List Nat)) : Prop := (dr.all fun p => drawOK' p.1 p.2.reverse) = true
abbrev ZB (ob : List (Int × Nat)) : Prop := ∀ p ∈ ob, 0 ≤ p.1 ∧ p.1 < p.2
theorem X.go (f : Nat) (im hs : List Nat) (H : HI h0 ids h V) (hx : ZR lt im f cur ks fr V h.n hs cur' ks' fr' V' n' tr ob dr) (hb : ZB ob) (K : ∀ h', HI h0 ids h' V' → ZN h h' n' → Kp (V.map (·.1)) h h' → XS Tryz.prog lt C cur' ks' fr' h') (ht : ZT tr) (hd : ZD dr) : XS Tryz.prog lt C cur ks fr h := by
  unfold ZR at hx
  refine xrun_ok (im := im) mx f cur ks fr V h.n hs [] [] [] h ⟨?_, ?_, ?_⟩ H.hv rfl ?_
  · rw [hx]
    intro p hp
    clear hx
    simp only at hp
    unfold ZT at ht
    induction tr with
    | nil => simp at hp
    | cons x r ih =>
      simp only [List.map_cons, List.cons.injEq] at ht
      rcases List.mem_cons.1 hp with rfl | hp
      · exact ht.1
      · exact ih ht.2 hp
  · rw [hx]; exact hb
  · rw [hx]; intro p hp; exact List.all_eq_true.1 hd p hp
  · rw [hx]
    intro h' p
    exact K h' (p.2.2.1 _ _ H) ⟨p.2.1, p.2.2.2.1, p.2.2.2.2.1⟩ (p.2.2.1 h (V.map (·.1)) ⟨H.hv, .refl, fun e he => .inl (List.mem_map.2 ⟨e, he, rfl⟩)⟩).kp
theorem X.g (H : HI h0 ids h V) (hx : ZR lt [] 3000 cur ks fr V h.n [] cur' ks' fr' V' n' tr [] dr) (K : ∀ h', HI h0 ids h' V' → ZN h h' n' → XS Tryz.prog lt C cur' ks' fr' h') (ht : ZT tr := by rfl) (hd : ZD dr := by first | rfl | decide +kernel) : XS Tryz.prog lt C cur ks fr h :=
  X.go 3000 [] [] H hx (fun _ h => nomatch h) (fun h' H N _ => K h' H N) ht hd
theorem X.gh (hs : List Nat) (H : HI h0 ids h V) (hx : ZR lt [] 3000 cur ks fr V h.n hs cur' ks' fr' V' n' tr [] dr) (K : ∀ h', HI h0 ids h' V' → ZN h h' n' → XS Tryz.prog lt C cur' ks' fr' h') (ht : ZT tr := by rfl) (hd : ZD dr := by first | rfl | decide +kernel) : XS Tryz.prog lt C cur ks fr h :=
  X.go 3000 [] hs H hx (fun _ h => nomatch h) (fun h' H N _ => K h' H N) ht hd
theorem X.gm (im hs : List Nat) (H : HI h0 ids h V) (hx : ZR lt im 3000 cur ks fr V h.n hs cur' ks' fr' V' n' tr [] dr) (K : ∀ h', HI h0 ids h' V' → ZN h h' n' → XS Tryz.prog lt C cur' ks' fr' h') (ht : ZT tr := by rfl) (hd : ZD dr := by first | rfl | decide +kernel) : XS Tryz.prog lt C cur ks fr h :=
  X.go 3000 im hs H hx (fun _ h => nomatch h) (fun h' H N _ => K h' H N) ht hd
theorem X.i (H : HI h0 ids h V) (hx : ZR lt [] 3000 cur ks fr V h.n [] cur' ks' fr' V' n' tr ob dr) (hb : ZB ob) (K : ∀ h', HI h0 ids h' V' → ZN h h' n' → Kp (V.map (·.1)) h h' → XS Tryz.prog lt C cur' ks' fr' h') (ht : ZT tr := by rfl) (hd : ZD dr := by first | rfl | decide +kernel) : XS Tryz.prog lt C cur ks fr h :=
  X.go 3000 [] [] H hx hb K ht hd
theorem X.ih (hs : List Nat) (H : HI h0 ids h V) (hx : ZR lt [] 3000 cur ks fr V h.n hs cur' ks' fr' V' n' tr ob dr) (hb : ZB ob) (K : ∀ h', HI h0 ids h' V' → ZN h h' n' → Kp (V.map (·.1)) h h' → XS Tryz.prog lt C cur' ks' fr' h') (ht : ZT tr := by rfl) (hd : ZD dr := by first | rfl | decide +kernel) : XS Tryz.prog lt C cur ks fr h :=
  X.go 3000 [] hs H hx hb K ht hd
theorem X.im (im hs : List Nat) (H : HI h0 ids h V) (hx : ZR lt im 3000 cur ks fr V h.n hs cur' ks' fr' V' n' tr ob dr) (hb : ZB ob) (K : ∀ h', HI h0 ids h' V' → ZN h h' n' → Kp (V.map (·.1)) h h' → XS Tryz.prog lt C cur' ks' fr' h') (ht : ZT tr := by rfl) (hd : ZD dr := by first | rfl | decide +kernel) : XS Tryz.prog lt C cur ks fr h :=
  X.go 3000 im hs H hx hb K ht hd
theorem X.j (H : HI h0 ids h V) (hx : ZR lt [] 3000 cur ks fr V h.n [] cur' ks' fr' V' n' tr ob dr) (hb : ZB ob) (K : ∀ h', HI h0 ids h' V' → ZN h h' n' → XS Tryz.prog lt C cur' ks' fr' h') (ht : ZT tr := by rfl) (hd : ZD dr := by first | rfl | decide +kernel) : XS Tryz.prog lt C cur ks fr h :=
  X.go 3000 [] [] H hx hb (fun h' H N _ => K h' H N) ht hd
theorem X.jh (hs : List Nat) (H : HI h0 ids h V) (hx : ZR lt [] 3000 cur ks fr V h.n hs cur' ks' fr' V' n' tr ob dr) (hb : ZB ob) (K : ∀ h', HI h0 ids h' V' → ZN h h' n' → XS Tryz.prog lt C cur' ks' fr' h') (ht : ZT tr := by rfl) (hd : ZD dr := by first | rfl | decide +kernel) : XS Tryz.prog lt C cur ks fr h :=
  X.go 3000 [] hs H hx hb (fun h' H N _ => K h' H N) ht hd
theorem X.jm (im hs : List Nat) (H : HI h0 ids h V) (hx : ZR lt im 3000 cur ks fr V h.n hs cur' ks' fr' V' n' tr ob dr) (hb : ZB ob) (K : ∀ h', HI h0 ids h' V' → ZN h h' n' → XS Tryz.prog lt C cur' ks' fr' h') (ht : ZT tr := by rfl) (hd : ZD dr := by first | rfl | decide +kernel) : XS Tryz.prog lt C cur ks fr h :=
  X.go 3000 im hs H hx hb (fun h' H N _ => K h' H N) ht hd
theorem X.n (f : Nat) (H : HI h0 ids h V) (hx : ZR lt [] f cur ks fr V h.n [] cur' ks' fr' V' n' tr [] dr) (K : ∀ h', HI h0 ids h' V' → ZN h h' n' → Kp (V.map (·.1)) h h' → XS Tryz.prog lt C cur' ks' fr' h') (ht : ZT tr := by rfl) (hd : ZD dr := by first | rfl | decide +kernel) : XS Tryz.prog lt C cur ks fr h :=
  X.go f [] [] H hx (fun _ h => nomatch h) K ht hd
theorem X.nh (f : Nat) (hs : List Nat) (H : HI h0 ids h V) (hx : ZR lt [] f cur ks fr V h.n hs cur' ks' fr' V' n' tr [] dr) (K : ∀ h', HI h0 ids h' V' → ZN h h' n' → Kp (V.map (·.1)) h h' → XS Tryz.prog lt C cur' ks' fr' h') (ht : ZT tr := by rfl) (hd : ZD dr := by first | rfl | decide +kernel) : XS Tryz.prog lt C cur ks fr h :=
  X.go f [] hs H hx (fun _ h => nomatch h) K ht hd
theorem X.nm (f : Nat) (im hs : List Nat) (H : HI h0 ids h V) (hx : ZR lt im f cur ks fr V h.n hs cur' ks' fr' V' n' tr [] dr) (K : ∀ h', HI h0 ids h' V' → ZN h h' n' → Kp (V.map (·.1)) h h' → XS Tryz.prog lt C cur' ks' fr' h') (ht : ZT tr := by rfl) (hd : ZD dr := by first | rfl | decide +kernel) : XS Tryz.prog lt C cur ks fr h :=
  X.go f im hs H hx (fun _ h => nomatch h) K ht hd
theorem X.o (f : Nat) (H : HI h0 ids h V) (hx : ZR lt [] f cur ks fr V h.n [] cur' ks' fr' V' n' tr ob dr) (hb : ZB ob) (K : ∀ h', HI h0 ids h' V' → ZN h h' n' → Kp (V.map (·.1)) h h' → XS Tryz.prog lt C cur' ks' fr' h') (ht : ZT tr := by rfl) (hd : ZD dr := by first | rfl | decide +kernel) : XS Tryz.prog lt C cur ks fr h :=
  X.go f [] [] H hx hb K ht hd
theorem X.q (f : Nat) (H : HI h0 ids h V) (hx : ZR lt [] f cur ks fr V h.n [] cur' ks' fr' V' n' tr [] dr) (K : ∀ h', HI h0 ids h' V' → ZN h h' n' → XS Tryz.prog lt C cur' ks' fr' h') (ht : ZT tr := by rfl) (hd : ZD dr := by first | rfl | decide +kernel) : XS Tryz.prog lt C cur ks fr h :=
  X.go f [] [] H hx (fun _ h => nomatch h) (fun h' H N _ => K h' H N) ht hd
theorem X.qh (f : Nat) (hs : List Nat) (H : HI h0 ids h V) (hx : ZR lt [] f cur ks fr V h.n hs cur' ks' fr' V' n' tr [] dr) (K : ∀ h', HI h0 ids h' V' → ZN h h' n' → XS Tryz.prog lt C cur' ks' fr' h') (ht : ZT tr := by rfl) (hd : ZD dr := by first | rfl | decide +kernel) : XS Tryz.prog lt C cur ks fr h :=
  X.go f [] hs H hx (fun _ h => nomatch h) (fun h' H N _ => K h' H N) ht hd
theorem X.qm (f : Nat) (im hs : List Nat) (H : HI h0 ids h V) (hx : ZR lt im f cur ks fr V h.n hs cur' ks' fr' V' n' tr [] dr) (K : ∀ h', HI h0 ids h' V' → ZN h h' n' → XS Tryz.prog lt C cur' ks' fr' h') (ht : ZT tr := by rfl) (hd : ZD dr := by first | rfl | decide +kernel) : XS Tryz.prog lt C cur ks fr h :=
  X.go f im hs H hx (fun _ h => nomatch h) (fun h' H N _ => K h' H N) ht hd
theorem X.r (H : HI h0 ids h V) (hx : ZR lt [] 3000 cur ks fr V h.n [] cur' ks' fr' V' n' tr [] dr) (K : ∀ h', HI h0 ids h' V' → ZN h h' n' → Kp (V.map (·.1)) h h' → XS Tryz.prog lt C cur' ks' fr' h') (ht : ZT tr := by rfl) (hd : ZD dr := by first | rfl | decide +kernel) : XS Tryz.prog lt C cur ks fr h :=
  X.go 3000 [] [] H hx (fun _ h => nomatch h) K ht hd
theorem X.rh (hs : List Nat) (H : HI h0 ids h V) (hx : ZR lt [] 3000 cur ks fr V h.n hs cur' ks' fr' V' n' tr [] dr) (K : ∀ h', HI h0 ids h' V' → ZN h h' n' → Kp (V.map (·.1)) h h' → XS Tryz.prog lt C cur' ks' fr' h') (ht : ZT tr := by rfl) (hd : ZD dr := by first | rfl | decide +kernel) : XS Tryz.prog lt C cur ks fr h :=
  X.go 3000 [] hs H hx (fun _ h => nomatch h) K ht hd
theorem X.rm (im hs : List Nat) (H : HI h0 ids h V) (hx : ZR lt im 3000 cur ks fr V h.n hs cur' ks' fr' V' n' tr [] dr) (K : ∀ h', HI h0 ids h' V' → ZN h h' n' → Kp (V.map (·.1)) h h' → XS Tryz.prog lt C cur' ks' fr' h') (ht : ZT tr := by rfl) (hd : ZD dr := by first | rfl | decide +kernel) : XS Tryz.prog lt C cur ks fr h :=
  X.go 3000 im hs H hx (fun _ h => nomatch h) K ht hd
end
/-- What rests on the lines of appends alone. -/
class Nx (h h' : AH) (T : Prop) (T' : outParam Prop) : Prop where
  nx : T → h'.nt = h.nt → h'.tip = h.tip → T'
instance {h h' : AH} {hb : AH} {sz : Nat} {x : AV} {es : List (List AV)} : Nx h h' (Grows hb h sz x es) (Grows hb h' sz x es) := ⟨fun g => g.eq⟩
section
variable {lt : LT} {C : Exit → AFr → AH → Prop} {h h0 : AH} {ids : List Nat} {V V' : View} {fr fr' : AFr} {cur cur' : Cur} {ks ks' : List Kt} {n' : Nat} {tr : List (Nat × Nat)} {dr : List (List Oper × List Nat)} {ob : List (Int × Nat)}
theorem X.y {T : Prop} {T' : AH → Prop} [∀ h', Nx h h' T (T' h')]  (H : HI h0 ids h V) (G : T) (hx : ZR lt [] 3000 cur ks fr V h.n [] cur' ks' fr' V' n' tr [] dr) (K : ∀ h', HI h0 ids h' V' → T' h' → ZN h h' n' → XS Tryz.prog lt C cur' ks' fr' h') (ht : ZT tr := by rfl) (hd : ZD dr := by first | rfl | decide +kernel) : XS Tryz.prog lt C cur ks fr h :=
  X.go 3000 [] [] H hx (fun _ h => nomatch h) (fun h' H N q => K h' H (Nx.nx G N.2.1 N.2.2) N) ht hd
theorem X.yh {T : Prop} {T' : AH → Prop} [∀ h', Nx h h' T (T' h')] (hs : List Nat) (H : HI h0 ids h V) (G : T) (hx : ZR lt [] 3000 cur ks fr V h.n hs cur' ks' fr' V' n' tr [] dr) (K : ∀ h', HI h0 ids h' V' → T' h' → ZN h h' n' → XS Tryz.prog lt C cur' ks' fr' h') (ht : ZT tr := by rfl) (hd : ZD dr := by first | rfl | decide +kernel) : XS Tryz.prog lt C cur ks fr h :=
  X.go 3000 [] hs H hx (fun _ h => nomatch h) (fun h' H N q => K h' H (Nx.nx G N.2.1 N.2.2) N) ht hd
theorem X.ym {T : Prop} {T' : AH → Prop} [∀ h', Nx h h' T (T' h')] (im hs : List Nat) (H : HI h0 ids h V) (G : T) (hx : ZR lt im 3000 cur ks fr V h.n hs cur' ks' fr' V' n' tr [] dr) (K : ∀ h', HI h0 ids h' V' → T' h' → ZN h h' n' → XS Tryz.prog lt C cur' ks' fr' h') (ht : ZT tr := by rfl) (hd : ZD dr := by first | rfl | decide +kernel) : XS Tryz.prog lt C cur ks fr h :=
  X.go 3000 im hs H hx (fun _ h => nomatch h) (fun h' H N q => K h' H (Nx.nx G N.2.1 N.2.2) N) ht hd
theorem X.yq {T : Prop} {T' : AH → Prop} [∀ h', Nx h h' T (T' h')] (f : Nat) (im hs : List Nat) (H : HI h0 ids h V) (G : T) (hx : ZR lt im f cur ks fr V h.n hs cur' ks' fr' V' n' tr [] dr) (K : ∀ h', HI h0 ids h' V' → T' h' → ZN h h' n' → XS Tryz.prog lt C cur' ks' fr' h') (ht : ZT tr := by rfl) (hd : ZD dr := by first | rfl | decide +kernel) : XS Tryz.prog lt C cur ks fr h :=
  X.go f im hs H hx (fun _ h => nomatch h) (fun h' H N q => K h' H (Nx.nx G N.2.1 N.2.2) N) ht hd
end
end Go.Am
end
section
namespace Go.Am
section
variable {P : Program} {lt : LT} {C : Exit → AFr → AH → Prop} {h h0 h1 : AH} {ids : List Nat} {V : View} {fr fr' : AFr} {ks : List Kt}
theorem X.whileJ {c z : Code} {b : Nat} {σ τ : Type} (n : Nat) (m : σ → Nat) (S : σ → List (Nat × AV)) (I : σ → AH → Prop) (S2 : τ → List (Nat × AV)) (I2 : τ → AH → Prop) (s0 : σ) (hl : HQ fr n (S s0)) (hI : I s0 h)
    (step : ∀ s h, I s h → (∀ s' {h' fr'}, m s' < m s → HQ fr' n (S s') → I s' h' → XS P lt C (.ext .normal) (.lp c :: .blk b :: .stp :: .seq z :: ks) fr' h') →
      (∀ t {h' fr'}, HQ fr' n (S2 t) → I2 t h' → XS P lt C (.ext .normal) (.stp :: .seq z :: ks) fr' h') → XS P lt C (.code c) (.lp c :: .blk b :: .stp :: .seq z :: ks) ((AFr.bare n fun _ => []).puts (S s)) h)
    (join : ∀ t h, I2 t h → XS P lt C (.code z) ks ((AFr.bare n fun _ => []).puts (S2 t)) h) :
    XS P lt C (.code (.loop c)) (.blk b :: .seq z :: ks) fr h := by
  have J : ∀ t {h fr'}, HQ fr' n (S2 t) → I2 t h → XS P lt C (.ext .normal) (.stp :: .seq z :: ks) fr' h := fun t h fr' h1 h4 => AC.weak (Weak.sl h1) (join t h h4)
  exact X.while (ks := .blk b :: .stp :: .seq z :: ks) m n S I s0 hl hI fun s h hI again => step s h hI again J
theorem X.seqJ {x z : Code} {τ : Type} (n : Nat) (S2 : τ → List (Nat × AV)) (I2 : τ → AH → Prop)
    (hx : (∀ t {h' fr'}, HQ fr' n (S2 t) → I2 t h' → XS P lt C (.ext .normal) (.stp :: .seq z :: ks) fr' h') → XS P lt C (.code x) (.stp :: .seq z :: ks) fr h)
    (join : ∀ t h, I2 t h → XS P lt C (.code z) ks ((AFr.bare n fun _ => []).puts (S2 t)) h) : XS P lt C (.code (.seq x z)) ks fr h := by
  have J : ∀ t {h' fr'}, HQ fr' n (S2 t) → I2 t h' → XS P lt C (.ext .normal) (.stp :: .seq z :: ks) fr' h' := fun t h fr' h1 h4 => AC.weak (Weak.sl h1) (join t h h4)
  exact AC.seq (hx J)
end
end Go.Am
end
section
set_option linter.unusedVariables false
set_option linter.unusedSimpArgs false
namespace Go.Am
section
variable {P : Program} {lt : LT} {g : Gh} {w : World} {h : AH} {base : Nat} {lb : Nat → Option Nat} {fr : AFr} {a : Act}
theorem set_new {w w8 : World} {A : Array Value} {e : TypeId} {B : List Value} (hw : w8.heap = w.heap.push (.cells A e (0, 0))) : (w8.setRow w.heap.size B.toArray).heap = w.heap.push (.cells B.toArray e (0, 0)) := by
  have h8 : w8.heap[w.heap.size]? = some (.cells A e (0, 0)) := by rw [hw]; simp
  have p := setRow_put1 h8 (us := B.toArray)
  apply Array.ext_getElem?
  intro k
  by_cases hk : k = w.heap.size
  · subst hk; rw [p.at_]; simp
  · rw [p.other k hk, hw, Array.getElem?_push, Array.getElem?_push, if_neg hk, if_neg hk]
theorem take_mid {us zs ns r : List Value} (hl : zs.length = ns.length) : (us ++ zs ++ r).take us.length ++ ns ++ (us ++ zs ++ r).drop (us.length + ns.length) = us ++ ns ++ r := by
  congr 1
  · rw [List.append_assoc, List.take_left']; rfl
  · rw [← hl, ← List.length_append, List.drop_left]
structure Late (P : Program) (g : Gh) (w : World) (h' : AH) (lin v sz n : Nat) (els : List (List AV)) (ns : List Value) (run : Result Value) : Prop where
  ex : ∃ b bo cap c Tc w' g', run = .ok (.slice (some ⟨b, bo, none⟩) (n + 1) cap) w' ∧ w'.heap[b]? = some (.cells c Tc (0, 0)) ∧ bo + n * sz + sz ≤ c.size ∧
    Ev g w g' (w'.setRow b (c.toList.take (bo + n * sz) ++ ns ++ c.toList.drop (bo + n * sz + ns.length)).toArray) ∧
    Rel g' (w'.setRow b (c.toList.take (bo + n * sz) ++ ns ++ c.toList.drop (bo + n * sz + ns.length)).toArray) h' ∧
    VR g' (w'.setRow b (c.toList.take (bo + n * sz) ++ ns ++ c.toList.drop (bo + n * sz + ns.length)).toArray) (.vec (.own lin v) sz els) (.slice (some ⟨b, bo, none⟩) (n + 1) cap)
theorem append_late {t t' ty e : TypeId} {i : TypeInfo} {z : Value} {sz : Nat} (T : AppT P t t' e i z sz) (R : Rel g w h) {xs : AV} {vs : Value} {es : List (List AV)} {y : List AV} {lin v : Nat} {h' : AH} {ad' : Addr} {cap' : Nat} (rs : VR g w xs vs)
    (hs : AppS h sz xs es lin v h') {zs ns : List Value} (hz3 : zs.length = sz) (hz4 : ∀ j u, zs[j]? = some u → w.cell? (ad'.add j) = some u) (hz1 : ∀ u ∈ zs, u.oneCell' = true) (hn3 : ns.length = sz) (hn1 : ∀ u ∈ ns, u.oneCell' = true)
    (hy : y.length = sz) (hyv : ∀ j (hj : j < y.length), VR g w y[j] (ns.getD j undef)) (hb : (es.length + 1) * (i.bytes + 1) ≤ 140737488355328) :
    Late P g w h' lin v sz es.length (es ++ [y]) ns ((Builtin.append_ #[t, t'] ty #[vs, .slice (some ad') 1 cap']).run P w) := by
  have ht' := T.hs
  subst ht'
  rw [Nat.mul_succ] at hb
  have hy2 : ∀ i (hi : i < [y].length), [y][i].length = sz := fun i hi => by
    have : i = 0 := by simpa using hi
    subst this; exact hy
  have hy5 : ∀ i j (hi : i < [y].length) (hj : j < [y][i].length), VR g w [y][i][j] (ns.getD (i * sz + j) undef) := fun i j hi hj => by
    have : i = 0 := by simpa using hi
    subst this
    rw [Nat.zero_mul, Nat.zero_add]; exact hyv j hj
  have hy3 : ns.length = [y].length * sz := by simp [hn3]
  have hz3' : zs.length = 1 * sz := by simp [hz3]
  
  have grow : ∀ (b : Addr) (cap : Nat) (us : List Value), vs = .slice (some b) es.length cap → cap < es.length + 1 → us.length = es.length * sz → (∀ k u, us[k]? = some u → w.cell? (b.add k) = some u ∧ u.oneCell' = true ∧ (b.add k).off < g.ext (b.add k).block) →
      (∀ i (hi : i < es.length), es[i].length = sz) → (∀ i j (hi : i < es.length) (hj : j < es[i].length), VR g w es[i][j] (us.getD (i * sz + j) undef)) →
      ∀ nl, ((lin = g.nl ∧ v = 0 ∧ nl = g.nl + 1 ∧ h' = h.newLin) ∨ (lin < g.nl ∧ v = g.cur lin + 1 ∧ nl = g.nl ∧ h' = h.bump lin)) →
      Late P g w h' lin v sz es.length (es ++ [y]) ns ((Builtin.append_ #[t', t'] ty #[vs, .slice (some ad') 1 cap']).run P w) := by
    intro b cap us hvs hcap hu1 hu2 hu3 hu4 nl hc
    subst hvs
    have hr := run_append_grow (P := P) w t' ty e i z T.ht T.hi T.hz b es.length cap us (by rw [T.hsz]; exact hu1) (fun j u hj => (hu2 j u hj).1) ad' 1 cap' zs (by rw [T.hsz]; exact hz3') hz4 hcap (by omega) (growslice_fits hcap (by omega))
    have hge := grownCap_ge w (es.length + 1) cap e
    have hle := grownCap_le_maxLen w (es.length + 1) cap e (by simp only [maxLen]; omega)
    simp only [maxLen] at hle
    generalize hZ : Builtin.zeroCells z.cells (grownCap w (es.length + 1) cap e - (es.length + 1)) = Z at *
    have hZl : Z.toList.length = (grownCap w (es.length + 1) cap e - (es.length + 1)) * sz := by rw [← hZ]; exact zeroCells_len T.hzs
    have hA : us.toArray ++ zs.toArray ++ Z = (us ++ zs ++ Z.toList).toArray := by apply Array.ext'; simp
    rw [hA] at hr
    have hw8 : (w.drew.alloc (.cells (us ++ zs ++ Z.toList).toArray e)).heap = w.heap.push (.cells (us ++ zs ++ Z.toList).toArray e (0, 0)) := rfl
    obtain ⟨g', E, R', V⟩ := grown_vec (w' := (w.drew.alloc (.cells (us ++ zs ++ Z.toList).toArray e)).setRow w.heap.size (us ++ ns ++ Z.toList).toArray) R hc (T := e) (cap := grownCap w (es.length + 1) cap e) (es := es) (ys := [y]) (us := us) (ns := ns)
      (zs := Z.toList) T.h0 (set_new hw8) rfl rfl rfl hu3 hy2 hu1 hy3 hge (by omega) hZl
      (fun u hu => by obtain ⟨k, hk, rfl⟩ := List.getElem_of_mem hu; exact (hu2 k _ (List.getElem?_eq_getElem hk)).2.1) hn1 hu4 hy5
    have hm : (us ++ zs ++ Z.toList).take (0 + es.length * sz) ++ ns ++ (us ++ zs ++ Z.toList).drop (0 + es.length * sz + ns.length) = us ++ ns ++ Z.toList := by
      rw [Nat.zero_add, ← hu1]; exact take_mid (by omega)
    refine ⟨w.heap.size, 0, _, (us ++ zs ++ Z.toList).toArray, e, _, g', hr, by rw [hw8]; simp, ?_, ?_, ?_, ?_⟩
    · simp only [List.size_toArray, List.length_append]; omega
    · rw [List.toList_toArray, hm]; exact E
    · rw [List.toList_toArray, hm]; exact R'
    · rw [List.toList_toArray, hm]; exact V
  rcases hs with ⟨rfl, rfl, rfl, rfl, rfl⟩ | ⟨rfl, rfl, rfl, rfl⟩ | ⟨ver, hxs, htip, rfl, rfl⟩
  · cases rs
    have hr := run_append_nil (P := P) w t' ty e i z T.ht T.hi T.hz ad' 1 cap' zs (by rw [T.hsz]; exact hz3') hz4 (by omega) (by omega) (by simp at hb; omega)
    have hge := grownCap_ge w 1 0 e
    have hle := grownCap_le_maxLen w 1 0 e (by simp only [maxLen]; simp at hb; omega)
    simp only [maxLen] at hle
    generalize hZ : Builtin.zeroCells z.cells (grownCap w 1 0 e - 1) = Z at *
    have hZl : Z.toList.length = (grownCap w 1 0 e - 1) * sz := by rw [← hZ]; exact zeroCells_len T.hzs
    have hA : zs.toArray ++ Z = ([] ++ zs ++ Z.toList).toArray := by apply Array.ext'; simp
    rw [hA] at hr
    have hw8 : (w.drew.alloc (.cells ([] ++ zs ++ Z.toList).toArray e)).heap = w.heap.push (.cells ([] ++ zs ++ Z.toList).toArray e (0, 0)) := rfl
    obtain ⟨g', E, R', V⟩ := grown_vec (w' := (w.drew.alloc (.cells ([] ++ zs ++ Z.toList).toArray e)).setRow w.heap.size ([] ++ ns ++ Z.toList).toArray) R (h' := h.newLin) (lin := h.nt) (v := 0) (.inl ⟨R.nt.symm, rfl, rfl, rfl⟩) (T := e) (cap := grownCap w 1 0 e) (es := []) (ys := [y]) (us := []) (ns := ns)
      (zs := Z.toList) T.h0 (set_new hw8) rfl rfl rfl (fun i hi => by simp at hi) hy2 (by simp) hy3 (by simpa using hge) (by omega) (by simpa using hZl) (by simp) hn1 (fun i j hi => by simp at hi) hy5
    have hm : (([] : List Value) ++ zs ++ Z.toList).take (0 + 0 * sz) ++ ns ++ (([] : List Value) ++ zs ++ Z.toList).drop (0 + 0 * sz + ns.length) = [] ++ ns ++ Z.toList := by
      have := take_mid (us := []) (zs := zs) (ns := ns) (r := Z.toList) (by omega)
      simpa using this
    refine ⟨w.heap.size, 0, _, ([] ++ zs ++ Z.toList).toArray, e, _, g', hr, by rw [hw8]; simp, ?_, ?_, ?_, ?_⟩
    · simp only [List.size_toArray, List.length_append, List.length_nil]; omega
    · rw [List.toList_toArray]; simp only [List.length_nil]; rw [hm]; exact E
    · rw [List.toList_toArray]; simp only [List.length_nil]; rw [hm]; exact R'
    · rw [List.toList_toArray]; simp only [List.length_nil]; rw [hm]; simpa using V
  · have rs' := rs
    cases rs' with
    | vec _ _ _ b cap vs' _ _ _ _ _ _ _ ht =>
      obtain ⟨_, _, _, _, h1, us, h2, h3, h4⟩ := vec_cells rs T.h0
      simp only [TkOK] at ht
      exact grow b cap us rfl (by omega) h2 h3 h1 h4 (g.nl + 1) (.inl ⟨R.nt.symm, rfl, rfl, rfl⟩)
  · 
    have key : ∀ tk, (tk = .own lin ver ∨ tk = .suf lin ver) → xs = .vec tk sz es → Late P g w (h.bump lin) lin (ver + 1) sz es.length (es ++ [y]) ns ((Builtin.append_ #[t', t'] ty #[vs, .slice (some ad') 1 cap']).run P w) := by
      intro tk htk hxs
      subst hxs
      have rs' := rs
      cases rs' with
      | vec _ _ _ b cap vs' _ _ _ _ _ hn hcap2 ht =>
        obtain ⟨_, _, _, _, h1, us, h2, h3, h4⟩ := vec_cells rs T.h0
        obtain ⟨hlin, hver, htipF⟩ : lin < g.nl ∧ ver ≤ g.cur lin ∧ (g.cur lin = ver → es.length < cap → TipF g w lin b es.length cap sz) := by
          rcases htk with rfl | rfl
          · exact ⟨ht.1, ht.2.1, ht.2.2.1⟩
          · exact ht
        have hcur : g.cur lin = ver := by rw [R.cur lin (by rw [← R.nt]; exact hlin)]; exact htip
        by_cases hroom : es.length + 1 ≤ cap
        · obtain ⟨f1, f2, f3, c, Tc, f4, f5⟩ := htipF hcur (by omega)
          obtain ⟨bb, bo, bs⟩ := b
          simp only at f1 f2 f3 f4 f5
          subst f1
          have hfit : bo + es.length * sz + sz ≤ c.size := by
            have : (es.length + 1) * sz ≤ cap * sz := Nat.mul_le_mul_right _ hroom
            rw [Nat.add_mul, Nat.one_mul] at this
            omega
          have hst := run_storeCells_at (P := P) bb (bo + es.length * sz) Tc zs 0 c w f4 (by omega) hz1
          simp only [Nat.add_zero] at hst
          have hf := run_firstCells_some (P := P) w i.size 1 ad' 1 cap' zs (by rw [T.hsz]; exact hz3') hz4
          generalize hcc : (c.toList.take (bo + es.length * sz) ++ zs ++ c.toList.drop (bo + es.length * sz + zs.length)).toArray = c1 at hst
          have hc1 : c1.toList.take (bo + es.length * sz) ++ ns ++ c1.toList.drop (bo + es.length * sz + ns.length) = c.toList.take (bo + es.length * sz) ++ ns ++ c.toList.drop (bo + es.length * sz + ns.length) := by
            have hm : (c.toList.take (bo + es.length * sz)).length = bo + es.length * sz := by simp; omega
            have := take_mid (us := c.toList.take (bo + es.length * sz)) (zs := zs) (ns := ns) (r := c.toList.drop (bo + es.length * sz + zs.length)) (by omega)
            rw [hm] at this
            rw [← hcc, List.toList_toArray, this, hz3, hn3]
          have hc1s : c1.size = c.size := by rw [← hcc]; simp; omega
          generalize hcc' : (c.toList.take (bo + es.length * sz) ++ ns ++ c.toList.drop (bo + es.length * sz + ns.length)).toArray = c'
          have hc's : c'.size = c.size := by rw [← hcc']; simp; omega
          have hc'o : ∀ k, k < bo + es.length * sz → c'[k]? = c[k]? := fun k hk => by
            rw [← hcc']
            simp only [List.getElem?_toArray]
            rw [List.append_assoc, List.getElem?_append_left (by simp; omega), List.getElem?_take, if_pos hk, Array.getElem?_toList]
          have hc'n : ∀ k (hk : k < ns.length), c'[bo + es.length * sz + k]? = some ns[k] := fun k hk => by
            rw [← hcc']
            simp only [List.getElem?_toArray]
            have hm : min (bo + es.length * sz) c.size = bo + es.length * sz := by omega
            rw [List.append_assoc, List.getElem?_append_right (by simp; omega), List.getElem?_append_left (by simp; omega)]
            simp [hm]
          obtain ⟨E, R'⟩ := more_lin R hlin f2 f4 (setRow_put1 f4 (us := c')) hc's (n := bo + (es.length + 1) * sz) (by rw [f3]; have := Nat.mul_le_mul_right sz (show es.length ≤ es.length + 1 by omega); omega) (by rw [Nat.add_mul, Nat.one_mul]; omega) (fun k hk => hc'o k (by omega)) ⟨bb, bo, none⟩
          refine ⟨bb, bo, cap, c1, Tc, w.setRow bb c1, g.more lin bb (bo + (es.length + 1) * sz) ⟨bb, bo, none⟩, ?_, setRow_heap w bb c c1 Tc (0, 0) f4, by omega, ?_⟩
          · simp only [T.hsz] at hf
            simp [Builtin.append_, run_underlying T.ht, sizeOf, typeInfo, T.hi, T.hsz, Builtin.lenOf, hroom, hf, add_mk, hst]
          · rw [hc1, hcc', setRow_setRow]
            refine ⟨E, R', ?_⟩
            have hL : (es ++ [y]).length = es.length + 1 := by simp
            have hsz : ∀ i (hi : i < (es ++ [y]).length), (es ++ [y])[i].length = sz := by
              intro i hi
              by_cases h1' : i < es.length
              · rw [List.getElem_append_left h1']; exact h1 i h1'
              · rw [List.getElem_append_right (by omega)]; exact hy2 _ _
            
            have hcell : ∀ k (hk : k < (us ++ ns).length), (w.setRow bb c').cell? ((⟨bb, bo, none⟩ : Addr).add k) = some (us ++ ns)[k] := by
              intro k hk
              rw [add_mk]
              simp only [World.cell?, setRow_heap w bb c c' Tc (0, 0) f4, Option.isSome_none, Bool.false_eq_true, if_false]
              by_cases h6 : k < us.length
              · have h7 := (h3 k us[k] (List.getElem?_eq_getElem h6)).1
                rw [add_mk] at h7
                simp only [World.cell?, f4, Option.isSome_none, Bool.false_eq_true, if_false] at h7
                rw [hc'o _ (by omega), h7, List.getElem_append_left h6]
              · have h7 : k - us.length < ns.length := by simp at hk; omega
                have h8 := hc'n _ h7
                rw [show bo + k = bo + es.length * sz + (k - us.length) by omega, h8, List.getElem_append_right (by omega)]
            have hlen : (us ++ ns).length = (es.length + 1) * sz := by rw [List.length_append, h2, hn3, Nat.add_mul, Nat.one_mul]
            have hlt : ∀ i j, i < (es ++ [y]).length → j < sz → i * sz + j < (us ++ ns).length := fun i j hi hj => by
              rw [hlen]; exact mul_lt (by simpa using hi) hj
            have V : VR (g.more lin bb (bo + (es.length + 1) * sz) ⟨bb, bo, none⟩) (w.setRow bb c') (.vec (.own lin (ver + 1)) sz (es ++ [y])) (.slice (some ⟨bb, bo, none⟩) (es ++ [y]).length cap) := ?_
            · rw [hL] at V; exact V
            refine .vec _ sz _ _ cap (fun i j => (us ++ ns).getD (i * sz + j) undef) hsz (fun i j hi hj => ?_) (fun i j hi hj => ?_) (fun i j hi hj => ?_) (fun i j hi hj => ?_) (by simpa using hroom) hcap2 ?_ (fun _ => ⟨c', Tc, _, setRow_heap w bb c c' Tc (0, 0) f4⟩)
            · rw [hcell _ (hlt i j hi hj), List.getD_eq_getElem?_getD, List.getElem?_eq_getElem (hlt i j hi hj)]; rfl
            · have hj' : j < sz := by rw [hsz i hi] at hj; exact hj
              refine VR.mono E.toEvc ?_
              by_cases h1' : i < es.length
              · have h5 : i * sz + j < us.length := by rw [h2]; exact mul_lt h1' hj'
                have e1 : (us ++ ns).getD (i * sz + j) undef = us.getD (i * sz + j) undef := by
                  rw [List.getD_eq_getElem?_getD, List.getElem?_append_left h5, List.getD_eq_getElem?_getD]
                have := h4 i j h1' (by rw [h1 i h1']; exact hj')
                rw [e1]
                simpa [List.getElem_append_left h1'] using this
              · have h3' : i - es.length < [y].length := by simp at hi; simp; omega
                have h4' : es.length * sz ≤ i * sz := Nat.mul_le_mul_right _ (by omega)
                have e1 : (us ++ ns).getD (i * sz + j) undef = ns.getD ((i - es.length) * sz + j) undef := by
                  rw [List.getD_eq_getElem?_getD, List.getElem?_append_right (by omega), List.getD_eq_getElem?_getD, h2, Nat.sub_mul]
                  congr 2; omega
                have := hy5 (i - es.length) j h3' (by rw [hy2 _ h3']; exact hj')
                rw [e1]
                simpa [List.getElem_append_right (show es.length ≤ i by omega)] using this
            · rw [List.getD_eq_getElem?_getD, List.getElem?_eq_getElem (hlt i j hi hj)]
              have hm : (us ++ ns)[i * sz + j]'(hlt i j hi hj) ∈ us ++ ns := List.getElem_mem _
              rcases List.mem_append.1 hm with h5 | h5
              · obtain ⟨k, hk, hk2⟩ := List.getElem_of_mem h5
                have := (h3 k _ (List.getElem?_eq_getElem hk)).2.1
                rw [hk2] at this
                exact this
              · exact hn1 _ h5
            · rw [add_mk]
              simp only [Gh.more, if_true]
              have := hlt i j hi hj
              omega
            · refine ⟨hlin, by simp [Gh.more, hcur], fun _ _ => ⟨rfl, f2, by simp [Gh.more], c', Tc, setRow_heap w bb c c' Tc (0, 0) f4, by simp only; omega⟩, by simp [Gh.more, hcur], ?_⟩
              show g.bl bb = some lin
              rw [f2]; exact R.tbl lin hlin
        · exact grow b cap us rfl (by omega) h2 h3 h1 h4 g.nl (.inr ⟨hlin, by rw [hcur], rfl, rfl⟩)
    rcases hxs with hxs | hxs
    · exact key _ (.inl rfl) hxs
    · exact key _ (.inr rfl) hxs
theorem setRow_comm (w : World) {b c : Nat} (hne : b ≠ c) (x y : Array Value) : (w.setRow b x).setRow c y = (w.setRow c y).setRow b x := by
  unfold World.setRow
  congr 1
  apply Array.ext_getElem?
  intro k
  simp only [Array.getElem?_modify]
  by_cases h1 : b = k
  · by_cases h2 : c = k
    · omega
    · simp [h1, h2]
  · by_cases h2 : c = k
    · simp [h1, h2]
    · simp [h1, h2]
end
end Go.Am
end
