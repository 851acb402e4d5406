/- FnJTellType: for every list of type names and every JSON value the law of the command JTellType answers true, and the arguments read behind the call as they read before. Conditions: none on the arguments; the package-level tables that the card lists start as the text of the program lays them, as the card ties them. -/
import Derived.Calls
import Derived.Orders
import Derived.Tactics
import Derived.Laws.Sem
import Derived.Laws.World
import Derived.Lib.Buffer
import Derived.Lib.UnsafeStr
import Derived.Laws.Strings
import Derived.Laws.Strings2
set_option linter.unusedVariables false
set_option linter.unusedSimpArgs false
section
namespace Go.Am
inductive Tk where
  | none | full
  | own (lin ver : Nat)
  | suf (lin ver : Nat)
inductive AV where
  | bool (b : Bool)
  | int (k : IntKind) (n : Int)
  | flt (k : FloatKind) (bits : Nat)
  | str (s : List UInt8)
  | nilp
  | ptr (o off : Nat)
  | ref (id : Option (Nat × Nat)) (cells : List AV)
  | nilsl
  | vec (tk : Tk) (sz : Nat) (elems : List (List AV))
  | sl (o off n cap : Nat) (ex : Bool)
  | nilm
  | map (o : Nat)
  | nilf
  | clo (f : FuncId) (caps : List AV)
  | nili
  | iface (t : TypeId) (v : AV)
  | agg (cs : List AV)
  | tup (vs : List AV)
  | one (x : AV)
  deriving Inhabited
inductive AObj where
  | cells (cs : List AV)
  | map (es : List (AV × AV))
  | frz
  | iter (s : List UInt8) (pos : Nat)
  | mit (m since k : Nat) (l : Option Nat)
  | row (cap : Nat) (cs : List AV)
  | gone
structure AH where
  n : Nat
  get : Nat → Option AObj
  nt : Nat
  tip : Nat → Nat
  tabs : Addr → Option Value
structure Gh where
  ob : Nat → Option Nat
  bl : Nat → Option Nat
  va : Nat → Nat → Option Addr
  ext : Nat → Nat
  nl : Nat
  cur : Nat → Nat
  tb : Nat → Nat
  pv : Nat → Option Nat
def TipF (g : Gh) (w : World) (lin : Nat) (ad : Addr) (n cap sz : Nat) : Prop :=
  ad.spot = none ∧ ad.block = g.tb lin ∧ g.ext ad.block = ad.off + n * sz ∧ ∃ c T, w.heap[ad.block]? = some (.cells c T (0, 0)) ∧ ad.off + cap * sz ≤ c.size
def TkOK (g : Gh) (w : World) (tk : Tk) (ad : Addr) (n cap sz : Nat) : Prop :=
  match tk with
  | .none => True
  | .full => cap = n
  | .own lin ver => lin < g.nl ∧ ver ≤ g.cur lin ∧ (g.cur lin = ver → n < cap → TipF g w lin ad n cap sz) ∧ g.va lin ver = some ad ∧ g.bl ad.block = some lin
  | .suf lin ver => lin < g.nl ∧ ver ≤ g.cur lin ∧ (g.cur lin = ver → n < cap → TipF g w lin ad n cap sz)
def RidOK (g : Gh) (id : Option (Nat × Nat)) (ad : Addr) : Prop :=
  match id with
  | none => True
  | some (lin, ver) => g.va lin ver = some ad ∧ g.bl ad.block = some lin
def Unfz (w : World) (b : Nat) : Prop := ∃ c T fz, w.heap[b]? = some (.cells c T fz)
inductive VR (g : Gh) (w : World) : AV → Value → Prop where
  | bool (b : Bool) : VR g w (.bool b) (.bool b)
  | int (k : IntKind) (n : Int) : VR g w (.int k n) (.int k n)
  | flt (k : FloatKind) (n : Nat) : VR g w (.flt k n) (.float k n)
  | str (s : ByteArray) : VR g w (.str s.data.toList) (.string s)
  | nilp : VR g w .nilp (.pointer none)
  | ptr (o off b : Nat) (hb : g.ob o = some b) : VR g w (.ptr o off) (.pointer (some ⟨b, off, none⟩))
  | ref (id : Option (Nat × Nat)) (cells : List AV) (ad : Addr) (vs : Nat → Value) (hc : ∀ i, i < cells.length → w.cell? (ad.add i) = some (vs i))
      (hv : ∀ i (hi : i < cells.length), VR g w cells[i] (vs i)) (ho : ∀ i, i < cells.length → (vs i).oneCell' = true)
      (hm : ∀ i, i < cells.length → (ad.add i).off < g.ext (ad.add i).block) (hr : RidOK g id ad) (hz : Unfz w ad.block) :
      VR g w (.ref id cells) (.pointer (some ad))
  | nilsl : VR g w .nilsl (.slice none 0 0)
  | vec (tk : Tk) (sz : Nat) (elems : List (List AV)) (ad : Addr) (cap : Nat) (vs : Nat → Nat → Value)
      (hs : ∀ i (hi : i < elems.length), elems[i].length = sz)
      (hc : ∀ i j, i < elems.length → j < sz → w.cell? (ad.add (i * sz + j)) = some (vs i j))
      (hv : ∀ i j (hi : i < elems.length) (hj : j < elems[i].length), VR g w elems[i][j] (vs i j))
      (ho : ∀ i j, i < elems.length → j < sz → (vs i j).oneCell' = true)
      (hm : ∀ i j, i < elems.length → j < sz → (ad.add (i * sz + j)).off < g.ext (ad.add (i * sz + j)).block)
      (hn : elems.length ≤ cap) (hcap : cap < 2 ^ 63) (ht : TkOK g w tk ad elems.length cap sz) (hz : elems ≠ [] → Unfz w ad.block) :
      VR g w (.vec tk sz elems) (.slice (some ad) elems.length cap)
  | sl (o off n cap : Nat) (ex : Bool) (b rc : Nat) (hb : g.ob o = some b) (hs : ∃ c T fz, w.heap[b]? = some (.cells c T fz) ∧ off + rc ≤ c.size) (hn : n ≤ cap) (hrc : cap ≤ rc) (hex : ex = true → rc = cap) (hcap : rc < 2 ^ 63) : VR g w (.sl o off n cap ex) (.slice (some ⟨b, off, none⟩) n rc)
  | nilm : VR g w .nilm (.map none)
  | map (o b : Nat) (hb : g.ob o = some b) : VR g w (.map o) (.map (some b))
  | nilf : VR g w .nilf .nilFunc
  | clo (f : FuncId) (caps : List AV) (vs : Array Value) (hn : vs.size = caps.length) (hv : ∀ i (hi : i < caps.length), VR g w caps[i] (vs.getD i undef)) :
      VR g w (.clo f caps) (.func (.func f) #[] vs)
  | nili : VR g w .nili .nilIface
  | iface (t : TypeId) (x : AV) (v : Value) (h : VR g w x v) : VR g w (.iface t x) (.iface t v)
  | agg (cs : List AV) (vs : Array Value) (hn : vs.size = cs.length) (hv : ∀ i (hi : i < cs.length), VR g w cs[i] (vs.getD i undef))
      (ho : ∀ i, i < cs.length → (vs.getD i undef).oneCell' = true) : VR g w (.agg cs) (.agg vs)
  | tup (cs : List AV) (vs : Array Value) (hn : vs.size = cs.length) (hv : ∀ i (hi : i < cs.length), VR g w cs[i] (vs.getD i undef)) :
      VR g w (.tup cs) (.tuple vs)
  | one (x : AV) (v : Value) (h : VR g w x v) (ho : v.oneCell' = true) : VR g w (.one x) v
structure Evc (g : Gh) (w : World) (g' : Gh) (w' : World) : Prop where
  os : w'.os = w.os
  tape : w'.tape = w.tape
  output : w'.output = w.output
  size : w.heap.size ≤ w'.heap.size
  ob : ∀ o b, g.ob o = some b → g'.ob o = some b
  obn : ∀ o b, g'.ob o = some b → (∃ o', g.ob o' = some b) ∨ w.heap.size ≤ b
  bl : ∀ b l, g.bl b = some l → g'.bl b = some l
  bln : ∀ b l, g'.bl b = some l → g.bl b = some l ∨ w.heap.size ≤ b
  va : ∀ l v a, g.va l v = some a → g'.va l v = some a
  com : ∀ a : Addr, a.off < g.ext a.block → a.off < g'.ext a.block ∧ w'.cell? a = w.cell? a
  nl : g.nl ≤ g'.nl
  cur : ∀ l, l < g.nl → g.cur l ≤ g'.cur l
  tip : ∀ l, l < g.nl → g'.cur l = g.cur l → g'.tb l = g.tb l ∧ g'.ext (g.tb l) = g.ext (g.tb l)
  shape : ∀ (b : Nat) c T fz, w.heap[b]? = some (.cells c T fz) → ∃ c', w'.heap[b]? = some (.cells c' T fz) ∧ c'.size = c.size
  pv : ∀ k b, g.pv k = some b → g'.pv k = some b
  pvn : ∀ k b, g'.pv k = some b → g.pv k = some b ∨ w.heap.size ≤ k
structure Ev (g : Gh) (w : World) (g' : Gh) (w' : World) : Prop extends Evc g w g' w' where
  rest : ∀ b : Nat, b < w.heap.size → (∀ o, g.ob o ≠ some b) → g.bl b = none → g.pv b = none → w'.heap[b]? = w.heap[b]? ∧ g'.ext b = g.ext b
theorem Evc.refl (g : Gh) (w : World) : Evc g w g w where
  os := rfl
  tape := rfl
  output := rfl
  size := Nat.le_refl _
  ob _ _ h := h
  obn _ _ h := .inl ⟨_, h⟩
  bl _ _ h := h
  bln _ _ h := .inl h
  va _ _ _ h := h
  com _ h := ⟨h, rfl⟩
  nl := Nat.le_refl _
  cur _ _ := Nat.le_refl _
  tip _ _ _ := ⟨rfl, rfl⟩
  shape _ c _ _ h := ⟨c, h, rfl⟩
  pv _ _ e := e
  pvn _ _ e := .inl e
theorem Ev.refl (g : Gh) (w : World) : Ev g w g w := ⟨.refl g w, fun _ _ _ _ _ => ⟨rfl, rfl⟩⟩
theorem Evc.trans {g g' g'' : Gh} {w w' w'' : World} (h : Evc g w g' w') (k : Evc g' w' g'' w'') : Evc g w g'' w'' where
  os := k.os.trans h.os
  tape := k.tape.trans h.tape
  output := k.output.trans h.output
  size := Nat.le_trans h.size k.size
  ob o b e := k.ob o b (h.ob o b e)
  obn o b e := by
    rcases k.obn o b e with ⟨o', e⟩ | e
    · exact h.obn o' b e
    · exact .inr (Nat.le_trans h.size e)
  bl b l e := k.bl b l (h.bl b l e)
  bln b l e := by
    rcases k.bln b l e with e | e
    · exact h.bln b l e
    · exact .inr (Nat.le_trans h.size e)
  va l v a e := k.va l v a (h.va l v a e)
  com a e := by
    obtain ⟨e1, c1⟩ := h.com a e
    obtain ⟨e2, c2⟩ := k.com a e1
    exact ⟨e2, c2.trans c1⟩
  nl := Nat.le_trans h.nl k.nl
  cur l e := Nat.le_trans (h.cur l e) (k.cur l (Nat.lt_of_lt_of_le e h.nl))
  tip l e c := by
    have h1 := h.cur l e
    have h2 := k.cur l (Nat.lt_of_lt_of_le e h.nl)
    obtain ⟨t1, x1⟩ := h.tip l e (by omega)
    obtain ⟨t2, x2⟩ := k.tip l (Nat.lt_of_lt_of_le e h.nl) (by omega)
    refine ⟨t2.trans t1, ?_⟩
    rw [← t1, x2, t1, x1]
  shape b c T fz e := by
    obtain ⟨c1, e1, s1⟩ := h.shape b c T fz e
    obtain ⟨c2, e2, s2⟩ := k.shape b c1 T fz e1
    exact ⟨c2, e2, s2.trans s1⟩
  pv _ _ e := k.pv _ _ (h.pv _ _ e)
  pvn j b e := by
    rcases k.pvn j b e with e | e
    · exact h.pvn j b e
    · exact .inr (Nat.le_trans h.size e)
theorem Ev.trans {g g' g'' : Gh} {w w' w'' : World} (h : Ev g w g' w') (k : Ev g' w' g'' w'') : Ev g w g'' w'' where
  toEvc := h.toEvc.trans k.toEvc
  rest b hb ho hl hp := by
    obtain ⟨e1, x1⟩ := h.rest b hb ho hl hp
    have hp' : g'.pv b = none := by
      cases e : g'.pv b with
      | none => rfl
      | some l =>
        rcases h.pvn b l e with e | e
        · rw [hp] at e; cases e
        · omega
    have ho' : ∀ o, g'.ob o ≠ some b := fun o e => by
      rcases h.obn o b e with ⟨o', e⟩ | e
      · exact ho o' e
      · omega
    have hl' : g'.bl b = none := by
      cases e : g'.bl b with
      | none => rfl
      | some l =>
        rcases h.bln b l e with e | e
        · rw [hl] at e; cases e
        · omega
    obtain ⟨e2, x2⟩ := k.rest b (Nat.lt_of_lt_of_le hb h.size) ho' hl' hp'
    exact ⟨e2.trans e1, x2.trans x1⟩
theorem TipF.mono {g g' : Gh} {w w' : World} {lin : Nat} {ad : Addr} {n cap sz : Nat} (h : Evc g w g' w') (hl : lin < g.nl) (hc : g'.cur lin = g.cur lin) (t : TipF g w lin ad n cap sz) :
    TipF g' w' lin ad n cap sz := by
  obtain ⟨hs, hb, he, c, T, hh, hz⟩ := t
  obtain ⟨t1, x1⟩ := h.tip lin hl hc
  obtain ⟨c', hh', hz'⟩ := h.shape _ c T _ hh
  exact ⟨hs, by rw [t1]; exact hb, by rw [hb, x1, ← hb]; exact he, c', T, hh', by omega⟩
theorem TkOK.mono {g g' : Gh} {w w' : World} {tk : Tk} {ad : Addr} {n cap sz : Nat} (h : Evc g w g' w') (t : TkOK g w tk ad n cap sz) : TkOK g' w' tk ad n cap sz := by
  cases tk with
  | none => exact t
  | full => exact t
  | own lin ver =>
    obtain ⟨hl, hv, ht, ha, hb⟩ := t
    have hm := h.cur lin hl
    exact ⟨Nat.lt_of_lt_of_le hl h.nl, by omega, fun e hn => (ht (by omega) hn).mono h hl (by omega), h.va _ _ _ ha, h.bl _ _ hb⟩
  | suf lin ver =>
    obtain ⟨hl, hv, ht⟩ := t
    have hm := h.cur lin hl
    exact ⟨Nat.lt_of_lt_of_le hl h.nl, by omega, fun e hn => (ht (by omega) hn).mono h hl (by omega)⟩
theorem RidOK.mono {g g' : Gh} {w w' : World} {id : Option (Nat × Nat)} {ad : Addr} (h : Evc g w g' w') (t : RidOK g id ad) : RidOK g' id ad := by
  cases id with
  | none => exact t
  | some p => exact ⟨h.va _ _ _ t.1, h.bl _ _ t.2⟩
theorem Unfz.mono {g g' : Gh} {w w' : World} (h : Evc g w g' w') {b : Nat} (z : Unfz w b) : Unfz w' b := by
  obtain ⟨c, T, fz, e⟩ := z
  obtain ⟨c', e', _⟩ := h.shape _ _ _ _ e
  exact ⟨c', T, fz, e'⟩
theorem VR.mono {g g' : Gh} {w w' : World} (h : Evc g w g' w') {x : AV} {v : Value} (r : VR g w x v) : VR g' w' x v := by
  induction r with
  | bool b => exact .bool b
  | int k n => exact .int k n
  | flt k n => exact .flt k n
  | str s => exact .str s
  | nilp => exact .nilp
  | ptr o off b hb => exact .ptr o off b (h.ob _ _ hb)
  | ref id cells ad vs hc hv ho hm hr hz ih =>
    exact .ref id cells ad vs (fun i hi => (h.com _ (hm i hi)).2.trans (hc i hi)) ih ho (fun i hi => (h.com _ (hm i hi)).1) (hr.mono h) (hz.mono h)
  | nilsl => exact .nilsl
  | vec tk sz elems ad cap vs hs hc hv ho hm hn hcap ht hz ih =>
    exact .vec tk sz elems ad cap vs hs (fun i j hi hj => (h.com _ (hm i j hi hj)).2.trans (hc i j hi hj)) ih ho (fun i j hi hj => (h.com _ (hm i j hi hj)).1) hn hcap (ht.mono h) (fun e => (hz e).mono h)
  | sl o off n cap ex b rc hb hs hn hrc hex hcap =>
    obtain ⟨c, T, fz, hs, hz⟩ := hs
    obtain ⟨c', hs', hz'⟩ := h.shape _ _ _ _ hs
    exact .sl o off n cap ex b rc (h.ob _ _ hb) ⟨c', T, fz, hs', by omega⟩ hn hrc hex hcap
  | nilm => exact .nilm
  | map o b hb => exact .map o b (h.ob _ _ hb)
  | nilf => exact .nilf
  | clo f caps vs hn hv ih => exact .clo f caps vs hn ih
  | nili => exact .nili
  | iface t x v h ih => exact .iface t x v ih
  | agg cs vs hn hv ho ih => exact .agg cs vs hn ih ho
  | tup cs vs hn hv ih => exact .tup cs vs hn ih
  | one x v h ho ih => exact .one x v ih ho
def VRs (g : Gh) (w : World) (xs : List AV) (vs : Array Value) : Prop := vs.size = xs.length ∧ ∀ i (hi : i < xs.length), VR g w xs[i] (vs.getD i undef)
theorem VRs.mono {g g' : Gh} {w w' : World} (h : Evc g w g' w') {xs : List AV} {vs : Array Value} (r : VRs g w xs vs) : VRs g' w' xs vs :=
  ⟨r.1, fun i hi => (r.2 i hi).mono h⟩
def VRc (g : Gh) (w : World) (xs : List AV) (vs : Array Value) : Prop := VRs g w xs vs ∧ ∀ i, i < xs.length → (vs.getD i undef).oneCell' = true
theorem VRc.mono {g g' : Gh} {w w' : World} (h : Evc g w g' w') {xs : List AV} {vs : Array Value} (r : VRc g w xs vs) : VRc g' w' xs vs := ⟨r.1.mono h, r.2⟩
/-- The entries of a map of which none was ever taken away: born one behind the other. -/
def MapOK (ms : Array MapEntry) (clk n : Nat) : Prop := clk = n ∧ ∀ (i : Nat) m, ms[i]? = some m → m.born = i
/-- A map's iterator: k entries are seen, all born ahead of since. -/
def MitOK (g : Gh) (w : World) (m since k : Nat) (l : Option Nat) (b : Nat) : Prop := ∃ mo seen, g.ob m = some mo ∧ w.heap[b]? = some (.mapIter (some mo) since seen since) ∧ seen.size = k ∧ seen.toList.Nodup ∧ (∀ x ∈ seen, x < since) ∧ ∀ x, l = some x → seen.back? = some x
def OR (g : Gh) (w : World) (x : AObj) (b : Nat) : Prop :=
  match x with
  | .cells cs => ∃ vs T, w.heap[b]? = some (.cells vs T (0, 0)) ∧ VRc g w cs vs
  | .map es => ∃ (ms : Array MapEntry) (clk : Nat), w.heap[b]? = some (.map ms clk) ∧ (ms.size = es.length ∧ MapOK ms clk es.length) ∧ ∀ i (hi : i < es.length), ∃ m, ms[i]? = some m ∧ VR g w es[i].1 m.key ∧ VR g w es[i].2 m.val
  | .frz => ∃ vs T, w.heap[b]? = some (.cells vs T (0, 0))
  | .row cap cs => ∃ vs T fz, w.heap[b]? = some (.cells vs T fz) ∧ (fz = (0, 0) ∨ vs.size ≤ fz.1) ∧ (cs.length ≤ cap ∧ cap ≤ vs.size) ∧ ∀ i (hi : i < cs.length), VR g w cs[i] (vs.getD i undef) ∧ (vs.getD i undef).oneCell' = true
  | .gone => ∃ c T fz, w.heap[b]? = some (.cells c T fz)
  | .iter s pos => w.heap[b]? = some (.stringIter ⟨s.toArray⟩ pos)
  | .mit m since k l => MitOK g w m since k l b
theorem OR.mono {g g' : Gh} {w w' : World} (h : Evc g w g' w') {x : AObj} {b : Nat} (e : w'.heap[b]? = w.heap[b]?) (ep : ∀ k, g.pv k = some b → w'.heap[k]? = w.heap[k]?) (r : OR g w x b) : OR g' w' x b := by
  cases x with
  | cells cs =>
    obtain ⟨vs, T, hh, hv⟩ := r
    exact ⟨vs, T, e.trans hh, hv.mono h⟩
  | map es =>
    obtain ⟨ms, clk, hh, hs, hv⟩ := r
    refine ⟨ms, clk, e.trans hh, hs, fun i hi => ?_⟩
    obtain ⟨m, hm, h1, h2⟩ := hv i hi
    exact ⟨m, hm, h1.mono h, h2.mono h⟩
  | frz =>
    obtain ⟨vs, T, hh⟩ := r
    exact ⟨vs, T, e.trans hh⟩
  | row cap cs =>
    obtain ⟨vs, T, fz, hh, hf, hz, hv⟩ := r
    exact ⟨vs, T, fz, e.trans hh, hf, hz, fun i hi => ⟨(hv i hi).1.mono h, (hv i hi).2⟩⟩
  | gone =>
    obtain ⟨c, T, fz, hh⟩ := r
    exact ⟨c, T, fz, e.trans hh⟩
  | iter s pos => exact e.trans r
  | mit m since k l =>
    obtain ⟨mo, seen, h1, h2, h3⟩ := r
    exact ⟨mo, seen, h.ob _ _ h1, e.trans h2, h3⟩
structure Rel (g : Gh) (w : World) (h : AH) : Prop where
  obl : ∀ o b, g.ob o = some b → b < w.heap.size ∧ (h.get o ≠ some .frz → h.get o ≠ some .gone → g.ext b = 0) ∧ g.bl b = none
  obi : ∀ o o' b, g.ob o = some b → g.ob o' = some b → o = o' ∨ h.get o = some .gone ∨ h.get o' = some .gone
  obd : ∀ o b, g.ob o = some b → o < h.n
  obj : ∀ o x, h.get o = some x → ∃ b, g.ob o = some b ∧ OR g w x b
  obg : ∀ o b, g.ob o = some b → ∃ x, h.get o = some x
  nt : g.nl = h.nt
  cur : ∀ l, l < h.nt → g.cur l = h.tip l
  bll : ∀ b l, g.bl b = some l → l < g.nl ∧ b < w.heap.size
  tbl : ∀ l, l < g.nl → g.bl (g.tb l) = some l
  vac : ∀ l v a, g.va l v = some a → l < g.nl ∧ v ≤ g.cur l
  ext : ∀ b : Nat, 0 < g.ext b → ∃ c T fz, w.heap[b]? = some (.cells c T fz) ∧ g.ext b ≤ c.size
  pvl : ∀ k b, g.pv k = some b → k < w.heap.size ∧ g.ext k = 0 ∧ g.bl k = none ∧ ∀ o, g.ob o ≠ some k
  tab : ∀ a v, h.tabs a = some v → w.cell? a = some v ∧ a.off < g.ext a.block
inductive Slot where
  | v (x : AV)
  | lp (d off : Nat)
  | junk
structure AFr where
  n : Nat
  f : Nat → Slot
  loc : Nat → List AV
  df : List (FuncId × List AV)
def VS (g : Gh) (w : World) (lb : Nat → Option Nat) : Slot → Value → Prop
  | .v x, v => VR g w x v
  | .lp d off, v => ∃ b, lb d = some b ∧ v = .pointer (some ⟨b, off, none⟩)
  | .junk, _ => True
theorem VS.mono {g g' : Gh} {w w' : World} {lb : Nat → Option Nat} (h : Evc g w g' w') {s : Slot} {v : Value} (r : VS g w lb s v) : VS g' w' lb s v := by
  cases s with
  | v x => exact VR.mono h r
  | lp d off => exact r
  | junk => trivial
abbrev LT := List (Nat × List Nat)
def LT.mayHold (lt : LT) (d e : Nat) : Bool :=
  match lt with
  | [] => false
  | (d', l) :: r => if d' = d then (e == d || l.contains e) else LT.mayHold r d e
def LT.has (lt : LT) (d : Nat) : Option (List Nat) :=
  match lt with
  | [] => none
  | (d', l) :: r => if d' = d then some l else LT.has r d
def DR (g : Gh) (w : World) : List (FuncId × List AV) → List Deferred → Prop
  | [], ds => ds = []
  | (f, args) :: r, ds => ∃ (us cs ays : Array Value) (ds' : List Deferred), ds = ⟨.fn (.func f) cs, us⟩ :: ds' ∧ VRs g w args ays ∧ ays = us ++ cs ∧ DR g w r ds'
theorem DR.mono {g g' : Gh} {w w' : World} (h : Evc g w g' w') : ∀ {l : List (FuncId × List AV)} {ds : List Deferred}, DR g w l ds → DR g' w' l ds
  | [], _, r => r
  | (_, _) :: _, _, ⟨us, cs, ays, ds', h1, h2, h3, h4⟩ => ⟨us, cs, ays, ds', h1, h2.mono h, h3, h4.mono h⟩
structure FR (lt : LT) (g : Gh) (w : World) (base : Nat) (lb : Nat → Option Nat) (fr : AFr) (a : Act) : Prop where
  defers : DR g w fr.df a.defers
  size : a.tmps.size = fr.n
  slot : ∀ k, k < fr.n → VS g w lb (fr.f k) (a.tmps.getD k undef)
  hold : ∀ k d off, fr.f k = .lp d off → lt.mayHold d k = true
  lbi : ∀ d d' b, lb d = some b → lb d' = some b → d = d'
  lbo : ∀ d b, lb d = some b → base ≤ b ∧ b < w.heap.size ∧ (∀ o, g.ob o ≠ some b) ∧ g.bl b = none ∧ g.ext b = 0 ∧ g.pv b = none ∧ ∃ vs T, w.heap[b]? = some (.cells vs T (0, 0)) ∧ VRc g w (fr.loc d) vs
theorem FR.mono {lt : LT} {g g' : Gh} {w w' : World} {base : Nat} {lb : Nat → Option Nat} {fr : AFr} {a : Act} (h : Ev g w g' w') (r : FR lt g w base lb fr a) : FR lt g' w' base lb fr a where
  defers := r.defers.mono h.toEvc
  size := r.size
  slot k hk := (r.slot k hk).mono h.toEvc
  hold := r.hold
  lbi := r.lbi
  lbo d b e := by
    obtain ⟨h1, h2, h3, h4, h5, h8, vs, T, h6, h7⟩ := r.lbo d b e
    obtain ⟨e1, x1⟩ := h.rest b h2 h3 h4 h8
    refine ⟨h1, Nat.lt_of_lt_of_le h2 h.size, fun o eo => ?_, ?_, by rw [x1]; exact h5, ?_, vs, T, e1.trans h6, h7.mono h.toEvc⟩
    · rcases h.obn o b eo with ⟨o, e⟩ | e
      · exact h3 o e
      · omega
    · cases e : g'.bl b with
      | none => rfl
      | some l =>
        rcases h.bln b l e with e | e
        · rw [h4] at e; cases e
        · omega
    · cases e : g'.pv b with
      | none => rfl
      | some l =>
        rcases h.pvn b l e with e | e
        · rw [h8] at e; cases e
        · omega
end Go.Am
end
section
namespace Go.Am
def Gh.xt (g : Gh) (b n : Nat) : Gh := { g with ext := fun k => if k = b then n else g.ext k }
def Gh.addOb (g : Gh) (o b : Nat) : Gh := { g with ob := fun k => if k = o then some b else g.ob k }
def AH.push (h : AH) (x : AObj) : AH := { h with n := h.n + 1, get := fun k => if k = h.n then some x else h.get k }
def AH.set (h : AH) (o : Nat) (x : AObj) : AH := { h with get := fun k => if k = o then some x else h.get k }
theorem heap_alloc (w : World) (o : Obj) (b : Nat) : (w.alloc o).heap[b]? = if b = w.heap.size then some o else w.heap[b]? := by
  simp only [World.alloc, Array.getElem?_push]
theorem heap_lt {w : World} {b : Nat} {o : Obj} (h : w.heap[b]? = some o) : b < w.heap.size := by
  rcases Nat.lt_or_ge b w.heap.size with h' | h'
  · exact h'
  · simp [Array.getElem?_eq_none h'] at h
theorem cell_congr {w w' : World} {a : Addr} (h : w'.heap[a.block]? = w.heap[a.block]?) : w'.cell? a = w.cell? a := by simp [World.cell?, h]
theorem Rel.ext_lt {g : Gh} {w : World} {h : AH} (R : Rel g w h) {b : Nat} (e : 0 < g.ext b) : b < w.heap.size := by
  obtain ⟨c, T, fz, hh, _⟩ := R.ext b e
  exact heap_lt hh
theorem Rel.tb_lt {g : Gh} {w : World} {h : AH} (R : Rel g w h) {l : Nat} (e : l < g.nl) : g.tb l < w.heap.size := (R.bll _ _ (R.tbl l e)).2
theorem Rel.tab_mono {g g' : Gh} {w w' : World} {h h' : AH} (R : Rel g w h) (E : Evc g w g' w') (ht : h'.tabs = h.tabs) : ∀ a v, h'.tabs a = some v → w'.cell? a = some v ∧ a.off < g'.ext a.block := fun a v e => by
  rw [ht] at e
  obtain ⟨h1, h2⟩ := R.tab a v e
  obtain ⟨k1, k2⟩ := E.com a h2
  exact ⟨k2.trans h1, k1⟩
theorem Rel.pv_ob {g : Gh} {w : World} {h : AH} (R : Rel g w h) {o b : Nat} (e : g.ob o = some b) : g.pv b = none := by
  cases k : g.pv b with
  | none => rfl
  | some c => exact absurd e ((R.pvl _ _ k).2.2.2 o)
theorem Rel.pv_bl {g : Gh} {w : World} {h : AH} (R : Rel g w h) {b l : Nat} (e : g.bl b = some l) : g.pv b = none := by
  cases k : g.pv b with
  | none => rfl
  | some c => have := (R.pvl _ _ k).2.2.1; rw [e] at this; cases this
theorem Rel.pv_new {g : Gh} {w : World} {h : AH} (R : Rel g w h) : g.pv w.heap.size = none := by
  cases k : g.pv w.heap.size with
  | none => rfl
  | some c => have := (R.pvl _ _ k).1; omega
theorem Rel.pv_old {g : Gh} {w : World} {h : AH} (R : Rel g w h) {w' : World} (ho : ∀ b, b < w.heap.size → w'.heap[b]? = w.heap[b]?) (b : Nat) : ∀ k, g.pv k = some b → w'.heap[k]? = w.heap[k]? := fun k e => ho k (R.pvl _ _ e).1
theorem alloc_ext {g : Gh} {w : World} {h : AH} (R : Rel g w h) (o : Obj) (n : Nat) (hn : 0 < n → ∃ c T fz, o = .cells c T fz ∧ n ≤ c.size) :
    Ev g w (g.xt w.heap.size n) (w.alloc o) ∧ Rel (g.xt w.heap.size n) (w.alloc o) h := by
  have hh := heap_alloc w o
  have old : ∀ b, b < w.heap.size → (w.alloc o).heap[b]? = w.heap[b]? := fun b hb => by rw [hh, if_neg (by omega)]
  have E : Ev g w (g.xt w.heap.size n) (w.alloc o) := by
    refine ⟨⟨rfl, rfl, rfl, by simp, fun _ _ e => e, fun _ _ e => .inl ⟨_, e⟩, fun _ _ e => e, fun _ _ e => .inl e, fun _ _ _ e => e, fun a e => ?_, Nat.le_refl _, fun _ _ => Nat.le_refl _, fun l hl _ => ⟨rfl, ?_⟩, fun b c T fz e => ⟨c, ?_, rfl⟩, fun _ _ e => e, fun _ _ e => .inl e⟩, fun b hb _ _ _ => ⟨old b hb, ?_⟩⟩
    · have := R.ext_lt (b := a.block) (by omega)
      exact ⟨by simp only [Gh.xt]; rw [if_neg (by omega)]; exact e, cell_congr (old _ this)⟩
    · have := R.tb_lt hl
      simp only [Gh.xt]; rw [if_neg (by omega)]
    · rw [old _ (heap_lt e)]; exact e
    · simp only [Gh.xt]; rw [if_neg (by omega)]
  refine ⟨E, fun o' b e => ?_, R.obi, R.obd, fun o' x e => ?_, R.obg, R.nt, R.cur, fun b l e => ?_, R.tbl, R.vac, fun b e => ?_, fun k b e => ?_, R.tab_mono E.toEvc rfl⟩
  · obtain ⟨h1, h2, h3⟩ := R.obl o' b e
    exact ⟨by simp; omega, fun hf hf' => by simp only [Gh.xt]; rw [if_neg (by omega)]; exact h2 hf hf', h3⟩
  · obtain ⟨b, hb, ho⟩ := R.obj o' x e
    exact ⟨b, hb, ho.mono E.toEvc (old b (R.obl _ _ hb).1) (R.pv_old old b)⟩
  · obtain ⟨h1, h2⟩ := R.bll b l e
    exact ⟨h1, by simp; omega⟩
  · by_cases hb : b = w.heap.size
    · subst hb
      simp only [Gh.xt, if_true] at e ⊢
      obtain ⟨c, T, fz, h1, h2⟩ := hn e
      exact ⟨c, T, fz, by rw [hh, if_pos rfl, h1], h2⟩
    · simp only [Gh.xt] at e ⊢
      rw [if_neg hb] at e ⊢
      obtain ⟨c, T, fz, h1, h2⟩ := R.ext b e
      exact ⟨c, T, fz, by rw [hh, if_neg hb]; exact h1, h2⟩
  · obtain ⟨h1, h2, h3, h4⟩ := R.pvl k b e
    exact ⟨by simp; omega, by simp only [Gh.xt]; rw [if_neg (by omega)]; exact h2, h3, h4⟩
theorem Rel.ext_new {g : Gh} {w : World} {h : AH} (R : Rel g w h) : g.ext w.heap.size = 0 := by
  rcases Nat.eq_zero_or_pos (g.ext w.heap.size) with e | e
  · exact e
  · have := R.ext_lt e; omega
theorem Rel.bl_new {g : Gh} {w : World} {h : AH} (R : Rel g w h) : g.bl w.heap.size = none := by
  cases e : g.bl w.heap.size with
  | none => rfl
  | some l => have := (R.bll _ _ e).2; omega
theorem Rel.ob_new {g : Gh} {w : World} {h : AH} (R : Rel g w h) (o : Nat) : g.ob o ≠ some w.heap.size := fun e => by
  have := (R.obl _ _ e).1; omega
theorem Gh.xt_zero {g : Gh} {w : World} {h : AH} (R : Rel g w h) : g.xt w.heap.size 0 = g := by
  have : (fun k => if k = w.heap.size then 0 else g.ext k) = g.ext := by
    funext k
    by_cases hk : k = w.heap.size
    · simp [hk, R.ext_new]
    · simp [hk]
  simp [Gh.xt, this]
theorem alloc_free {g : Gh} {w : World} {h : AH} (R : Rel g w h) (o : Obj) : Ev g w g (w.alloc o) ∧ Rel g (w.alloc o) h := by
  have := alloc_ext R o 0 (fun h => absurd h (by omega))
  rwa [Gh.xt_zero R] at this
theorem alloc_ob {g : Gh} {w : World} {h : AH} (R : Rel g w h) (o : Obj) (x : AObj) (hx : ∀ g', Evc g w g' (w.alloc o) → OR g' (w.alloc o) x w.heap.size) :
    Ev g w (g.addOb h.n w.heap.size) (w.alloc o) ∧ Rel (g.addOb h.n w.heap.size) (w.alloc o) (h.push x) := by
  have hh := heap_alloc w o
  have old : ∀ b, b < w.heap.size → (w.alloc o).heap[b]? = w.heap[b]? := fun b hb => by rw [hh, if_neg (by omega)]
  have obo : ∀ o' b, g.ob o' = some b → (g.addOb h.n w.heap.size).ob o' = some b := fun o' b e => by
    have := R.obd o' b e
    simp only [Gh.addOb]; rw [if_neg (by omega)]; exact e
  have obn : ∀ o' b, (g.addOb h.n w.heap.size).ob o' = some b → (o' = h.n ∧ b = w.heap.size) ∨ g.ob o' = some b := fun o' b e => by
    simp only [Gh.addOb] at e
    split at e
    · rename_i h1; injection e with e; exact .inl ⟨h1, e.symm⟩
    · exact .inr e
  have E : Ev g w (g.addOb h.n w.heap.size) (w.alloc o) := by
    refine ⟨⟨rfl, rfl, rfl, by simp, obo, fun o' b e => ?_, fun _ _ e => e, fun _ _ e => .inl e, fun _ _ _ e => e, fun a e => ⟨e, cell_congr (old _ (R.ext_lt (b := a.block) (by omega)))⟩, Nat.le_refl _, fun _ _ => Nat.le_refl _, fun l hl _ => ⟨rfl, rfl⟩, fun b c T fz e => ⟨c, ?_, rfl⟩, fun _ _ e => e, fun _ _ e => .inl e⟩, fun b hb _ _ _ => ⟨old b hb, rfl⟩⟩
    · rcases obn o' b e with ⟨_, rfl⟩ | e
      · exact .inr (Nat.le_refl _)
      · exact .inl ⟨_, e⟩
    · rw [old _ (heap_lt e)]; exact e
  refine ⟨E, fun o' b e => ?_, fun o1 o2 b e1 e2 => ?_, fun o' b e => ?_, fun o' y e => ?_, fun o' b e => ?_, R.nt, R.cur, fun b l e => ?_, R.tbl, R.vac, fun b e => ?_, fun k b e => ?_, R.tab_mono E.toEvc rfl⟩
  · rcases obn o' b e with ⟨_, rfl⟩ | e
    · exact ⟨by simp, fun _ _ => R.ext_new, R.bl_new⟩
    · obtain ⟨h1, h2, h3⟩ := R.obl o' b e
      have hd := R.obd o' b e
      exact ⟨by simp; omega, fun hf hf' => h2 (by simp only [AH.push] at hf; rwa [if_neg (by omega)] at hf) (by simp only [AH.push] at hf'; rwa [if_neg (by omega)] at hf'), h3⟩
  · rcases obn o1 b e1 with ⟨rfl, rfl⟩ | e1
    · rcases obn o2 _ e2 with ⟨rfl, _⟩ | e2
      · exact .inl rfl
      · exact absurd e2 (R.ob_new _)
    · rcases obn o2 _ e2 with ⟨rfl, rfl⟩ | e2
      · exact absurd e1 (R.ob_new _)
      · have q1 := R.obd _ _ e1
        have q2 := R.obd _ _ e2
        simp only [AH.push]
        rw [if_neg (by omega), if_neg (by omega)]
        exact R.obi _ _ _ e1 e2
  · rcases obn o' b e with ⟨rfl, _⟩ | e
    · simp [AH.push]
    · have := R.obd _ _ e; simp only [AH.push]; omega
  · simp only [AH.push] at e
    split at e
    · rename_i h1
      injection e with e
      subst e
      exact ⟨w.heap.size, by simp [Gh.addOb, h1], hx _ E.toEvc⟩
    · obtain ⟨b, hb, ho⟩ := R.obj o' y e
      exact ⟨b, obo _ _ hb, ho.mono E.toEvc (old b (R.obl _ _ hb).1) (R.pv_old old b)⟩
  · rcases obn o' b e with ⟨rfl, _⟩ | e
    · exact ⟨x, by simp [AH.push]⟩
    · obtain ⟨y, hy⟩ := R.obg o' b e
      have := R.obd _ _ e
      exact ⟨y, by simp only [AH.push]; rw [if_neg (by omega)]; exact hy⟩
  · obtain ⟨h1, h2⟩ := R.bll b l e
    exact ⟨h1, by simp; omega⟩
  · obtain ⟨c, T, fz, h1, h2⟩ := R.ext b e
    exact ⟨c, T, fz, by rw [old _ (heap_lt h1)]; exact h1, h2⟩
  · obtain ⟨h1, h2, h3, h4⟩ := R.pvl k b e
    refine ⟨by simp; omega, h2, h3, fun o' e' => ?_⟩
    rcases obn o' k e' with ⟨_, rfl⟩ | e'
    · omega
    · exact h4 o' e'
structure Put1 (w w' : World) (b : Nat) (x : Obj) : Prop where
  os : w'.os = w.os
  tape : w'.tape = w.tape
  output : w'.output = w.output
  size : w'.heap.size = w.heap.size
  at_ : w'.heap[b]? = some x
  other : ∀ k, k ≠ b → w'.heap[k]? = w.heap[k]?
theorem Put1.evc {g : Gh} {w w' : World} {b : Nat} {x : Obj} (p : Put1 w w' b x) (hx : g.ext b = 0) (hs : ∀ c T fz, w.heap[b]? = some (.cells c T fz) → ∃ c', x = .cells c' T fz ∧ c'.size = c.size) : Evc g w g w' := by
  refine ⟨p.os, p.tape, p.output, by rw [p.size]; exact Nat.le_refl _, fun _ _ e => e, fun _ _ e => .inl ⟨_, e⟩, fun _ _ e => e, fun _ _ e => .inl e, fun _ _ _ e => e, fun a e => ⟨e, cell_congr (p.other _ fun h => ?_)⟩, Nat.le_refl _, fun _ _ => Nat.le_refl _, fun l hl _ => ⟨rfl, rfl⟩, fun k c T fz e => ?_, fun _ _ e => e, fun _ _ e => .inl e⟩
  · rw [h, hx] at e; omega
  · by_cases hk : k = b
    · subst hk
      obtain ⟨c', h1, h2⟩ := hs c T fz e
      exact ⟨c', p.at_.trans (by rw [h1]), h2⟩
    · exact ⟨c, by rw [p.other k hk]; exact e, rfl⟩
theorem Put1.rel {g : Gh} {w w' : World} {h : AH} {b : Nat} {x : Obj} (R : Rel g w h) (p : Put1 w w' b x) (hx : g.ext b = 0) (hpv : g.pv b = none) (E : Evc g w g w') (h' : AH) (hn : h'.n = h.n) (hnt : h'.nt = h.nt) (htp : h'.tip = h.tip) (htb : h'.tabs = h.tabs) (hgg : ∀ o y, h.get o = some y → ∃ y', h'.get o = some y') (hgo : ∀ o, h.get o = some .gone → h'.get o = some .gone)
    (hg : ∀ o y, h'.get o = some y → (g.ob o = some b ∧ OR g w' y b) ∨ (h.get o = some y ∧ g.ob o ≠ some b)) : Rel g w' h' := by
  refine ⟨fun o k e => ?_, fun o1 o2 k e1 e2 => (R.obi o1 o2 k e1 e2).imp id fun q => q.imp (hgo _) (hgo _), fun o k e => hn ▸ R.obd o k e, fun o y e => ?_, fun o k e => (R.obg o k e).elim fun y hy => hgg o y hy, hnt ▸ R.nt, fun l hl => by rw [htp]; exact R.cur l (hnt ▸ hl), fun k l e => ?_, R.tbl, R.vac, fun k e => ?_, fun k c e => ?_, R.tab_mono E htb⟩
  · obtain ⟨h1, h2, h3⟩ := R.obl o k e
    refine ⟨by rw [p.size]; exact h1, fun hf hf' => ?_, h3⟩
    by_cases hk : k = b
    · rw [hk]; exact hx
    · refine h2 (fun hz => hf ?_) fun hz => hf' (hgo _ hz)
      obtain ⟨y', hy'⟩ := hgg o _ hz
      rcases hg o y' hy' with ⟨q1, _⟩ | ⟨q1, _⟩
      · rw [e] at q1; injection q1 with q1; exact absurd q1 hk
      · rw [hy', ← q1, hz]
  · rcases hg o y e with ⟨h1, h2⟩ | ⟨h1, h2⟩
    · exact ⟨b, h1, h2⟩
    · obtain ⟨k, hk, ho⟩ := R.obj o y h1
      exact ⟨k, hk, ho.mono E (p.other k fun h => h2 (h ▸ hk)) fun j hj => p.other j fun e => by rw [e, hpv] at hj; cases hj⟩
  · obtain ⟨h1, h2⟩ := R.bll k l e
    exact ⟨h1, by rw [p.size]; exact h2⟩
  · obtain ⟨c, T, fz, h1, h2⟩ := R.ext k e
    exact ⟨c, T, fz, by rw [p.other k fun h => by rw [h, hx] at e; omega]; exact h1, h2⟩
  · obtain ⟨h1, h2⟩ := R.pvl k c e
    exact ⟨by rw [p.size]; exact h1, h2⟩
theorem AH.set_gone {h : AH} {o o' : Nat} {x : AObj} (hn : h.get o ≠ some .gone) (e : h.get o' = some .gone) : (h.set o x).get o' = some .gone := by
  simp only [AH.set]
  by_cases q : o' = o
  · rw [q] at e; exact absurd e hn
  · rw [if_neg q]; exact e
theorem put_ob {g : Gh} {w w' : World} {h : AH} {o b : Nat} {vs vs' : Array Value} {T : TypeId} {cs' : List AV} (R : Rel g w h) (hb : g.ob o = some b) (hnf : h.get o ≠ some .frz ∧ h.get o ≠ some .gone) (hw : w.heap[b]? = some (.cells vs T (0, 0)))
    (p : Put1 w w' b (.cells vs' T (0, 0))) (hs : vs'.size = vs.size) (hv : VRc g w cs' vs') : Ev g w g w' ∧ Rel g w' (h.set o (.cells cs')) := by
  obtain ⟨h1, h2, h3⟩ := R.obl o b hb
  have h2 := h2 hnf.1 hnf.2
  have E : Evc g w g w' := p.evc h2 fun c T' fz e => by
    rw [hw] at e; injection e with e; injection e with e1 e2 e3; subst e1 e2 e3
    exact ⟨vs', rfl, hs⟩
  refine ⟨⟨E, fun k _ hk _ _ => ⟨p.other k fun e => hk o (e ▸ hb), rfl⟩⟩, Put1.rel R p h2 (R.pv_ob hb) E _ rfl rfl rfl rfl (fun o' y e => by simp only [AH.set]; split <;> exact ⟨_, by first | rfl | exact e⟩) (fun o' e => AH.set_gone hnf.2 e) fun o' y e => ?_⟩
  simp only [AH.set] at e
  split at e
  · rename_i h4
    subst h4
    injection e with e
    subst e
    exact .inl ⟨hb, vs', T, p.at_, hv.mono E⟩
  · rename_i h4
    by_cases e' : g.ob o' = some b
    · rcases R.obi _ _ _ e' hb with q | q | q
      · exact absurd q h4
      · rw [e] at q; injection q with q; subst q
        exact .inl ⟨e', vs', T, _, p.at_⟩
      · exact absurd q hnf.2
    · exact .inr ⟨e, e'⟩
theorem put_map {g : Gh} {w w' : World} {h : AH} {o b : Nat} {ms ms' : Array MapEntry} {k k' : Nat} {es' : List (AV × AV)} (R : Rel g w h) (hb : g.ob o = some b) (hnf : h.get o ≠ some .frz ∧ h.get o ≠ some .gone) (hw : w.heap[b]? = some (.map ms k))
    (p : Put1 w w' b (.map ms' k')) (hs : ms'.size = es'.length ∧ MapOK ms' k' es'.length) (hv : ∀ i (hi : i < es'.length), ∃ m, ms'[i]? = some m ∧ VR g w es'[i].1 m.key ∧ VR g w es'[i].2 m.val) : Ev g w g w' ∧ Rel g w' (h.set o (.map es')) := by
  obtain ⟨h1, h2, h3⟩ := R.obl o b hb
  have h2 := h2 hnf.1 hnf.2
  have E : Evc g w g w' := p.evc h2 fun c T' fz e => by rw [hw] at e; cases e
  refine ⟨⟨E, fun k _ hk _ _ => ⟨p.other k fun e => hk o (e ▸ hb), rfl⟩⟩, Put1.rel R p h2 (R.pv_ob hb) E _ rfl rfl rfl rfl (fun o' y e => by simp only [AH.set]; split <;> exact ⟨_, by first | rfl | exact e⟩) (fun o' e => AH.set_gone hnf.2 e) fun o' y e => ?_⟩
  simp only [AH.set] at e
  split at e
  · rename_i h4
    subst h4
    injection e with e
    subst e
    refine .inl ⟨hb, ms', k', p.at_, hs, fun i hi => ?_⟩
    obtain ⟨m, hm, v1, v2⟩ := hv i hi
    exact ⟨m, hm, v1.mono E, v2.mono E⟩
  · rename_i h4
    by_cases e' : g.ob o' = some b
    · rcases R.obi _ _ _ e' hb with q | q | q
      · exact absurd q h4
      · obtain ⟨b2, hb2, c, T, fz, hc⟩ := R.obj _ _ q
        rw [e'] at hb2; injection hb2 with hb2; subst hb2
        rw [hw] at hc; cases hc
      · exact absurd q hnf.2
    · exact .inr ⟨e, e'⟩
theorem put_free {g : Gh} {w w' : World} {h : AH} {b : Nat} {vs vs' : Array Value} {T : TypeId} (R : Rel g w h) (ho : ∀ o, g.ob o ≠ some b) (hx : g.ext b = 0) (hpv : g.pv b = none) (hw : w.heap[b]? = some (.cells vs T (0, 0)))
    (p : Put1 w w' b (.cells vs' T (0, 0))) (hs : vs'.size = vs.size) : Evc g w g w' ∧ Rel g w' h := by
  have E : Evc g w g w' := p.evc hx fun c T' fz e => by
    rw [hw] at e; injection e with e; injection e with e1 e2 e3; subst e1 e2 e3
    exact ⟨vs', rfl, hs⟩
  exact ⟨E, Put1.rel R p hx hpv E h rfl rfl rfl rfl (fun o' y e => ⟨y, e⟩) (fun _ e => e) fun o' y e => .inr ⟨e, ho o'⟩⟩
theorem Ev.free {g0 g : Gh} {w0 w w' : World} {b : Nat} {x : Obj} (E0 : Ev g0 w0 g w) (hb : w0.heap.size ≤ b) (p : Put1 w w' b x) (E : Evc g w g w') : Ev g0 w0 g w' :=
  ⟨E0.toEvc.trans E, fun k hk ho hl hp => by
    obtain ⟨h1, h2⟩ := E0.rest k hk ho hl hp
    exact ⟨(p.other k (by omega)).trans h1, h2⟩⟩
theorem freeze_ob {g : Gh} {w : World} {h : AH} {o b : Nat} {vs : Array Value} {T : TypeId} (R : Rel g w h) (hb : g.ob o = some b) (hw : w.heap[b]? = some (.cells vs T (0, 0))) (hx : g.ext b = 0) (hng : h.get o ≠ some .gone) :
    Ev g w (g.xt b vs.size) w ∧ Rel (g.xt b vs.size) w (h.set o .frz) := by
  obtain ⟨h1, h2, h3⟩ := R.obl o b hb
  have E : Ev g w (g.xt b vs.size) w := by
    refine ⟨⟨rfl, rfl, rfl, Nat.le_refl _, fun _ _ e => e, fun _ _ e => .inl ⟨_, e⟩, fun _ _ e => e, fun _ _ e => .inl e, fun _ _ _ e => e, fun a e => ⟨?_, rfl⟩, Nat.le_refl _, fun _ _ => Nat.le_refl _, fun l hl _ => ⟨rfl, ?_⟩, fun b c T fz e => ⟨c, e, rfl⟩, fun _ _ e => e, fun _ _ e => .inl e⟩, fun k _ hk _ _ => ⟨rfl, ?_⟩⟩
    · simp only [Gh.xt]
      split
      · rename_i h4; rw [h4, hx] at e; omega
      · exact e
    · have := R.tbl l hl
      simp only [Gh.xt]; rw [if_neg (fun e => by rw [e, h3] at this; cases this)]
    · simp only [Gh.xt]; rw [if_neg (fun (e : k = b) => hk o (e ▸ hb))]
  refine ⟨E, fun o' k e => ?_, fun o1 o2 k e1 e2 => (R.obi o1 o2 k e1 e2).imp id fun q => q.imp (AH.set_gone hng) (AH.set_gone hng), R.obd, fun o' y e => ?_, fun o' k e => ?_, R.nt, R.cur, R.bll, R.tbl, R.vac, fun k e => ?_, fun k c e => ?_, R.tab_mono E.toEvc rfl⟩
  · obtain ⟨k1, k2, k3⟩ := R.obl o' k e
    refine ⟨k1, fun hf hf' => ?_, k3⟩
    simp only [AH.set] at hf hf'
    split at hf
    · exact absurd rfl hf
    · rename_i h4
      rw [if_neg h4] at hf'
      simp only [Gh.xt]
      rw [if_neg (fun (e' : k = b) => by
        rcases R.obi _ _ _ e (e' ▸ hb) with q | q | q
        · exact h4 q
        · exact hf' q
        · exact hng q)]
      exact k2 hf hf'
  · simp only [AH.set] at e
    split at e
    · rename_i h4
      injection e with e
      subst h4 e
      exact ⟨b, hb, vs, T, hw⟩
    · obtain ⟨k, hk, ho⟩ := R.obj o' y e
      exact ⟨k, hk, ho.mono E.toEvc rfl fun _ _ => rfl⟩
  · obtain ⟨y, hy⟩ := R.obg o' k e
    simp only [AH.set]
    split <;> exact ⟨_, by first | rfl | exact hy⟩
  · simp only [Gh.xt] at e ⊢
    split at e
    · rename_i h4
      rw [if_pos h4]
      exact ⟨vs, T, _, h4 ▸ hw, Nat.le_refl _⟩
    · rename_i h4
      rw [if_neg h4]
      exact R.ext k e
  · obtain ⟨k1, k2, k3, k4⟩ := R.pvl k c e
    refine ⟨k1, ?_, k3, k4⟩
    simp only [Gh.xt]; rw [if_neg (fun (e' : k = b) => k4 o (e' ▸ hb))]
    exact k2
end Go.Am
end
section
namespace Go.Am
def aggT (P : Program) (t : TypeId) : Option Bool :=
  match P.underlying t with
  | some (.struct _) => some true
  | some (.array _ _) => some true
  | some _ => some false
  | none => none
def szT (P : Program) (t : TypeId) : Option Nat :=
  match P.info? t with
  | some i => some i.size
  | none => none
section
variable {P : Program} {w : World}
theorem run_isAgg {t : TypeId} {b : Bool} (h : aggT P t = some b) : (isAgg t).run P w = .ok b w := by
  unfold aggT at h
  cases hu : P.underlying t with
  | none => rw [hu] at h; cases h
  | some d =>
    rw [hu] at h
    have : (underlying t).run P w = .ok d w := by simp [underlying, hu]
    simp only [isAgg, Sem.run_bind, this, Result.andThen_ok]
    cases d <;> simp_all
theorem run_sizeOf {t : TypeId} {n : Nat} (h : szT P t = some n) : (sizeOf t).run P w = .ok n w := by
  unfold szT at h
  cases hu : P.info? t with
  | none => rw [hu] at h; cases h
  | some i =>
    rw [hu] at h
    injection h with h
    simp [sizeOf, typeInfo, hu, h]
theorem run_underlying {t : TypeId} {d : TypeDesc} (h : P.underlying t = some d) : (underlying t).run P w = .ok d w := by simp [underlying, h]
theorem run_typeInfo {t : TypeId} {i : TypeInfo} (h : P.info? t = some i) : (typeInfo t).run P w = .ok i w := by simp [typeInfo, h]
end
theorem add_add (a : Addr) (m n : Nat) : (a.add m).add n = a.add (m + n) := by
  unfold Addr.add
  by_cases hm : m = 0
  · subst hm; simp
  · by_cases hn : n = 0
    · subst hn; simp [hm]
    · simp [hm, hn, show m + n ≠ 0 by omega]; omega
theorem add_zero (a : Addr) : a.add 0 = a := by simp [Addr.add]
theorem add_block (a : Addr) (n : Nat) : (a.add n).block = a.block := by unfold Addr.add; split <;> rfl
theorem add_mk (b o n : Nat) : (⟨b, o, none⟩ : Addr).add n = ⟨b, o + n, none⟩ := by
  unfold Addr.add; split <;> simp_all
def cAtom : Value → Option AV
  | .bool b => some (.bool b)
  | .int k n => some (.int k n)
  | .float k b => some (.flt k b)
  | .string s => some (.str s.data.toList)
  | .pointer none => some .nilp
  | .slice none 0 0 => some .nilsl
  | .map none => some .nilm
  | .nilFunc => some .nilf
  | .nilIface => some .nili
  | _ => none
def cAtoms : List Value → Option (List AV)
  | [] => some []
  | v :: r => match cAtom v with
    | some x => match cAtoms r with
      | some l => some (x :: l)
      | none => none
    | none => none
def cAV (v : Value) : Option AV :=
  match v with
  | .agg cs => match cAtoms cs.toList with
    | some l => some (.agg l)
    | none => none
  | .tuple vs => if vs.size = 0 then some (.tup []) else none
  | v => cAtom v
section
variable {g : Gh} {w : World}
theorem cAtom_sound {v : Value} {x : AV} (h : cAtom v = some x) : VR g w x v ∧ v.oneCell' = true := by
  unfold cAtom at h
  split at h <;> (try cases h) <;> (constructor <;> first | constructor | rfl)
theorem cAtoms_sound {l : List Value} {xs : List AV} (h : cAtoms l = some xs) : l.length = xs.length ∧ ∀ i (hi : i < xs.length), VR g w xs[i] (l.getD i undef) ∧ (l.getD i undef).oneCell' = true := by
  induction l generalizing xs with
  | nil => simp only [cAtoms] at h; injection h with h; subst h; simp
  | cons v r ih =>
    simp only [cAtoms] at h
    cases h1 : cAtom v with
    | none => rw [h1] at h; cases h
    | some x =>
      rw [h1] at h
      cases h2 : cAtoms r with
      | none => rw [h2] at h; cases h
      | some l =>
        rw [h2] at h
        injection h with h
        subst h
        obtain ⟨k1, k2⟩ := ih h2
        refine ⟨by simp [k1], fun i hi => ?_⟩
        cases i with
        | zero => simpa using cAtom_sound h1
        | succ i => simpa using k2 i (by simpa using hi)
theorem cAtoms_VRc {a : Array Value} {xs : List AV} (h : cAtoms a.toList = some xs) : VRc g w xs a := by
  obtain ⟨h1, h2⟩ := cAtoms_sound (g := g) (w := w) h
  have e : ∀ i, a.toList.getD i undef = a.getD i undef := fun i => by simp [List.getD_eq_getElem?_getD, Array.getD_eq_getD_getElem?]
  exact ⟨⟨by simpa using h1, fun i hi => e i ▸ (h2 i hi).1⟩, fun i hi => e i ▸ (h2 i hi).2⟩
theorem cAV_sound {v : Value} {x : AV} (h : cAV v = some x) : VR g w x v := by
  unfold cAV at h
  split at h
  · split at h
    · rename_i l hl
      injection h with h
      subst h
      obtain ⟨⟨h1, h2⟩, h3⟩ := cAtoms_VRc (g := g) (w := w) hl
      exact .agg _ _ h1 h2 h3
    · cases h
  · split at h
    · rename_i h1
      injection h with h
      subst h
      exact .tup _ _ (by simpa using h1) (fun i hi => by simp at hi)
    · cases h
  · exact (cAtom_sound h).1
end
def AFr.ev (fr : AFr) (x : Operand) : Slot :=
  match x with
  | .tmp t => if t < fr.n then fr.f t else .junk
  | .const v => match cAV v with
    | some x => .v x
    | none => .junk
  | .global _ => .junk
  | .func f => .v (.clo f [])
section
variable {lt : LT} {g : Gh} {w : World} {base : Nat} {lb : Nat → Option Nat} {fr : AFr} {a : Act}
theorem FR.ev (F : FR lt g w base lb fr a) (x : Operand) : VS g w lb (fr.ev x) (a.eval x) := by
  cases x with
  | tmp t =>
    simp only [AFr.ev, Act.eval]
    split
    · rename_i h; exact F.slot t h
    · trivial
  | const v =>
    simp only [AFr.ev, Act.eval]
    split
    · rename_i x h; exact cAV_sound h
    · trivial
  | global g' => trivial
  | func f => exact .clo f [] #[] rfl (fun i hi => by simp at hi)
theorem FR.ev_v (F : FR lt g w base lb fr a) {x : Operand} {y : AV} (h : fr.ev x = .v y) : VR g w y (a.eval x) := by
  have := F.ev x; rw [h] at this; exact this
theorem FR.ev_lp (F : FR lt g w base lb fr a) {x : Operand} {d off : Nat} (h : fr.ev x = .lp d off) : ∃ b, lb d = some b ∧ a.eval x = .pointer (some ⟨b, off, none⟩) := by
  have := F.ev x; rw [h] at this; exact this
end
def AV.cells (x : AV) : Option (List AV) :=
  match x with
  | .agg cs => some cs
  | .tup _ => none
  | x => some [x]
section
variable {g : Gh} {w : World}
theorem VR.cells {x : AV} {v : Value} {cs : List AV} (r : VR g w x v) (h : x.cells = some cs) : VRc g w cs v.cells := by
  cases r <;> simp only [AV.cells] at h <;> (try cases h) <;> first
    | (refine ⟨⟨rfl, fun i hi => ?_⟩, fun i hi => ?_⟩
       · have : i = 0 := by simpa using hi
         subst this
         first | constructor | skip
         all_goals assumption
       · have : i = 0 := by simpa using hi
         subst this
         rfl)
    | (rename_i x0 h1 ho
       have hc : v.cells = #[v] := by cases v <;> first | rfl | cases ho
       rw [hc]
       refine ⟨⟨rfl, fun i hi => ?_⟩, fun i hi => ?_⟩
       · have : i = 0 := by simpa using hi
         subst this
         exact .one _ _ h1 ho
       · have : i = 0 := by simpa using hi
         subst this
         exact ho)
    | (rename_i hn hv ho; exact ⟨⟨hn, hv⟩, ho⟩)
end
end Go.Am
end
section
set_option linter.unusedVariables false
set_option linter.unusedSimpArgs false
namespace Go.Am
def takeN : Nat → List AV → Option (List AV)
  | 0, _ => some []
  | _ + 1, [] => none
  | n + 1, x :: l => match takeN n l with
    | some r => some (x :: r)
    | none => none
theorem takeN_eq {n : Nat} {l r : List AV} (h : takeN n l = some r) : n ≤ l.length ∧ r = l.take n := by
  induction n generalizing l r with
  | zero => simp only [takeN] at h; injection h with h; subst h; simp
  | succ n ih =>
    cases l with
    | nil => simp [takeN] at h
    | cons x l =>
      simp only [takeN] at h
      split at h
      case h_2 => cases h
      rename_i r' hr
      injection h with h
      subst h
      obtain ⟨h1, h2⟩ := ih hr
      exact ⟨by simp; omega, by rw [h2]; rfl⟩
def AV.ld (agg : Bool) (sz : Nat) (cells : List AV) (off : Nat) : Option AV :=
  match agg with
  | true => match takeN sz (cells.drop off) with
    | some l => some (.agg l)
    | none => none
  | false => cells[off]?
section
variable {P : Program} {g : Gh} {w : World}
theorem run_loadCellsFrom (a : Addr) (vs : Nat → Value) : ∀ (n i : Nat) (acc : Array Value), (∀ j, i ≤ j → j < i + n → w.cell? (a.add j) = some (vs j)) →
    ∃ arr : Array Value, (loadCellsFrom a i n acc).run P w = .ok arr w ∧ arr.size = acc.size + n ∧ (∀ j, j < acc.size → arr.getD j undef = acc.getD j undef) ∧ ∀ j, j < n → arr.getD (acc.size + j) undef = vs (i + j)
  | 0, i, acc, _ => ⟨acc, rfl, rfl, fun _ _ => rfl, fun j hj => by omega⟩
  | n + 1, i, acc, h => by
    obtain ⟨arr, h1, h2, h3, h4⟩ := run_loadCellsFrom a vs n (i + 1) (acc.push (vs i)) (fun j hj hj' => h j (by omega) (by omega))
    refine ⟨arr, ?_, by simp at h2; omega, fun j hj => ?_, fun j hj => ?_⟩
    · simp only [loadCellsFrom, Sem.run_bind, run_load, h i (Nat.le_refl _) (by omega), Result.andThen_ok]
      exact h1
    · rw [h3 j (by simp; omega)]
      simp [Array.getD_eq_getD_getElem?, Array.getElem?_push, show j ≠ acc.size by omega]
    · cases j with
      | zero =>
        rw [show acc.size + 0 = acc.size from rfl, h3 acc.size (by simp)]
        simp [Array.getD_eq_getD_getElem?]
      | succ j =>
        have := h4 j (by omega)
        rw [show acc.size + (j + 1) = (acc.push (vs i)).size + j by simp; omega, this]
        congr 1; omega
theorem run_loadCells (a : Addr) (n : Nat) (vs : Nat → Value) (h : ∀ j, j < n → w.cell? (a.add j) = some (vs j)) :
    ∃ arr : Array Value, (loadCells a n).run P w = .ok arr w ∧ arr.size = n ∧ ∀ j, j < n → arr.getD j undef = vs j := by
  obtain ⟨arr, h1, h2, _, h4⟩ := run_loadCellsFrom (P := P) (w := w) a vs n 0 #[] (fun j _ hj => h j (by omega))
  exact ⟨arr, h1, by simpa using h2, fun j hj => by simpa using h4 j hj⟩
theorem run_ld {t : TypeId} {b : Bool} {n off : Nat} {cells : List AV} {x : AV} (ha : aggT P t = some b) (hz : szT P t = some n) (hx : AV.ld b n cells off = some x) (ad : Addr) (vs : Nat → Value)
    (hc : ∀ i, i < cells.length → w.cell? (ad.add i) = some (vs i)) (hv : ∀ i (hi : i < cells.length), VR g w cells[i] (vs i)) (ho : ∀ i, i < cells.length → (vs i).oneCell' = true) :
    ∃ v, (loadVar t (ad.add off)).run P w = .ok v w ∧ VR g w x v := by
  cases b with
  | true =>
    simp only [AV.ld] at hx
    split at hx
    · rename_i l htk
      obtain ⟨hle, hl⟩ := takeN_eq htk
      subst hl
      simp only [List.length_drop] at hle
      injection hx with hx
      obtain ⟨arr, h1, h2, h3⟩ := run_loadCells (P := P) (w := w) (ad.add off) n (fun j => vs (off + j)) (fun j hj => by rw [add_add]; exact hc _ (by omega))
      refine ⟨.agg arr, by simp only [loadVar, Sem.run_bind, run_isAgg ha, run_sizeOf hz, Result.andThen_ok, if_true, h1, Sem.run_pure], ?_⟩
      subst hx
      have hl : ((cells.drop off).take n).length = n := by simp; omega
      refine .agg _ _ (by rw [h2, hl]) (fun i hi => ?_) (fun i hi => ?_)
      · rw [h3 i (by omega)]
        have := hv (off + i) (by omega)
        simpa using this
      · rw [h3 i (by omega)]
        exact ho _ (by omega)
    · cases hx
  | false =>
    simp only [AV.ld] at hx
    obtain ⟨hi, hx⟩ := List.getElem?_eq_some_iff.1 hx
    refine ⟨vs off, by simp [loadVar, run_isAgg ha, hc off hi], hx ▸ hv off hi⟩
end
def aLoad (P : Program) (fr : AFr) (h : AH) (t : TypeId) (x : Operand) : Option Slot :=
  match aggT P t, szT P t with
  | some b, some n =>
    match fr.ev x with
    | .v (.ptr o off) =>
      match h.get o with
      | some (.cells cs) => match AV.ld b n cs off with
        | some y => some (.v y)
        | none => none
      | _ => none
    | .v (.ref _ cs) => match AV.ld b n cs 0 with
      | some y => some (.v y)
      | none => none
    | .lp d off => match AV.ld b n (fr.loc d) off with
      | some y => some (.v y)
      | none => none
    | _ => none
  | _, _ => none
section
variable {P : Program} {lt : LT} {g : Gh} {w : World} {h : AH} {base : Nat} {lb : Nat → Option Nat} {fr : AFr} {a : Act}
theorem VRc.at_ {cs : List AV} {vs : Array Value} {b : Nat} {T : TypeId} {fz : Nat × Nat} (r : VRc g w cs vs) (hw : w.heap[b]? = some (.cells vs T fz)) :
    (∀ i, i < cs.length → w.cell? ((⟨b, 0, none⟩ : Addr).add i) = some (vs.getD i undef)) ∧ (∀ i (hi : i < cs.length), VR g w cs[i] (vs.getD i undef)) ∧ ∀ i, i < cs.length → (vs.getD i undef).oneCell' = true := by
  refine ⟨fun i hi => ?_, r.1.2, r.2⟩
  have := r.1.1
  rw [add_mk]
  simp only [World.cell?, hw, Option.isSome_none, Bool.false_eq_true, if_false, Nat.zero_add]
  simp [Array.getD_eq_getD_getElem?, Array.getElem?_eq_getElem (show i < vs.size by omega)]
theorem aLoad_sound {t : TypeId} {x : Operand} {s : Slot} (R : Rel g w h) (F : FR lt g w base lb fr a) (hx : aLoad P fr h t x = some s) :
    ∃ v, (Instr.loadAt t (a.eval x)).run P w = .ok v w ∧ VS g w lb s v := by
  unfold aLoad at hx
  split at hx
  case h_2 => cases hx
  rename_i b n ha hz
  split at hx
  · rename_i o off e
    have hv := F.ev_v e
    cases hq : a.eval x with
    | pointer p =>
      rw [hq] at hv
      cases hv with
      | ptr _ _ bk hb =>
        split at hx
        · rename_i cs hg
          split at hx
          · rename_i y hy
            injection hx with hx
            subst hx
            obtain ⟨b', hb', vs, T, hw, hc⟩ := R.obj o _ hg
            rw [hb] at hb'; injection hb' with hb'; subst hb'
            obtain ⟨c1, c2, c3⟩ := hc.at_ hw
            obtain ⟨v, h1, h2⟩ := run_ld (P := P) ha hz hy ⟨bk, 0, none⟩ (fun i => vs.getD i undef) c1 c2 c3
            rw [add_mk] at h1
            exact ⟨v, by simpa [Instr.loadAt, Instr.sureAddr] using h1, h2⟩
          · cases hx
        · cases hx
    | _ => rw [hq] at hv; cases hv
  · rename_i id cs e
    have hv := F.ev_v e
    cases hq : a.eval x with
    | pointer p =>
      rw [hq] at hv
      cases hv with
      | ref _ _ ad vs c1 c2 c3 c4 c5 =>
        split at hx
        · rename_i y hy
          injection hx with hx
          subst hx
          obtain ⟨v, h1, h2⟩ := run_ld (P := P) ha hz hy ad vs c1 c2 c3
          rw [add_zero] at h1
          exact ⟨v, by simpa [Instr.loadAt, Instr.sureAddr] using h1, h2⟩
        · cases hx
    | _ => rw [hq] at hv; cases hv
  · rename_i d off e
    obtain ⟨bk, hb, hq⟩ := F.ev_lp e
    split at hx
    · rename_i y hy
      injection hx with hx
      subst hx
      obtain ⟨_, _, _, _, _, _, vs, T, hw, hc⟩ := F.lbo d bk hb
      obtain ⟨c1, c2, c3⟩ := hc.at_ hw
      obtain ⟨v, h1, h2⟩ := run_ld (P := P) ha hz hy ⟨bk, 0, none⟩ (fun i => vs.getD i undef) c1 c2 c3
      rw [add_mk] at h1
      exact ⟨v, by rw [hq]; simpa [Instr.loadAt, Instr.sureAddr] using h1, h2⟩
    · cases hx
  · cases hx
def aNil (fr : AFr) (x : Operand) : Option Slot :=
  match fr.ev x with
  | .v (.ptr o off) => some (.v (.ptr o off))
  | .v (.ref id cs) => some (.v (.ref id cs))
  | .v (.clo f cs) => some (.v (.clo f cs))
  | .v (.iface t y) => some (.v (.iface t y))
  | .lp d off => some (.lp d off)
  | _ => none
def fieldT (P : Program) (s : TypeId) (f : Nat) : Option Field :=
  match P.underlying s with
  | some (.struct fs) => fs[f]?
  | _ => none
def aFieldAddr (P : Program) (fr : AFr) (s : TypeId) (x : Operand) (f : Nat) : Option Slot :=
  match fieldT P s f with
  | some fd =>
    match szT P fd.type with
    | some (_ + 1) =>
      match fr.ev x with
      | .v (.ptr o off) => some (.v (.ptr o (off + fd.offset)))
      | .v (.ref _ cs) => some (.v (.ref none (cs.drop fd.offset)))
      | .lp d off => some (.lp d (off + fd.offset))
      | _ => none
    | _ => none
  | none => none
theorem run_fieldAt {s f n : Nat} {fd : Field} (hf : fieldT P s f = some fd) (hz : szT P fd.type = some (n + 1)) (ad : Addr) :
    (Instr.fieldAt s (.pointer (some ad)) f).run P w = .ok (.pointer (some (ad.add fd.offset))) w := by
  unfold fieldT at hf
  split at hf
  · rename_i fs hu
    simp only [Instr.fieldAt, Sem.run_bind, run_underlying hu, Result.andThen_ok, hf, Instr.sureAddr, Sem.run_pure, fieldPlace, run_sizeOf hz]
    simp
  · cases hf
theorem aFieldAddr_sound {s f : Nat} {x : Operand} {r : Slot} (R : Rel g w h) (F : FR lt g w base lb fr a) (hx : aFieldAddr P fr s x f = some r) :
    ∃ v, (Instr.fieldAt s (a.eval x) f).run P w = .ok v w ∧ VS g w lb r v := by
  unfold aFieldAddr at hx
  split at hx
  case h_2 => cases hx
  rename_i fd hf
  split at hx
  case h_2 => cases hx
  rename_i n hz
  split at hx
  · rename_i o off e
    injection hx with hx
    subst hx
    have hv := F.ev_v e
    cases hq : a.eval x with
    | pointer p =>
      rw [hq] at hv
      cases hv with
      | ptr _ _ bk hb => exact ⟨_, run_fieldAt hf hz _, by rw [add_mk]; exact .ptr _ _ _ hb⟩
    | _ => rw [hq] at hv; cases hv
  · rename_i id cs e
    injection hx with hx
    subst hx
    have hv := F.ev_v e
    cases hq : a.eval x with
    | pointer p =>
      rw [hq] at hv
      cases hv with
      | ref _ _ ad vs c1 c2 c3 c4 c5 cz =>
        refine ⟨_, run_fieldAt hf hz _, ?_⟩
        refine .ref none _ _ (fun i => vs (fd.offset + i)) (fun i hi => ?_) (fun i hi => ?_) (fun i hi => c3 _ ?_) (fun i hi => ?_) trivial (by rw [add_block]; exact cz)
        · rw [add_add]; exact c1 _ (by simp at hi; omega)
        · simpa using c2 (fd.offset + i) (by simp at hi; omega)
        · simp at hi; omega
        · rw [add_add]; exact c4 _ (by simp at hi; omega)
    | _ => rw [hq] at hv; cases hv
  · rename_i d off e
    injection hx with hx
    subst hx
    obtain ⟨bk, hb, hq⟩ := F.ev_lp e
    exact ⟨_, hq ▸ run_fieldAt hf hz _, bk, hb, by rw [add_mk]⟩
  · cases hx
def ridOf (tk : Tk) (i : Nat) : Option (Nat × Nat) :=
  match tk, i with
  | .own l v, 0 => some (l, v)
  | _, _ => none
def sliceT (P : Program) (t : TypeId) : Option TypeId :=
  match P.underlying t with
  | some (.slice e) => some e
  | _ => none
def aIndexAddr (P : Program) (fr : AFr) (t : TypeId) (x i : Operand) : Option Slot :=
  match sliceT P t with
  | some e =>
    match fr.ev x, fr.ev i with
    | .v (.vec tk sz elems), .v (.int _ n) =>
      if szT P e = some sz ∧ 0 ≤ n then
        match elems[n.toNat]? with
        | some cs => some (.v (.ref (ridOf tk n.toNat) cs))
        | none => none
      else none
    | .v (.sl o off len _ _), .v (.int _ n) => if szT P e = some 1 ∧ 0 ≤ n ∧ n < (len : Int) then some (.v (.ptr o (off + n.toNat))) else none
    | _, _ => none
  | none => none
theorem aIndexAddr_sound {t : TypeId} {x i : Operand} {r : Slot} (R : Rel g w h) (F : FR lt g w base lb fr a) (hx : aIndexAddr P fr t x i = some r) :
    ∃ v, (Instr.indexAt t (a.eval x) (a.eval i)).run P w = .ok v w ∧ VS g w lb r v := by
  unfold aIndexAddr at hx
  split at hx
  case h_2 => cases hx
  rename_i e he
  split at hx
  case h_3 => cases hx
  case h_2 o off len cap exf k n ex ei =>
    split at hx
    case isFalse => cases hx
    rename_i hc
    obtain ⟨hz, h0, hlt⟩ := hc
    injection hx with hx
    subst hx
    have hvx := F.ev_v ex
    have hvi := F.ev_v ei
    unfold sliceT at he
    split at he
    case h_2 => cases he
    rename_i e' hu
    injection he with he
    subst he
    generalize a.eval x = p at hvx
    generalize a.eval i = q at hvi
    cases hvi
    cases hvx with
    | sl _ _ _ _ _ b rc hb hs hn hrc hex hcap =>
      refine ⟨.pointer (some ⟨b, off + n.toNat, none⟩), ?_, .ptr _ _ _ hb⟩
      simp only [Instr.indexAt, asIntOf, Sem.run_bind, Sem.run_pure, Result.andThen_ok, run_underlying hu]
      simp only [h0, hlt, and_self, if_true, Sem.run_bind, run_sizeOf hz, Result.andThen_ok, Sem.run_pure, Nat.mul_one, add_mk]
  rename_i tk sz elems k n ex ei
  split at hx
  case isFalse => cases hx
  rename_i hc
  obtain ⟨hz, h0⟩ := hc
  split at hx
  case h_2 => cases hx
  rename_i cs hcs
  injection hx with hx
  subst hx
  have hvx := F.ev_v ex
  have hvi := F.ev_v ei
  obtain ⟨hlt, hcs⟩ := List.getElem?_eq_some_iff.1 hcs
  unfold sliceT at he
  split at he
  case h_2 => cases he
  rename_i e' hu
  injection he with he
  subst he
  cases hi : a.eval i with
  | int k' n' =>
    rw [hi] at hvi
    cases hvi with
    | int =>
      cases hq : a.eval x with
      | slice p len cap =>
        rw [hq] at hvx
        cases hvx with
        | vec _ _ _ ad _ vs c0 c1 c2 c3 c4 c5 c6 c7 cz =>
          have hlt' : n < (elems.length : Int) := by omega
          refine ⟨.pointer (some (ad.add (n.toNat * sz))), ?_, ?_⟩
          · simp only [Instr.indexAt, asIntOf, Sem.run_bind, Sem.run_pure, Result.andThen_ok, run_underlying hu]
            simp only [h0, hlt', and_self, if_true, Sem.run_bind, run_sizeOf hz, Result.andThen_ok, Sem.run_pure]
          · have hl : cs.length = sz := hcs ▸ c0 _ hlt
            refine .ref _ _ _ (fun j => vs n.toNat j) (fun j hj => ?_) (fun j hj => ?_) (fun j hj => c3 _ _ hlt (by omega)) (fun j hj => ?_) ?_ (by rw [add_block]; exact cz (by rintro rfl; simp at hlt))
            · rw [add_add]; exact c1 _ _ hlt (by omega)
            · have := c2 n.toNat j hlt (by rw [hcs]; exact hj)
              simpa [hcs] using this
            · rw [add_add]; exact c4 _ _ hlt (by omega)
            · unfold ridOf
              split
              · rename_i l v h1
                obtain ⟨_, _, _, h5, h6⟩ := c7
                rw [h1, Nat.zero_mul, add_zero]
                exact ⟨h5, h6⟩
              · trivial
      | _ => rw [hq] at hvx; cases hvx
  | _ => rw [hi] at hvi; cases hvi
def aIndex (P : Program) (fr : AFr) (t : TypeId) (x i : Operand) : Option Slot :=
  match P.underlying t with
  | some .string =>
    match fr.ev x, fr.ev i with
    | .v (.str s), .v (.int _ n) => if 0 ≤ n then match s[n.toNat]? with
        | some c => some (.v (.int .u8 c.toNat))
        | none => none
      else none
    | _, _ => none
  | _ => none
theorem aIndex_sound {t : TypeId} {x i : Operand} {r : Slot} (F : FR lt g w base lb fr a) (hx : aIndex P fr t x i = some r) :
    ∃ v, (Instr.index t (a.eval x) (a.eval i)).run P w = .ok v w ∧ VS g w lb r v := by
  unfold aIndex at hx
  split at hx
  case h_2 => cases hx
  rename_i hu
  split at hx
  case h_2 => cases hx
  rename_i s k n ex ei
  split at hx
  case isFalse => cases hx
  rename_i h0
  split at hx
  case h_2 => cases hx
  rename_i c hc
  injection hx with hx
  subst hx
  have hvx := F.ev_v ex
  have hvi := F.ev_v ei
  cases hi : a.eval i with
  | int k' n' =>
    rw [hi] at hvi
    cases hvi with
    | int =>
      cases hq : a.eval x with
      | string s' =>
        rw [hq] at hvx
        cases hvx with
        | str =>
          have hc' : s'[n.toNat]? = some c := by
            obtain ⟨h1, h2⟩ := List.getElem?_eq_some_iff.1 hc
            have h3 : n.toNat < s'.size := by simpa using h1
            rw [ByteArray.getElem?_lt' _ _ h3]
            rw [← h2]; rfl
          refine ⟨.int .u8 c.toNat, ?_, .int _ _⟩
          simp only [Instr.index, asIntOf, Sem.run_bind, Sem.run_pure, Result.andThen_ok, run_underlying hu, h0, if_true, hc']
      | _ => rw [hq] at hvx; cases hvx
  | _ => rw [hi] at hvi; cases hvi
def aField (P : Program) (fr : AFr) (s : TypeId) (x : Operand) (f : Nat) : Option Slot :=
  match fieldT P s f with
  | some fd =>
    match aggT P fd.type, szT P fd.type, fr.ev x with
    | some b, some n, .v (.agg cs) => match AV.ld b n cs fd.offset with
      | some y => some (.v y)
      | none => none
    | _, _, _ => none
  | none => none
theorem run_part {t : TypeId} {b : Bool} {n off : Nat} {cs : List AV} {y : AV} {vs : Array Value} (ha : aggT P t = some b) (hz : szT P t = some n) (hy : AV.ld b n cs off = some y) (r : VRc g w cs vs) :
    ∃ v, (part t vs off).run P w = .ok v w ∧ VR g w y v := by
  obtain ⟨⟨r1, r2⟩, r3⟩ := r
  cases b with
  | true =>
    simp only [AV.ld] at hy
    split at hy
    · rename_i l htk
      obtain ⟨hle, hl⟩ := takeN_eq htk
      subst hl
      simp only [List.length_drop] at hle
      injection hy with hy
      subst hy
      refine ⟨.agg (vs.extract off (off + n)), by simp [part, run_isAgg ha, run_sizeOf hz], ?_⟩
      have hl : ((cs.drop off).take n).length = n := by simp; omega
      have hg : ∀ i, i < n → (vs.extract off (off + n)).getD i undef = vs.getD (off + i) undef := fun i hi => by
        simp [Array.getD_eq_getD_getElem?, Array.getElem?_extract, show off + i < vs.size by omega]
        rw [if_pos (by omega)]; rfl
      refine .agg _ _ (by simp [hl]; omega) (fun i hi => ?_) (fun i hi => ?_)
      · rw [hg i (by omega)]
        simpa using r2 (off + i) (by omega)
      · rw [hg i (by omega)]
        exact r3 _ (by omega)
    · cases hy
  | false =>
    simp only [AV.ld] at hy
    obtain ⟨hi, hy⟩ := List.getElem?_eq_some_iff.1 hy
    have : vs[off]? = some (vs.getD off undef) := by simp [Array.getD_eq_getD_getElem?, Array.getElem?_eq_getElem (show off < vs.size by omega)]
    exact ⟨vs.getD off undef, by simp only [part, Sem.run_bind, run_isAgg ha, Result.andThen_ok, Bool.false_eq_true, if_false]; rw [this]; rfl, hy ▸ r2 off hi⟩
theorem aField_sound {s f : Nat} {x : Operand} {r : Slot} (F : FR lt g w base lb fr a) (hx : aField P fr s x f = some r) :
    ∃ v, (Instr.field s (a.eval x) f).run P w = .ok v w ∧ VS g w lb r v := by
  unfold aField at hx
  split at hx
  case h_2 => cases hx
  rename_i fd hf
  split at hx
  case h_2 => cases hx
  rename_i b n cs ha hz e
  split at hx
  case h_2 => cases hx
  rename_i y hy
  injection hx with hx
  subst hx
  have hv := F.ev_v e
  cases hq : a.eval x with
  | agg vs =>
    rw [hq] at hv
    cases hv with
    | agg _ _ h1 h2 h3 =>
      obtain ⟨v, h4, h5⟩ := run_part (P := P) ha hz hy ⟨⟨h1, h2⟩, h3⟩
      unfold fieldT at hf
      split at hf
      case h_2 => cases hf
      rename_i fs hu
      exact ⟨v, by simp only [Instr.field, Sem.run_bind, run_underlying hu, Result.andThen_ok, hf, asAgg, Sem.run_pure, h4], h5⟩
  | _ => rw [hq] at hv; cases hv
def aExtract (fr : AFr) (x : Operand) (i : Nat) : Option Slot :=
  match fr.ev x with
  | .v (.tup vs) => match vs[i]? with
    | some y => some (.v y)
    | none => none
  | _ => none
theorem aExtract_sound {i : Nat} {x : Operand} {r : Slot} (F : FR lt g w base lb fr a) (hx : aExtract fr x i = some r) :
    ∃ v, (Instr.extract (a.eval x) i).run P w = .ok v w ∧ VS g w lb r v := by
  unfold aExtract at hx
  split at hx
  case h_2 => cases hx
  rename_i vs e
  split at hx
  case h_2 => cases hx
  rename_i y hy
  injection hx with hx
  subst hx
  have hv := F.ev_v e
  obtain ⟨hi, hy⟩ := List.getElem?_eq_some_iff.1 hy
  cases hq : a.eval x with
  | tuple us =>
    rw [hq] at hv
    cases hv with
    | tup _ _ h1 h2 =>
      have : us[i]? = some (us.getD i undef) := by simp [Array.getD_eq_getD_getElem?, Array.getElem?_eq_getElem (show i < us.size by omega)]
      exact ⟨us.getD i undef, by simp only [Instr.extract]; rw [this]; rfl, hy ▸ h2 i hi⟩
  | _ => rw [hq] at hv; cases hv
end
end Go.Am
end
section
set_option linter.unusedVariables false
set_option linter.unusedSimpArgs false
namespace Go.Am
def isC (x : Operand) : Bool :=
  match x with
  | .const _ => true
  | _ => false
def aBinInt (op : BinOp) (k : IntKind) (a b : Int) : Option AV :=
  match op with
  | .add => some (.int k (k.wrap (a + b)))
  | .sub => some (.int k (k.wrap (a - b)))
  | .mul => some (.int k (k.wrap (a * b)))
  | .eql => some (.bool (decide (a = b)))
  | .neq => some (.bool (!decide (a = b)))
  | .lss => some (.bool (decide (a < b)))
  | .leq => some (.bool (decide (a ≤ b)))
  | .gtr => some (.bool (decide (a > b)))
  | .geq => some (.bool (decide (a ≥ b)))
  | .quo => if b = 0 then none else some (.int k (k.wrap (a.tdiv b)))
  | .and => some (.int k (k.wrap ((BitVec.ofInt k.bits a &&& BitVec.ofInt k.bits b).toNat : Int)))
  | .or => some (.int k (k.wrap ((BitVec.ofInt k.bits a ||| BitVec.ofInt k.bits b).toNat : Int)))
  | _ => none
def aShift (op : BinOp) (k : IntKind) (a b : Int) : Option AV :=
  match op with
  | .shl => if b < 0 then none else some (.int k (k.wrap (a * 2 ^ (min b.toNat k.bits))))
  | .shr => if b < 0 then none else some (.int k (a.fdiv (2 ^ (min b.toNat k.bits))))
  | _ => none
def aBinStr (op : BinOp) (a b : List UInt8) : Option AV :=
  match op with
  | .add => if a.length + b.length < 9223372036854775808 then some (.str (a ++ b)) else none
  | .eql => some (.bool (decide (a = b)))
  | .neq => some (.bool (!decide (a = b)))
  | .lss => some (.bool (Op.bytesLess a b))
  | .leq => some (.bool (Op.bytesLess a b || decide (a = b)))
  | .gtr => some (.bool (!(Op.bytesLess a b || decide (a = b))))
  | .geq => some (.bool (!Op.bytesLess a b))
  | _ => none
def ptrT (P : Program) (t : TypeId) : Bool :=
  match P.underlying t with
  | some (.pointer e) => match szT P e with
    | some (_ + 1) => true
    | _ => false
  | _ => false
def aEq (P : Program) (t : TypeId) (xc yc : Bool) (x y : AV) : Option Bool :=
  match x, y with
  | .bool a, .bool b => match P.underlying t with
    | some .bool => some (decide (a = b))
    | _ => none
  | .nilp, .nilp => if ptrT P t then some true else none
  | .nilp, .ptr _ _ => if ptrT P t then some false else none
  | .ptr _ _, .nilp => if ptrT P t then some false else none
  | .nilp, .ref _ _ => if ptrT P t then some false else none
  | .ref _ _, .nilp => if ptrT P t then some false else none
  | .nilsl, .nilsl => match P.underlying t with
    | some (.slice _) => some true
    | _ => none
  | .vec _ _ _, .nilsl => match P.underlying t with
    | some (.slice _) => some false
    | _ => none
  | .nilm, .nilm => match P.underlying t with
    | some (.map _ _) => some true
    | _ => none
  | .map _, .nilm => match P.underlying t with
    | some (.map _ _) => some false
    | _ => none
  | .nilf, .nilf => match P.underlying t with
    | some (.func _ _ _) => some true
    | _ => none
  | .clo _ _, .nilf => match P.underlying t with
    | some (.func _ _ _) => some false
    | _ => none
  | .nili, .nili => match P.underlying t with
    | some (.interface _) => if xc || yc then some true else none
    | _ => none
  | .iface _ _, .nili => match P.underlying t with
    | some (.interface _) => some false
    | _ => none
  | .nili, .iface _ _ => match P.underlying t with
    | some (.interface _) => some false
    | _ => none
  | .sl _ _ _ _ _, .nilsl => match P.underlying t with
    | some (.slice _) => some false
    | _ => none
  | _, _ => none
def aBin (P : Program) (fr : AFr) (op : BinOp) (t : TypeId) (xo yo : Operand) : Option Slot :=
  match fr.ev xo, fr.ev yo with
  | .v (.int k a), .v (.int k' b) => match aShift op k a b with
    | some r => some (.v r)
    | none => if k = k' then match aBinInt op k a b with
        | some r => some (.v r)
        | none => none
      else none
  | .v (.str a), .v (.str b) => match aBinStr op a b with
      | some r => some (.v r)
      | none => none
  | .v x, .v y => match op with
    | .eql => match aEq P t (isC xo) (isC yo) x y with
      | some b => some (.v (.bool b))
      | none => none
    | .neq => match aEq P t (isC xo) (isC yo) x y with
      | some b => some (.v (.bool (!b)))
      | none => none
    | _ => none
  | _, _ => none
section
variable {P : Program} {lt : LT} {g : Gh} {w : World} {h : AH} {base : Nat} {lb : Nat → Option Nat} {fr : AFr} {a : Act}
theorem aBinInt_sound {op : BinOp} {k : IntKind} {x y : Int} {r : AV} (hr : aBinInt op k x y = some r) (t : TypeId) :
    ∃ v, (binOp op t (.int k x) (.int k y)).run P w = .ok v w ∧ VR g w r v := by
  unfold aBinInt at hr
  split at hr
  case h_10 =>
    split at hr
    · cases hr
    · rename_i hy
      injection hr with hr; subst hr
      exact ⟨_, by simp only [binOp, ne_eq, not_true_eq_false, if_false, Op.intDiv, if_neg hy, Sem.run_pure], .int _ _⟩
  case h_11 => injection hr with hr; subst hr; exact ⟨_, by simp only [binOp, ne_eq, not_true_eq_false, if_false, Op.intBits, Sem.run_pure], .int _ _⟩
  case h_12 => injection hr with hr; subst hr; exact ⟨_, by simp only [binOp, ne_eq, not_true_eq_false, if_false, Op.intBits, Sem.run_pure], .int _ _⟩
  all_goals
    (try cases hr) <;> simp only [binOp, ne_eq, not_true_eq_false, if_false, Op.intArith, Op.intCmp, Sem.run_pure]
  all_goals first
    | exact ⟨_, rfl, .int _ _⟩
    | exact ⟨_, rfl, .bool _⟩
theorem aShift_sound {op : BinOp} {k k' : IntKind} {x y : Int} {r : AV} (hr : aShift op k x y = some r) (t : TypeId) :
    ∃ v, (binOp op t (.int k x) (.int k' y)).run P w = .ok v w ∧ VR g w r v := by
  unfold aShift at hr
  split at hr
  · split at hr
    · cases hr
    · rename_i hy
      injection hr with hr; subst hr
      exact ⟨_, by simp only [binOp, Op.shift, if_neg hy, Sem.run_pure], .int _ _⟩
  · split at hr
    · cases hr
    · rename_i hy
      injection hr with hr; subst hr
      exact ⟨_, by simp only [binOp, Op.shift, if_neg hy, Sem.run_pure], .int _ _⟩
  · cases hr
theorem toList_beq (a b : ByteArray) : (a.toList == b.toList) = decide (a.data.toList = b.data.toList) := by
  rw [ByteArray.toList_eq, ByteArray.toList_eq, Bool.eq_iff_iff, beq_iff_eq, decide_eq_true_eq]
theorem aBinStr_sound {op : BinOp} {x y : ByteArray} {r : AV} (hr : aBinStr op x.data.toList y.data.toList = some r) (t : TypeId) :
    ∃ v, (binOp op t (.string x) (.string y)).run P w = .ok v w ∧ VR g w r v := by
  unfold aBinStr at hr
  split at hr <;> (try cases hr)
  · split at hr
    · rename_i hlt
      injection hr with hr
      subst hr
      have h1 : ¬ ((x.size + y.size : Nat) : Int) > IntKind.i64.max := by
        have e1 : x.data.toList.length = x.size := by simp
        have e2 : y.data.toList.length = y.size := by simp
        simp [IntKind.max, IntKind.signed, IntKind.bits]
        omega
      refine ⟨.string (x ++ y), by simp only [binOp, Op.stringOp, Sem.run_ite, Sem.run_pure]; rw [if_neg h1], ?_⟩
      have : x.data.toList ++ y.data.toList = (x ++ y).data.toList := by simp [ByteArray.data_append]
      rw [this]; exact .str _
    · cases hr
  all_goals (simp only [binOp, Op.stringOp, Sem.run_pure]; (try simp only [toList_beq]); (try simp only [ByteArray.toList_eq]); exact ⟨_, rfl, .bool _⟩)
theorem equal_unfold (t : TypeId) (x y : Value) : ∃ d, Op.equal t x y = Op.equalIn (d + 1) t x y := ⟨9999, rfl⟩
theorem ptrT_sound {t : TypeId} (h : ptrT P t = true) : ∃ e n, P.underlying t = some (.pointer e) ∧ szT P e = some (n + 1) := by
  unfold ptrT at h
  split at h
  · rename_i e he
    split at h
    · rename_i n hn; exact ⟨e, n, he, hn⟩
    · cases h
  · cases h
theorem eqGuard_ok {op : BinOp} {t : TypeId} {xo yo : Operand} {v u : Value} (h : ∀ a b, v = .agg a → u = .agg b → False) (h2 : v = .nilIface → u = .nilIface → (isC xo || isC yo) = true) :
    (eqGuard op t xo yo v u).run P w = .ok () w := by
  have core : ∀ op, op = .eql ∨ op = .neq → (eqGuard op t xo yo v u).run P w = .ok () w := by
    intro op hop
    cases v <;> cases u <;> first
      | exact absurd trivial (fun _ => h _ _ rfl rfl)
      | (rcases hop with rfl | rfl <;> rfl)
      | (have h3 := h2 rfl rfl
         rcases hop with rfl | rfl <;> cases xo <;> cases yo <;> first | rfl | (simp [isC] at h3))
  cases op
  case eql => exact core _ (.inl rfl)
  case neq => exact core _ (.inr rfl)
  all_goals rfl
theorem aEq_sound {t : TypeId} {xo yo : Operand} {x y : AV} {v u : Value} {b : Bool} (R : Rel g w h) (hr : aEq P t (isC xo) (isC yo) x y = some b) (rx : VR g w x v) (ry : VR g w y u) :
    (Op.equal t v u).run P w = .ok b w ∧ (∀ op, (eqGuard op t xo yo v u).run P w = .ok () w) := by
  unfold aEq at hr
  obtain ⟨d, hd⟩ := equal_unfold t v u
  rw [hd]
  clear hd
  split at hr
  case h_1 =>
    split at hr
    case h_2 => cases hr
    rename_i hu
    injection hr with hr
    subst hr
    cases rx; cases ry
    refine ⟨?_, fun op => eqGuard_ok (fun a b h1 h2 => by cases h1) (fun h1 h2 => by first | (cases h1; done) | (cases h2; done))⟩
    simp only [Op.equalIn, Sem.run_bind, run_underlying hu, Result.andThen_ok, Sem.run_pure]
    try rfl
  case h_2 =>
    split at hr
    case isFalse => cases hr
    rename_i hp
    obtain ⟨e, n, hp1, hp2⟩ := ptrT_sound hp
    injection hr with hr
    subst hr
    cases rx; cases ry
    refine ⟨?_, fun op => eqGuard_ok (fun a b h1 h2 => by cases h1) (fun h1 h2 => by cases h1)⟩
    simp only [Op.equalIn, Sem.run_bind, run_underlying hp1, Result.andThen_ok, Sem.run_pure]
    try rfl
  case h_3 =>
    split at hr
    case isFalse => cases hr
    rename_i hp
    obtain ⟨e, n, hp1, hp2⟩ := ptrT_sound hp
    injection hr with hr
    subst hr
    cases rx; cases ry
    refine ⟨?_, fun op => eqGuard_ok (fun a b h1 h2 => by cases h1) (fun h1 h2 => by cases h1)⟩
    simp only [Op.equalIn, Sem.run_bind, run_underlying hp1, Result.andThen_ok, Sem.run_pure]
    try rfl
  case h_4 =>
    split at hr
    case isFalse => cases hr
    rename_i hp
    obtain ⟨e, n, hp1, hp2⟩ := ptrT_sound hp
    injection hr with hr
    subst hr
    cases rx; cases ry
    refine ⟨?_, fun op => eqGuard_ok (fun a b h1 h2 => by cases h1) (fun h1 h2 => by cases h1)⟩
    simp only [Op.equalIn, Sem.run_bind, run_underlying hp1, Result.andThen_ok, Sem.run_pure]
    try rfl
  case h_5 =>
    split at hr
    case isFalse => cases hr
    rename_i hp
    obtain ⟨e, n, hp1, hp2⟩ := ptrT_sound hp
    injection hr with hr
    subst hr
    cases rx; cases ry
    refine ⟨?_, fun op => eqGuard_ok (fun a b h1 h2 => by cases h1) (fun h1 h2 => by cases h1)⟩
    simp only [Op.equalIn, Sem.run_bind, run_underlying hp1, Result.andThen_ok, Sem.run_pure]
    try rfl
  case h_6 =>
    split at hr
    case isFalse => cases hr
    rename_i hp
    obtain ⟨e, n, hp1, hp2⟩ := ptrT_sound hp
    injection hr with hr
    subst hr
    cases rx; cases ry
    refine ⟨?_, fun op => eqGuard_ok (fun a b h1 h2 => by cases h1) (fun h1 h2 => by cases h1)⟩
    simp only [Op.equalIn, Sem.run_bind, run_underlying hp1, Result.andThen_ok, Sem.run_pure]
    try rfl
  case h_7 =>
    split at hr
    case h_2 => cases hr
    rename_i hu
    injection hr with hr
    subst hr
    cases rx; cases ry
    refine ⟨?_, fun op => eqGuard_ok (fun a b h1 h2 => by cases h1) (fun h1 h2 => by first | (cases h1; done) | (cases h2; done))⟩
    simp only [Op.equalIn, Sem.run_bind, run_underlying hu, Result.andThen_ok, Sem.run_pure]
    try rfl
  case h_8 =>
    split at hr
    case h_2 => cases hr
    rename_i hu
    injection hr with hr
    subst hr
    cases rx; cases ry
    refine ⟨?_, fun op => eqGuard_ok (fun a b h1 h2 => by cases h1) (fun h1 h2 => by first | (cases h1; done) | (cases h2; done))⟩
    simp only [Op.equalIn, Sem.run_bind, run_underlying hu, Result.andThen_ok, Sem.run_pure]
    try rfl
  case h_9 =>
    split at hr
    case h_2 => cases hr
    rename_i hu
    injection hr with hr
    subst hr
    cases rx; cases ry
    refine ⟨?_, fun op => eqGuard_ok (fun a b h1 h2 => by cases h1) (fun h1 h2 => by first | (cases h1; done) | (cases h2; done))⟩
    simp only [Op.equalIn, Sem.run_bind, run_underlying hu, Result.andThen_ok, Sem.run_pure]
    try rfl
  case h_10 =>
    split at hr
    case h_2 => cases hr
    rename_i hu
    injection hr with hr
    subst hr
    cases rx; cases ry
    refine ⟨?_, fun op => eqGuard_ok (fun a b h1 h2 => by cases h1) (fun h1 h2 => by first | (cases h1; done) | (cases h2; done))⟩
    simp only [Op.equalIn, Sem.run_bind, run_underlying hu, Result.andThen_ok, Sem.run_pure]
    try rfl
  case h_11 =>
    split at hr
    case h_2 => cases hr
    rename_i hu
    injection hr with hr
    subst hr
    cases rx; cases ry
    refine ⟨?_, fun op => eqGuard_ok (fun a b h1 h2 => by cases h1) (fun h1 h2 => by first | (cases h1; done) | (cases h2; done))⟩
    simp only [Op.equalIn, Sem.run_bind, run_underlying hu, Result.andThen_ok, Sem.run_pure]
    try rfl
  case h_12 =>
    split at hr
    case h_2 => cases hr
    rename_i hu
    injection hr with hr
    subst hr
    cases rx; cases ry
    refine ⟨?_, fun op => eqGuard_ok (fun a b h1 h2 => by cases h1) (fun h1 h2 => by first | (cases h1; done) | (cases h2; done))⟩
    simp only [Op.equalIn, Sem.run_bind, run_underlying hu, Result.andThen_ok, Sem.run_pure]
    try rfl
  case h_13 =>
    split at hr
    case h_2 => cases hr
    rename_i hu
    split at hr
    case isFalse => cases hr
    rename_i hcc
    injection hr with hr
    subst hr
    cases rx; cases ry
    refine ⟨?_, fun op => eqGuard_ok (fun a b h1 h2 => by cases h1) (fun h1 h2 => hcc)⟩
    simp only [Op.equalIn, Sem.run_bind, run_underlying hu, Result.andThen_ok, Sem.run_pure]
  case h_14 =>
    split at hr
    case h_2 => cases hr
    rename_i hu
    injection hr with hr
    subst hr
    cases rx; cases ry
    refine ⟨?_, fun op => eqGuard_ok (fun a b h1 h2 => by cases h1) (fun h1 h2 => by first | (cases h1; done) | (cases h2; done))⟩
    simp only [Op.equalIn, Sem.run_bind, run_underlying hu, Result.andThen_ok, Sem.run_pure]
    try rfl
  case h_15 =>
    split at hr
    case h_2 => cases hr
    rename_i hu
    injection hr with hr
    subst hr
    cases rx; cases ry
    refine ⟨?_, fun op => eqGuard_ok (fun a b h1 h2 => by cases h1) (fun h1 h2 => by first | (cases h1; done) | (cases h2; done))⟩
    simp only [Op.equalIn, Sem.run_bind, run_underlying hu, Result.andThen_ok, Sem.run_pure]
    try rfl
  case h_16 =>
    split at hr
    case h_2 => cases hr
    rename_i hu
    injection hr with hr
    subst hr
    cases rx; cases ry
    refine ⟨?_, fun op => eqGuard_ok (fun a b h1 h2 => by cases h1) (fun h1 h2 => by first | (cases h1; done) | (cases h2; done))⟩
    simp only [Op.equalIn, Sem.run_bind, run_underlying hu, Result.andThen_ok, Sem.run_pure]
    try rfl
  case h_17 => cases hr
theorem aBin_sound {op : BinOp} {t : TypeId} {xo yo : Operand} {s : Slot} (R : Rel g w h) (F : FR lt g w base lb fr a) (hx : aBin P fr op t xo yo = some s) :
    ∃ v, (do eqGuard op t xo yo (a.eval xo) (a.eval yo); binOp op t (a.eval xo) (a.eval yo) : Sem Value).run P w = .ok v w ∧ VS g w lb s v := by
  unfold aBin at hx
  split at hx
  case h_1 k x k' y e1 e2 =>
    split at hx
    case h_1 =>
      rename_i r hr
      injection hx with hx
      subst hx
      have v1 := F.ev_v e1
      have v2 := F.ev_v e2
      generalize a.eval xo = p at v1
      generalize a.eval yo = q at v2
      cases v1
      cases v2
      obtain ⟨v, h1, h2⟩ := aShift_sound (P := P) (g := g) (w := w) (k' := k') hr t
      exact ⟨v, by rw [Sem.run_bind, eqGuard_ok (fun _ _ h _ => by cases h) (fun h _ => by cases h)]; exact h1, h2⟩
    split at hx
    case isFalse => cases hx
    rename_i hk
    subst hk
    split at hx
    case h_2 => cases hx
    rename_i r hr
    injection hx with hx
    subst hx
    have v1 := F.ev_v e1
    have v2 := F.ev_v e2
    generalize a.eval xo = p at v1
    generalize a.eval yo = q at v2
    cases v1
    cases v2
    obtain ⟨v, h1, h2⟩ := aBinInt_sound (P := P) (g := g) (w := w) hr t
    exact ⟨v, by rw [Sem.run_bind, eqGuard_ok (fun _ _ h _ => by cases h) (fun h _ => by cases h)]; exact h1, h2⟩
  case h_2 x y e1 e2 =>
    split at hx
    case h_2 => cases hx
    rename_i r hr
    injection hx with hx
    subst hx
    have v1 := F.ev_v e1
    have v2 := F.ev_v e2
    generalize a.eval xo = p at v1
    generalize a.eval yo = q at v2
    cases v1
    cases v2
    obtain ⟨v, h1, h2⟩ := aBinStr_sound (P := P) (g := g) (w := w) hr t
    exact ⟨v, by rw [Sem.run_bind, eqGuard_ok (fun _ _ h _ => by cases h) (fun h _ => by cases h)]; exact h1, h2⟩
  case h_3 x y hn1 hn2 e1 e2 =>
    have v1 := F.ev_v e1
    have v2 := F.ev_v e2
    generalize a.eval xo = p at v1
    generalize a.eval yo = q at v2
    split at hx
    case h_3 => cases hx
    all_goals
      split at hx
      case h_2 => cases hx
      rename_i b hb
      injection hx with hx
      subst hx
      obtain ⟨h1, h2⟩ := aEq_sound (P := P) R hb v1 v2
      refine ⟨_, ?_, .bool _⟩
      rw [Sem.run_bind, h2, Result.andThen_ok]
    · have : binOp .eql t p q = (do pure (.bool (← Op.equal t p q)) : Sem Value) := by
        cases v1 <;> cases v2 <;> first | rfl | exact (hn1 _ _ _ _ rfl rfl).elim | exact (hn2 _ _ rfl rfl).elim | (simp [aEq] at hb)
      rw [this, Sem.run_bind, h1]; rfl
    · have : binOp .neq t p q = (do pure (.bool (!(← Op.equal t p q))) : Sem Value) := by
        cases v1 <;> cases v2 <;> first | rfl | exact (hn1 _ _ _ _ rfl rfl).elim | exact (hn2 _ _ rfl rfl).elim | (simp [aEq] at hb)
      rw [this, Sem.run_bind, h1]; rfl
  case h_4 => cases hx
def aUn (fr : AFr) (op : UnOp) (x : Operand) : Option Slot :=
  match op, fr.ev x with
  | .not, .v (.bool b) => some (.v (.bool (!b)))
  | .neg, .v (.int k n) => some (.v (.int k (k.wrap (0 - n))))
  | _, _ => none
theorem aUn_sound {op : UnOp} {x : Operand} {s : Slot} (F : FR lt g w base lb fr a) (hx : aUn fr op x = some s) : ∃ v, (Op.unary op (a.eval x)).run P w = .ok v w ∧ VS g w lb s v := by
  unfold aUn at hx
  split at hx
  case h_1 b e =>
    injection hx with hx
    subst hx
    have v1 := F.ev_v e
    generalize a.eval x = p at v1
    cases v1
    exact ⟨_, rfl, .bool _⟩
  case h_2 k n e =>
    injection hx with hx
    subst hx
    have v1 := F.ev_v e
    generalize a.eval x = p at v1
    cases v1
    exact ⟨_, rfl, .int _ _⟩
  case h_3 => cases hx
def aConv (P : Program) (fr : AFr) (s d : TypeId) (x : Operand) : Option Slot :=
  match P.underlying s, P.underlying d, fr.ev x with
  | some _, some (.int k), .v (.int _ n) => some (.v (.int k (k.wrap n)))
  | some .string, some .string, .v (.str b) => some (.v (.str b))
  | _, _, _ => none
theorem aConv_sound {s d : TypeId} {x : Operand} {r : Slot} (F : FR lt g w base lb fr a) (hx : aConv P fr s d x = some r) : ∃ v, (convert s d (a.eval x)).run P w = .ok v w ∧ VS g w lb r v := by
  unfold aConv at hx
  split at hx
  case h_1 td k kk n h1 h2 e =>
    injection hx with hx
    subst hx
    have v1 := F.ev_v e
    generalize a.eval x = p at v1
    cases v1
    refine ⟨.int k (k.wrap n), ?_, .int _ _⟩
    simp only [convert, Sem.run_bind, run_underlying h1, run_underlying h2, Result.andThen_ok]
    cases td <;> rfl
  case h_2 b h1 h2 e =>
    injection hx with hx
    subst hx
    have v1 := F.ev_v e
    generalize a.eval x = p at v1
    cases v1
    refine ⟨_, ?_, .str _⟩
    simp only [convert, Sem.run_bind, run_underlying h1, run_underlying h2, Result.andThen_ok]
    rfl
  case h_3 => cases hx
def aMkIface (P : Program) (fr : AFr) (t : TypeId) (x : Operand) : Option Slot :=
  match P.underlying t with
  | some (.interface _) => none
  | some _ => match fr.ev x with
    | .v y => some (.v (.iface t y))
    | _ => none
  | none => none
theorem aMkIface_sound {t : TypeId} {x : Operand} {r : Slot} (F : FR lt g w base lb fr a) (hx : aMkIface P fr t x = some r) : ∃ v, (Instr.makeInterface t (a.eval x)).run P w = .ok v w ∧ VS g w lb r v := by
  unfold aMkIface at hx
  split at hx
  case h_1 => cases hx
  case h_3 => cases hx
  rename_i td hn hu
  split at hx
  case h_2 => cases hx
  rename_i y e
  injection hx with hx
  subst hx
  refine ⟨.iface t (a.eval x), ?_, .iface _ _ _ (F.ev_v e)⟩
  simp only [Instr.makeInterface, Sem.run_bind, run_underlying hu, Result.andThen_ok]
  cases td <;> first | rfl | exact absurd rfl (hn _)
def AFr.evs (fr : AFr) : List Operand → Option (List AV)
  | [] => some []
  | x :: r => match fr.ev x with
    | .v y => match fr.evs r with
      | some l => some (y :: l)
      | none => none
    | _ => none
theorem evs_sound {xs : List Operand} {l : List AV} (F : FR lt g w base lb fr a) (hx : fr.evs xs = some l) : xs.length = l.length ∧ ∀ i (hi : i < l.length), VR g w l[i] ((xs.map a.eval).getD i undef) := by
  induction xs generalizing l with
  | nil => simp only [AFr.evs] at hx; injection hx with hx; subst hx; simp
  | cons x r ih =>
    simp only [AFr.evs] at hx
    split at hx
    case h_2 => cases hx
    rename_i y e
    split at hx
    case h_2 => cases hx
    rename_i l' hl
    injection hx with hx
    subst hx
    obtain ⟨h1, h2⟩ := ih hl
    refine ⟨by simp [h1], fun i hi => ?_⟩
    cases i with
    | zero => simpa using F.ev_v e
    | succ i => simpa using h2 i (by simpa using hi)
theorem evs_VRs {xs : Array Operand} {l : List AV} (F : FR lt g w base lb fr a) (hx : fr.evs xs.toList = some l) : VRs g w l (xs.map a.eval) := by
  obtain ⟨h1, h2⟩ := evs_sound F hx
  refine ⟨by simpa using h1, fun i hi => ?_⟩
  have := h2 i hi
  simpa [List.getD_eq_getElem?_getD, Array.getD_eq_getD_getElem?] using this
def aMkFunc (fr : AFr) (fn : Fn) (first caps : Array Operand) : Option Slot :=
  match fn, first.toList, fr.evs caps.toList with
  | .func f, [], some l => some (.v (.clo f l))
  | _, _, _ => none
theorem aMkFunc_sound {fn : Fn} {first caps : Array Operand} {r : Slot} (F : FR lt g w base lb fr a) (hx : aMkFunc fr fn first caps = some r) :
    ∃ v, (Instr.makeFunc fn (first.map a.eval) (caps.map a.eval)).run P w = .ok v w ∧ VS g w lb r v := by
  unfold aMkFunc at hx
  split at hx
  case h_2 => cases hx
  rename_i f l h1 h2
  injection hx with hx
  subst hx
  obtain ⟨h3, h4⟩ := evs_VRs F h2
  have : first = #[] := by cases first; simp_all
  subst this
  exact ⟨_, rfl, by simpa [VS] using VR.clo f l _ h3 h4⟩
def aBnd (fr : AFr) (x : Option Operand) (dflt : Nat) : Option Nat :=
  match x with
  | none => some dflt
  | some x => match fr.ev x with
    | .v (.int _ n) => if 0 ≤ n then some n.toNat else none
    | _ => none
def aSlice (P : Program) (fr : AFr) (t : TypeId) (x : Operand) (lo hi mx : Option Operand) : Option Slot :=
  match P.underlying t, fr.ev x with
  | some .string, .v (.str s) =>
    match mx, aBnd fr lo 0, aBnd fr hi s.length with
    | none, some l, some h => if l ≤ h ∧ h ≤ s.length then some (.v (.str ((s.take h).drop l))) else none
    | _, _, _ => none
  | some (.slice e), .v (.vec tk sz elems) =>
    match aBnd fr lo 0, aBnd fr hi elems.length with
    | some l, some h =>
      if szT P e = some sz ∧ l ≤ h ∧ h ≤ elems.length then
        match hi, mx with
        | none, none => some (.v (.vec (match tk with
          | .own l v => .suf l v
          | tk => tk) sz (elems.drop l)))
        | some _, none => some (.v (.vec .none sz ((elems.take h).drop l)))
        | some _, some m => match aBnd fr (some m) 0 with
          | some m => if h = m then some (.v (.vec .full sz ((elems.take h).drop l))) else none
          | none => none
        | none, some _ => none
      else none
    | _, _ => none
  | some (.slice e), .v .nilsl =>
    match szT P e, aBnd fr lo 0, aBnd fr hi 0, mx with
    | some _, some 0, some 0, none => some (.v .nilsl)
    | _, _, _, _ => none
  | some (.slice e), .v (.sl o off n cap ex) =>
    match mx, aBnd fr lo 0, aBnd fr hi n with
    | none, some l, some h => if szT P e = some 1 ∧ l ≤ h ∧ h ≤ cap ∧ (l < cap ∨ l = 0) then some (.v (.sl o (off + l) (h - l) (cap - l) ex)) else none
    | _, _, _ => none
  | _, _ => none
theorem aBnd_some {x : Operand} {d n : Nat} (F : FR lt g w base lb fr a) (hx : aBnd fr (some x) d = some n) : ∃ k i, a.eval x = .int k i ∧ 0 ≤ i ∧ i.toNat = n := by
  simp only [aBnd] at hx
  split at hx
  case h_2 => cases hx
  rename_i k i e
  split at hx
  case isFalse => cases hx
  rename_i h0
  injection hx with hx
  have v1 := F.ev_v e
  generalize a.eval x = p at v1
  cases v1
  exact ⟨_, _, rfl, h0, hx⟩
theorem run_sliceBound {k : IntKind} {i : Int} {y : Nat} {c : BoundsCode} (h0 : 0 ≤ i) (h1 : i.toNat ≤ y) : (Instr.sliceBound (.int k i) y c).run P w = .ok i.toNat w := by
  simp only [Instr.sliceBound, asIntOf, Sem.run_bind, Sem.run_pure, Result.andThen_ok]
  rw [if_pos ⟨h0, by omega⟩]; rfl
theorem run_sliceBounds {lo hi mx : Option Operand} {isS : Bool} {len cap l h m : Nat} (F : FR lt g w base lb fr a) (h1 : aBnd fr lo 0 = some l) (h2 : aBnd fr hi len = some h) (h3 : aBnd fr mx cap = some m)
    (hlh : l ≤ h) (hhm : h ≤ m) (hmc : m ≤ cap) (hmh : hi = none → mx = none) :
    (Instr.sliceBounds isS len cap (lo.map a.eval) (hi.map a.eval) (mx.map a.eval)).run P w = .ok (l, h, m) w := by
  cases mx with
  | none =>
    simp only [aBnd] at h3; injection h3 with h3; subst h3
    cases hi with
    | none =>
      simp only [aBnd] at h2; injection h2 with h2; subst h2
      simp only [Instr.sliceBounds, Option.map_none, Sem.run_bind, Sem.run_pure, Result.andThen_ok]
      cases lo with
      | none => simp only [aBnd] at h1; injection h1 with h1; subst h1; rfl
      | some x =>
        obtain ⟨k0, i0, e01, e02, e03⟩ := aBnd_some F h1
        subst e03
        simp only [Option.map_some, e01, Sem.run_bind, run_sliceBound e02 hlh, Result.andThen_ok, Sem.run_pure]
    | some y =>
      obtain ⟨k, i, e1, e2, e3⟩ := aBnd_some F h2
      subst e3
      simp only [Instr.sliceBounds, Option.map_none, Option.map_some, e1, Sem.run_bind, Sem.run_pure, Result.andThen_ok, run_sliceBound e2 hhm]
      cases lo with
      | none => simp only [aBnd] at h1; injection h1 with h1; subst h1; rfl
      | some x =>
        obtain ⟨k0, i0, e01, e02, e03⟩ := aBnd_some F h1
        subst e03
        simp only [Option.map_some, e01, Sem.run_bind, run_sliceBound e02 hlh, Result.andThen_ok, Sem.run_pure]
  | some z =>
    cases hi with
    | none => cases hmh rfl
    | some y =>
      obtain ⟨k, i, e1, e2, e3⟩ := aBnd_some F h2
      obtain ⟨k', i', f1, f2, f3⟩ := aBnd_some F h3
      subst e3 f3
      simp only [Instr.sliceBounds, Option.map_some, e1, f1, Sem.run_bind, Sem.run_pure, Result.andThen_ok, run_sliceBound e2 hhm, run_sliceBound f2 hmc]
      cases lo with
      | none => simp only [aBnd] at h1; injection h1 with h1; subst h1; rfl
      | some x =>
        obtain ⟨k0, i0, e01, e02, e03⟩ := aBnd_some F h1
        subst e03
        simp only [Option.map_some, e01, Sem.run_bind, run_sliceBound e02 hlh, Result.andThen_ok, Sem.run_pure]
theorem extract_data (s : ByteArray) (l h : Nat) (hlh : l ≤ h) (hh : h ≤ s.size) : (s.extract l h).data.toList = (s.data.toList.take h).drop l := by
  rw [ByteArray.data_extract, Array.toList_extract]
  simp [List.extract_eq_take_drop, List.drop_take]
theorem VR.part {tk tk' : Tk} {sz l h cap' : Nat} {elems : List (List AV)} {ad : Addr} {n cap : Nat} (r : VR g w (.vec tk sz elems) (.slice (some ad) n cap)) (hl : l ≤ h) (hh : h ≤ elems.length)
    (hc : h - l ≤ cap') (hc' : cap' ≤ cap - l) (ad' : Addr) (had : l < h → ad' = ad.add (l * sz)) (ht : TkOK g w tk' ad' (h - l) cap' sz) :
    VR g w (.vec tk' sz ((elems.take h).drop l)) (.slice (some ad') (h - l) cap') := by
  cases r with
  | vec _ _ _ _ _ vs c0 c1 c2 c3 c4 c5 c6 c7 cz =>
    have hlen : ((elems.take h).drop l).length = h - l := by simp; omega
    have key : VR g w (.vec tk' sz ((elems.take h).drop l)) (.slice (some ad') ((elems.take h).drop l).length cap') := by
      refine .vec _ _ _ _ _ (fun i j => vs (l + i) j) (fun i hi => ?_) (fun i j hi hj => ?_) (fun i j hi hj => ?_) (fun i j hi hj => c3 _ _ (by omega) hj) (fun i j hi hj => ?_) (by omega) (by omega) (by rw [hlen]; exact ht) (fun hne => by
        have hlh : l < h := by
          rcases Nat.lt_or_ge l h with q | q
          · exact q
          · exact absurd (List.length_eq_zero_iff.1 (by rw [hlen]; omega)) hne
        rw [had hlh, add_block]
        exact cz (by rintro rfl; simp at *))
      · have := c0 (l + i) (by omega)
        simpa using this
      · rw [had (by omega), add_add, ← Nat.add_assoc, ← Nat.add_mul]
        exact c1 (l + i) j (by omega) hj
      · have := c2 (l + i) j (by omega) (by simpa using hj)
        simpa using this
      · rw [had (by omega), add_add, ← Nat.add_assoc, ← Nat.add_mul]
        exact c4 (l + i) j (by omega) hj
    rwa [hlen] at key
theorem aSlice_sound {t : TypeId} {x : Operand} {lo hi mx : Option Operand} {r : Slot} (F : FR lt g w base lb fr a) (hx : aSlice P fr t x lo hi mx = some r) :
    ∃ v, (Instr.sliceAt t (a.eval x) (lo.map a.eval) (hi.map a.eval) (mx.map a.eval)).run P w = .ok v w ∧ VS g w lb r v := by
  unfold aSlice at hx
  split at hx
  case h_1 s hu e =>
    split at hx
    case h_2 => cases hx
    rename_i l h h1 h2
    split at hx
    case isFalse => cases hx
    rename_i hc
    injection hx with hx
    subst hx
    have v1 := F.ev_v e
    generalize a.eval x = p at v1
    cases v1 with
    | str s =>
      have hb := run_sliceBounds (P := P) (isS := false) (len := s.size) (cap := s.size) (mx := none) F h1 (by simpa using h2) rfl hc.1 (by simpa using hc.2) (Nat.le_refl _) (fun _ => rfl)
      refine ⟨.string (s.extract l h), ?_, ?_⟩
      · simp only [Option.map_none] at hb
        simp only [Instr.sliceAt, Instr.slice, Sem.run_bind, run_underlying hu, Result.andThen_ok, Option.map_none, Option.isSome_none, Bool.false_eq_true, if_false, hb, Sem.run_pure]
      · rw [← extract_data s l h hc.1 (by simpa using hc.2)]; exact .str _
  case h_2 e tk sz elems hu ex =>
    split at hx
    case h_2 => cases hx
    rename_i l h h1 h2
    split at hx
    case isFalse => cases hx
    rename_i hc
    obtain ⟨hz, hlh, hhl⟩ := hc
    have v1 := F.ev_v ex
    generalize a.eval x = p at v1
    have v0 := v1
    cases v1 with
    | vec _ _ _ ad cap vs c0 c1 c2 c3 c4 c5 c6 c7 =>
      have run : ∀ m, aBnd fr mx cap = some m → h ≤ m → m ≤ cap → (hi = none → mx = none) →
          (Instr.sliceAt t (.slice (some ad) elems.length cap) (lo.map a.eval) (hi.map a.eval) (mx.map a.eval)).run P w = .ok (.slice (if m = l then some ad else some (ad.add (l * sz))) (h - l) (m - l)) w := by
        intro m hm hhm hmc hmh
        have hb := run_sliceBounds (P := P) (isS := true) (len := elems.length) (cap := cap) F h1 h2 hm hlh hhm hmc hmh
        simp only [Instr.sliceAt, Instr.slice, Sem.run_bind, run_underlying hu, Result.andThen_ok, hb, run_sizeOf hz, Sem.run_pure, Option.map_some]
      split at hx
      case h_1 =>
        injection hx with hx
        subst hx
        simp only [aBnd] at h2
        injection h2 with h2
        subst h2
        refine ⟨_, run cap rfl c5 (Nat.le_refl _) (fun _ => rfl), ?_⟩
        have ek : elems.drop l = (elems.take elems.length).drop l := by simp
        by_cases hcl : cap = l
        · rw [if_pos hcl]
          simp only [VS]
          rw [ek]
          refine VR.part v0 hlh (Nat.le_refl _) (by omega) (Nat.le_refl _) ad (fun hh => by omega) ?_
          have h0 : elems.length - l = 0 := by omega
          have h1 : cap - l = 0 := by omega
          rw [h0, h1]
          cases tk with
          | none => trivial
          | full => rfl
          | own a b => exact ⟨c7.1, c7.2.1, fun _ h => absurd h (by omega)⟩
          | suf a b => exact ⟨c7.1, c7.2.1, fun _ h => absurd h (by omega)⟩
        · rw [if_neg hcl]
          simp only [VS]
          rw [ek]
          refine VR.part v0 hlh (Nat.le_refl _) (by omega) (Nat.le_refl _) _ (fun hh => rfl) ?_
          have tip : ∀ lin, TipF g w lin ad elems.length cap sz → TipF g w lin (ad.add (l * sz)) (elems.length - l) (cap - l) sz := by
            intro lin ⟨t1, t2, t3, c, T, t4, t5⟩
            have e1 : l * sz + (elems.length - l) * sz = elems.length * sz := by rw [← Nat.add_mul]; congr 1; omega
            have e2 : l * sz + (cap - l) * sz = cap * sz := by rw [← Nat.add_mul]; congr 1; omega
            have hoff : (ad.add (l * sz)).off = ad.off + l * sz := by unfold Addr.add; split <;> simp_all
            refine ⟨?_, by rw [add_block]; exact t2, by rw [add_block, hoff, t3]; omega, c, T, by rw [add_block]; exact t4, by rw [hoff]; omega⟩
            unfold Addr.add; split <;> simp_all
          cases tk with
          | none => trivial
          | full => simp only [TkOK] at c7 ⊢; omega
          | own a b => exact ⟨c7.1, c7.2.1, fun e hn => tip _ (c7.2.2.1 e (by omega))⟩
          | suf a b => exact ⟨c7.1, c7.2.1, fun e hn => tip _ (c7.2.2 e (by omega))⟩
      case h_2 y =>
        injection hx with hx
        subst hx
        refine ⟨_, run cap rfl (by omega) (Nat.le_refl _) (fun _ => rfl), ?_⟩
        simp only [VS]
        split
        · exact VR.part v0 hlh hhl (by omega) (Nat.le_refl _) ad (fun hh => by omega) trivial
        · exact VR.part v0 hlh hhl (by omega) (Nat.le_refl _) _ (fun hh => rfl) trivial
      case h_4 => cases hx
      case h_3 y m =>
        split at hx
        case h_2 => cases hx
        rename_i m' hm
        split at hx
        case isFalse => cases hx
        rename_i hhm
        subst hhm
        injection hx with hx
        subst hx
        have hm' : aBnd fr (some m) cap = some h := by simpa [aBnd] using hm
        refine ⟨_, run h hm' (Nat.le_refl _) (by omega) (fun h => by cases h), ?_⟩
        simp only [VS]
        split
        · exact VR.part v0 hlh hhl (Nat.le_refl _) (by omega) ad (fun hh => by omega) rfl
        · exact VR.part v0 hlh hhl (Nat.le_refl _) (by omega) _ (fun hh => rfl) rfl
  case h_3 e hu ex =>
    split at hx
    case h_2 => cases hx
    rename_i n hz h1 h2
    injection hx with hx
    subst hx
    have v1 := F.ev_v ex
    generalize a.eval x = p at v1
    cases v1 with
    | nilsl =>
      have hb := run_sliceBounds (P := P) (w := w) (isS := true) (len := 0) (cap := 0) (mx := none) F h1 h2 rfl (Nat.le_refl _) (Nat.le_refl _) (Nat.le_refl _) (fun _ => rfl)
      refine ⟨.slice none 0 0, ?_, .nilsl⟩
      simp only [Option.map_none] at hb
      simp only [Instr.sliceAt, Instr.slice, Sem.run_bind, run_underlying hu, Result.andThen_ok, Option.map_none, hb, run_sizeOf hz, Sem.run_pure]
      rfl
  case h_4 e o off n cap exf hu ex =>
    split at hx
    case h_2 => cases hx
    rename_i l h h1 h2
    split at hx
    case isFalse => cases hx
    rename_i hc
    obtain ⟨hz, hlh, hhl, hl0⟩ := hc
    injection hx with hx
    subst hx
    have v1 := F.ev_v ex
    generalize a.eval x = p at v1
    cases v1 with
    | sl _ _ _ _ _ b rc hb hs hn hrc hex hcap =>
      have hb' := run_sliceBounds (P := P) (w := w) (isS := true) (len := n) (cap := rc) (mx := none) F h1 h2 rfl hlh (by omega) (Nat.le_refl _) (fun _ => rfl)
      refine ⟨.slice (some ⟨b, off + l, none⟩) (h - l) (rc - l), ?_, ?_⟩
      · simp only [Option.map_none] at hb'
        simp only [Instr.sliceAt, Instr.slice, Sem.run_bind, run_underlying hu, Result.andThen_ok, Option.map_none, hb', run_sizeOf hz, Sem.run_pure, Nat.mul_one, Option.map_some]
        by_cases hcl : rc = l
        · have : l = 0 := by omega
          rw [if_pos hcl, this]; rfl
        · rw [if_neg hcl, add_mk]
      · obtain ⟨c, T, fz, q1, q2⟩ := hs
        exact .sl _ _ _ _ _ b _ hb ⟨c, T, fz, q1, by omega⟩ (by omega) (by omega) (fun e => by rw [hex e]) (by omega)
  case h_5 => cases hx
end
end Go.Am
end
