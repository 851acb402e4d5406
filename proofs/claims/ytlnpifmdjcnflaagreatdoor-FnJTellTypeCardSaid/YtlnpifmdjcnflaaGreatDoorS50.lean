import Derived.Test.YtlnpifmdjcnflaaGreatDoorS49
import Derived.Test.YtlnpifmdjcnflaaGreatDoorS18
import Derived.Test.YtlnpifmdjcnflaaGreatDoorS48
import Derived.Test.YtlnpifmdjcnflaaGreatDoorCards
import Derived.Test.YtlnpifmdjcnflaaGreatDoorTie
import Derived.Lib.LaidIn
import Derived.Deep.DeepHandedRow
import Derived.Deep.DeepWitnessRowRef
import Derived.ProofKit
import Derived.SizedLaws
import Derived.Carry
set_option linter.unusedVariables false
set_option linter.unusedSimpArgs false
section
namespace Go.Am
open Go.Proofs
set_option linter.unusedSimpArgs false
set_option linter.unusedVariables false
section
variable {H : Type} {enc : TypeId × Value → H} {P : Program} {w : World} {g : Gh} {base : Nat} {spare : Nat → Bool} {held : Bool}
theorem light_struct6 {t : TypeId} {f0 f1 f2 f3 f4 f5 : Field} (ht : P.underlying t = some (.struct #[f0, f1, f2, f3, f4, f5])) {d0 d1 d2 d3 d4 d5 : DataW H} (h : Light P t (.agg [d0, d1, d2, d3, d4, d5])) : Light P f3.type d3 ∧ Light P f4.type d4 ∧ Light P f5.type d5 := by
  unfold Light at h ⊢
  simp only [DataW.weights, ht, List.map_cons, List.map_nil, DataW.weightsEach, List.mem_append, List.append_nil] at h
  exact ⟨fun m hm => h m (by simp [hm]), fun m hm => h m (by simp [hm]), fun m hm => h m (by simp [hm])⟩
theorem rd_jv (A : AllExt g w) {tJ tI tB tS tN tX : TypeId} {f0 f1 f2 f3 f4 f5 : Field} (hJ : P.underlying tJ = some (.struct #[f0, f1, f2, f3, f4, f5])) (hc : P.cellsOf tJ = 6) (hb : P.bytesOf tJ = 88) (hbs : P.bytesOf tS = 16)
    (y0 : f0.type = tI ∧ f0.offset = 0) (y1 : f1.type = tB ∧ f1.offset = 1) (y2 : f2.type = tI ∧ f2.offset = 2) (y3 : f3.type = tS ∧ f3.offset = 3) (y4 : f4.type = tN ∧ f4.offset = 4) (y5 : f5.type = tX ∧ f5.offset = 5)
    (hI : P.underlying tI = some (.int .i64)) (hB : P.underlying tB = some .bool) (hS : P.underlying tS = some .string) (hN : P.underlying tN = some (.slice tS)) (hX : P.underlying tX = some (.slice tJ))
    (cI : P.cellsOf tI = 1) (cB : P.cellsOf tB = 1) (cS : P.cellsOf tS = 1) (cN : P.cellsOf tN = 1) (cX : P.cellsOf tX = 1) :
    ∀ (fuel : Nat) (cs : List Value) (x : DataW H × List MemPlace), DataW.trod enc P w base spare held fuel tJ cs = some x → Light P tJ x.1 → ∃ y : JV, Reads g w y.cs cs ∧ y.Sm := by
  intro fuel
  induction fuel using Nat.strongRecOn with
  | ind fuel ih =>
  intro cs x h hL
  obtain ⟨xs, n, rfl, rfl, hl, hs, hf⟩ := DataW.trod_struct hJ h
  rw [hc] at hl
  obtain ⟨c0, c1, c2, c3, c4, c5, rfl⟩ : ∃ c0 c1 c2 c3 c4 c5, cs = [c0, c1, c2, c3, c4, c5] := by
    match cs, hl with
    | [a, b, c, d, e, f], _ => exact ⟨_, _, _, _, _, _, rfl⟩
  obtain ⟨x0, x1, x2, x3, x4, x5, rfl⟩ : ∃ c0 c1 c2 c3 c4 c5, xs = [c0, c1, c2, c3, c4, c5] := by
    match xs, hs with
    | [a, b, c, d, e, f], _ => exact ⟨_, _, _, _, _, _, rfl⟩
  have h0 := hf 0 f0 rfl
  have h1 := hf 1 f1 rfl
  have h2 := hf 2 f2 rfl
  have h3 := hf 3 f3 rfl
  have h4 := hf 4 f4 rfl
  have h5 := hf 5 f5 rfl
  rw [y0.1, y0.2, cI] at h0
  rw [y1.1, y1.2, cB] at h1
  rw [y2.1, y2.2, cI] at h2
  rw [y3.1, y3.2, cS] at h3
  rw [y4.1, y4.2, cN] at h4
  rw [y5.1, y5.2, cX] at h5
  obtain ⟨k, e0, -, -⟩ := DataW.trod_int hI h0
  obtain ⟨b, e1, -⟩ := DataW.trod_bool hB h1
  obtain ⟨m, e2, -, -⟩ := DataW.trod_int hI h2
  obtain ⟨s, e3, e3', -⟩ := DataW.trod_string hS h3
  obtain ⟨l3, l4, l5⟩ := light_struct6 hJ hL
  rw [y3.1] at l3
  rw [y4.1] at l4
  rw [y5.1] at l5
  obtain ⟨v4, g4, ns, e4, r4, o4, w4, q4⟩ := rd_strs A hN hS cS h4 l4
  obtain ⟨v5, g5, js, e5, r5, o5, w5, q5⟩ := rd_slice JV.cs 6 JV.Sm A hX hc (by decide) (fun y => by cases y; rfl) (fun n' cs' x' hn' hx' hl' => ih n' (by omega) cs' x' hx' hl') h5 l5
  simp at e0 e1 e2 e3 e4 e5
  subst e0 e1 e2 e3 e4 e5
  refine ⟨.mk k b m s.data.toList ns js g4 g5, ?_, .mk ?_ ?_ (fun s hs => Nat.le_trans (q4 s hs) (by decide)) ?_ q5⟩
  · rw [JV.cs_mk]
    refine ⟨rfl, fun i hi => ?_⟩
    match i, hi with
    | 0, _ => exact ⟨.int _ _, rfl⟩
    | 1, _ => exact ⟨.bool _, rfl⟩
    | 2, _ => exact ⟨.int _ _, rfl⟩
    | 3, _ => exact ⟨.str _, rfl⟩
    | 4, _ => exact ⟨r4, o4⟩
    | 5, _ => exact ⟨r5, o5⟩
  · rw [e3'] at l3
    have := l3 s.data.toList.length (by simp [DataW.weights])
    unfold reachBytes at this
    unfold Am.Sm
    omega
  · rw [hbs] at w4
    unfold reachBytes at w4
    omega
  · rw [hb] at w5
    unfold reachBytes at w5
    omega
end
end Go.Am
end
section
namespace Go.Am
open Go.Proofs Go.RowKit
def fullG (w : World) : Gh := ⟨fun _ => none, fun _ => none, fun _ _ => none, fun b => match w.heap[b]? with | some (.cells c _ _) => c.size | _ => 0, 0, fun _ => 0, fun _ => 0, fun _ => none⟩
def fullH : AH := ⟨0, fun _ => none, 0, fun _ => 0, fun _ => none⟩
theorem full_rel (w : World) : Rel (fullG w) w fullH := by
  refine ⟨fun _ _ e => (nomatch e), fun _ _ _ e => (nomatch e), fun _ _ e => (nomatch e), fun _ _ e => (nomatch e), fun _ _ e => (nomatch e), rfl, fun _ e => absurd e (Nat.not_lt_zero _), fun _ _ e => (nomatch e), fun _ e => absurd e (Nat.not_lt_zero _), fun _ _ _ e => (nomatch e), ?_, fun _ _ e => (nomatch e), fun _ _ e => (nomatch e)⟩
  intro b hb
  have hb' : 0 < (match w.heap[b]? with | some (.cells c _ _) => c.size | _ => 0) := hb
  show ∃ c T fz, w.heap[b]? = some (.cells c T fz) ∧ (match w.heap[b]? with | some (.cells c _ _) => c.size | _ => 0) ≤ c.size
  split at hb'
  · rename_i c T fz e
    exact ⟨c, T, fz, e, Nat.le_refl _⟩
  · exact absurd hb' (Nat.lt_irrefl _)
theorem full_ext (w : World) : AllExt (fullG w) w := by
  intro b c T fz e
  show c.size ≤ (match w.heap[b]? with | some (.cells c _ _) => c.size | _ => 0)
  split
  · rename_i e'
    rw [e] at e'; cases e'; exact Nat.le_refl _
  · rename_i e'
    exact absurd e (e' _ _ _)
theorem law_calls {w : World} {v0 : Value} {cs : Array Value} {fl : Bool} {ts : List Str} {y : JV} (h0 : VR (fullG w) w (.one (slG fl 1 (ts.map strCs))) v0) (h1 : Reads (fullG w) w y.cs cs.toList) (hs : y.Sm) :
    Calls Tryz.prog 3 #[v0, .agg cs] w fun e w' => e = .returned (.bool true) ∧ Below w.heap.size w w' := by
  refine (law_run (fE := fl) ts y hs fullH (fullG w) w #[v0, .agg cs] (full_rel w) ⟨rfl, fun i hi => ?_⟩).mono ?_
  · match i, hi with
    | 0, _ => exact h0
    | 1, _ =>
      refine .agg _ _ (by simpa using h1.1) (fun i hi => ?_) (fun i hi => ?_)
      · have := (h1.2 i hi).1; simpa using this
      · have := (h1.2 i hi).2; simpa using this
  · rintro e w' ⟨u, g', rfl, E, -, hu⟩
    cases hu
    exact ⟨rfl, E.os, E.tape, E.output, E.size, fun k hk => (E.rest k hk (fun _ e => (nomatch e)) rfl rfl).1⟩
end Go.Am
namespace Go.Proofs.YtlnpifmdjcnflaaGreatDoor
open Go.ChangeShapes Go.WideShapes Go.ChangeAt Go.RowKit Go.Lib
open Go.ChangeMaps (open_string shut_string)
theorem own : ownKnob Tryz.prog.godebug = none := by kernel_rfl
theorem laidOut : laidOutB Tryz.prog = true := by kernel_rfl
noncomputable def laidWorld (os : Os) : World :=
  let w0 := World.holding Tryz.prog os ⟨#[], #[], []⟩
  let put (h : Array Obj) (g : Nat) (cs : Array Value) : Array Obj := h.modify g fun
    | .cells _ t frozen => .cells cs t frozen
    | o => o
  let h0 := put w0.heap 0 ((List.range 20).map fun i => Value.int .u64 (10 ^ i)).toArray
  let h1 := put h0 2 (([0, 1, 28, 2, 29, 14, 24, 3, 30, 22, 20, 15, 25, 17, 4, 8, 31, 27, 13, 23, 21, 19, 16, 7, 26, 12, 18, 6, 11, 5, 10, 9] : List Int).map fun z => Value.int .u8 z).toArray
  let h2 := put h1 3 (([0, 1, 56, 2, 57, 49, 28, 3, 61, 58, 42, 50, 38, 29, 17, 4, 62, 47, 59, 36, 45, 43, 51, 22, 53, 39, 33, 30, 24, 18, 12, 5, 63, 55, 48, 27, 60, 41, 37, 16, 46, 35, 44, 21, 52, 32, 23, 11, 54, 26, 40, 15, 34, 20, 31, 10, 25, 14, 19, 9, 13, 8, 7, 6] : List Int).map fun z => Value.int .u8 z).toArray
  { w0 with heap := h2 }
def wit : Array Value := #[.slice none 0 0, .agg #[.int .i64 0, .bool false, .int .i64 0, .string ⟨#[]⟩, .slice none 0 0, .slice none 0 0]]
theorem laid_met (os : Os) : laidMet Tryz.prog Rows.fnJTellTypeRow.laid ((laidWorld os).forCall (fun _ _ => 0) ⟨#[], wit, []⟩).memory :=
  laidMet_of_run' 8 (by kernel_rfl) (by kernel_rfl)
theorem reads (os : Os) {H : Type} (enc : TypeId × Value → H) : DataW.whole enc Tryz.prog ((laidWorld os).forCall (fun _ _ => 0) ⟨#[], wit, []⟩).memory Tryz.f3.params.toList Rows.fnJTellTypeSpec.vars false wit.toList 8 = some ([.nil, .agg [.lit (.int .i64 0), .lit (.bool false), .lit (.int .i64 0), .lit (.string []), .nil, .nil]], [], []) := by kernel_rfl
end Go.Proofs.YtlnpifmdjcnflaaGreatDoor
end
