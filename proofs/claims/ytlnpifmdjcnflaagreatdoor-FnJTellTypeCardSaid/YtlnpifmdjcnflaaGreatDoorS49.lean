import Derived.Test.YtlnpifmdjcnflaaGreatDoorS8
import Derived.Deep.Slices
import Derived.ChangeArms
import GoSem.ClaimJoined
set_option linter.unusedVariables false
set_option linter.unusedSimpArgs false
namespace Go.Am
open Go.Proofs
set_option linter.unusedSimpArgs false
set_option linter.unusedVariables false
/-- All that stands in the heap is known for good. -/
def AllExt (g : Gh) (w : World) : Prop := ∀ (b : Nat) c T fz, w.heap[b]? = some (.cells c T fz) → c.size ≤ g.ext b
theorem cell_known {g : Gh} {w : World} {a : Addr} {v : Value} (A : AllExt g w) (h : w.cell? a = some v) : a.off < g.ext a.block ∧ Unfz w a.block := by
  unfold World.cell? at h
  split at h
  · rename_i c T fz e
    split at h
    · cases h
    · refine ⟨Nat.lt_of_lt_of_le ?_ (A _ _ _ _ e), _, _, _, e⟩
      rcases Nat.lt_or_ge a.off c.size with hi | hi
      · exact hi
      · rw [Array.getElem?_eq_none hi] at h; cases h
  · cases h
/-- A list of cells stands for a list of values. -/
def Reads (g : Gh) (w : World) (xs : List AV) (cs : List Value) : Prop := cs.length = xs.length ∧ ∀ i (hi : i < xs.length), VR g w xs[i] (cs.getD i undef) ∧ (cs.getD i undef).oneCell' = true
section
variable {H : Type} {enc : TypeId × Value → H} {P : Program} {w : World} {g : Gh} {base : Nat} {spare : Nat → Bool} {held : Bool}
theorem addr_block (a : Addr) (i : Nat) : (a.add i).block = a.block := by unfold Addr.add; split <;> rfl
/-- No part weighs more than can be reached. -/
def Light (P : Program) (t : TypeId) (d : DataW H) : Prop := ∀ m ∈ d.weights P t, m ≤ reachBytes
theorem light_all {e : TypeId} : ∀ {l : List (DataW H)}, (∀ m ∈ DataW.weightsAll P e l, m ≤ reachBytes) → ∀ d ∈ l, Light P e d
  | [], _, _, h => by cases h
  | x :: r, H, d, h => by
    simp only [DataW.weightsAll, List.mem_append] at H
    rcases List.mem_cons.1 h with rfl | h
    · exact fun m hm => H m (.inl hm)
    · exact light_all (fun m hm => H m (.inr hm)) d h
theorem light_slice {t e : TypeId} (ht : P.underlying t = some (.slice e)) {elems rest : List (DataW H)} (h : Light P t (.slice elems rest)) : elems.length * P.bytesOf e ≤ reachBytes ∧ ∀ d ∈ elems, Light P e d := by
  unfold Light at h
  simp only [DataW.weights, ht, List.mem_cons, List.mem_append] at h
  refine ⟨Nat.le_trans (Nat.mul_le_mul_right _ (Nat.le_add_right _ _)) (h _ (.inl rfl)), light_all fun m hm => h m (.inr (.inl hm))⟩
theorem rd_slice {α : Type} (f : α → List AV) (sz : Nat) (q : α → Prop) (A : AllExt g w) {t e : TypeId} {fuel : Nat} {cs : List Value} {x : DataW H × List MemPlace} (ht : P.underlying t = some (.slice e)) (hc : P.cellsOf e = sz)
    (h0 : 0 < sz) (hf : ∀ y, (f y).length = sz) (ih : ∀ (n : Nat) cs' x', n < fuel → DataW.trod enc P w base spare held n e cs' = some x' → Light P e x'.1 → ∃ y, Reads g w (f y) cs' ∧ q y)
    (h : DataW.trod enc P w base spare held fuel t cs = some x) (hL : Light P t x.1) : ∃ (v : Value) (fl : Bool) (ys : List α), cs = [v] ∧ VR g w (.one (slG fl sz (ys.map f))) v ∧ v.oneCell' = true ∧ ys.length * P.bytesOf e ≤ reachBytes ∧ ∀ y ∈ ys, q y := by
  rcases DataW.trod_slice ht h with ⟨rfl, rfl⟩ | ⟨a, len, cap, elems, rest, n, rfl, rfl, rfl, hb, hl, hm, hlen, hel, -, -⟩
  · exact ⟨_, false, [], rfl, .one _ _ .nilsl rfl, rfl, by simp, fun _ h => by cases h⟩
  · rw [hc] at hel
    have hLe := light_slice ht hL
    have hex : ∀ i, i < len → ∃ p : List Value × α, w.cells? base (a.add (i * sz)) sz = some p.1 ∧ Reads g w (f p.2) p.1 ∧ q p.2 := fun i hi => by
      have := hel i hi
      rw [List.getElem?_eq_getElem (by omega)] at this
      obtain ⟨cs', h1, h2⟩ := Option.bind_eq_some_iff.1 this
      obtain ⟨y, h3, h4⟩ := ih n cs' _ (Nat.lt_succ_self n) h2 (hLe.2 _ (List.mem_map.2 ⟨_, List.getElem_mem _, rfl⟩))
      exact ⟨(cs', y), h1, h3, h4⟩
    have hall : ∃ ys : List α, ys.length = len ∧ ∃ F : Nat → List Value, ∀ i (hi : i < ys.length), w.cells? base (a.add (i * sz)) sz = some (F i) ∧ Reads g w (f ys[i]) (F i) ∧ q ys[i] := by
      have hk : ∀ m, m ≤ len → ∃ ys : List α, ys.length = m ∧ ∃ F : Nat → List Value, ∀ i (hi : i < ys.length), w.cells? base (a.add (i * sz)) sz = some (F i) ∧ Reads g w (f ys[i]) (F i) ∧ q ys[i] := by
        intro m
        induction m with
        | zero => exact fun _ => ⟨[], rfl, fun _ => [], fun i hi => by simp at hi⟩
        | succ m ihm =>
          intro hm2
          obtain ⟨ys, h1, F, h2⟩ := ihm (by omega)
          obtain ⟨⟨cs', y⟩, h3⟩ := hex m (by omega)
          refine ⟨ys ++ [y], by simp [h1], fun i => if i = m then cs' else F i, fun i hi => ?_⟩
          by_cases e : i = m
          · subst e
            simpa [List.getElem_append_right (show ys.length ≤ i by omega), h1] using h3
          · have hi' : i < ys.length := by simp at hi; omega
            simp only [List.getElem_append_left hi', if_neg e]
            exact h2 i hi'
      exact hk len (Nat.le_refl _)
    obtain ⟨ys, hy, F, hF⟩ := hall
    refine ⟨_, true, ys, rfl, .one _ _ ?_ rfl, rfl, ?_, fun y hyy => ?_⟩
    · have e1 : slG true sz (ys.map f) = .vec .none sz (ys.map f) := by cases ys <;> rfl
      have e2 : len = (ys.map f).length := by simp [hy]
      rw [e1]
      have cell : ∀ i j, i < (ys.map f).length → j < sz → w.cell? (a.add (i * sz + j)) = some ((F i).getD j undef) := fun i j hi hj => by
        have hi' : i < ys.length := by simpa using hi
        obtain ⟨_, h2, h3⟩ := World.cells?_some (hF i hi').1
        have := h3 j hj
        rw [Deep.add_add] at this
        rw [this, List.getElem?_eq_getElem (by omega), List.getD, List.getElem?_eq_getElem (by omega)]
        rfl
      have key := @VR.vec g w .none sz (ys.map f) a cap (fun i j => (F i).getD j undef) (fun i hi => by simp [hf]) cell (fun i j hi hj => ?_) (fun i j hi hj => ?_) (fun i j hi hj => ?_) (by rw [← e2]; exact hl) (by unfold maxLen at hm; omega) trivial (fun hne => ?_)
      · rw [← e2] at key; exact key
      · have hi' : i < ys.length := by simpa using hi
        have hj' : j < (f ys[i]).length := by simpa using hj
        have := ((hF i hi').2.1.2 j hj').1
        simpa using this
      · have hi' : i < ys.length := by simpa using hi
        exact ((hF i hi').2.1.2 j (by rw [hf]; exact hj)).2
      · exact (cell_known A (cell i j hi hj)).1
      · have := (cell_known A (cell 0 0 (List.length_pos_iff.2 hne) h0)).2
        rwa [addr_block] at this
    · have := hLe.1
      rw [hy, ← hlen]
      simpa using this
    · obtain ⟨i, hi, rfl⟩ := List.mem_iff_getElem.1 hyy
      exact (hF i hi).2.2
theorem rd_strs (A : AllExt g w) {t e : TypeId} {fuel : Nat} {cs : List Value} {x : DataW H × List MemPlace} (ht : P.underlying t = some (.slice e)) (he : P.underlying e = some .string) (hc : P.cellsOf e = 1)
    (h : DataW.trod enc P w base spare held fuel t cs = some x) (hL : Light P t x.1) : ∃ (v : Value) (fl : Bool) (ys : List Str), cs = [v] ∧ VR g w (.one (slG fl 1 (ys.map strCs))) v ∧ v.oneCell' = true ∧ ys.length * P.bytesOf e ≤ reachBytes ∧ ∀ s ∈ ys, s.length ≤ 140737488351232 := by
  obtain ⟨v, fl, ys, h1, h2, h3, h4, h5⟩ := rd_slice strCs 1 (fun s : Str => s.length ≤ 140737488351232) A ht hc (by decide) (fun _ => rfl) (fun n cs' x' _ hx hl => by
    obtain ⟨s, rfl, rfl, -⟩ := DataW.trod_string he hx
    refine ⟨s.data.toList, ⟨rfl, fun i hi => ?_⟩, hl _ (by simp [DataW.weights])⟩
    have : i = 0 := by simp [strCs] at hi; omega
    subst this
    exact ⟨.str s, rfl⟩) h hL
  exact ⟨v, fl, ys, h1, h2, h3, h4, h5⟩
end
end Go.Am
