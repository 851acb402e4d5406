import Derived.Test.YtlnpifmdjcnflaaGreatDoorS4
import Derived.Laws.AppendOwn
import Derived.Lib.BufferWrite
import Derived.Laws.MakeOwn
import Derived.Laws.IdiomStrings
import Derived.Lib.AppendZeros
import Derived.Laws.BytesArg
import Derived.Defers
set_option linter.unusedVariables false
set_option linter.unusedSimpArgs false
section
set_option linter.unusedVariables false
set_option linter.unusedSimpArgs false
namespace Go.Am
section
variable {P : Program} {pre tail : List Oper} {Q : Exit → Act → World → Prop} {TL : Act → World → Prop}
def cutG (m : Nat) (o : Oper) : Bool := match o.guard with
  | none => true
  | some (j, _) => Nat.blt j m
def headOK (m : Nat) (pre : List Oper) (o : Oper) : Bool := (List.range m).all fun i => (preds o).contains i || pre.zipIdx.any fun p => Nat.blt i p.2 && (preds p.1).contains i
def okCut (pre tail : List Oper) : Bool :=
  pre.zipIdx.all (fun p => cutG pre.length p.1 && (preds p.1).all fun q => Nat.blt q p.2) &&
  match tail with
  | [] => false
  | o :: r => headOK pre.length pre o && r.all fun o => (preds o).any fun q => Nat.ble pre.length q
def cutQ (Q : Exit → Act → World → Prop) (TL : Act → World → Prop) : Exit → Act → World → Prop
  | .normal, a, w => TL a w
  | e, a, w => Q e a w
theorem wp_cutQ {o : Oper} {a : Act} {w : World} {K : Act → World → Prop} : o.wp P a w K (cutQ Q TL) = o.wp P a w K Q := by
  unfold Oper.wp
  generalize (execOp a.eval o).run P w = r
  cases r with
  | ok n w' => cases n <;> rfl
  | halt x w' => cases x <;> rfl
theorem wpAny_more {ops : Array Oper} : ∀ (k n : Nat) (l : Array Bool) (a : Act) (w : World), wpAny P .any ops Q n l a w → wpAny P .any ops Q (n + k) l a w := by
  have one : ∀ (n : Nat) (l : Array Bool) (a : Act) (w : World), wpAny P .any ops Q n l a w → wpAny P .any ops Q (n + 1) l a w := by
    intro n
    induction n with
    | zero =>
      rintro l a w ⟨h1, h2⟩
      exact ⟨fun _ => h2, fun i hi => by rw [h1] at hi; cases hi⟩
    | succ n ih =>
      rintro l a w ⟨h1, h2⟩
      exact ⟨h1, fun i hi => wpOp_mono (fun a w => ih _ a w) (h2 i hi)⟩
  intro k
  induction k with
  | zero => intro n l a w h; exact h
  | succ k ih => intro n l a w h; exact one _ _ _ _ (ih n l a w h)
theorem getD_cut {lp : Array Bool} {n : Nat} (i : Nat) : (lp ++ Array.replicate n false).getD i false = lp.getD i false := by
  simp only [Array.getD_eq_getD_getElem?, Array.getElem?_append, Array.getElem?_replicate]
  by_cases h : i < lp.size
  · rw [if_pos h]
  · rw [if_neg h, Array.getElem?_eq_none (by omega)]
    split <;> rfl
theorem set_cut {lp : Array Bool} {n i : Nat} (h : i < lp.size) : (lp ++ Array.replicate n false).setIfInBounds i true = lp.setIfInBounds i true ++ Array.replicate n false := by
  apply Array.ext_getElem?
  intro k
  simp only [Array.getElem?_setIfInBounds, Array.getElem?_append, Array.size_setIfInBounds, Array.size_append, Array.size_replicate]
  by_cases h1 : i = k
  · subst h1
    rw [if_pos rfl, if_pos (by omega), if_pos h, if_pos rfl, if_pos h]
  · rw [if_neg h1, if_neg h1]
theorem mem_zipIdx' {α : Type} {l : List α} {i : Nat} {a : α} (h : l[i]? = some a) : (a, i) ∈ l.zipIdx := by
  rw [List.mem_zipIdx_iff_getElem?]; exact h
theorem wpAny_cut (ok : okCut pre tail = true) {k : Nat} (hT : ∀ a w, TL a w → wpAny P .any (pre ++ tail).toArray Q k (Array.replicate pre.length true ++ Array.replicate tail.length false) a w) :
    ∀ (fuel : Nat) (lp : Array Bool) (a : Act) (w : World), lp.size = pre.length → Closed pre (fun i => lp.getD i false) → wpAny P .any pre.toArray (cutQ Q TL) fuel lp a w →
      wpAny P .any (pre ++ tail).toArray Q (fuel + k) (lp ++ Array.replicate tail.length false) a w := by
  simp only [okCut, Bool.and_eq_true] at ok
  obtain ⟨ok1, ok2⟩ := ok
  have pOK : ∀ i o, pre[i]? = some o → cutG pre.length o = true ∧ ∀ p ∈ preds o, p < i := fun i o h => by
    have := List.all_eq_true.1 ok1 _ (mem_zipIdx' h)
    simp only [Bool.and_eq_true] at this
    exact ⟨this.1, fun p hp => by have := List.all_eq_true.1 this.2 p hp; rwa [Nat.blt_eq] at this⟩
  
  have least : ∀ (lp : Array Bool), lp.size = pre.length → Region.ready .any pre.toArray lp = [] → lp = Array.replicate pre.length true := by
    intro lp hsz hr
    have all : ∀ i, i < pre.length → lp.getD i false = true := by
      intro i
      induction i using Nat.strongRecOn with
      | _ i ih =>
        intro hi
        cases hli : lp.getD i false with
        | true => rfl
        | false =>
          exfalso
          have : i ∈ Region.ready .any pre.toArray lp := by
            rw [mem_ready]
            refine ⟨?_, pre[i], by simp [hi], fun e he hb => ?_⟩
            · rw [Array.getD_eq_getD_getElem?] at hli ⊢
              rw [Array.getElem?_eq_getElem (by omega)] at hli ⊢
              exact hli
            · have hp : e.on ∈ preds pre[i] := List.mem_map.2 ⟨e, List.mem_filter.2 ⟨Array.mem_toList_iff.2 he, hb⟩, rfl⟩
              have hlt := (pOK i pre[i] (List.getElem?_eq_getElem hi)).2 _ hp
              exact ih e.on hlt (by omega)
          rw [hr] at this
          cases this
    apply Array.ext
    · simp [hsz]
    · intro i h1 h2
      have := all i (by omega)
      rw [Array.getD_eq_getD_getElem?, Array.getElem?_eq_getElem h1] at this
      simpa using this
  intro fuel
  induction fuel with
  | zero =>
    intro lp a w hsz hC ⟨h1, h2⟩
    rw [least lp hsz h1]
    rw [Nat.zero_add]
    exact hT a w h2
  | succ fuel ih =>
    intro lp a w hsz hC ⟨h1, h2⟩
    cases hr : Region.ready .any pre.toArray lp with
    | nil =>
      rw [least lp hsz hr, Nat.add_comm]
      exact wpAny_more _ _ _ _ _ (hT a w (h1 hr))
    | cons q r =>
      have hq : q ∈ Region.ready .any pre.toArray lp := by rw [hr]; simp
      have lift : ∀ j, j ∈ Region.ready .any pre.toArray lp → j ∈ Region.ready .any (pre ++ tail).toArray (lp ++ Array.replicate tail.length false) := by
        intro j hj
        rw [mem_ready] at hj ⊢
        obtain ⟨g1, o, g2, g3⟩ := hj
        have hj' : j < pre.length := by
          have := (Array.getElem?_eq_some_iff.1 g2).1; simpa using this
        refine ⟨?_, o, ?_, fun e he hb => by rw [getD_cut]; exact g3 e he hb⟩
        · rw [Array.getD_eq_getD_getElem?, Array.getElem?_append_left (by omega), ← Array.getD_eq_getD_getElem?]; exact g1
        · rw [List.getElem?_toArray, List.getElem?_append_left hj']; simpa using g2
      have only : ∀ j, j ∈ Region.ready .any (pre ++ tail).toArray (lp ++ Array.replicate tail.length false) → j ∈ Region.ready .any pre.toArray lp := by
        intro j hj
        rw [mem_ready] at hj
        obtain ⟨g1, o, g2, g3⟩ := hj
        have g2' : (pre ++ tail)[j]? = some o := by simpa using g2
        have g3' : ∀ p ∈ preds o, lp.getD p false = true := fun p hp => by
          obtain ⟨e, he, rfl⟩ := List.mem_map.1 hp
          obtain ⟨he1, he2⟩ := List.mem_filter.1 he
          have := g3 e (Array.mem_toList_iff.1 he1) he2
          rwa [getD_cut] at this
        by_cases hj' : j < pre.length
        · rw [mem_ready]
          refine ⟨?_, o, ?_, fun e he hb => by have := g3 e he hb; rwa [getD_cut] at this⟩
          · rw [Array.getD_eq_getD_getElem?, Array.getElem?_append_left (by omega), ← Array.getD_eq_getD_getElem?] at g1; exact g1
          · rw [List.getElem?_append_left hj'] at g2'; simpa using g2'
        · exfalso
          rw [List.getElem?_append_right (by omega)] at g2'
          cases tail with
          | nil => simp at g2'
          | cons t0 tr =>
            simp only [Bool.and_eq_true] at ok2
            obtain ⟨hh, ht⟩ := ok2
            cases hd : j - pre.length with
            | succ n =>
              rw [hd] at g2'
              have hm : o ∈ tr := List.mem_of_getElem? (by simpa using g2')
              have := List.all_eq_true.1 ht o hm
              obtain ⟨p, hp, hle⟩ := List.any_eq_true.1 this
              have hle := Nat.le_of_ble_eq_true hle
              have := g3' p hp
              rw [Array.getD_eq_getD_getElem?, Array.getElem?_eq_none (by omega)] at this
              cases this
            | zero =>
              rw [hd] at g2'
              have e0 : t0 = o := by simpa using g2'
              subst e0
              
              have all : ∀ n i, pre.length - i ≤ n → i < pre.length → lp.getD i false = true := by
                intro n
                induction n with
                | zero => intro i h1 h2; omega
                | succ n ihn =>
                  intro i h1 h2
                  have := List.all_eq_true.1 hh i (List.mem_range.2 h2)
                  simp only [Bool.or_eq_true] at this
                  rcases this with h | h
                  · exact g3' i (by simpa using h)
                  · obtain ⟨⟨o', q'⟩, hm, hx⟩ := List.any_eq_true.1 h
                    simp only [Bool.and_eq_true] at hx
                    obtain ⟨x1, x2⟩ := hx
                    rw [Nat.blt_eq] at x1
                    have hm' := List.mem_zipIdx_iff_getElem?.1 hm
                    have hq' : q' < pre.length := (List.getElem?_eq_some_iff.1 hm').1
                    exact hC q' o' hm' (ihn q' (by omega) hq') i (by simpa using x2)
              rw [mem_ready] at hq
              obtain ⟨y1, o', y2, _⟩ := hq
              have hq' : q < pre.length := by
                have := (Array.getElem?_eq_some_iff.1 y2).1; simpa using this
              have := all _ q (Nat.le_refl _) hq'
              rw [Array.getD_eq_getD_getElem?, Array.getElem?_eq_getElem (by omega)] at this y1
              simp only [Option.getD_some] at this y1
              rw [this] at y1; cases y1
      rw [show fuel + 1 + k = fuel + k + 1 by omega]
      refine ⟨fun he => ?_, fun j hj => ?_⟩
      · have := lift q hq
        rw [he] at this; cases this
      · have hj0 := only j hj
        have hw := h2 j hj0
        rw [mem_ready] at hj0
        obtain ⟨y1, o, y2, y3⟩ := hj0
        have y2' : pre[j]? = some o := by simpa using y2
        have hj' : j < pre.length := (List.getElem?_eq_some_iff.1 y2').1
        have y4 : (pre ++ tail).toArray[j]? = some o := by rw [List.getElem?_toArray, List.getElem?_append_left hj']; exact y2'
        have hC' : Closed pre (fun i => (lp.setIfInBounds j true).getD i false) := by
          intro q o' hq hl p hpp
          show (lp.setIfInBounds j true).getD p false = true
          have same : ∀ x, x ≠ j → (lp.setIfInBounds j true).getD x false = lp.getD x false := fun x hx => getD_set_ne false (Ne.symm hx)
          have set1 : (lp.setIfInBounds j true).getD j false = true := by
            simp [Array.getD_eq_getD_getElem?, Array.getElem?_setIfInBounds, show j < lp.size by omega]
          by_cases hpj : p = j
          · subst hpj; exact set1
          · rw [same p hpj]
            by_cases hqj : q = j
            · subst hqj
              rw [y2'] at hq; injection hq with hq; subst hq
              obtain ⟨e, he, rfl⟩ := List.mem_map.1 hpp
              obtain ⟨he1, he2⟩ := List.mem_filter.1 he
              exact y3 e (Array.mem_toList_iff.1 he1) he2
            · have hl : (lp.setIfInBounds j true).getD q false = true := hl
              rw [same q hqj] at hl
              exact hC q o' hq hl p hpp
        have hwant : Region.wanted o (yielded (pre ++ tail).toArray a.tmps) = Region.wanted o (yielded pre.toArray a.tmps) := by
          have hg := (pOK j o y2').1
          unfold Region.wanted
          unfold cutG at hg
          cases hgd : o.guard with
          | none => rfl
          | some p =>
            obtain ⟨i, want⟩ := p
            rw [hgd] at hg
            simp only [Nat.blt_eq] at hg
            simp only [yielded, List.getElem?_toArray, List.getElem?_append_left hg]
        unfold wpOp at hw ⊢
        simp only [y2, y4] at hw ⊢
        rw [hwant]
        rw [set_cut (by omega)]
        have cont : ∀ a w, wpAny P .any pre.toArray (cutQ Q TL) fuel (lp.setIfInBounds j true) a w → wpAny P .any (pre ++ tail).toArray Q (fuel + k) (lp.setIfInBounds j true ++ Array.replicate tail.length false) a w :=
          fun a w h => ih _ a w (by simpa using hsz) hC' h
        split
        · rename_i hw1
          rw [if_pos hw1, wp_cutQ] at hw
          exact hw.imp (Oper.wp_mono cont) id
        · rename_i hw1
          rw [if_neg hw1] at hw
          exact cont _ _ hw
end
end Go.Am
end
section
set_option linter.unusedVariables false
set_option linter.unusedSimpArgs false
namespace Go.Am
section
variable {P : Program} {lt : LT} {Q : Exit → Act → World → Prop} {K : Act → World → Prop} {ops : Array Oper} {o : Oper} {a : Act} {w w' : World} {v : Value} {i : Nat}
theorem wpOp_value (ho : ops[i]? = some o) (hg : o.guard = none) (hr : (execOp a.eval o).run P w = .ok (.value v) w') (hK : K (a.put o.dst v) w') : wpOp P ops Q i K a w := by
  unfold wpOp
  simp only [ho]
  rw [if_pos (by unfold Region.wanted; rw [hg])]
  refine .inl ?_
  unfold Oper.wp
  rw [hr]; exact hK
theorem wpOp_skip (ho : ops[i]? = some o) (hg : o.guard = none) (hr : (execOp a.eval o).run P w = .ok .skip w') (hK : K (a.put o.dst undef) w') : wpOp P ops Q i K a w := by
  unfold wpOp
  simp only [ho]
  rw [if_pos (by unfold Region.wanted; rw [hg])]
  refine .inl ?_
  unfold Oper.wp
  rw [hr]; exact hK
theorem eval_put_self {d : Nat} (hd : d < a.tmps.size) : (a.put (some d) v).eval (.tmp d) = v := by
  simp [Act.eval, Act.put, Array.getD_eq_getD_getElem?, Array.getElem?_setIfInBounds, hd]
theorem eval_put_ne {d : Nat} {x : Operand} (hx : x ≠ .tmp d) : (a.put (some d) v).eval x = a.eval x := by
  cases x with
  | tmp t =>
    have : d ≠ t := fun e => hx (by rw [e])
    simp [Act.eval, Act.put, Array.getD_eq_getD_getElem?, Array.getElem?_setIfInBounds, this]
  | _ => rfl
theorem run_store_ex {t : TypeId} {n b off : Nat} {vs : Array Value} {T : TypeId} (hz : szT P t = some n) (hn : v.cells.size = n) (hw : w.heap[b]? = some (.cells vs T (0, 0))) (h1 : ∀ u ∈ v.cells.toList, u.oneCell' = true) (hfit : off + n ≤ vs.size) :
    (storeVar t ⟨b, off, none⟩ v).run P w = .ok () (w.setRow b (vs.toList.take off ++ v.cells.toList ++ vs.toList.drop (off + n)).toArray) := by
  have hs := run_storeCells_at (P := P) b off T v.cells.toList 0 vs w hw (by simp; omega) h1
  simp only [Nat.add_zero, Array.length_toList] at hs
  simp only [storeVar, Sem.run_bind, run_sizeOf hz, Result.andThen_ok]
  rw [if_neg (by rw [hn]; simp)]
  rw [← hn]; exact hs
theorem run_store_op {t : TypeId} {n b off : Nat} {vs : Array Value} {T : TypeId} {x y : Operand} (ho : o.op = .store t x y) (hx : a.eval x = .pointer (some ⟨b, off, none⟩)) (hy : a.eval y = v) (hz : szT P t = some n) (hn : v.cells.size = n) (hw : w.heap[b]? = some (.cells vs T (0, 0))) (h1 : ∀ u ∈ v.cells.toList, u.oneCell' = true) (hfit : off + n ≤ vs.size) :
    (execOp a.eval o).run P w = .ok .skip (w.setRow b (vs.toList.take off ++ v.cells.toList ++ vs.toList.drop (off + n)).toArray) := by
  have k1 := run_store_ex (P := P) hz hn hw h1 hfit
  simp only [execOp, ho, Instr.storeAt, hx, hy, Instr.sureAddr, Sem.run_bind, Sem.run_pure, Result.andThen_ok, k1]
theorem run_index_op {t e : TypeId} {sz n cap b bo : Nat} {k : IntKind} {x i : Operand} (ho : o.op = .indexAddr t x i) (ht : P.underlying t = some (.slice e)) (hz : szT P e = some sz) (hx : a.eval x = .slice (some ⟨b, bo, none⟩) (n + 1) cap) (hi : a.eval i = .int k (n : Nat)) :
    (execOp a.eval o).run P w = .ok (.value (.pointer (some ⟨b, bo + n * sz, none⟩))) w := by
  simp only [execOp, ho, Instr.indexAt, hx, hi, asIntOf, Sem.run_bind, Sem.run_pure, Result.andThen_ok, run_underlying ht]
  have h1 : (0 : Int) ≤ (n : Nat) ∧ ((n : Nat) : Int) < ((n + 1 : Nat) : Int) := ⟨by omega, by omega⟩
  simp only [h1, and_self, if_true, Sem.run_bind, run_sizeOf hz, Result.andThen_ok, Sem.run_pure, add_mk, Int.toNat_natCast]
end
def tlS (m : Nat) (l : List Nat) : Array Bool := l.foldl (fun a i => a.setIfInBounds i true) (Array.replicate m true ++ Array.replicate 4 false)
def rdy (ops : List Oper) (m : Nat) (l : List Nat) : List Nat := Region.ready .any ops.toArray (tlS m l)
def tailOK (ops : List Oper) (m : Nat) : Bool :=
  rdy ops m [] == [m] && rdy ops m [m] == [m + 1, m + 3] && rdy ops m [m, m + 1] == [m + 2, m + 3] && rdy ops m [m, m + 3] == [m + 1] && rdy ops m [m, m + 1, m + 2] == [m + 3] &&
  rdy ops m [m, m + 1, m + 3] == [m + 2] && rdy ops m [m, m + 3, m + 1] == [m + 2] && rdy ops m [m, m + 1, m + 2, m + 3] == [] && rdy ops m [m, m + 1, m + 3, m + 2] == [] && rdy ops m [m, m + 3, m + 1, m + 2] == []
theorem tlS_snoc {m i : Nat} {l : List Nat} : tlS m (l ++ [i]) = (tlS m l).setIfInBounds i true := by simp [tlS]
section
variable {P : Program} {lt : LT} {Q : Exit → Act → World → Prop} {ops : List Oper} {m : Nat}
section
attribute [local irreducible] tlS wpOp
theorem tail_orders (rd : tailOK ops m = true) {a : Act} {w : World}
    (H : wpOp P ops.toArray Q m (fun a w =>
      wpOp P ops.toArray Q (m + 1) (fun a w => wpOp P ops.toArray Q (m + 2) (fun a w => wpOp P ops.toArray Q (m + 3) (fun a w => Q .normal a w) a w) a w ∧ wpOp P ops.toArray Q (m + 3) (fun a w => wpOp P ops.toArray Q (m + 2) (fun a w => Q .normal a w) a w) a w) a w ∧
      wpOp P ops.toArray Q (m + 3) (fun a w => wpOp P ops.toArray Q (m + 1) (fun a w => wpOp P ops.toArray Q (m + 2) (fun a w => Q .normal a w) a w) a w) a w) a w) :
    wpAny P .any ops.toArray Q 4 (tlS m []) a w := by
  simp only [tailOK, Bool.and_eq_true, beq_iff_eq] at rd
  obtain ⟨⟨⟨⟨⟨⟨⟨⟨⟨r0, r1⟩, r2⟩, r3⟩, r4⟩, r5⟩, r6⟩, r7⟩, r8⟩, r9⟩ := rd
  have fin : ∀ l, rdy ops m l = [] → ∀ a w, Q .normal a w → wpAny P .any ops.toArray Q 0 (tlS m l) a w := fun l h a w q => ⟨h, q⟩
  have one : ∀ n l i, rdy ops m l = [i] → ∀ a w, wpOp P ops.toArray Q i (wpAny P .any ops.toArray Q n (tlS m (l ++ [i]))) a w → wpAny P .any ops.toArray Q (n + 1) (tlS m l) a w := by
    intro n l i h a w q
    refine ⟨fun e => ?_, fun j hj => ?_⟩
    · have e : rdy ops m l = [] := e
      rw [h] at e; cases e
    · have hj : j ∈ rdy ops m l := hj
      rw [h, List.mem_singleton] at hj
      subst hj; rw [← tlS_snoc]; exact q
  have two : ∀ n l i k, rdy ops m l = [i, k] → ∀ a w, wpOp P ops.toArray Q i (wpAny P .any ops.toArray Q n (tlS m (l ++ [i]))) a w → wpOp P ops.toArray Q k (wpAny P .any ops.toArray Q n (tlS m (l ++ [k]))) a w → wpAny P .any ops.toArray Q (n + 1) (tlS m l) a w := by
    intro n l i k h a w q1 q2
    refine ⟨fun e => ?_, fun j hj => ?_⟩
    · have e : rdy ops m l = [] := e
      rw [h] at e; cases e
    · have hj : j ∈ rdy ops m l := hj
      rw [h] at hj
      simp only [List.mem_cons, List.not_mem_nil, or_false] at hj
      rcases hj with rfl | rfl
      · rw [← tlS_snoc]; exact q1
      · rw [← tlS_snoc]; exact q2
  refine one 3 [] m r0 a w (wpOp_mono (fun a w h => ?_) H)
  obtain ⟨hI, hL⟩ := h
  refine two 2 [m] _ _ r1 a w (wpOp_mono (fun a w h => ?_) hI) (wpOp_mono (fun a w h => ?_) hL)
  · obtain ⟨hS, hL⟩ := h
    refine two 1 [m, m + 1] _ _ r2 a w (wpOp_mono (fun a w h => ?_) hS) (wpOp_mono (fun a w h => ?_) hL)
    · exact one 0 [m, m + 1, m + 2] _ r4 a w (wpOp_mono (fun a w h => fin [m, m + 1, m + 2, m + 3] r7 a w h) h)
    · exact one 0 [m, m + 1, m + 3] _ r5 a w (wpOp_mono (fun a w h => fin [m, m + 1, m + 3, m + 2] r8 a w h) h)
  · refine one 1 [m, m + 3] _ r3 a w (wpOp_mono (fun a w h => ?_) h)
    exact one 0 [m, m + 3, m + 1] _ r6 a w (wpOp_mono (fun a w h => fin [m, m + 3, m + 1, m + 2] r9 a w h) h)
end
theorem late_tail {oA oI oS oL : Oper} {fr : AFr} {h h' : AH} {s x iI vS xL : Operand} {t tI eI tS tL : TypeId} {sz by_ : Nat} {xs y : AV} {es : List (List AV)} {zc cs old old' : List AV} {lin v d8 d9 B off : Nat} {k : IntKind}
    (rd : tailOK ops m = true) (o1 : ops[m]? = some oA) (o2 : ops[m + 1]? = some oI) (o3 : ops[m + 2]? = some oS) (o4 : ops[m + 3]? = some oL) (g1 : oA.guard = none) (g2 : oI.guard = none) (g3 : oS.guard = none) (g4 : oL.guard = none)
    (ha : appArgs oA.op = some (s, x, t)) (hi : appInfo P t = some (sz, by_)) (dA : oA.dst = some d8) (ev_s : fr.ev s = .v xs) (ev_x : fr.ev x = .v y) (hy : elemsOf sz y = some [zc]) (hS : AppS h sz xs es lin v h') (hb : (es.length + 1) * (by_ + 1) ≤ 140737488355328)
    (hI : oI.op = .indexAddr tI (.tmp d8) iI) (dI : oI.dst = some d9) (htI : P.underlying tI = some (.slice eI)) (hzI : szT P eI = some sz) (ev_i : fr.ev iI = .v (.int k (es.length : Nat))) (ni : iI ≠ .tmp d8)
    (hSt : oS.op = .store tS (.tmp d9) vS) (hzS : szT P tS = some sz) (dS : oS.dst = none) (ev_c : evCs fr vS = some cs) (hcs : cs.length = sz) (nv8 : vS ≠ .tmp d8) (nv9 : vS ≠ .tmp d9)
    (hLt : oL.op = .store tL xL (.tmp d8)) (hzL : szT P tL = some 1) (dL : oL.dst = none) (ev_l : fr.ev xL = .v (.ptr B off)) (hgB : h'.get B = some (.cells old)) (hfit : off + 1 ≤ old.length) (nl8 : xL ≠ .tmp d8) (nl9 : xL ≠ .tmp d9) (ni9 : d8 ≠ d9) (hd8 : d8 < fr.n) (hd9 : d9 < fr.n)
    (hnew : setAt off [.vec (.own lin v) sz (es ++ [cs])] old = old') {g0 : Gh} {w0 : World}
    (hQ : ∀ a w, AS lt (h'.set B (.cells old')) ((fr.putD d8 (.v (.vec (.own lin v) sz (es ++ [cs])))).putD d9 .junk) g0 w0 a w → Q .normal a w) {a : Act} {w : World} (S : AS lt h fr g0 w0 a w) : wpAny P .any ops.toArray Q 4 (tlS m []) a w := by
  obtain ⟨g, lb, E, R, F⟩ := S
  obtain ⟨e, i, z, T, rfl⟩ := appInfo_sound hi
  obtain ⟨r1, r2, r3⟩ := appArgs_run ha a.eval
  obtain ⟨ad', cap', zs, hvx, hz3, hz4⟩ : ∃ ad cap zs, a.eval x = .slice (some ad) 1 cap ∧ (zs : List Value).length = sz ∧ ∀ k u, zs[k]? = some u → w.cell? (ad.add k) = some u ∧ u.oneCell' = true := by
    rcases elemsOf_run T.h0 (F.ev_v ev_x) hy with ⟨_, h1⟩ | ⟨ad, cap, q1, q2, us, q3, q4, q5⟩
    · cases h1
    · exact ⟨ad, cap, us, q1, by simpa using q3, fun k u hk => ⟨(q4 k u hk).1, (q4 k u hk).2.1⟩⟩
  have hvc : VRc g w cs (a.eval vS).cells := by
    unfold evCs at ev_c
    split at ev_c
    case h_2 => cases ev_c
    rename_i y ey
    exact (F.ev_v ey).cells ev_c
  have hcsz : (a.eval vS).cells.size = sz := hvc.1.1.trans hcs
  have hn1 : ∀ u ∈ (a.eval vS).cells.toList, u.oneCell' = true := fun u hu => by
    obtain ⟨i, hi, rfl⟩ := List.getElem_of_mem hu
    have hi' : i < (a.eval vS).cells.size := by simpa using hi
    have := hvc.2 i (by omega)
    simpa [Array.getD_eq_getD_getElem?, hi'] using this
  obtain ⟨b, bo, cap, c, Tc, w8, g', hrun, hb8, hsz8, E', R', V⟩ := (append_late (ty := oA.type) T R (F.ev_v ev_s) hS (ad' := ad') (cap' := cap') hz3 (fun j u hj => (hz4 j u hj).1) (fun u hu => by
    obtain ⟨k, hk, rfl⟩ := List.getElem_of_mem hu
    exact (hz4 k _ (List.getElem?_eq_getElem hk)).2) (ns := (a.eval vS).cells.toList) (by simpa using hcsz) hn1 hcs (fun j hj => by
    have := hvc.1.2 j hj
    simpa [Array.getD_eq_getD_getElem?, List.getD_eq_getElem?_getD] using this) hb).ex
  generalize hcc : (c.toList.take (bo + es.length * sz) ++ (a.eval vS).cells.toList ++ c.toList.drop (bo + es.length * sz + (a.eval vS).cells.toList.length)).toArray = cc at *
  have hcc' : (c.toList.take (bo + es.length * sz) ++ (a.eval vS).cells.toList ++ c.toList.drop (bo + es.length * sz + sz)).toArray = cc := by rw [← hcc]; simp [hcsz]
  have hsv : VR g' (w8.setRow b cc) (.vec (.own lin v) sz (es ++ [cs])) (.slice (some ⟨b, bo, none⟩) (es.length + 1) cap) := V
  generalize hsl : Value.slice (some ⟨b, bo, none⟩) (es.length + 1) cap = sl at *
  have hslc : sl.cells = #[sl] := by rw [← hsl]; rfl
  have hbl : g'.bl b = some lin := by
    rw [← hsl] at V
    generalize hN : es.length + 1 = N at V
    cases V with
    | vec _ _ _ _ _ _ _ _ _ _ _ _ _ ht => exact ht.2.2.2.2
  
  have F' := F.mono E'
  have F8 := F'.put (dst := some d8) (s := .v (.vec (.own lin v) sz (es ++ [cs]))) hsv rfl
  have F9 := F8.put (dst := some d9) (s := .junk) (v := .pointer (some ⟨b, bo + es.length * sz, none⟩)) trivial rfl
  
  obtain ⟨bl, hbB, vs, TT, hwB, hcB⟩ := R'.obj B _ hgB
  have hne : bl ≠ b := fun e => by
    have := (R'.obl B bl hbB).2.2
    rw [e, hbl] at this; cases this
  have hpB : a.eval xL = .pointer (some ⟨bl, off, none⟩) := by
    have := F'.ev_v ev_l
    generalize a.eval xL = p at this
    cases this with
    | ptr _ _ bk hb =>
      rw [hbB] at hb; injection hb with hb; subst hb; rfl
  have hvsz : vs.size = old.length := hcB.1.1
  obtain ⟨us, k1, k2, k3⟩ := run_store_at (P := P) (t := tL) (off := off) (v := sl) (ds := [.vec (.own lin v) sz (es ++ [cs])]) hzL rfl hwB hcB (by
    have := VR.cells hsv (cs := [.vec (.own lin v) sz (es ++ [cs])]) rfl
    exact this) hfit
  have hsl1 : ∀ u ∈ sl.cells.toList, u.oneCell' = true := fun u hu => by
    rw [hslc] at hu
    have : u = sl := by simpa using hu
    rw [this, ← hsl]; rfl
  have hus : (vs.toList.take off ++ sl.cells.toList ++ vs.toList.drop (off + 1)).toArray = us := by
    have k4 := run_store_ex (P := P) (t := tL) (off := off) (v := sl) (n := 1) hzL (by rw [hslc]; rfl) hwB hsl1 (by omega)
    rw [k1] at k4
    injection k4 with _ k4
    have q1 := setRow_heap _ bl vs us TT (0, 0) hwB
    rw [k4, setRow_heap _ bl vs _ TT (0, 0) hwB] at q1
    injection q1 with q1; injection q1 with q1
  have hw8B : w8.heap[bl]? = some (.cells vs TT (0, 0)) := by rw [← setRow_other w8 b bl cc hne]; exact hwB
  rw [hnew] at k3
  obtain ⟨E'', R''⟩ := put_ob R' hbB (by rw [hgB]; simp) hwB (setRow_put1 hwB) k2 k3
  have fin : AS lt (h'.set B (.cells old')) ((fr.putD d8 (.v (.vec (.own lin v) sz (es ++ [cs])))).putD d9 .junk) g0 w0 ((a.put (some d8) sl).put (some d9) (.pointer (some ⟨b, bo + es.length * sz, none⟩))) ((w8.setRow b cc).setRow bl us) :=
    ⟨g', lb, (E.trans E').trans E'', R'', F9.mono E''⟩
  have hsize : a.tmps.size = fr.n := F.size
  have hsize8 : (a.put (some d8) sl).tmps.size = fr.n := by simpa [Act.put] using hsize
  
  have hint : a.eval iI = .int k (es.length : Nat) := by
    have := F.ev_v ev_i
    generalize a.eval iI = p at this
    cases this; rfl
  have evS : ((a.put (some d8) sl).put (some d9) (.pointer (some ⟨b, bo + es.length * sz, none⟩))).eval vS = a.eval vS := by rw [eval_put_ne nv9, eval_put_ne nv8]
  have ev9 : ((a.put (some d8) sl).put (some d9) (.pointer (some ⟨b, bo + es.length * sz, none⟩))).eval (.tmp d9) = .pointer (some ⟨b, bo + es.length * sz, none⟩) := eval_put_self (by omega)
  have rI : ∀ w', (execOp (a.put (some d8) sl).eval oI).run P w' = .ok (.value (.pointer (some ⟨b, bo + es.length * sz, none⟩))) w' := fun w' =>
    run_index_op hI htI hzI (by rw [eval_put_self (by omega), ← hsl]) (by rw [eval_put_ne ni]; exact hint)
  have rS : ∀ w', w'.heap[b]? = some (.cells c Tc (0, 0)) → (execOp ((a.put (some d8) sl).put (some d9) (.pointer (some ⟨b, bo + es.length * sz, none⟩))).eval oS).run P w' = .ok .skip (w'.setRow b cc) := fun w' hw' => by
    rw [← hcc']
    exact run_store_op hSt ev9 evS hzS hcsz hw' hn1 hsz8
  have rL8 : ∀ w', w'.heap[bl]? = some (.cells vs TT (0, 0)) → (execOp (a.put (some d8) sl).eval oL).run P w' = .ok .skip (w'.setRow bl us) := fun w' hw' => by
    rw [← hus]
    exact run_store_op hLt (by rw [eval_put_ne nl8]; exact hpB) (eval_put_self (by omega)) hzL (by rw [hslc]; rfl) hw' hsl1 (by omega)
  have rL9 : ∀ w', w'.heap[bl]? = some (.cells vs TT (0, 0)) → (execOp ((a.put (some d8) sl).put (some d9) (.pointer (some ⟨b, bo + es.length * sz, none⟩))).eval oL).run P w' = .ok .skip (w'.setRow bl us) := fun w' hw' => by
    rw [← hus]
    exact run_store_op hLt (by rw [eval_put_ne nl9, eval_put_ne nl8]; exact hpB) (by rw [eval_put_ne (fun e => ni9 (by injection e)), eval_put_self (by omega)]) hzL (by rw [hslc]; rfl) hw' hsl1 (by omega)
  have last : Q .normal ((a.put (some d8) sl).put (some d9) (.pointer (some ⟨b, bo + es.length * sz, none⟩))) ((w8.setRow b cc).setRow bl us) := hQ _ _ fin
  have last' : Q .normal ((a.put (some d8) sl).put (some d9) (.pointer (some ⟨b, bo + es.length * sz, none⟩))) ((w8.setRow bl us).setRow b cc) := by
    rw [setRow_comm w8 hne]; exact last
  refine tail_orders rd (wpOp_value (v := sl) (w' := w8) (by simpa using o1) g1 ?_ ?_)
  · rw [r1, hvx]
    simp only [Sem.run_bind, hrun, Result.andThen_ok, Sem.run_pure]
  rw [dA]
  refine ⟨wpOp_value (by simpa using o2) g2 (rI _) ?_, wpOp_skip (by simpa using o4) g4 (rL8 _ hw8B) ?_⟩
  · rw [dI]
    refine ⟨wpOp_skip (by simpa using o3) g3 (rS _ hb8) ?_, wpOp_skip (by simpa using o4) g4 (rL9 _ hw8B) ?_⟩
    · rw [dS]
      refine wpOp_skip (by simpa using o4) g4 (rL9 _ hwB) ?_
      rw [dL]; exact last
    · rw [dL]
      refine wpOp_skip (by simpa using o3) g3 (rS _ (by rw [setRow_other _ _ _ _ hne.symm]; exact hb8)) ?_
      rw [dS]; exact last'
  · rw [dL]
    refine wpOp_value (by simpa using o2) g2 (rI _) ?_
    rw [dI]
    refine wpOp_skip (by simpa using o3) g3 (rS _ (by rw [setRow_other _ _ _ _ hne.symm]; exact hb8)) ?_
    rw [dS]; exact last'
def endL (P : Program) (lt : LT) (pre : List Oper) (h : AH) (TL : AFr → AH → Prop) (ents : List Ent) (hs : List AH) (fr' : AFr) (h' : AH) : Prop :=
  ∃ kinds p, ents.map (·.kind) = kinds ∧ drawOK pre kinds = true ∧ pend (ancs pre []) (effsOf 0 kinds) (effsOf 0 kinds).length 0 kinds = p ∧ PendAll P lt pre ents (h :: hs) p ∧ TL fr' h'
def TailL (P : Program) (lt : LT) (ops : List Oper) (m : Nat) (fr : AFr) (h fr2h : AH) (fr2 : AFr) : Prop :=
  ∀ (g0 : Gh) (w0 : World) (Q : Exit → Act → World → Prop), (∀ a w, AS lt fr2h fr2 g0 w0 a w → Q .normal a w) → ∀ a w, AS lt h fr g0 w0 a w → wpAny P .any ops.toArray Q 4 (tlS m []) a w
theorem AC.drawnL {id : Nat} {pre tail : List Oper} {fr : AFr} {h : AH} {C : Exit → AFr → AH → Prop} (hm : P.follows .mixedOrders = true) (ht : tail.length = 4) (ok : okCut pre tail = true)
    (H : AD P lt pre pre fr h 0 (endL P lt pre h fun fr1 h1 => ∃ fr2 h2, TailL P lt (pre ++ tail) pre.length fr1 h1 h2 fr2 ∧ C .normal fr2 h2)) : AC P lt (.region id (pre ++ tail).toArray true) fr h C := by
  obtain ⟨ents, hs, fr', h', ⟨kinds, p, hk, ok', hp, pd, fr2, h2, tl, k⟩, T⟩ := H
  subst hp
  refine ⟨.normal, fr2, h2, k, fun g0 w0 a w S => wp_region_any hm ?_⟩
  obtain ⟨f1, f2, f3, f4, f5⟩ := T.facts 0
  obtain ⟨g, lb, E, R, F⟩ := S
  have hfalse : ∀ i, (Array.replicate pre.toArray.size false).getD i false = false := fun i => by
    rw [Array.getD_eq_getD_getElem?, Array.getElem?_replicate]
    split <;> rfl
  have hL : (fun i => (Array.replicate pre.toArray.size false).getD i false) = fun _ => false := funext hfalse
  have E1 : Ev g w g { w with drawn := w.drawn + 1 } := ⟨⟨rfl, rfl, rfl, Nat.le_refl _, fun _ _ e => e, fun _ _ e => .inl ⟨_, e⟩, fun _ _ e => e, fun _ _ e => .inl e, fun _ _ _ e => e, fun a e => ⟨e, rfl⟩, Nat.le_refl _, fun _ _ => Nat.le_refl _, fun l hl _ => ⟨rfl, rfl⟩, fun b c T fz e => ⟨c, e, rfl⟩, fun _ _ e => e, fun _ _ e => .inl e⟩, fun b hb _ _ _ => ⟨rfl, rfl⟩⟩
  have R1 : Rel g { w with drawn := w.drawn + 1 } h := by
    refine ⟨R.obl, R.obi, R.obd, fun o x e => ?_, R.obg, R.nt, R.cur, R.bll, R.tbl, R.vac, R.ext, R.pvl, R.tab_mono E1.toEvc rfl⟩
    obtain ⟨b, hb, ho⟩ := R.obj o x e
    exact ⟨b, hb, ho.mono E1.toEvc rfl fun _ _ => rfl⟩
  have hsz : (pre ++ tail).toArray.size = pre.length + 4 := by simp [ht]
  have hrep : Array.replicate (pre ++ tail).toArray.size false = Array.replicate pre.length false ++ Array.replicate tail.length false := by
    rw [hsz, ht]; apply Array.ext'; simp [List.replicate_append_replicate]
  rw [hrep, hsz]
  refine wpAny_cut (TL := fun a w => AS lt h' fr' g0 w0 a w) ok (fun a w S => ?_) _ _ _ _ (by simp) ?_ ?_
  · have := tl g0 w0 (fun e a w => e = .normal ∧ AS lt h2 fr2 g0 w0 a w) (fun a' w' S' => ⟨rfl, S'⟩) a w S
    rw [ht]; exact this
  · intro j o _ hl
    have hl : (Array.replicate pre.length false).getD j false = true := hl
    rw [show (Array.replicate pre.length false).getD j false = false from hfalse j] at hl; cases hl
  · refine drawn_all T hk ok' pd (g0 := g0) (w0 := w0) (fun a' w' S' => S') _ _ a _ h (by simp) ?_ ?_ ?_ ?_
    · intro j o _ hl
      have hl : (Array.replicate pre.length false).getD j false = true := hl
      rw [show (Array.replicate pre.length false).getD j false = false from hfalse j] at hl; cases hl
    · have hL : (fun i => (Array.replicate pre.length false).getD i false) = fun _ => false := hL
      rw [hL]
      have : ∀ r : List Nat, kOf (fun _ => false) r = 0 := fun r => by cases r <;> rfl
      rw [this]; rfl
    · have hL : (fun i => (Array.replicate pre.length false).getD i false) = fun _ => false := hL
      rw [hL, foldF_none _ _ _ (fun _ _ => rfl)]
      exact ⟨g, lb, E.trans E1, R1, F.mono E1⟩
    · exact Nat.le_trans (List.length_filter_le _ _) (by simp)
end
end Go.Am
end
section
set_option linter.unusedVariables false
set_option linter.unusedSimpArgs false
namespace Go.Proofs
end Go.Proofs
namespace Go.RowKit
end Go.RowKit
namespace Go.Am
open Go.Proofs Go.RowKit
section
variable {P : Program} {lt : LT} {g : Gh} {w w' : World} {h h0 : AH}
def RowC (g : Gh) (w : World) (cap : Nat) (cs : List AV) (vs : Array Value) : Prop := (cs.length ≤ cap ∧ cap ≤ vs.size) ∧ ∀ i (hi : i < cs.length), VR g w cs[i] (vs.getD i undef) ∧ (vs.getD i undef).oneCell' = true
theorem RowC.mono {g' : Gh} {cap : Nat} (e : Evc g w g' w') {cs : List AV} {vs : Array Value} (r : RowC g w cap cs vs) : RowC g' w' cap cs vs := ⟨r.1, fun i hi => ⟨(r.2 i hi).1.mono e, (r.2 i hi).2⟩⟩
theorem put_row {o b : Nat} {vs vs' : Array Value} {T : TypeId} {cs' : List AV} (R : Rel g w h) (hb : g.ob o = some b) (hnf : h.get o ≠ some .frz ∧ h.get o ≠ some .gone) {fz : Nat × Nat} (hw : w.heap[b]? = some (.cells vs T fz)) (hf : fz = (0, 0) ∨ vs.size ≤ fz.1)
    (p : Put1 w w' b (.cells vs' T fz)) (hs : vs'.size = vs.size) {cap : Nat} (hv : RowC g w cap cs' vs') : Ev g w g w' ∧ Rel g w' (h.set o (.row cap cs')) := by
  obtain ⟨h1, h2, h3⟩ := R.obl o b hb
  have h2 := h2 hnf.1 hnf.2
  have E : Evc g w g w' := p.evc h2 fun c T' fz e => by
    rw [hw] at e; injection e with e; injection e with e1 e2 e3; subst e1 e2 e3
    exact ⟨vs', rfl, hs⟩
  refine ⟨⟨E, fun k _ hk _ _ => ⟨p.other k fun e => hk o (e ▸ hb), rfl⟩⟩, Put1.rel R p h2 (R.pv_ob hb) E _ rfl rfl rfl rfl (fun o' y e => by simp only [AH.set]; split <;> exact ⟨_, by first | rfl | exact e⟩) (fun o' e => AH.set_gone hnf.2 e) fun o' y e => ?_⟩
  simp only [AH.set] at e
  split at e
  · rename_i h4
    subst h4
    injection e with e
    subst e
    exact .inl ⟨hb, vs', T, fz, p.at_, by rw [hs]; exact hf, (hv.mono E).1, (hv.mono E).2⟩
  · rename_i h4
    by_cases e' : g.ob o' = some b
    · rcases R.obi _ _ _ e' hb with q | q | q
      · exact absurd q h4
      · rw [e] at q; injection q with q; subst q
        exact .inl ⟨e', vs', T, _, p.at_⟩
      · exact absurd q hnf.2
    · exact .inr ⟨e, e'⟩
theorem RowC.write {cap : Nat} {cs ds : List AV} {vs : Array Value} {us : List Value} {off : Nat} (r : RowC g w cap cs vs) (hl : us.length = ds.length) (hd : ∀ i (hi : i < ds.length), VR g w ds[i] (us.getD i undef) ∧ (us.getD i undef).oneCell' = true) (h1 : off ≤ cs.length) (h2 : off + ds.length ≤ cap) :
    RowC g w cap (cs.take off ++ ds ++ cs.drop (off + ds.length)) (vs.toList.take off ++ us ++ vs.toList.drop (off + us.length)).toArray ∧ (vs.toList.take off ++ us ++ vs.toList.drop (off + us.length)).toArray.size = vs.size := by
  obtain ⟨hv0, hv⟩ := r.1
  have hz : (vs.toList.take off ++ us ++ vs.toList.drop (off + us.length)).toArray.size = vs.size := by simp; omega
  have hL : (cs.take off ++ ds ++ cs.drop (off + ds.length)).length ≤ cap := by simp; omega
  refine ⟨⟨⟨hL, by rw [hz]; exact hv⟩, fun i hi => ?_⟩, hz⟩
  have hg : (vs.toList.take off ++ us ++ vs.toList.drop (off + us.length)).toArray.getD i undef = if i < off then vs.getD i undef else if i < off + us.length then us.getD (i - off) undef else vs.getD i undef := by
    simp only [Array.getD_eq_getD_getElem?, List.getElem?_toArray, List.getElem?_append, List.length_append, List.length_take, Array.length_toList, List.getElem?_take, List.getElem?_drop, Array.getElem?_toList, List.getD_eq_getElem?_getD]
    have hm : min off vs.size = off := by omega
    rw [hm]
    by_cases q1 : i < off
    · rw [if_pos (by omega), if_pos q1, if_pos q1, if_pos q1]
    · by_cases q2 : i < off + us.length
      · rw [if_pos q2, if_neg q1, if_neg q1, if_pos q2]
      · rw [if_neg q2, if_neg q1, if_neg q2]
        congr 2
        omega
  rw [hg]
  simp only [List.length_append, List.length_take, List.length_drop] at hi
  have hm : min off cs.length = off := by omega
  rw [hm] at hi
  by_cases q1 : i < off
  · rw [if_pos q1]
    have : (cs.take off ++ ds ++ cs.drop (off + ds.length))[i]'(by simp; omega) = cs[i]'(by omega) := by
      rw [List.getElem_append_left (by simp; omega), List.getElem_append_left (by simp; omega), List.getElem_take]
    rw [this]
    exact r.2 i (by omega)
  · rw [if_neg q1]
    by_cases q2 : i < off + us.length
    · rw [if_pos q2]
      have : (cs.take off ++ ds ++ cs.drop (off + ds.length))[i]'(by simp; omega) = ds[i - off]'(by omega) := by
        rw [List.getElem_append_left (by simp; omega), List.getElem_append_right (by simp; omega)]
        simp [hm]
      rw [this]
      exact hd _ (by omega)
    · rw [if_neg q2]
      have : (cs.take off ++ ds ++ cs.drop (off + ds.length))[i]'(by simp; omega) = cs[i]'(by omega) := by
        rw [List.getElem_append_right (by simp; omega), List.getElem_drop]
        congr 1
        simp; omega
      rw [this]
      exact r.2 i (by omega)
theorem row_at {o b cap : Nat} {cs : List AV} (R : Rel g w h) (hg : h.get o = some (.row cap cs)) (hb : g.ob o = some b) : ∃ vs T fz, w.heap[b]? = some (.cells vs T fz) ∧ (fz = (0, 0) ∨ vs.size ≤ fz.1) ∧ RowC g w cap cs vs := by
  obtain ⟨b', hb', vs, T, fz, hw, hf, h1, h2⟩ := R.obj _ _ hg
  rw [hb] at hb'; injection hb' with hb'; subst hb'
  exact ⟨vs, T, fz, hw, hf, h1, h2⟩
theorem run_storeRow (b o : Nat) (T : TypeId) (fz : Nat × Nat) : ∀ (vs : List Value) (i : Nat) (cur : Array Value) (w : World), w.heap[b]? = some (.cells cur T fz) → (fz = (0, 0) ∨ cur.size ≤ fz.1) → o + i + vs.length ≤ cur.size → (∀ v ∈ vs, v.oneCell' = true) →
    (storeCells ⟨b, o, none⟩ vs i).run P w = .ok () (w.setRow b (cur.toList.take (o + i) ++ vs ++ cur.toList.drop (o + i + vs.length)).toArray)
  | [], i, cur, w, hg, _, _, _ => by
    simp only [storeCells, List.append_nil, List.length_nil, Nat.add_zero, List.take_append_drop, Array.toArray_toList]
    rw [setRow_self w b cur T fz hg]
    rfl
  | v :: rest, i, cur, w, hg, hf, hl, h1 => by
    have hi : o + i < cur.size := by simp at hl; omega
    have hcell : w.cell? ⟨b, o + i, none⟩ = some cur[o + i] := by simp [World.cell?, hg, hi]
    have hfro : w.frozen? ⟨b, o + i, none⟩ = false := by
      rcases hf with rfl | hf
      · simp [World.frozen?, hg]
      · simp only [World.frozen?, hg]
        rw [Bool.and_eq_false_iff]
        left
        simp; omega
    have hst : (store ((⟨b, o, none⟩ : Addr).add i) v).run P w = .ok () (w.setRow b (cur.setIfInBounds (o + i) v)) := by
      rw [add_mk, run_store P w _ v _ (h1 v (by simp)), hcell]
      simp [hfro, setCell_eq_setRow w b (o + i) cur T fz v hg]
    have ih := run_storeRow b o T fz rest (i + 1) (cur.setIfInBounds (o + i) v) (w.setRow b (cur.setIfInBounds (o + i) v)) (setRow_heap w b cur _ T _ hg) (by simpa using hf) (by simp at hl ⊢; omega) (fun x hx => h1 x (by simp [hx]))
    simp only [storeCells, Sem.run_bind, hst, Result.andThen_ok, ih, setRow_setRow]
    congr 3
    have e := list_seg_step cur.toList (o + i) v rest (by simp at hl ⊢; omega)
    simpa [Array.toList_setIfInBounds, Nat.add_assoc] using e
theorem setRow_put {b : Nat} {vs us : Array Value} {T : TypeId} {fz : Nat × Nat} (hw : w.heap[b]? = some (.cells vs T fz)) : Put1 w (w.setRow b us) b (.cells us T fz) :=
  ⟨rfl, rfl, rfl, by simp, setRow_heap w b vs us T fz hw, fun k hk => by
    simp only [World.setRow, Array.getElem?_modify]; rw [if_neg (fun e => hk e.symm)]⟩
theorem write_row {o b off cap : Nat} {cs ds : List AV} {us : List Value} {vs : Array Value} {T : TypeId} {fz : Nat × Nat} (R : Rel g w h) (hg : h.get o = some (.row cap cs)) (hb : g.ob o = some b) (hw : w.heap[b]? = some (.cells vs T fz)) (hf : fz = (0, 0) ∨ vs.size ≤ fz.1) (hc : RowC g w cap cs vs)
    (hl : us.length = ds.length) (hd : ∀ i (hi : i < ds.length), VR g w ds[i] (us.getD i undef) ∧ (us.getD i undef).oneCell' = true) (h1 : off ≤ cs.length) (h2 : off + ds.length ≤ cap) :
    ∃ w', (storeCells ⟨b, off, none⟩ us 0).run P w = .ok () w' ∧ Ev g w g w' ∧ Rel g w' (h.set o (.row cap (cs.take off ++ ds ++ cs.drop (off + ds.length)))) ∧ w'.heap.size = w.heap.size := by
  obtain ⟨q1, q2⟩ := hc.write hl hd h1 h2
  have hcv := hc.1
  have hst := run_storeRow (P := P) b off T fz us 0 vs w hw hf (by omega) (fun v hv => by
    obtain ⟨i, hi, rfl⟩ := List.getElem_of_mem hv
    have := (hd i (by omega)).2
    simpa [List.getD_eq_getElem?_getD, List.getElem?_eq_getElem hi] using this)
  simp only [Nat.add_zero] at hst
  obtain ⟨E, R'⟩ := put_row R hb (by rw [hg]; simp) hw hf (setRow_put hw) q2 q1
  exact ⟨_, hst, E, R', by simp⟩
end
end Go.Am
end
section
set_option linter.unusedVariables false
set_option linter.unusedSimpArgs false
namespace Go.Proofs
end Go.Proofs
namespace Go.RowKit
end Go.RowKit
namespace Go.Am
open Go.Proofs Go.RowKit
section
variable {P : Program} {lt : LT} {h h' : AH} {fr : AFr} {ops : List Oper} {o : Oper}
theorem StepD.raw {y : AV} (hw : aWanted ops fr o.guard = some true)
    (H : ∀ (g : Gh) (w : World) (ρ : Operand → Value), Rel g w h → (∀ x ∈ o.op.operands.toList, ∀ v, fr.ev x = .v v → VR g w v (ρ x)) → ∃ v g' w', (execOp ρ o).run P w = .ok (.value v) w' ∧ Ev g w g' w' ∧ Rel g' w' h' ∧ VR g' w' y v) : StepD P lt ops o fr h (.v y) h' := by
  intro fr' hn hl hf g0 w0 a w Q K S hK
  have hops := looks_op hn hf
  rw [← looks_guard hn hf] at hw
  obtain ⟨g, lb, E, R, F⟩ := S
  rw [if_pos (aWanted_sound F hw)]
  obtain ⟨v, g', w', k1, k2, k3, k4⟩ := H g w a.eval R fun x hx v hv => F.ev_v (by rw [hops x hx]; exact hv)
  unfold Oper.wp
  rw [k1]
  exact hK _ _ ⟨g', lb, E.trans k2, k3, (F.mono k2).put (s := .v y) k4 rfl⟩
theorem StepD.raw0 (hd : o.dst = none) (hw : aWanted ops fr o.guard = some true)
    (H : ∀ (g : Gh) (w : World) (ρ : Operand → Value), Rel g w h → (∀ x ∈ o.op.operands.toList, ∀ v, fr.ev x = .v v → VR g w v (ρ x)) → ∃ g' w', (execOp ρ o).run P w = .ok .skip w' ∧ Ev g w g' w' ∧ Rel g' w' h') : StepD P lt ops o fr h .junk h' := by
  intro fr' hn hl hf g0 w0 a w Q K S hK
  have hops := looks_op hn hf
  rw [← looks_guard hn hf] at hw
  obtain ⟨g, lb, E, R, F⟩ := S
  rw [if_pos (aWanted_sound F hw)]
  obtain ⟨g', w', k1, k2, k3⟩ := H g w a.eval R fun x hx v hv => F.ev_v (by rw [hops x hx]; exact hv)
  unfold Oper.wp
  rw [k1]
  exact hK (a.put o.dst undef) w' ⟨g', lb, E.trans k2, k3, (F.mono k2).put (s := .junk) trivial (by rw [hd]; rfl)⟩
theorem StepD.loadR {t : TypeId} {x : Operand} {b : Bool} {n ob off : Nat} {cs : List AV} {y : AV} (ho : o.op = .load t x) (hw : aWanted ops fr o.guard = some true) (ha : aggT P t = some b) (hz : szT P t = some n)
    (ex : fr.ev x = .v (.ptr ob off)) {cap : Nat} (hg : h.get ob = some (.row cap cs)) (hy : AV.ld b n cs off = some y) : StepD P lt ops o fr h (.v y) h := by
  refine StepD.raw hw fun g w ρ R hx => ?_
  have v1 := hx x (by rw [ho]; simp [Op.operands]) _ ex
  generalize hq : ρ x = p at v1
  cases v1 with
  | ptr _ _ bk hb =>
    obtain ⟨vs, T, fz, hwk, hf, h1, h2⟩ := row_at R hg hb
    obtain ⟨v, k1, k2⟩ := run_ld (P := P) (g := g) (w := w) ha hz hy ⟨bk, 0, none⟩ (fun i => vs.getD i undef) (fun i hi => by
      rw [add_mk]
      simp only [World.cell?, hwk, Option.isSome_none, Bool.false_eq_true, if_false, Nat.zero_add]
      simp [Array.getD_eq_getD_getElem?, Array.getElem?_eq_getElem (show i < vs.size by omega)]) (fun i hi => (h2 i hi).1) (fun i hi => (h2 i hi).2)
    rw [add_mk] at k1
    refine ⟨v, g, w, ?_, .refl g w, R, k2⟩
    have : (Instr.loadAt t (.pointer (some ⟨bk, off, none⟩))).run P w = .ok v w := by simpa [Instr.loadAt, Instr.sureAddr] using k1
    simp [execOp, ho, hq, this]
theorem StepD.storeR {t : TypeId} {x v : Operand} {n ob off : Nat} {cs ds : List AV} (ho : o.op = .store t x v) (hd : o.dst = none) (hw : aWanted ops fr o.guard = some true) (hz : szT P t = some n) (hv : evCs fr v = some ds) (hn : ds.length = n)
    (ex : fr.ev x = .v (.ptr ob off)) {cap : Nat} (hg : h.get ob = some (.row cap cs)) (h1 : off ≤ cs.length) (h2 : off + n ≤ cap) : StepD P lt ops o fr h .junk (h.set ob (.row cap (cs.take off ++ ds ++ cs.drop (off + ds.length)))) := by
  refine StepD.raw0 hd hw fun g w ρ R hx => ?_
  have v1 := hx x (by rw [ho]; simp [Op.operands]) _ ex
  have hvc : VRc g w ds (ρ v).cells := by
    unfold evCs at hv
    split at hv
    case h_2 => cases hv
    rename_i y ey
    exact (hx v (by rw [ho]; simp [Op.operands]) _ ey).cells hv
  generalize hq : ρ x = p at v1
  cases v1 with
  | ptr _ _ bk hb =>
    obtain ⟨vs, T, fz, hwk, hf, hc⟩ := row_at R hg hb
    have hl : (ρ v).cells.toList.length = ds.length := by simp [hvc.1.1]
    obtain ⟨w', k1, k2, k3, _⟩ := write_row (P := P) R hg hb hwk hf hc hl (fun i hi => by
      have := hvc.1.2 i hi
      have q := hvc.2 i hi
      have e : (ρ v).cells.toList.getD i undef = (ρ v).cells.getD i undef := by simp [Array.getD_eq_getD_getElem?, List.getD_eq_getElem?_getD]
      rw [e]
      exact ⟨this, q⟩) (off := off) h1 (by omega)
    refine ⟨g, w', ?_, k2, k3⟩
    have : (storeVar t ⟨bk, off, none⟩ (ρ v)).run P w = .ok () w' := by
      simp only [storeVar, Sem.run_bind, run_sizeOf hz, Result.andThen_ok]
      rw [if_neg (by rw [hvc.1.1, hn]; simp)]
      exact k1
    simp [execOp, ho, Instr.storeAt, Instr.sureAddr, hq, this]
end
end Go.Am
end
section
set_option linter.unusedVariables false
set_option linter.unusedSimpArgs false
namespace Go.Proofs
end Go.Proofs
namespace Go.RowKit
end Go.RowKit
namespace Go.Am
open Go.Proofs Go.RowKit
section
variable {g : Gh} {w : World} {h : AH}
def Gh.names (g : Gh) (n N b : Nat) : Gh := { g with ob := fun o => if n ≤ o ∧ o ≤ N then some b else g.ob o }
def AH.rename (h : AH) (N : Nat) (x : AObj) (D : Nat → Bool) : AH := { h with n := N + 1, get := fun o => if o = N then some x else if D o then some .gone else h.get o }
theorem Rel.rename {ro N b cap : Nat} {cs : List AV} {D : Nat → Bool} (R : Rel g w h) (hro : h.get ro = some (.row cap cs)) (hb : g.ob ro = some b) (hN : h.n ≤ N)
    (hD1 : ∀ o, h.n ≤ o → o < N → D o = true) (hD2 : D ro = true) (hD3 : ∀ o, D o = true → o < h.n → ∃ cap cs, h.get o = some (.row cap cs)) (hD4 : ∀ o, D o = true → o < N) :
    Ev g w (g.names h.n N b) w ∧ Rel (g.names h.n N b) w (h.rename N (.row cap cs) D) := by
  obtain ⟨b', hb', vs, T, fz, hw, hf, h1, h2⟩ := R.obj _ _ hro
  rw [hb] at hb'; injection hb' with hb'; subst hb'
  obtain ⟨q1, q2, q3⟩ := R.obl ro b hb
  have q2 := q2 (by rw [hro]; simp) (by rw [hro]; simp)
  have old : ∀ o b', g.ob o = some b' → (g.names h.n N b).ob o = some b' := fun o b' e => by
    have := R.obd o b' e
    simp only [Gh.names]; rw [if_neg (by omega)]; exact e
  have new : ∀ o b', (g.names h.n N b).ob o = some b' → (h.n ≤ o ∧ o ≤ N ∧ b' = b) ∨ (o < h.n ∧ g.ob o = some b') := fun o b' e => by
    simp only [Gh.names] at e
    split at e
    · rename_i q; injection e with e; exact .inl ⟨q.1, q.2, e.symm⟩
    · exact .inr ⟨R.obd o b' e, e⟩
  have E : Ev g w (g.names h.n N b) w := ⟨⟨rfl, rfl, rfl, Nat.le_refl _, old, fun o b' e => by
    rcases new o b' e with ⟨_, _, rfl⟩ | ⟨_, e⟩
    · exact .inl ⟨ro, hb⟩
    · exact .inl ⟨_, e⟩, fun _ _ e => e, fun _ _ e => .inl e, fun _ _ _ e => e, fun a e => ⟨e, rfl⟩, Nat.le_refl _, fun _ _ => Nat.le_refl _, fun _ _ _ => ⟨rfl, rfl⟩, fun b c T fz e => ⟨c, e, rfl⟩, fun _ _ e => e, fun _ _ e => .inl e⟩, fun b hb _ _ _ => ⟨rfl, rfl⟩⟩
  have gN : (h.rename N (.row cap cs) D).get N = some (.row cap cs) := by simp [AH.rename]
  have gD : ∀ o, D o = true → (h.rename N (.row cap cs) D).get o = some .gone := fun o e => by
    have := hD4 o e
    simp only [AH.rename]; rw [if_neg (by omega), if_pos e]
  have gO : ∀ o, o < h.n → D o = false → (h.rename N (.row cap cs) D).get o = h.get o := fun o e e' => by
    simp only [AH.rename]; rw [if_neg (by omega), if_neg (by rw [e']; simp)]
  have gB : ∀ o b', g.ob o = some b' → o < h.n → (D o = true ∧ ∃ c T fz, w.heap[b']? = some (.cells c T fz)) ∨ D o = false := fun o b' e e' => by
    cases hd : D o with
    | false => exact .inr rfl
    | true =>
      obtain ⟨cap', cs', k⟩ := hD3 o hd e'
      obtain ⟨b2, k1, vs', T', fz', k2, _⟩ := R.obj _ _ k
      rw [e] at k1; injection k1 with k1; subst k1
      exact .inl ⟨rfl, vs', T', fz', k2⟩
  refine ⟨E, fun o b' e => ?_, fun o1 o2 b' e1 e2 => ?_, fun o b' e => ?_, fun o y e => ?_, fun o b' e => ?_, R.nt, R.cur, R.bll, R.tbl, R.vac, R.ext, fun k c e => ?_, R.tab_mono E.toEvc rfl⟩
  · rcases new o b' e with ⟨_, _, rfl⟩ | ⟨hlt, e⟩
    · exact ⟨q1, fun _ _ => q2, q3⟩
    · obtain ⟨k1, k2, k3⟩ := R.obl o b' e
      refine ⟨k1, fun f1 f2 => ?_, k3⟩
      rcases gB o b' e hlt with ⟨hd, _⟩ | hd
      · exact absurd (gD o hd) f2
      · rw [gO o hlt hd] at f1 f2
        exact k2 f1 f2
  · rcases new o1 b' e1 with ⟨a1, a2, rfl⟩ | ⟨hlt, e1'⟩
    · rcases Nat.lt_or_ge o1 N with hl | hl
      · exact .inr (.inl (gD o1 (hD1 o1 a1 hl)))
      · have : o1 = N := by omega
        subst this
        rcases new o2 _ e2 with ⟨c1, c2, _⟩ | ⟨hlt2, e2⟩
        · rcases Nat.lt_or_ge o2 o1 with hl2 | hl2
          · exact .inr (.inr (gD o2 (hD1 o2 c1 hl2)))
          · exact .inl (by omega)
        · rcases R.obi _ _ _ e2 hb with rfl | q | q
          · exact .inr (.inr (gD _ hD2))
          · cases hd : D o2 with
            | true => exact .inr (.inr (gD _ hd))
            | false => exact .inr (.inr (by rw [gO o2 hlt2 hd]; exact q))
          · rw [hro] at q; cases q
    · rcases new o2 b' e2 with ⟨c1, c2, rfl⟩ | ⟨hlt2, e2⟩
      · rcases Nat.lt_or_ge o2 N with hl | hl
        · exact .inr (.inr (gD o2 (hD1 o2 c1 hl)))
        · rcases R.obi _ _ _ e1' hb with rfl | q | q
          · exact .inr (.inl (gD _ hD2))
          · cases hd : D o1 with
            | true => exact .inr (.inl (gD _ hd))
            | false => exact .inr (.inl (by rw [gO o1 hlt hd]; exact q))
          · rw [hro] at q; cases q
      · rcases R.obi _ _ _ e1' e2 with q | q | q
        · exact .inl q
        · cases hd : D o1 with
          | true => exact .inr (.inl (gD _ hd))
          | false => exact .inr (.inl (by rw [gO o1 hlt hd]; exact q))
        · cases hd : D o2 with
          | true => exact .inr (.inr (gD _ hd))
          | false => exact .inr (.inr (by rw [gO o2 hlt2 hd]; exact q))
  · rcases new o b' e with ⟨_, a2, _⟩ | ⟨hlt, _⟩
    · simp only [AH.rename]; omega
    · simp only [AH.rename]; omega
  · by_cases hoN : o = N
    · subst hoN
      rw [gN] at e; injection e with e; subst e
      exact ⟨b, by simp only [Gh.names]; rw [if_pos ⟨hN, Nat.le_refl _⟩], vs, T, fz, hw, hf, h1, fun i hi => ⟨(h2 i hi).1.mono E.toEvc, (h2 i hi).2⟩⟩
    · cases hd : D o with
      | true =>
        rw [gD o hd] at e; injection e with e; subst e
        rcases Nat.lt_or_ge o h.n with hlt | hge
        · obtain ⟨cap', cs', k⟩ := hD3 o hd hlt
          obtain ⟨b2, k1, vs', T', fz', k2, _⟩ := R.obj _ _ k
          exact ⟨b2, old _ _ k1, vs', T', fz', k2⟩
        · exact ⟨b, by simp only [Gh.names]; rw [if_pos ⟨hge, Nat.le_of_lt (hD4 o hd)⟩], vs, T, fz, hw⟩
      | false =>
        simp only [AH.rename] at e
        rw [if_neg hoN, if_neg (by rw [hd]; simp)] at e
        obtain ⟨b2, k1, k2⟩ := R.obj o y e
        exact ⟨b2, old _ _ k1, k2.mono E.toEvc rfl fun _ _ => rfl⟩
  · rcases new o b' e with ⟨a1, a2, _⟩ | ⟨hlt, e⟩
    · rcases Nat.lt_or_ge o N with hl | hl
      · exact ⟨_, gD o (hD1 o a1 hl)⟩
      · have : o = N := by omega
        subst this
        exact ⟨_, gN⟩
    · cases hd : D o with
      | true => exact ⟨_, gD o hd⟩
      | false => rw [gO o hlt hd]; exact R.obg o b' e
  · obtain ⟨k1, k2, k3, k4⟩ := R.pvl k c e
    refine ⟨k1, k2, k3, fun o e' => ?_⟩
    rcases new o k e' with ⟨_, _, rfl⟩ | ⟨_, e'⟩
    · exact k4 _ hb
    · exact k4 _ e'
theorem Rel.said {o : Nat} {x y : AObj} (R : Rel g w h) (hx : h.get o = some x) (hf : x ≠ .frz ∧ x ≠ .gone) (hy : ∀ b, g.ob o = some b → OR g w x b → OR g w y b) : Rel g w (h.set o y) := by
  refine ⟨fun o' b e => ?_, fun o1 o2 b e1 e2 => ?_, R.obd, fun o' z e => ?_, fun o' b e => ?_, R.nt, R.cur, R.bll, R.tbl, R.vac, R.ext, R.pvl, R.tab⟩
  · obtain ⟨k1, k2, k3⟩ := R.obl o' b e
    refine ⟨k1, fun f1 f2 => ?_, k3⟩
    simp only [AH.set] at f1 f2
    by_cases q : o' = o
    · subst q; exact k2 (by rw [hx]; intro e; injection e with e; exact hf.1 e) (by rw [hx]; intro e; injection e with e; exact hf.2 e)
    · rw [if_neg q] at f1 f2; exact k2 f1 f2
  · have hng : h.get o ≠ some .gone := by rw [hx]; intro e; injection e with e; exact hf.2 e
    exact (R.obi o1 o2 b e1 e2).imp id fun q => q.imp (AH.set_gone hng) (AH.set_gone hng)
  · simp only [AH.set] at e
    split at e
    · rename_i q; subst q; injection e with e; subst e
      obtain ⟨b, k1, k2⟩ := R.obj _ _ hx
      exact ⟨b, k1, hy b k1 k2⟩
    · exact R.obj o' z e
  · obtain ⟨z, hz⟩ := R.obg o' b e
    simp only [AH.set]
    split <;> exact ⟨_, by first | rfl | exact hz⟩
end
end Go.Am
end
section
set_option linter.unusedVariables false
set_option linter.unusedSimpArgs false
namespace Go.Proofs
end Go.Proofs
namespace Go.RowKit
end Go.RowKit
namespace Go.Am
open Go.Proofs Go.RowKit
section
variable {P : Program} {lt : LT} {h h' : AH} {fr : AFr} {ops : List Oper} {o : Oper}
abbrev byteA (b : UInt8) : AV := .int .u8 b.toNat
def copyArgs (op : Op) : Option (Operand × Operand × TypeId × TypeId) :=
  match op with
  | .call c => match c.callee with
    | .builtin .copy => match c.args.toList, c.argTypes.toList with
      | [s, x], [t, t'] => some (s, x, t, t')
      | _, _ => none
    | _ => none
  | _ => none
theorem copyArgs_run {s x : Operand} {t t' : TypeId} (hx : copyArgs o.op = some (s, x, t, t')) (ρ : Operand → Value) : (execOp ρ o) = (do pure (.value (← Builtin.copy_ #[t, t'] o.type #[ρ s, ρ x]))) ∧ s ∈ o.op.operands.toList ∧ x ∈ o.op.operands.toList := by
  obtain ⟨dst, op, ty, pos, after, guard⟩ := o
  simp only at hx ⊢
  unfold copyArgs at hx
  split at hx
  case h_2 => cases hx
  rename_i c
  obtain ⟨callee, args, argTypes⟩ := c
  simp only at hx
  split at hx
  case h_2 => cases hx
  split at hx
  case h_2 => cases hx
  rename_i a1 a2 t1 t2 e1 e2
  injection hx with hx; injection hx with q1 hx; injection hx with q2 hx; injection hx with q3 q4
  subst q1 q2 q3 q4
  have e1 : args = #[a1, a2] := Array.ext' e1
  have e2 : argTypes = #[t1, t2] := Array.ext' e2
  subst e1 e2
  refine ⟨?_, by simp [Op.operands, Call.operands], by simp [Op.operands, Call.operands]⟩
  simp [execOp, resolve, invoke, builtin]
theorem StepD.copyS {x y : Operand} {dT sT e : TypeId} {ob off n c cap : Nat} {exf : Bool} {cs : List AV} {s : List UInt8} (ha : copyArgs o.op = some (x, y, dT, sT)) (hw : aWanted ops fr o.guard = some true) (ht : P.underlying dT = some (.slice e)) (hz : szT P e = some 1)
    (ex : fr.ev x = .v (.sl ob off n c exf)) (ey : fr.ev y = .v (.str s)) (hg : h.get ob = some (.row cap cs)) (h1 : off ≤ cs.length) (h2 : s.length ≤ n) (h3 : off + s.length ≤ cap) :
    StepD P lt ops o fr h (.v (.int .i64 s.length)) (h.set ob (.row cap (cs.take off ++ s.map byteA ++ cs.drop (off + (s.map byteA).length)))) := by
  refine StepD.raw hw fun g w ρ R hx => ?_
  obtain ⟨r1, r2, r3⟩ := copyArgs_run ha ρ
  have v1 := hx x r2 _ ex
  have v2 := hx y r3 _ ey
  rw [r1]
  generalize ρ x = p at v1
  generalize ρ y = q at v2
  cases v1 with
  | sl _ _ _ _ _ b rc hb hs hn hrc hex hcap =>
    generalize hss : AV.str s = sv at v2
    cases v2 <;> cases hss
    rename_i sb
    obtain ⟨vs, T, fz, hwk, hf, hc⟩ := row_at R hg hb
    obtain ⟨w', k1, k2, k3, _⟩ := write_row (P := P) (us := sb.data.toList.map fun b => .int .u8 b.toNat) (ds := sb.data.toList.map byteA) R hg hb hwk hf hc (by simp) (fun i hi => by
      simp only [List.length_map] at hi
      simp only [List.getElem_map, List.getD_eq_getElem?_getD, List.getElem?_map, List.getElem?_eq_getElem hi, Option.map_some, Option.getD_some]
      exact ⟨.int _ _, rfl⟩) h1 (by simpa using h3)
    refine ⟨.int .i64 sb.data.toList.length, g, w', ?_, k2, k3, .int _ _⟩
    have hmin : Nat.min sb.size n = sb.size := Nat.min_eq_left (by simpa using h2)
    have htk : List.take sb.size (List.map (fun b : UInt8 => Value.int IntKind.u8 (b.toNat : Int)) sb.data.toList) = sb.data.toList.map fun b => .int .u8 b.toNat := by
      rw [List.take_of_length_le (by simp)]
    simp [Builtin.copy_, run_underlying ht, Builtin.lenOf, Builtin.firstCells, run_sizeOf hz, hmin]
    rw [htk, k1]
    simp [Result.andThen, goInt]
def srcOf (h : AH) : AV → Option (List AV)
  | .nilsl => some []
  | .sl o off n _ _ => match h.get o with
    | some (.row _ cs) => if off + n ≤ cs.length then some ((cs.drop off).take n) else none
    | _ => none
  | .vec _ 1 es => some (es.map fun e => e.headD .nilp)
  | _ => none
theorem srcOf_run {g : Gh} {w : World} {x : AV} {v : Value} {ys : List AV} (R : Rel g w h) (hs : srcOf h x = some ys) (r : VR g w x v) :
    (v = .slice none 0 0 ∧ ys = []) ∨ ∃ ad cap, ∃ us : List Value, v = .slice (some ad) ys.length cap ∧ us.length = ys.length ∧ (∀ k u, us[k]? = some u → w.cell? (ad.add k) = some u) ∧ ∀ i (hi : i < ys.length), VR g w ys[i] (us.getD i undef) ∧ (us.getD i undef).oneCell' = true := by
  unfold srcOf at hs
  split at hs
  case h_1 => injection hs with hs; subst hs; cases r; exact .inl ⟨rfl, rfl⟩
  case h_2 ob off n c exf =>
    split at hs
    case h_2 => cases hs
    rename_i cap cs hg
    split at hs
    case isFalse => cases hs
    rename_i hle
    injection hs with hs; subst hs
    cases r with
    | sl _ _ _ _ _ b rc hb hsh hn hrc hex hcap =>
      obtain ⟨vs, T, fz, hwk, hf, h1, h2⟩ := row_at R hg hb
      have hL : ((cs.drop off).take n).length = n := by simp; omega
      have hL2 : ((vs.toList.drop off).take n).length = n := by simp; omega
      refine .inr ⟨⟨b, off, none⟩, rc, (vs.toList.drop off).take n, by rw [hL], by rw [hL, hL2], fun k u hk => ?_, fun i hi => ?_⟩
      · rw [add_mk]
        have hkn : k < n := by have := (List.getElem?_eq_some_iff.1 hk).1; omega
        rw [List.getElem?_take, if_pos hkn, List.getElem?_drop] at hk
        simp only [World.cell?, hwk, Option.isSome_none, Bool.false_eq_true, if_false]
        simpa using hk
      · rw [hL] at hi
        have e1 : ((vs.toList.drop off).take n).getD i undef = vs.getD (off + i) undef := by
          simp only [List.getD_eq_getElem?_getD, List.getElem?_take, if_pos hi, List.getElem?_drop, Array.getD_eq_getD_getElem?, Array.getElem?_toList]
        rw [e1]
        have := h2 (off + i) (by omega)
        simpa using this
  case h_3 tk es =>
    injection hs with hs; subst hs
    have hq : elemsOf 1 (.vec tk 1 es) = some es := rfl
    rcases elemsOf_run (by omega) r hq with ⟨e1, e2⟩ | ⟨ad, cap, e1, h1, us, h2, h3, h4⟩
    · subst e2; exact .inl ⟨e1, rfl⟩
    · refine .inr ⟨ad, cap, us, by simpa using e1, by simpa using h2, fun k u hk => (h3 k u hk).1, fun i hi => ?_⟩
      have hi' : i < es.length := by simpa using hi
      have q1 := h1 i hi'
      have q2 := h4 i 0 hi' (by omega)
      simp only [Nat.mul_one, Nat.add_zero] at q2
      have q3 : i < us.length := by omega
      have q4 := (h3 i us[i] (List.getElem?_eq_getElem q3)).2.1
      have e3 : us.getD i undef = us[i] := by simp [List.getD_eq_getElem?_getD, q3]
      rw [e3] at q2 ⊢
      refine ⟨?_, q4⟩
      have e4 : (es.map fun e => e.headD .nilp)[i]'hi = es[i][0]'(by omega) := by
        simp only [List.getElem_map]
        have : ∀ (l : List AV) (hl : l.length = 1), l.headD .nilp = l[0]'(by omega) := fun l hl => by
          match l, hl with
          | [x], _ => rfl
        exact this _ q1
      rw [e4]; exact q2
  case h_4 => cases hs
theorem getD_one {us : List Value} {ys : List AV} {g : Gh} {w : World} (hl : us.length = ys.length) (h : ∀ i (hi : i < ys.length), VR g w ys[i] (us.getD i undef) ∧ (us.getD i undef).oneCell' = true) : ∀ u ∈ us, u.oneCell' = true := fun u hu => by
  obtain ⟨i, hi, rfl⟩ := List.getElem_of_mem hu
  have := (h i (by omega)).2
  simpa [List.getD_eq_getElem?_getD, List.getElem?_eq_getElem hi] using this
theorem StepD.copyR {x y : Operand} {yv : AV} {dT sT e : TypeId} {ob off n c cap : Nat} {exf : Bool} {cs ys : List AV} (ha : copyArgs o.op = some (x, y, dT, sT)) (hw : aWanted ops fr o.guard = some true) (ht : P.underlying dT = some (.slice e)) (hz : szT P e = some 1)
    (ex : fr.ev x = .v (.sl ob off n c exf)) (ey : fr.ev y = .v yv) (hs : srcOf h yv = some ys) (hg : h.get ob = some (.row cap cs)) (h1 : off ≤ cs.length) (h2 : ys.length ≤ n) (h3 : off + ys.length ≤ cap) :
    StepD P lt ops o fr h (.v (.int .i64 ys.length)) (h.set ob (.row cap (cs.take off ++ ys ++ cs.drop (off + ys.length)))) := by
  refine StepD.raw hw fun g w ρ R hx => ?_
  obtain ⟨r1, r2, r3⟩ := copyArgs_run ha ρ
  have v1 := hx x r2 _ ex
  have v2 := hx y r3 _ ey
  rw [r1]
  generalize ρ x = p at v1
  generalize ρ y = q at v2
  cases v1 with
  | sl _ _ _ _ _ b rc hb hsh hn hrc hex hcap =>
    obtain ⟨vs, T, fz, hwk, hf, hc⟩ := row_at R hg hb
    rcases srcOf_run R hs v2 with ⟨rfl, rfl⟩ | ⟨ad, cap', us, rfl, u1, u2, u3⟩
    · obtain ⟨w', k1, k2, k3, _⟩ := write_row (P := P) (us := []) (ds := []) R hg hb hwk hf hc rfl (fun i hi => by simp at hi) h1 (by simpa using h3)
      refine ⟨.int .i64 0, g, w', ?_, k2, k3, .int _ _⟩
      simp [Builtin.copy_, run_underlying ht, Builtin.lenOf, Builtin.firstCells, run_sizeOf hz]
      rw [k1]
      simp [Result.andThen, goInt]
    · obtain ⟨w', k1, k2, k3, _⟩ := write_row (P := P) (us := us) (ds := ys) R hg hb hwk hf hc u1 u3 h1 h3
      refine ⟨.int .i64 ys.length, g, w', ?_, k2, k3, .int _ _⟩
      have hmin : Nat.min ys.length n = ys.length := Nat.min_eq_left h2
      have hf := run_firstCells_some (P := P) w 1 ys.length ad ys.length cap' us (by omega) (fun j u hj => u2 j u hj)
      simp [Builtin.copy_, run_underlying ht, Builtin.lenOf, run_sizeOf hz, hmin, hf, k1, goInt]
end
end Go.Am
end
section
set_option linter.unusedVariables false
set_option linter.unusedSimpArgs false
namespace Go.Proofs
end Go.Proofs
namespace Go.RowKit
end Go.RowKit
namespace Go.Am
open Go.Proofs Go.RowKit
theorem below_ev {g : Gh} {w w' : World} {h : AH} (R : Rel g w h) (b : Below w.heap.size w w') : Ev g w g w' ∧ Rel g w' h := by
  have old : ∀ k, k < w.heap.size → w'.heap[k]? = w.heap[k]? := b.block
  have E : Ev g w g w' := ⟨⟨b.os, b.tape, b.output, b.size, fun _ _ e => e, fun _ _ e => .inl ⟨_, e⟩, fun _ _ e => e, fun _ _ e => .inl e, fun _ _ _ e => e, fun a e => ⟨e, cell_congr (old _ (R.ext_lt (b := a.block) (by omega)))⟩, Nat.le_refl _, fun _ _ => Nat.le_refl _, fun _ _ _ => ⟨rfl, rfl⟩,
    fun k c T fz e => ⟨c, by rw [old _ (heap_lt e)]; exact e, rfl⟩, fun _ _ e => e, fun _ _ e => .inl e⟩, fun k hk _ _ _ => ⟨old k hk, rfl⟩⟩
  refine ⟨E, fun o k e => ?_, R.obi, R.obd, fun o x e => ?_, R.obg, R.nt, R.cur, fun k l e => ?_, R.tbl, R.vac, fun k e => ?_, fun k c e => ?_, R.tab_mono E.toEvc rfl⟩
  · obtain ⟨h1, h2, h3⟩ := R.obl o k e
    exact ⟨Nat.lt_of_lt_of_le h1 b.size, h2, h3⟩
  · obtain ⟨k, hk, ho⟩ := R.obj o x e
    exact ⟨k, hk, ho.mono E.toEvc (old k (R.obl _ _ hk).1) (R.pv_old old k)⟩
  · obtain ⟨h1, h2⟩ := R.bll k l e
    exact ⟨h1, Nat.lt_of_lt_of_le h2 b.size⟩
  · obtain ⟨c, T, fz, h1, h2⟩ := R.ext k e
    exact ⟨c, T, fz, by rw [old _ (heap_lt h1)]; exact h1, h2⟩
  · obtain ⟨h1, h2⟩ := R.pvl k c e
    exact ⟨Nat.lt_of_lt_of_le h1 b.size, h2⟩
section
variable {P : Program} {lt : LT} {h h' : AH} {fr : AFr} {ops : List Oper} {o : Oper}
theorem drew_ok {g : Gh} {w : World} (R : Rel g w h) : Ev g w g w.drew ∧ Rel g w.drew h :=
  below_ev R ⟨rfl, rfl, rfl, Nat.le_refl _, fun _ _ => rfl⟩
theorem StepD.appNew {s x : Operand} {yv : AV} {t : TypeId} {by_ : Nat} {ys : List AV} (ha : appArgs o.op = some (s, x, t)) (hw : aWanted ops fr o.guard = some true) (hi : appInfo P t = some (1, by_))
    (es : fr.ev s = .v .nilsl) (ex : fr.ev x = .v yv) (hs : srcOf h yv = some ys) (hne : ys ≠ []) (hb : ys.length * (by_ + 1) ≤ 140737488355328) :
    StepD P lt ops o fr h (.v (.sl h.n 0 ys.length ys.length false)) (h.push (.row ys.length ys)) := by
  refine StepD.raw hw fun g w ρ R hx => ?_
  obtain ⟨r1, r2, r3⟩ := appArgs_run ha ρ
  obtain ⟨e, i, z, T, rfl⟩ := appInfo_sound hi
  have v1 := hx s r2 _ es
  have v2 := hx x r3 _ ex
  rw [r1]
  generalize ρ s = p at v1
  generalize ρ x = q at v2
  cases v1
  have h0 : 0 < ys.length := List.length_pos_iff.2 hne
  rw [Nat.mul_succ] at hb
  rcases srcOf_run R hs v2 with ⟨rfl, rfl⟩ | ⟨ad, cap', us, rfl, u1, u2, u3⟩
  · exact absurd rfl hne
  · have hr := run_append_nil (P := P) w t o.type e i z T.ht T.hi T.hz ad ys.length cap' us (by rw [T.hsz]; omega) u2 h0 (by omega) (by omega)
    have hge := grownCap_ge w ys.length 0 e
    have hle := grownCap_le_maxLen w ys.length 0 e (by simp only [maxLen]; omega)
    simp only [maxLen] at hle
    obtain ⟨E0, R0⟩ := drew_ok R
    have hzs := T.hzs
    have hsize : (us.toArray ++ Builtin.zeroCells z.cells (grownCap w ys.length 0 e - ys.length)).size = grownCap w ys.length 0 e := by
      simp [Builtin.zeroCells, hzs]; omega
    obtain ⟨E, R'⟩ := alloc_ob R0 (.cells (us.toArray ++ Builtin.zeroCells z.cells (grownCap w ys.length 0 e - ys.length)) e) (.row ys.length ys) fun g' E => ⟨us.toArray ++ Builtin.zeroCells z.cells (grownCap w ys.length 0 e - ys.length), e, (0, 0), by rw [heap_alloc]; simp, .inl rfl, ⟨Nat.le_refl _, by rw [hsize]; omega⟩, fun i hi => by
      have e1 : (us.toArray ++ Builtin.zeroCells z.cells (grownCap w ys.length 0 e - ys.length)).getD i undef = us.getD i undef := by
        simp [Array.getD_eq_getD_getElem?, List.getD_eq_getElem?_getD, Array.getElem?_append, show i < us.length by omega]
      rw [e1]
      exact ⟨((u3 i hi).1.mono E0.toEvc).mono E, (u3 i hi).2⟩⟩
    refine ⟨.slice (some ⟨w.heap.size, 0, none⟩) ys.length (grownCap w ys.length 0 e), _, _, by simp only [Sem.run_bind, hr, Result.andThen_ok, Sem.run_pure], E0.trans E, R', ?_⟩
    refine .sl _ _ _ _ _ w.heap.size _ (if_pos rfl) ⟨_, e, (0, 0), by rw [heap_alloc]; exact if_pos rfl, ?_⟩ (Nat.le_refl _) hge (fun e => by cases e) (by omega)
    rw [hsize]; omega
theorem AH.ext {a b : AH} (h1 : a.n = b.n) (h2 : ∀ o, a.get o = b.get o) (h3 : a.nt = b.nt) (h4 : a.tip = b.tip) (h5 : a.tabs = b.tabs) : a = b := by
  cases a; cases b
  simp only at h1 h3 h4 h5 h2
  subst h1 h3 h4 h5
  congr 1
  exact funext h2
theorem StepD.appR {s x : Operand} {yv : AV} {t : TypeId} {by_ ob n c cap : Nat} {exf : Bool} {cs ys : List AV} (ha : appArgs o.op = some (s, x, t)) (hw : aWanted ops fr o.guard = some true) (hi : appInfo P t = some (1, by_))
    (es : fr.ev s = .v (.sl ob 0 n c exf)) (ex : fr.ev x = .v yv) (hs : srcOf h yv = some ys) (hg : h.get ob = some (.row cap cs)) (hob : ob < h.n) (hn : n ≤ cs.length) (hne : ys ≠ []) (hb : (n + ys.length) * (by_ + 1) ≤ 140737488355328) :
    StepD P lt ops o fr h (.v (.sl h.n 0 (n + ys.length) (n + ys.length) false)) (h.rename h.n (.row (n + ys.length) (cs.take n ++ ys)) fun k => Nat.beq k ob) := by
  refine StepD.raw hw fun g w ρ R hx => ?_
  obtain ⟨r1, r2, r3⟩ := appArgs_run ha ρ
  obtain ⟨e, i, z, T, rfl⟩ := appInfo_sound hi
  have v1 := hx s r2 _ es
  have v2 := hx x r3 _ ex
  rw [r1]
  generalize ρ s = p at v1
  generalize ρ x = q at v2
  rw [Nat.mul_succ] at hb
  cases v1 with
  | sl _ _ _ _ _ b rc hbo hsh hnc hrc hex hcap =>
    obtain ⟨vs, T2, fz, hwk, hf, hc⟩ := row_at R hg hbo
    obtain ⟨c0, T0, fz0, q1, q2⟩ := hsh
    rw [hwk] at q1; injection q1 with q1; injection q1 with q1 q3 q4; subst q1 q3 q4
    have hcc := hc.1
    have hL : (cs.take n ++ ys).length = n + ys.length := by simp; omega
    rcases srcOf_run R hs v2 with ⟨rfl, rfl⟩ | ⟨ad, cap', us, rfl, u1, u2, u3⟩
    · exact absurd rfl hne
    have hk0 : 0 < ys.length := List.length_pos_iff.2 hne
    have hone := getD_one u1 u3
    by_cases hroom : n + ys.length ≤ rc
    · 
      have R1 : Rel g w (h.set ob (.row vs.size cs)) := R.said hg (by simp) fun b' hb' ho => by
        rw [hbo] at hb'; injection hb' with hb'; subst hb'
        exact ⟨vs, T2, fz, hwk, hf, ⟨by omega, Nat.le_refl _⟩, hc.2⟩
      have hg1 : (h.set ob (.row vs.size cs)).get ob = some (.row vs.size cs) := by simp [AH.set]
      obtain ⟨w', k1, k2, k3, _⟩ := write_row (P := P) (us := us) (ds := ys) (off := n) R1 hg1 hbo hwk hf ⟨⟨by omega, Nat.le_refl _⟩, hc.2⟩ u1 u3 hn (by omega)
      have hg2 : ((h.set ob (.row vs.size cs)).set ob (.row vs.size (cs.take n ++ ys ++ cs.drop (n + ys.length)))).get ob = some (.row vs.size (cs.take n ++ ys ++ cs.drop (n + ys.length))) := by simp [AH.set]
      have R3 := k3.said (y := .row (n + ys.length) (cs.take n ++ ys)) hg2 (by simp) fun b' hb' ho => by
        obtain ⟨vs', T', fz', o1, o2, o3, o4⟩ := ho
        rw [hbo] at hb'; injection hb' with hb'; subst hb'
        refine ⟨vs', T', fz', o1, o2, ⟨by omega, ?_⟩, fun i hi => ?_⟩
        · have := o3.2; omega
        · have := o4 i (by simp at hi ⊢; omega)
          rwa [List.getElem_append_left hi] at this
      obtain ⟨E4, R4⟩ := R3.rename (ro := ob) (N := h.n) (b := b) (cap := n + ys.length) (cs := cs.take n ++ ys) (D := fun k => Nat.beq k ob) (by simp [AH.set]) hbo (Nat.le_refl _) (fun o h1 h2 => by simp only [AH.set] at h1; omega) (Nat.beq_refl _) (fun o hd hl => by
        have := Nat.eq_of_beq_eq_true hd
        subst this
        exact ⟨n + ys.length, cs.take n ++ ys, by simp [AH.set]⟩) (fun o hd => by have := Nat.eq_of_beq_eq_true hd; omega)
      have hh : (((h.set ob (.row vs.size cs)).set ob (.row vs.size (cs.take n ++ ys ++ cs.drop (n + ys.length)))).set ob (.row (n + ys.length) (cs.take n ++ ys))).rename h.n (.row (n + ys.length) (cs.take n ++ ys)) (fun k => Nat.beq k ob) = h.rename h.n (.row (n + ys.length) (cs.take n ++ ys)) fun k => Nat.beq k ob := by
        refine AH.ext rfl (fun k => ?_) rfl rfl rfl
        simp only [AH.rename, AH.set]
        by_cases q1 : k = h.n
        · rw [if_pos q1, if_pos q1]
        · rw [if_neg q1, if_neg q1]
          by_cases q2 : k = ob
          · subst q2; rw [if_pos (Nat.beq_refl _), if_pos (Nat.beq_refl _)]
          · simp only [beq_false_of_ne q2, Bool.false_eq_true, if_false, if_neg q2]
      rw [hh] at R4
      have hf1 := run_firstCells_some (P := P) w 1 ys.length ad ys.length cap' us (by omega) (fun j u hj => u2 j u hj)
      have hsz := T.hsz
      have hrun : (Builtin.append_ #[t, t] o.type #[.slice (some ⟨b, 0, none⟩) n rc, .slice (some ad) ys.length cap']).run P w = .ok (.slice (some ⟨b, 0, none⟩) (n + ys.length) rc) w' := by
        simp [Builtin.append_, run_underlying T.ht, sizeOf, typeInfo, T.hi, hsz, Builtin.lenOf, hroom, hf1, add_mk, k1]
      refine ⟨.slice (some ⟨b, 0, none⟩) (n + ys.length) rc, _, _, by simp only [Sem.run_bind, hrun, Result.andThen_ok, Sem.run_pure], k2.trans E4, R4, ?_⟩
      obtain ⟨c1, p1, p2⟩ := k2.shape b _ _ _ hwk
      exact .sl _ _ _ _ _ b rc (by simp [Gh.names, AH.set]) ⟨c1, _, _, p1, by omega⟩ (Nat.le_refl _) hroom (fun e => by cases e) hcap
    · 
      have hol : ((vs.toList.take n)).length = n := by simp; omega
      have hr := run_append_grow (P := P) w t o.type e i z T.ht T.hi T.hz ⟨b, 0, none⟩ n rc (vs.toList.take n) (by rw [T.hsz, hol]; omega) (fun j v hj => by
        rw [add_mk]
        have hjn : j < n := by have := (List.getElem?_eq_some_iff.1 hj).1; omega
        rw [List.getElem?_take, if_pos hjn] at hj
        simp only [World.cell?, hwk, Option.isSome_none, Bool.false_eq_true, if_false, Nat.zero_add]
        simpa using hj) ad ys.length cap' us (by rw [T.hsz]; omega) u2 (by omega) (by omega) (growslice_fits (by omega) (by omega))
      have hge := grownCap_ge w (n + ys.length) rc e
      have hle := grownCap_le_maxLen w (n + ys.length) rc e (by simp only [maxLen]; omega)
      simp only [maxLen] at hle
      obtain ⟨E0, R0⟩ := drew_ok R
      have hzs := T.hzs
      generalize hC : (vs.toList.take n).toArray ++ us.toArray ++ Builtin.zeroCells z.cells (grownCap w (n + ys.length) rc e - (n + ys.length)) = C at hr
      have hsize : C.size = grownCap w (n + ys.length) rc e := by
        rw [← hC]; simp [Builtin.zeroCells, hzs]; omega
      obtain ⟨E, R'⟩ := alloc_ob R0 (.cells C e) (.row (n + ys.length) (cs.take n ++ ys)) fun g' E => ⟨C, e, (0, 0), by rw [heap_alloc]; simp, .inl rfl, ⟨by omega, by rw [hsize]; omega⟩, fun i hi => by
        rw [hL] at hi
        by_cases q : i < n
        · have e1 : C.getD i undef = vs.getD i undef := by
            rw [← hC]
            simp [Array.getD_eq_getD_getElem?, Array.getElem?_append, hol, show i < n by omega, show i < n + us.length by omega, show i < vs.size by omega, show min n vs.size = n by omega]
          rw [e1, List.getElem_append_left (by simp; omega), List.getElem_take]
          have := hc.2 i (by omega)
          exact ⟨(this.1.mono E0.toEvc).mono E, this.2⟩
        · have e1 : C.getD i undef = us.getD (i - n) undef := by
            rw [← hC]
            simp [Array.getD_eq_getD_getElem?, List.getD_eq_getElem?_getD, Array.getElem?_append, hol, show ¬ i < n by omega, show i < n + us.length by omega, show min n vs.size = n by omega]
            rw [List.getElem_append_right (by simp; omega)]
            simp [show min n vs.size = n by omega, show i - n < us.length by omega]
          rw [e1, List.getElem_append_right (by simp; omega)]
          have hm : min n cs.length = n := by omega
          have := u3 (i - n) (by omega)
          simp only [List.length_take, hm]
          exact ⟨(this.1.mono E0.toEvc).mono E, this.2⟩⟩
      have R3 := R'.said (o := ob) (x := .row cap cs) (y := .gone) (by simp only [AH.push]; rw [if_neg (by omega)]; exact hg) (by simp) fun b' hb' ho => by
        obtain ⟨vs', T', fz', o1, _⟩ := ho
        exact ⟨vs', T', fz', o1⟩
      have hh : ((h.push (.row (n + ys.length) (cs.take n ++ ys))).set ob .gone) = h.rename h.n (.row (n + ys.length) (cs.take n ++ ys)) fun k => Nat.beq k ob := by
        refine AH.ext rfl (fun k => ?_) rfl rfl rfl
        simp only [AH.rename, AH.set, AH.push]
        by_cases q1 : k = h.n
        · rw [if_pos q1, if_neg (by omega), if_pos q1]
        · rw [if_neg q1, if_neg q1]
          by_cases q2 : k = ob
          · subst q2; rw [if_pos rfl, if_pos (Nat.beq_refl _)]
          · simp only [beq_false_of_ne q2, Bool.false_eq_true, if_false, if_neg q2]
      rw [hh] at R3
      refine ⟨.slice (some ⟨w.heap.size, 0, none⟩) (n + ys.length) (grownCap w (n + ys.length) rc e), _, _, by simp only [Sem.run_bind, hr, Result.andThen_ok, Sem.run_pure], E0.trans E, R3, ?_⟩
      refine .sl _ _ _ _ _ w.heap.size _ (if_pos rfl) ⟨_, e, (0, 0), by rw [heap_alloc]; exact if_pos rfl, ?_⟩ (Nat.le_refl _) hge (fun e => by cases e) (by omega)
      rw [hsize]; omega
end
end Go.Am
end
section
set_option linter.unusedVariables false
set_option linter.unusedSimpArgs false
namespace Go.Proofs
end Go.Proofs
namespace Go.RowKit
end Go.RowKit
namespace Go.Am
open Go.Proofs Go.RowKit
section
variable {P : Program} {lt : LT} {h h' : AH} {fr : AFr} {ops : List Oper} {o : Oper}
theorem cv_exec {s d : TypeId} {x : Operand} (ho : o.op = .convert s d x) (ρ : Operand → Value) : (execOp ρ o) = (do pure (.value (← convert s d (ρ x)))) ∧ x ∈ o.op.operands.toList := by
  obtain ⟨dst, op, ty, pos, after, guard⟩ := o
  simp only at ho; subst ho
  exact ⟨rfl, by simp [Op.operands]⟩
theorem StepD.toBytes {s d e : TypeId} {x : Operand} {t : List UInt8} (ho : o.op = .convert s d x) (hw : aWanted ops fr o.guard = some true) (hs : P.underlying s = some .string) (hd : P.underlying d = some (.slice e)) (he : P.underlying e = some (.int .u8))
    (ex : fr.ev x = .v (.str t)) (hl : t.length ≤ 1099511627776) : StepD P lt ops o fr h (.v (.sl h.n 0 t.length t.length false)) (h.push (.row t.length (t.map byteA))) := by
  refine StepD.raw hw fun g w ρ R hx => ?_
  obtain ⟨r1, r2⟩ := cv_exec ho ρ
  have v1 := hx x r2 _ ex
  rw [r1]
  generalize ρ x = p at v1
  generalize hss : AV.str t = sv at v1
  cases v1 <;> cases hss
  rename_i sb
  have hr := run_bytes_of_string (P := P) w s d e sb hs hd he
  have hsz : sb.data.toList.length = sb.size := by simp
  have hge := grownCap_ge w sb.size 0 e
  have hle := grownCap_le_maxLen w sb.size 0 e (by simp only [maxLen]; omega)
  simp only [maxLen] at hle
  obtain ⟨E0, R0⟩ := drew_ok R
  generalize hC : bytesRow sb (grownCap w sb.size 0 e) = C at hr
  have hsize : C.size = grownCap w sb.size 0 e := by rw [← hC]; simp [bytesRow]; omega
  obtain ⟨E, R'⟩ := alloc_ob R0 (.cells C e (C.size, C.size + 1)) (.row sb.data.toList.length (sb.data.toList.map byteA)) fun g' E => ⟨C, e, (C.size, C.size + 1), by rw [heap_alloc]; simp, .inr (Nat.le_refl _), ⟨by simp, by omega⟩, fun i hi => by
    simp only [List.length_map] at hi
    have e1 : C.getD i undef = .int .u8 (sb.data.toList[i].toNat) := by
      rw [← hC]
      simp [bytesRow, Array.getD_eq_getD_getElem?, Array.getElem?_append, show i < sb.size by omega]
    rw [e1, List.getElem_map]
    exact ⟨.int _ _, rfl⟩⟩
  refine ⟨.slice (some ⟨w.heap.size, 0, none⟩) sb.size (grownCap w sb.size 0 e), _, _, by simp only [Sem.run_bind, hr, Result.andThen_ok, Sem.run_pure], E0.trans E, R', ?_⟩
  have V := VR.sl (g := g.addOb h.n w.drew.heap.size) (w := w.drew.alloc (.cells C e (C.size, C.size + 1))) h.n 0 sb.size sb.size false w.heap.size (grownCap w sb.size 0 e) (if_pos rfl) ⟨_, e, _, by rw [heap_alloc]; exact if_pos rfl, by omega⟩ (Nat.le_refl _) hge (fun e => by cases e) (by omega)
  rw [← hsz] at V
  simpa using V
theorem StepD.toText {s d e : TypeId} {x : Operand} {ob off n c cap : Nat} {exf : Bool} {cs : List AV} {t : List UInt8} (ho : o.op = .convert s d x) (hw : aWanted ops fr o.guard = some true) (hs : P.underlying s = some (.slice e)) (hd : P.underlying d = some .string) (he : P.underlying e = some (.int .u8))
    (ex : fr.ev x = .v (.sl ob off n c exf)) (hg : h.get ob = some (.row cap cs)) (hc : off + n ≤ cs.length) (ht : (cs.drop off).take n = t.map byteA) : StepD P lt ops o fr h (.v (.str t)) h := by
  refine StepD.raw hw fun g w ρ R hx => ?_
  obtain ⟨r1, r2⟩ := cv_exec ho ρ
  have v1 := hx x r2 _ ex
  rw [r1]
  generalize ρ x = p at v1
  cases v1 with
  | sl _ _ _ _ _ b rc hb hsh hn hrc hex hcap =>
    obtain ⟨vs, T, fz, hwk, hf, h1, h2⟩ := row_at R hg hb
    have hL : t.length = n := by
      have := congrArg List.length ht
      simp at this; omega
    subst hL
    have hr := run_convert_bytes_back (P := P) w s d e ⟨b, off, none⟩ rc t hs he hd fun j hj => by
      rw [add_mk]
      simp only [World.cell?, hwk, Option.isSome_none, Bool.false_eq_true, if_false]
      have q := h2 (off + j) (by omega)
      have e1 : cs[off + j]'(by omega) = byteA t[j] := by
        have := congrArg (fun l => l[j]?) ht
        simp only [List.getElem?_take, if_pos hj, List.getElem?_drop, List.getElem?_map, List.getElem?_eq_getElem hj, List.getElem?_eq_getElem (show off + j < cs.length by omega), Option.map_some] at this
        injection this
      rw [e1] at q
      have q1 := q.1
      generalize hv : vs.getD (off + j) undef = v at q1
      cases q1
      simpa [Array.getD_eq_getD_getElem?, Array.getElem?_eq_getElem (show off + j < vs.size by omega)] using hv
    exact ⟨.string ⟨t.toArray⟩, g, w, by simp only [Sem.run_bind, hr, Result.andThen_ok, Sem.run_pure], .refl g w, R, by have := VR.str (g := g) (w := w) ⟨t.toArray⟩; simpa using this⟩
theorem StepD.toText0 {s d e : TypeId} {x : Operand} (ho : o.op = .convert s d x) (hw : aWanted ops fr o.guard = some true) (hs : P.underlying s = some (.slice e)) (hd : P.underlying d = some .string) (he : P.underlying e = some (.int .u8))
    (ex : fr.ev x = .v .nilsl) : StepD P lt ops o fr h (.v (.str [])) h := by
  refine StepD.raw hw fun g w ρ R hx => ?_
  obtain ⟨r1, r2⟩ := cv_exec ho ρ
  have v1 := hx x r2 _ ex
  rw [r1]
  generalize ρ x = p at v1
  cases v1
  have hr := run_convert_bytes_nil (P := P) (w := w) s e hs he 0 0 d hd
  exact ⟨.string .empty, g, w, by simp only [Sem.run_bind, hr, Result.andThen_ok, Sem.run_pure], .refl g w, R, .str ByteArray.empty⟩
def zerosArgs (P : Program) (op : Op) : Option (Operand × Operand × TypeId × TypeId) :=
  match op with
  | .call c => match c.callee with
    | .builtin .append => match c.args.toList, c.argTypes.toList with
      | [s, x], [t, t'] => match P.underlying t' with
        | some (.int _) => some (s, x, t, t')
        | _ => none
      | _, _ => none
    | _ => none
  | _ => none
theorem zerosArgs_run {s x : Operand} {t t' : TypeId} (hx : zerosArgs P o.op = some (s, x, t, t')) (ρ : Operand → Value) : (execOp ρ o) = (do pure (.value (← Builtin.append_ #[t, t'] o.type #[ρ s, ρ x]))) ∧ s ∈ o.op.operands.toList ∧ x ∈ o.op.operands.toList ∧ ∃ k, P.underlying t' = some (.int k) := by
  obtain ⟨dst, op, ty, pos, after, guard⟩ := o
  simp only at hx ⊢
  unfold zerosArgs at hx
  split at hx
  case h_2 => cases hx
  rename_i c
  obtain ⟨callee, args, argTypes⟩ := c
  simp only at hx
  split at hx
  case h_2 => cases hx
  split at hx
  case h_2 => cases hx
  rename_i a1 a2 t1 t2 e1 e2
  split at hx
  case h_2 => cases hx
  rename_i k hk
  injection hx with hx; injection hx with q1 hx; injection hx with q2 hx; injection hx with q3 q4
  subst q1 q2 q3 q4
  have e1 : args = #[a1, a2] := Array.ext' e1
  have e2 : argTypes = #[t1, t2] := Array.ext' e2
  subst e1 e2
  refine ⟨?_, by simp [Op.operands, Call.operands], by simp [Op.operands, Call.operands], k, hk⟩
  simp [execOp, resolve, invoke, builtin]
theorem zero_one {z : Value} {k : Nat} (hz : z = .int .u8 0) (i : Nat) (hi : i < k) : (Builtin.zeroCells z.cells k)[i]? = some (.int .u8 0) := by
  subst hz
  simp [Builtin.zeroCells, Value.cells, hi, Nat.mod_one]
theorem StepD.zeros {s x : Operand} {t t' e : TypeId} {i : TypeInfo} {k : IntKind} {n : Nat} (ha : zerosArgs P o.op = some (s, x, t, t')) (hw : aWanted ops fr o.guard = some true) (ht : P.underlying t = some (.slice e)) (hi : P.info? e = some i) (hz : i.zero = some (.int .u8 0)) (hsz : i.size = 1)
    (es : fr.ev s = .v .nilsl) {m : Int} (ex : fr.ev x = .v (.int k m)) (em : m = n) (h0 : 0 < n) (hb : n * (i.bytes + 1) ≤ 140737488355328) :
    StepD P lt ops o fr h (.v (.sl h.n 0 n n false)) (h.push (.row n (List.replicate n (.int .u8 0)))) := by
  subst em
  refine StepD.raw hw fun g w ρ R hx => ?_
  obtain ⟨r1, r2, r3, kn, hkn⟩ := zerosArgs_run ha ρ
  have v1 := hx s r2 _ es
  have v2 := hx x r3 _ ex
  rw [r1]
  generalize ρ s = p at v1
  generalize ρ x = q at v2
  cases v1
  cases v2
  rw [Nat.mul_succ] at hb
  have hr := Lib.run_append_nil_zeros (P := P) w t t' o.type e i (.int .u8 0) k kn ht hkn hi hz n h0 (by omega) (by omega) (by omega)
  have hge := grownCap_ge w n 0 e
  have hle := grownCap_le_maxLen w n 0 e (by simp only [maxLen]; omega)
  simp only [maxLen] at hle
  obtain ⟨E0, R0⟩ := drew_ok R
  generalize hC : Builtin.zeroCells (Value.int .u8 0).cells n ++ Builtin.zeroCells (Value.int .u8 0).cells (grownCap w n 0 e - n) = C at hr
  have hsize : C.size = grownCap w n 0 e := by rw [← hC]; simp [Builtin.zeroCells, Value.cells]; omega
  obtain ⟨E, R'⟩ := alloc_ob R0 (.cells C e) (.row n (List.replicate n (.int .u8 0))) fun g' E => ⟨C, e, (0, 0), by rw [heap_alloc]; simp, .inl rfl, ⟨by simp, by omega⟩, fun i hi => by
    simp only [List.length_replicate] at hi
    have e1 : C.getD i undef = .int .u8 0 := by
      rw [← hC, Array.getD_eq_getD_getElem?, Array.getElem?_append, if_pos (by simp [Builtin.zeroCells, Value.cells]; exact hi), zero_one rfl i hi]
      rfl
    rw [e1, List.getElem_replicate]
    exact ⟨.int _ _, rfl⟩⟩
  refine ⟨.slice (some ⟨w.heap.size, 0, none⟩) n (grownCap w n 0 e), _, _, by simp only [Sem.run_bind, hr, Result.andThen_ok, Sem.run_pure], E0.trans E, R', ?_⟩
  exact .sl _ _ _ _ _ w.heap.size _ (if_pos rfl) ⟨_, e, _, by rw [heap_alloc]; exact if_pos rfl, by rw [hsize]; omega⟩ (Nat.le_refl _) (by omega) (fun e => by cases e) (by omega)
theorem mkSl_exec {t : TypeId} {x y : Operand} (ho : o.op = .makeSlice t x y) (ρ : Operand → Value) : (execOp ρ o) = (do pure (.value (← Instr.makeSlice t (ρ x) (ρ y)))) ∧ x ∈ o.op.operands.toList ∧ y ∈ o.op.operands.toList := by
  obtain ⟨dst, op, ty, pos, after, guard⟩ := o
  simp only at ho; subst ho
  exact ⟨rfl, by simp [Op.operands], by simp [Op.operands]⟩
theorem StepD.makeSl {t e : TypeId} {x y : Operand} {i : TypeInfo} {k k' : IntKind} {l c : Nat} (ho : o.op = .makeSlice t x y) (hw : aWanted ops fr o.guard = some true) (ht : P.underlying t = some (.slice e)) (hi : P.info? e = some i) (hz : i.zero = some (.int .u8 0)) (hsz : i.size = 1)
    {m m' : Int} (ex : fr.ev x = .v (.int k m)) (ey : fr.ev y = .v (.int k' m')) (em : m = l) (em' : m' = c) (hlc : l ≤ c) (hb : (i.bytes + 1) * c ≤ 140737488355328) :
    StepD P lt ops o fr h (.v (.sl h.n 0 l c true)) (h.push (.row c (List.replicate c (.int .u8 0)))) := by
  subst em em'
  refine StepD.raw hw fun g w ρ R hx => ?_
  obtain ⟨r1, r2, r3⟩ := mkSl_exec ho ρ
  have v1 := hx x r2 _ ex
  have v2 := hx y r3 _ ey
  rw [r1]
  generalize ρ x = p at v1
  generalize ρ y = q at v2
  cases v1
  cases v2
  rw [Nat.succ_mul] at hb
  have hr := run_make (P := P) w t e i (.int .u8 0) ht hi hz k k' l c (by omega) (by omega) (by rw [← Int.natCast_mul]; omega) (by omega)
  simp only [Int.toNat_natCast, hsz, Nat.mul_one] at hr
  obtain ⟨E, R'⟩ := alloc_ob R (.cells (madeCells (Value.int .u8 0).cells c) e) (.row c (List.replicate c (.int .u8 0))) fun g' E => ⟨_, e, (0, 0), by rw [heap_alloc]; exact if_pos rfl, .inl rfl, ⟨by simp, by rw [size_madeCells]; omega⟩, fun i hi => by
    simp only [List.length_replicate] at hi
    have e1 : (madeCells (Value.int .u8 0).cells c).getD i undef = .int .u8 0 := by
      simp [madeCells, Value.cells, Array.getD_eq_getD_getElem?, hi, Nat.mod_one]
    rw [e1, List.getElem_replicate]
    exact ⟨.int _ _, rfl⟩⟩
  refine ⟨.slice (some ⟨w.heap.size, 0, none⟩) l c, _, _, by simp only [Sem.run_bind, hr, Result.andThen_ok, Sem.run_pure], E, R', ?_⟩
  exact .sl _ _ _ _ _ w.heap.size _ (if_pos rfl) ⟨_, e, _, by rw [heap_alloc]; exact if_pos rfl, by rw [size_madeCells]; omega⟩ hlc (Nat.le_refl _) (fun _ => rfl) (by omega)
end
end Go.Am
end
section
set_option linter.unusedVariables false
set_option linter.unusedSimpArgs false
namespace Go.Am
section
variable {P : Program} {lt : LT} {h h0 h1 : AH} {ids : List Nat} {V : View} {fr fr' : AFr} {ks : List Kt} {C : Exit → AFr → AH → Prop}
def ARunD (P : Program) (f : FuncId) (args : List AV) (h h' : AH) : Prop :=
  ∀ (g : Gh) (w : World) (vs : Array Value), Rel g w h → VRs g w args vs → CallsD P f vs .returning w fun e u' w' => (∃ v, e = .returned v) ∧ u' = .returning ∧ ∃ g', Ev g w g' w' ∧ Rel g' w' h'
def Unw (P : Program) : List (FuncId × List AV) → AH → AH → Prop
  | [], h, h' => h = h'
  | (f, args) :: r, h, h' => Callable P f ∧ ∃ h1, ARunD P f args h h1 ∧ Unw P r h1 h'
def retD (P : Program) (rs : List ResultVar) (Q : AV → AH → Prop) : Exit → AFr → AH → Prop
  | .normal, fr, h => ∃ v h2, Unw P fr.df h h2 ∧ aResultsN P fr h2 rs = some v ∧ Q v h2
  | .ret, fr, h => ∃ v h2, Unw P fr.df h h2 ∧ aResultsN P fr h2 rs = some v ∧ Q v h2
  | _, _, _ => False
theorem Unw.leaves {fn : Func} {rs : List ResultVar} (hrs : fn.results.toList = rs) {v : AV} {hf : AH} {g0 : Gh} {w0 : World} {base : Nat} {lb : Nat → Option Nat} {a : Act} :
    ∀ (df : List (FuncId × List AV)) (ds : List Deferred) (g : Gh) (w : World) (h : AH), Unw P df h hf → DR g w df ds → Ev g0 w0 g w → Rel g w h → FR lt g w base lb fr a → aResultsN P fr hf rs = some v →
      Leaves P fn a.tmps (fun e w' => ∃ u g', e = .returned u ∧ Ev g0 w0 g' w' ∧ Rel g' w' hf ∧ VR g' w' v u) ds .returning w
  | [], ds, g, w, h, U, D, E, R, F, q => by
    simp only [Unw] at U
    subst U
    simp only [DR] at D
    subst D
    obtain ⟨u, q2, q3⟩ := aResults_sound (fn := fn) R F (hrs ▸ q)
    exact ⟨u, q2, u, g, rfl, E, R, q3⟩
  | (f, args) :: r, ds, g, w, h, U, D, E, R, F, q => by
    obtain ⟨hc, h1, U1, U2⟩ := U
    obtain ⟨us, cs, as_, ds', rfl, d2, rfl, d4⟩ := D
    refine leaves_cons (by simp) (by simp only [invoke]; exact hc _ w) (CallsD.mono (U1 g w _ R d2) ?_)
    rintro e u' w' ⟨⟨v', rfl⟩, rfl, g', E', R'⟩
    exact Unw.leaves hrs r ds' g' w' h1 U2 (d4.mono E'.toEvc) (E.trans E') R' (F.mono E') q
theorem ARunE.ofD {f : FuncId} {c : Code} {n : Nat} {rs : List ResultVar} {fn : Func} (I : FnIs P f c n rs fn) (lt : LT) {args : List AV} {Q : AV → AH → Prop} (hn : Nat.ble args.length n = true)
    (H : AC P lt c (AFr.enter n args) h (retD P rs Q)) : ARunE P f args h Q := by
  obtain ⟨e, fr', h1, k, r⟩ := H
  have key : ∀ v h2, Unw P fr'.df h1 h2 → aResultsN P fr' h2 rs = some v → Q v h2 → (e = .normal ∨ e = .ret) → ARunE P f args h Q := by
    intro v h2 U q1 q2 he
    refine ⟨v, h2, q2, fun g w vs R hvs => calls_of_wp_defers I.at_ I.body ?_⟩
    have hn := Nat.le_of_ble_eq_true hn
    have hsz := hvs.1
    have F : FR lt g w w.heap.size (fun _ => none) (AFr.enter n args) { tmps := vs ++ Array.replicate (fn.ntmps - vs.size) undef, defers := [] } := by
      refine ⟨rfl, by simp [AFr.enter, I.ntmps]; omega, fun i hi => ?_, fun i d off e => ?_, fun _ _ _ e => (by cases e), fun _ _ e => (by cases e)⟩
      · simp only [AFr.enter, argAt]
        split
        · rename_i x hx
          obtain ⟨h1, h2⟩ := List.getElem?_eq_some_iff.1 hx
          have := hvs.2 i h1
          have e1 : (vs ++ Array.replicate (fn.ntmps - vs.size) undef).getD i undef = vs.getD i undef := by
            simp [Array.getD_eq_getD_getElem?, Array.getElem?_append, show i < vs.size by omega]
          rw [e1, ← h2]
          exact this
        · trivial
      · simp only [AFr.enter, argAt] at e
        split at e <;> cases e
    refine wp_mono (r g w _ w ⟨g, _, .refl g w, R, F⟩) ?_
    rintro e1 a1 w1 ⟨rfl, g1, lb1, E1, R1, F1⟩
    have L := Unw.leaves (P := P) (fn := fn) I.results fr'.df a1.defers g1 w1 h1 U F1.defers E1 R1 F1 q1
    rcases he with rfl | rfl
    · exact L
    · exact L
  cases e with
  | normal => obtain ⟨v, h2, q1, q2, q3⟩ := k; exact key v h2 q1 q2 q3 (.inl rfl)
  | ret => obtain ⟨v, h2, q1, q2, q3⟩ := k; exact key v h2 q1 q2 q3 (.inr rfl)
  | _ => exact k.elim
theorem X.ofD {f : FuncId} {c : Code} {n : Nat} {rs : List ResultVar} {fn : Func} {args : List AV} {Q : AV → AH → Prop} (lt : LT) (I : FnIs P f c n rs fn) (hn : Nat.ble args.length n = true)
    (H : XS P lt (retD P rs Q) (.code c) [] (AFr.enter n args) h) : ARunE P f args h Q := ARunE.ofD I lt hn H
theorem ARunD.of {f : FuncId} {c : Code} {n : Nat} {rs : List ResultVar} {fn : Func} (I : FnIs P f c n rs fn) (lt : LT) {args : List AV} {Q : AH → Prop} (hn : Nat.ble args.length n = true)
    (H : XS P lt (retE P rs fun _ h' => Q h') (.code c) [] (AFr.enter n args) h) : ∃ h', Q h' ∧ ARunD P f args h h' := by
  obtain ⟨e, fr', h1, k, r⟩ := H
  have key : ∀ v, aResults P fr' h1 rs = some v → Q h1 → (e = .normal ∨ e = .ret) → ∃ h', Q h' ∧ ARunD P f args h h' := by
    intro v q1 q2 he
    refine ⟨h1, q2, fun g w vs R hvs => CallsD.mono (callsD_of_wp (R := fun e w' => (∃ v, e = .returned v) ∧ ∃ g', Ev g w g' w' ∧ Rel g' w' h1) I.at_ I.body ?_) fun e u' w' q => ⟨q.2.1, q.1, q.2.2⟩⟩
    have hn := Nat.le_of_ble_eq_true hn
    have hsz := hvs.1
    have F : FR lt g w w.heap.size (fun _ => none) (AFr.enter n args) { tmps := vs ++ Array.replicate (fn.ntmps - vs.size) undef, defers := [] } := by
      refine ⟨rfl, by simp [AFr.enter, I.ntmps]; omega, fun i hi => ?_, fun i d off e => ?_, fun _ _ _ e => (by cases e), fun _ _ e => (by cases e)⟩
      · simp only [AFr.enter, argAt]
        split
        · rename_i x hx
          obtain ⟨h1, h2⟩ := List.getElem?_eq_some_iff.1 hx
          have := hvs.2 i h1
          have e1 : (vs ++ Array.replicate (fn.ntmps - vs.size) undef).getD i undef = vs.getD i undef := by
            simp [Array.getD_eq_getD_getElem?, Array.getElem?_append, show i < vs.size by omega]
          rw [e1, ← h2]
          exact this
        · trivial
      · simp only [AFr.enter, argAt] at e
        split at e <;> cases e
    refine wp_mono (r g w _ w ⟨g, _, .refl g w, R, F⟩) ?_
    rintro e1 a1 w1 ⟨rfl, g1, lb1, E1, R1, F1⟩
    obtain ⟨qd, q1⟩ := aResults_df q1
    obtain ⟨u, q2, q3⟩ := aResults_sound (fn := fn) R1 F1 (I.results ▸ q1)
    have hd := F1.defers
    rw [qd] at hd
    rcases he with rfl | rfl
    · exact ⟨hd, u, q2, ⟨u, rfl⟩, g1, E1, R1⟩
    · exact ⟨hd, u, q2, ⟨u, rfl⟩, g1, E1, R1⟩
  cases e with
  | normal => obtain ⟨v, q1, q2⟩ := k; exact key v q1 q2 (.inl rfl)
  | ret => obtain ⟨v, q1, q2⟩ := k; exact key v q1 q2 (.inr rfl)
  | _ => exact k.elim
end
end Go.Am
end
section
set_option linter.unusedVariables false
set_option linter.unusedSimpArgs false
namespace Go.Proofs
end Go.Proofs
namespace Go.RowKit
end Go.RowKit
namespace Go.Am
open Go.Proofs
section
variable {P : Program} {lt : LT} {h h0 h1 : AH} {ids : List Nat} {V V' : View} {fr fr' : AFr} {ks ks' : List Kt} {C : Exit → AFr → AH → Prop} {cur cur' : Cur} {n' : Nat}
def AFr.push (fr : AFr) (f : FuncId) (args : List AV) : AFr := { fr with df := (f, args) :: fr.df }
def aDefer (fr : AFr) (o : Op) : Option (FuncId × List AV) :=
  match o with
  | .defer c => match c.callee with
    | .value x => match fr.ev x, fr.evs c.args.toList with
      | .v (.clo f caps), some args => some (f, args ++ caps)
      | _, _ => none
    | _ => none
  | _ => none
theorem X.defer {o : Oper} {ops l : List Oper} {D : List Nat} {f : FuncId} {args : List AV} (hc : aDefer fr o.op = some (f, args)) (hg : aWanted ops fr o.guard = some true) (hd : o.dst = none)
    (K : XS P lt C (.ops ops l D) ks (fr.push f args) h) : XS P lt C (.ops ops (o :: l) D) ks fr h := by
  refine AL.any (fr1 := fr.push f args) (h1 := h) (fun g0 w0 a w Q K S hK => ?_) K
  obtain ⟨g, lb, E, R, F⟩ := S
  rw [if_pos (aWanted_sound F hg)]
  obtain ⟨dst, op, ty, pos, after, guard⟩ := o
  simp only at hc hd
  subst hd
  unfold aDefer at hc
  split at hc
  case h_2 => cases hc
  rename_i c
  split at hc
  case h_2 => cases hc
  rename_i x hx
  split at hc
  case h_2 => cases hc
  rename_i f' caps args' e1 e2
  injection hc with hc; injection hc with q1 q2
  subst q1 q2
  have hargs := evs_VRs F e2
  have v1 := F.ev_v e1
  generalize hq : a.eval x = q at v1
  have hres : ∃ vs : Array Value, q = .func (.func f') #[] vs ∧ VRs g w caps vs := by
    cases v1 with
    | clo _ _ vs h1 h2 => exact ⟨vs, rfl, h1, h2⟩
  obtain ⟨vs, rfl, hvs⟩ := hres
  have run : (execOp a.eval { dst := none, op := .defer c, type := ty, pos := pos, after := after, guard := guard }).run P w = .ok (.defer ⟨.fn (.func f') vs, c.args.map a.eval⟩) w := by
    simp only [execOp, resolve, hx, hq, Deferred.ofValue, Sem.run_bind, Sem.run_pure, Result.andThen_ok]
    simp
  unfold Oper.wp
  rw [run]
  refine hK _ _ ⟨g, lb, E, R, ?_⟩
  refine ⟨?_, F.size, F.slot, F.hold, F.lbi, F.lbo⟩
  exact ⟨_, vs, _, a.defers, rfl, hargs.append hvs, rfl, F.defers⟩
theorem X.st {o : Oper} {ops l : List Oper} {D : List Nat} {s : Slot} {d : Tmp} (st : StepD P lt ops o fr h s h1) (hd : o.dst = some d) (K : XS P lt C (.ops ops l D) ks (fr.putD d s) h1) : XS P lt C (.ops ops (o :: l) D) ks fr h := by
  refine AL.ofStepD st ?_
  rw [hd]; exact K
theorem X.st0 {o : Oper} {ops l : List Oper} {D : List Nat} {s : Slot} (st : StepD P lt ops o fr h s h1) (hd : o.dst = none) (K : XS P lt C (.ops ops l D) ks fr h1) : XS P lt C (.ops ops (o :: l) D) ks fr h := by
  refine AL.ofStepD st ?_
  rw [hd]; exact K
theorem X.stD {o : Oper} {ops l : List Oper} {D pre : List Nat} {s : Slot} {d : Tmp} (st : StepD P lt ops o fr h s h1) (hd : o.dst = some d) (K : XS P lt C (.dops ops l D (2 :: pre)) ks (fr.putD d s) h1) : XS P lt C (.dops ops (o :: l) D pre) ks fr h := by
  refine stepD_AD (s := s) (h1 := h1) (kd := 2) (.inr (.inr ⟨rfl, st⟩)) ?_
  rw [hd]; exact K
theorem X.rdD {o : Oper} {ops l : List Oper} {D pre : List Nat} {s : Slot} {d : Tmp} (st : StepD P lt ops o fr h s h) (hd : o.dst = some d) (K : XS P lt C (.dops ops l D (1 :: pre)) ks (fr.putD d s) h) : XS P lt C (.dops ops (o :: l) D pre) ks fr h := by
  refine stepD_AD (s := s) (h1 := h) (kd := 1) (.inr (.inl ⟨rfl, rfl, st⟩)) ?_
  rw [hd]; exact K
theorem StepD.sliceSl {o : Oper} {ops : List Oper} {t e : TypeId} {x : Operand} {lo hi : Option Operand} {ob off n cap l hh : Nat} {exf : Bool} (ho : o.op = .slice t x lo hi none) (hw : aWanted ops fr o.guard = some true) (ht : P.underlying t = some (.slice e)) (hz : szT P e = some 1)
    (ex : fr.ev x = .v (.sl ob off n cap exf)) (h1 : aBnd fr lo 0 = some l) (h2 : aBnd fr hi n = some hh) (h3 : l ≤ hh) (h4 : hh ≤ cap) (h5 : l < cap ∨ l = 0) : ∀ h, StepD P lt ops o fr h (.v (.sl ob (off + l) (hh - l) (cap - l) exf)) h :=
  StepD.pure hw (fun h => by rw [ho]; simp only [aPure, aSlice, ht, ex, h1, h2]; rw [if_pos ⟨hz, h3, h4, h5⟩]) rfl (fun h => by rw [ho]; rfl)
theorem StepD.sliceNil {o : Oper} {ops : List Oper} {t e : TypeId} {x : Operand} {lo hi : Option Operand} {m : Nat} (ho : o.op = .slice t x lo hi none) (hw : aWanted ops fr o.guard = some true) (ht : P.underlying t = some (.slice e)) (hz : szT P e = some m)
    (ex : fr.ev x = .v .nilsl) (h1 : aBnd fr lo 0 = some 0) (h2 : aBnd fr hi 0 = some 0) : ∀ h, StepD P lt ops o fr h (.v .nilsl) h :=
  StepD.pure hw (fun h => by rw [ho]; simp only [aPure, aSlice, ht, ex, h1, h2, hz]) rfl (fun h => by rw [ho]; rfl)
theorem StepD.idxSl {o : Oper} {ops : List Oper} {t e : TypeId} {x i : Operand} {ob off len cap : Nat} {exf : Bool} {k : IntKind} {n : Int} (ho : o.op = .indexAddr t x i) (hw : aWanted ops fr o.guard = some true) (ht : sliceT P t = some e) (hz : szT P e = some 1)
    (ex : fr.ev x = .v (.sl ob off len cap exf)) (ei : fr.ev i = .v (.int k n)) (h0 : 0 ≤ n) (h1 : n < (len : Int)) : ∀ h, StepD P lt ops o fr h (.v (.ptr ob (off + n.toNat))) h :=
  StepD.pure hw (fun h => by rw [ho]; simp only [aPure, aIndexAddr, ht, ex, ei]; rw [if_pos ⟨hz, h0, h1⟩]) rfl (fun h => by rw [ho]; rfl)
theorem HI.more {ids' : List Nat} (H : HI h0 ids h V) (hs : ∀ i ∈ ids, i ∈ ids') : HI h0 ids' h V := ⟨H.hv, H.kp.sub fun i q => .inl (hs i q), fun e he => (H.new e he).imp (fun q => hs _ q) id⟩
theorem HI.setO {o : Nat} {x : AObj} (H : HI h0 ids h V) (hne : ∀ e ∈ V, e.1 ≠ o) (hi : h0.n ≤ o ∨ o ∈ ids) : HI h0 ids (h.set o x) V :=
  ⟨HV.of (fun e he => by
    obtain ⟨q1, q2⟩ := H.hv.get he
    exact ⟨by simp only [AH.set]; rw [if_neg (hne e he)]; exact q1, q2⟩) H.hv.nodup,
   ⟨H.kp.n, fun k hk hki => by
    simp only [AH.set]
    rw [if_neg (by rintro rfl; rcases hi with hi | hi <;> first | omega | exact hki hi)]
    exact H.kp.get k hk hki, H.kp.nt, H.kp.tip, H.kp.tabs⟩, H.new⟩
theorem HI.pushO {x : AObj} (H : HI h0 ids h V) : HI h0 ids (h.push x) V :=
  ⟨HV.of (fun e he => by
    obtain ⟨q1, q2⟩ := H.hv.get he
    exact ⟨by simp only [AH.push]; rw [if_neg (by omega)]; exact q1, by simp only [AH.push]; omega⟩) H.hv.nodup,
   ⟨by have := H.kp.n; simp only [AH.push]; omega, fun k hk hki => by
    have := H.kp.n
    simp only [AH.push]
    rw [if_neg (by omega)]
    exact H.kp.get k hk hki, H.kp.nt, H.kp.tip, H.kp.tabs⟩, H.new⟩
end
section
variable {lt : LT} {C : Exit → AFr → AH → Prop} {h h0 : AH} {ids : List Nat} {V V' : View} {fr fr' : AFr} {cur cur' : Cur} {ks ks' : List Kt} {n' : Nat}
end
end Go.Am
end
section

set_option linter.unusedVariables false
set_option linter.unusedSimpArgs false
namespace Go.Am
def Say (x y : AV) : Prop := ∀ (g : Gh) (w : World) (v : Value), VR g w x v → v.oneCell' = true → VR g w y v
theorem Say.refl (x : AV) : Say x x := fun _ _ _ h _ => h
theorem Say.one (x : AV) : Say x (.one x) := fun _ _ _ h ho => .one _ _ h ho
theorem Say.un (x : AV) : Say (.one x) x := fun _ _ _ h _ => by cases h; assumption
def Says : List AV → List AV → Prop
  | [], [] => True
  | x :: xs, y :: ys => Say x y ∧ Says xs ys
  | _, _ => False
theorem Says.refl : ∀ (l : List AV), Says l l
  | [] => trivial
  | x :: l => ⟨.refl x, Says.refl l⟩
theorem Says.get : ∀ {xs ys : List AV}, Says xs ys → ys.length = xs.length ∧ ∀ i (h1 : i < xs.length) (h2 : i < ys.length), Say xs[i] ys[i]
  | [], [], _ => ⟨rfl, fun i h => by simp at h⟩
  | x :: xs, y :: ys, ⟨h, hs⟩ => by
    obtain ⟨k1, k2⟩ := Says.get hs
    refine ⟨by simp [k1], fun i h1 h2 => ?_⟩
    cases i with
    | zero => exact h
    | succ i => exact k2 i (by simpa using h1) (by simpa using h2)
  | [], _ :: _, h => h.elim
  | _ :: _, [], h => h.elim
theorem Rel.say {g : Gh} {w : World} {h : AH} (R : Rel g w h) {o : Nat} {cs cs' : List AV} (hg : h.get o = some (.cells cs)) (hs : Says cs cs') : Rel g w (h.set o (.cells cs')) := by
  refine R.said hg (by simp) fun b hb ⟨vs, T, hw, ⟨hn, hv⟩, ho⟩ => ?_
  obtain ⟨k1, k2⟩ := hs.get
  exact ⟨vs, T, hw, ⟨hn.trans k1.symm, fun i hi => k2 i (by omega) hi g w _ (hv i (by omega)) (ho i (by omega))⟩, fun i hi => ho i (by omega)⟩
section
variable {P : Program} {lt : LT} {h h0 h1 : AH} {ids : List Nat} {V V' : View} {fr fr' : AFr} {ks : List Kt} {C : Exit → AFr → AH → Prop} {f : FuncId} {args : List AV}
theorem AS.say {o : Nat} {cs cs' : List AV} (hg : h.get o = some (.cells cs)) (hs : Says cs cs') : ∀ g0 w0 a w, AS lt h fr g0 w0 a w → AS lt (h.set o (.cells cs')) fr g0 w0 a w := by
  rintro g0 w0 a w ⟨g, lb, E, R, F⟩
  exact ⟨g, lb, E, R.say hg hs, F⟩
theorem HI.say {j o : Nat} {cs cs' : List AV} (H : HI h0 ids h V) (hg : getV j V = some (o, cs)) (hs : setV j o cs' V = some V') : HI h0 ids (h.set o (.cells cs')) V' := by
  have hmem := getV_mem hg
  obtain ⟨k1, k2, k3⟩ := setV_spec hg hs
  refine ⟨H.hv.set hg hs, ⟨H.kp.n, fun k hk hi => ?_, H.kp.nt, H.kp.tip, H.kp.tabs⟩, fun e he => ?_⟩
  · simp only [AH.set]
    rw [if_neg]
    · exact H.kp.get k hk hi
    · rintro rfl
      rcases H.new _ hmem with h4 | h4
      · exact hi h4
      · simp only at h4; omega
  · rcases k3 e he with h4 | h4
    · subst h4; exact H.new (o, cs) hmem
    · exact H.new e h4
theorem X.say (j : Nat) {o : Nat} {cs : List AV} (cs' : List AV) (H : HI h0 ids h V) (hg : getV j V = some (o, cs)) (hv : setV j o cs' V = some V') (hs : Says cs cs') {c : Code}
    (K : ∀ h', HI h0 ids h' V' → (h'.n = h.n ∧ h'.nt = h.nt ∧ h'.tip = h.tip) → XS P lt C (.code c) ks fr h') : XS P lt C (.code c) ks fr h :=
  X.ghost (AS.say (H.hv.get (getV_mem hg)).1 hs) (K _ (H.say hg hv) ⟨rfl, rfl, rfl⟩)
theorem X.sayO (j : Nat) {o : Nat} {cs : List AV} (cs' : List AV) (H : HI h0 ids h V) (hg : getV j V = some (o, cs)) (hv : setV j o cs' V = some V') (hs : Says cs cs') {ops l : List Oper} {D : List Nat}
    (K : ∀ h', HI h0 ids h' V' → (h'.n = h.n ∧ h'.nt = h.nt ∧ h'.tip = h.tip) → XS P lt C (.ops ops l D) ks fr h') : XS P lt C (.ops ops l D) ks fr h :=
  X.ghostO (AS.say (H.hv.get (getV_mem hg)).1 hs) (K _ (H.say hg hv) ⟨rfl, rfl, rfl⟩)
theorem AS.slot {t : Tmp} {x y : AV} (ht : fr.f t = .v x) (hs : ∀ g w v, VR g w x v → VR g w y v) : ∀ g0 w0 a w, AS lt h fr g0 w0 a w → AS lt h (fr.putD t (.v y)) g0 w0 a w := by
  rintro g0 w0 a w ⟨g, lb, E, R, F⟩
  refine ⟨g, lb, E, R, F.defers, F.size, fun k hk => ?_, fun k d' off e => ?_, F.lbi, F.lbo⟩
  · simp only [AFr.putD]
    split
    · rename_i hkt
      have hkt := Nat.eq_of_beq_eq_true hkt
      subst hkt
      have := F.slot k hk
      rw [ht] at this
      exact hs _ _ _ this
    · exact F.slot k hk
  · simp only [AFr.putD] at e
    split at e
    · cases e
    · exact F.hold k d' off e
theorem un_slot {x : AV} : ∀ (g : Gh) (w : World) (v : Value), VR g w (.one x) v → VR g w x v := fun _ _ _ h => by cases h; assumption
theorem X.un (t : Tmp) {x : AV} (ht : fr.f t = .v (.one x)) {c : Code} (K : XS P lt C (.code c) ks (fr.putD t (.v x)) h) : XS P lt C (.code c) ks fr h := X.ghost (AS.slot ht un_slot) K
theorem X.unO (t : Tmp) {x : AV} (ht : fr.f t = .v (.one x)) {ops l : List Oper} {D : List Nat} (K : XS P lt C (.ops ops l D) ks (fr.putD t (.v x)) h) : XS P lt C (.ops ops l D) ks fr h := X.ghostO (AS.slot ht un_slot) K
theorem ARunE.mono {Q Q' : AV → AH → Prop} (H : ARunE P f args h Q) (hq : ∀ v h', Q v h' → Q' v h') : ARunE P f args h Q' := by
  obtain ⟨v, h', q, r⟩ := H
  exact ⟨v, h', hq v h' q, r⟩
theorem ARunE.one {Q Q' : AV → AH → Prop} (H : ARunE P f args h Q) (hc : ∀ v h', Q v h' → v.cells = some [v]) (hq : ∀ v h', Q v h' → Q' (.one v) h') : ARunE P f args h Q' := by
  obtain ⟨v, h', q, r⟩ := H
  refine ⟨.one v, h', hq v h' q, fun g w vs R hvs => Calls.mono (r g w vs R hvs) ?_⟩
  rintro e w' ⟨u, g', rfl, E, R', V⟩
  refine ⟨u, g', rfl, E, R', .one _ _ V ?_⟩
  have hv := V.cells (hc v h' q)
  have h1 : u.cells.size = 1 := hv.1.1
  have h2 := hv.2 0 (by simp)
  cases u <;> first | rfl | skip
  · rename_i cs
    exfalso
    have hx := hc v h' q
    cases V with
    | agg cs' => simp only [AV.cells] at hx; injection hx with hx; have := congrArg (fun l : List AV => SizeOf.sizeOf l) hx; simp at this; omega
    | one x' _ _ ho => cases ho
  · rename_i cs
    exfalso
    have hx := hc v h' q
    cases V with
    | tup cs' => simp [AV.cells] at hx
    | one x' _ _ ho => cases ho
theorem ARunE.say {Q Q' : AV → AH → Prop} (o : Nat) (H : ARunE P f args h Q) (hq : ∀ v h', Q v h' → ∃ cs cs', h'.get o = some (.cells cs) ∧ Says cs cs' ∧ Q' v (h'.set o (.cells cs'))) : ARunE P f args h Q' := by
  obtain ⟨v, h', q, r⟩ := H
  obtain ⟨cs, cs', hg, hs, q'⟩ := hq v h' q
  refine ⟨v, _, q', fun g w vs R hvs => Calls.mono (r g w vs R hvs) ?_⟩
  rintro e w' ⟨u, g', rfl, E, R', V⟩
  exact ⟨u, g', rfl, E, R'.say hg hs, V⟩
theorem Kp.set {o : Nat} {x : AObj} (k : Kp ids h h1) (ho : o ∈ ids) : Kp ids h (h1.set o x) :=
  ⟨k.n, fun i hi hn => by simp only [AH.set]; rw [if_neg (fun (e : i = o) => hn (e ▸ ho))]; exact k.get i hi hn, k.nt, k.tip, k.tabs⟩
end
end Go.Am
end
