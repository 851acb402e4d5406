import Derived.Test.YtlnpifmdjcnflaaGreatDoorS50
set_option linter.unusedVariables false
set_option linter.unusedSimpArgs false
namespace Go.Proofs.YtlnpifmdjcnflaaGreatDoor
open Go.ChangeShapes Go.WideShapes Go.ChangeAt Go.RowKit Go.Lib
open Go.ChangeMaps (open_string shut_string)
theorem weights_two {H : Type} {t t' : TypeId} {d d' : DataW H} (h : (DataW.weightsEach Tryz.prog [t, t'] [d, d']).all (· ≤ reachBytes) = true) : Am.Light Tryz.prog t d ∧ Am.Light Tryz.prog t' d' := by
  have k := List.all_eq_true.1 h
  simp only [DataW.weightsEach, List.append_nil] at k
  exact ⟨fun m hm => of_decide_eq_true (k m (List.mem_append_left _ hm)), fun m hm => of_decide_eq_true (k m (List.mem_append_right _ hm))⟩
set_option maxRecDepth 100000 in
set_option maxHeartbeats 2000000 in
theorem lifted (os : Os) (started : os.Started) (H : Type) (enc : TypeId × Value → H) (F : Stop.Interp) :
    ReturnsInHanded {} Tryz.checked os 3 .any ((OpenSpec.ofChange Rows.fnJTellTypeSpec).preRow enc Tryz.prog Tryz.f3 Rows.fnJTellTypeRow.domain false Rows.fnJTellTypeRow.laid) (((OpenSpec.ofChange Rows.fnJTellTypeSpec).at F).post enc Tryz.prog Tryz.f3 false true false false) := by
  refine returnsInHanded_of_row (C := Tryz.checked) (s := OpenSpec.ofChange Rows.fnJTellTypeSpec) own started (by kernel_rfl) Tryz.func3
    (witness_row_at (enc := enc) (C := Tryz.checked) false (laidWorld os) wit rfl (by kernel_rfl) (by kernel_rfl) (by kernel_rfl)
      (OpenSpec.preRow_of_cond 8 (reads os enc) (by kernel_rfl) (fun k hk => by cases hk) (by kernel_rfl) (laid_met os))) ?_
  intro W base args ds gs before hval0 hW _ _ hwt _ _ _
  have hval : ∀ (j : Nat) t v, Tryz.f3.params[j]? = some t → args[j]? = some v → Value.okWide Tryz.prog W .any base t v := hval0
  have hW' := hW
  obtain ⟨pp, q, hA0, hV0, rfl, _, _⟩ := hW
  have hA : DataW.TrodAll enc Tryz.prog W 0 (fun _ => true) true Tryz.f3.params.toList args.toList ds pp := hA0
  have hwt1 : (DataW.weightsEach Tryz.prog (Tryz.f3.params.toList ++ (OpenSpec.ofChange Rows.fnJTellTypeSpec).bare.plain.varTypes Tryz.prog) (ds ++ gs)).all (· ≤ reachBytes) = true := hwt
  rw [Tryz.params3] at hA hval hwt1
  obtain ⟨v0, v1, d0, d1, p0, p1, rfl, rfl, rfl, h0, h1⟩ := trodAll_two hA
  obtain ⟨rfl, rfl⟩ := trodVars_none hV0
  obtain ⟨w0, w1⟩ := weights_two (H := H) (t := 22) (t' := 25) (d := d0) (d' := d1) hwt1
  obtain ⟨cs, rfl, -⟩ := okWide_struct Tryz.underlying25 (hval 1 25 v1 rfl rfl)
  obtain ⟨a, len, cap, rfl⟩ := okWide_slice Tryz.underlying22 (hval 0 22 v0 rfl rfl)
  have h0k := h0
  have h1k := h1
  obtain ⟨m0, h0⟩ := h0
  obtain ⟨m1, h1⟩ := h1
  clear hA0 hV0 hval0
  obtain ⟨v, fl, ts, e0, r0, -, -, -⟩ := Am.rd_strs (Am.full_ext W) Tryz.underlying22 Tryz.underlying9 (by kernel_rfl) h0 w0
  obtain ⟨y, r1, hs⟩ := Am.rd_jv (Am.full_ext W) Tryz.underlying25 (by kernel_rfl) (by kernel_rfl) (by kernel_rfl) ⟨rfl, rfl⟩ ⟨rfl, rfl⟩ ⟨rfl, rfl⟩ ⟨rfl, rfl⟩ ⟨rfl, rfl⟩ ⟨rfl, rfl⟩ Tryz.underlying3 Tryz.underlying4 Tryz.underlying9 Tryz.underlying22 Tryz.underlying23 (by kernel_rfl) (by kernel_rfl) (by kernel_rfl) (by kernel_rfl) (by kernel_rfl) _ _ _ h1 w1
  have e0' : [Value.slice a len cap] = [v] := e0
  obtain rfl : Value.slice a len cap = v := List.cons.inj e0' |>.1
  refine (Am.law_calls r0 r1 hs).mono ?_
  rintro e W' ⟨rfl, bel⟩
  have e1 : ((OpenSpec.ofChange Rows.fnJTellTypeSpec).at F).fn H ([d0, d1] ++ []) = { results := [.lit (.bool true)], args := [d0, d1] } := rfl
  have hlt0 : ∀ x ∈ p0, x.block < W.heap.size := fun x hx => hW'.lt x (by simp [hx])
  have hlt1 : ∀ x ∈ p1, x.block < W.heap.size := fun x hx => hW'.lt x (by simp [hx])
  refine ⟨_, rfl, _, _, _, [], p0 ++ p1, [], hW', ?_, ?_, ?_, bel.frame _, fun h => by cases h⟩
  · rw [e1]; exact trodAll_mk1 (shut_bool Tryz.underlying4 _)
  · rw [e1]; exact trodAll_mk2 (Below.trod laidOut (by kernel_rfl) (of_decide_eq_true (by kernel_rfl)) h0k bel hlt0) (Below.trod laidOut (by kernel_rfl) (of_decide_eq_true (by kernel_rfl)) h1k bel hlt1)
  · rw [e1]; rfl
end Go.Proofs.YtlnpifmdjcnflaaGreatDoor
