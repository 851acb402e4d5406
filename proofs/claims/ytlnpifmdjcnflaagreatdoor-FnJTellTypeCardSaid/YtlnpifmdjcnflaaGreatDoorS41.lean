import Derived.Test.YtlnpifmdjcnflaaGreatDoorS40
set_option linter.unusedVariables false
set_option linter.unusedSimpArgs false
namespace Go.Am
open Go.Proofs
set_option maxRecDepth 100000
set_option linter.unusedSimpArgs false
set_option linter.unusedVariables false
attribute [local irreducible] AC AL AW AD ARun
section
variable {P : Program} {lt : LT} {ops : List Oper} {o : Oper} {fr : AFr} {h : AH}
theorem StepD.makeB {t e : TypeId} {x y : Operand} {i : TypeInfo} {k k' : IntKind} {l c : Nat} (ho : o.op = .makeSlice t x y) (hw : aWanted ops fr o.guard = some true) (ht : P.underlying t = some (.slice e)) (hi : P.info? e = some i) (hz : i.zero = some (.bool false)) (hsz : i.size = 1)
    {m m' : Int} (ex : fr.ev x = .v (.int k m)) (ey : fr.ev y = .v (.int k' m')) (em : m = l) (em' : m' = c) (hlc : l ≤ c) (hb : (i.bytes + 1) * c ≤ 140737488355328) :
    StepD P lt ops o fr h (.v (.sl h.n 0 l c true)) (h.push (.row c (List.replicate c (.bool false)))) := by
  subst em em'
  refine StepD.raw hw fun g w ρ R hx => ?_
  obtain ⟨r1, r2, r3⟩ := mkSl_exec ho ρ
  have v1 := hx x r2 _ ex
  have v2 := hx y r3 _ ey
  rw [r1]
  generalize ρ x = p at v1
  generalize ρ y = q at v2
  cases v1
  cases v2
  rw [Nat.succ_mul] at hb
  have hr := run_make (P := P) w t e i (.bool false) ht hi hz k k' l c (by omega) (by omega) (by rw [← Int.natCast_mul]; omega) (by omega)
  simp only [Int.toNat_natCast, hsz, Nat.mul_one] at hr
  obtain ⟨E, R'⟩ := alloc_ob R (.cells (madeCells (Value.bool false).cells c) e) (.row c (List.replicate c (.bool false))) fun g' E => ⟨_, e, (0, 0), by rw [heap_alloc]; exact if_pos rfl, .inl rfl, ⟨by simp, by rw [size_madeCells]; omega⟩, fun i hi => by
    simp only [List.length_replicate] at hi
    have e1 : (madeCells (Value.bool false).cells c).getD i undef = .bool false := by
      simp [madeCells, Value.cells, Array.getD_eq_getD_getElem?, hi, Nat.mod_one]
    rw [e1, List.getElem_replicate]
    exact ⟨.bool _, rfl⟩⟩
  refine ⟨.slice (some ⟨w.heap.size, 0, none⟩) l c, _, _, by simp only [Sem.run_bind, hr, Result.andThen_ok, Sem.run_pure], E, R', ?_⟩
  exact .sl _ _ _ _ _ w.heap.size _ (if_pos rfl) ⟨_, e, _, by rw [heap_alloc]; exact if_pos rfl, by rw [size_madeCells]; omega⟩ hlc (Nat.le_refl _) (fun _ => rfl) (by omega)
end
/-- The marks: none is set. -/
abbrev nMarks (n : Nat) : AObj := .row n (List.replicate n (.bool false))
/-- The heap with marks. -/
structure RI (h0 : AH) (o n : Nat) (h : AH) : Prop where
  hi : HI h0 [o] h []
  g : h.get o = some (nMarks n)
  l : o < h.n
theorem RI.kp {h0 h h' : AH} {o n : Nat} (r : RI h0 o n h) (k : Kp [] h h') : RI h0 o n h' := ⟨r.hi.same k, (k.get o r.l (by simp)).trans r.g, Nat.lt_of_lt_of_le r.l k.n⟩
theorem X.w {lt : LT} {C : Exit → AFr → AH → Prop} {h h0 : AH} {o n : Nat} {fr fr' : AFr} {cur cur' : Cur} {ks ks' : List Kt} {n' : Nat} {tr : List (Nat × Nat)} {dr : List (List Oper × List Nat)} (im hs : List Nat) (R : RI h0 o n h) (hx : ZR lt im 3000 cur ks fr [] h.n hs cur' ks' fr' [] n' tr [] dr) (K : ∀ h', RI h0 o n h' → XS Tryz.prog lt C cur' ks' fr' h') (ht : ZT tr := by rfl) (hd : ZD dr := by first | rfl | decide +kernel) : XS Tryz.prog lt C cur ks fr h :=
  X.rm im hs R.hi hx (fun h' _ _ kq => K h' (R.kp kq)) ht hd
theorem marks_ld {n i : Nat} (hi : i < n) : AV.ld false 1 (List.replicate n (AV.bool false)) (0 + ((i : Nat) : Int).toNat) = some (.bool false) := by
  simp [AV.ld, hi]
theorem marks_set {n i : Nat} (hi : i < n) : (List.replicate n (AV.bool false)).take (0 + ((i : Nat) : Int).toNat) ++ [AV.bool false] ++ (List.replicate n (AV.bool false)).drop (0 + ((i : Nat) : Int).toNat + [AV.bool false].length) = List.replicate n (.bool false) := by
  simp only [Int.toNat_natCast, Nat.zero_add, List.take_replicate, List.drop_replicate, List.length_singleton]
  rw [show [AV.bool false] = List.replicate 1 (.bool false) from rfl, List.replicate_append_replicate, List.replicate_append_replicate]
  congr 1
  omega
section
variable {h h0 : AH} {fE f1 f2 : Bool}
set_option maxHeartbeats 4000000 in
theorem arrayS_run (v : JV) (hv : v.Fit) (ts : List Str) (o : Nat) (hg : h0.get o = some (nMarks v.xs.length)) (ho : o < h0.n) : ARunE Tryz.prog 44 [.int .i64 2020, ndS 0 fE ts, .agg (ndC 0 fE ts), .agg v.cs, .sl o 0 v.xs.length v.xs.length true] h0 fun r h' => Kp [] h0 h' ∧ r = .bool true := by
  have htw := twins_run (f2 := v.fb) v.xs (by obtain ⟨k, b, n, t, ns, xs, f1, f2⟩ := v; exact hv.sm.get.2.1) (fun x hx => hv.mem hx)
  obtain ⟨k, b, n, t, ns, xs, f1, f2⟩ := v
  simp only [JV.xs, JV.fb] at htw hg ⊢
  obtain ⟨hn, hx, -⟩ := hv.sm.get
  rw [JV.cs_mk]
  have hE6 := slG_elems f2 6 (xs.map JV.cs)
  have hL6 : (xs.map JV.cs).length = xs.length := by simp
  refine X.of (n := 133) (rs := [.tmp 10]) [] ⟨Tryz.func44, rfl, rfl, rfl⟩ rfl ?_
  have R : RI h0 o xs.length h0 := ⟨HI.nil, hg, ho⟩
  refine X.w [6, 7, 8] [] R rfl fun h R => ?_
  refine X.lenZ 6 rfl rfl rfl rfl rfl hE6 rfl rfl rfl ?_
  refine X.w [] [] R rfl fun h R => ?_
  refine X.callQ rfl Tryz.call41 (bounded_run _) ?_
  refine X.w [] [] R rfl fun h R => ?_
  refine X.callT rfl Tryz.call77 htw ?_
  rintro _ ⟨i1, i2, rfl⟩
  refine X.w [] [92, 90] R rfl fun h R => ?_
  rw [hL6]
  refine X.whileJ 133 (fun i : Nat => xs.length - i) (fun i => [(0, .int .i64 2020), (4, .sl o 0 xs.length xs.length true), (6, .ref none [sch 0 fE ts, .nilsl]), (7, .ref none (ndC 0 fE ts)), (8, .ref none [.int .i64 k, .bool b, .int .i64 n, .str t, .one (slG f1 1 (ns.map strCs)), .one (slG f2 6 (xs.map JV.cs))]), (11, .int .i64 (xs.length : Nat)), (12, .bool true), (15, .int .i64 (i : Nat))])
    (fun i h' => RI h0 o xs.length h' ∧ i ≤ xs.length) (fun _ : Unit => [(7, .ref none (ndC 0 fE ts)), (11, .int .i64 (xs.length : Nat)), (12, .bool true)]) (fun _ h' => RI h0 o xs.length h') 0 rfl ⟨R, by omega⟩ ?_ ?_
  · clear R
    rintro i h ⟨R, hi⟩ again done
    refine X.w [] [] R rfl fun h R => ?_
    refine X.cond rfl (fun hb3 => ?_) fun hb3 => ?_
    · have hlt : i < xs.length := by have := of_decide_eq_true hb3; omega
      have hc6 : (xs.map JV.cs)[i]? = some (xs[i].cs) := by simp [hlt]
      have hq := elementS_run (fE := fE) 0 ts i xs[i]
      obtain ⟨b7, n7, y1, y2, e7⟩ := xs[i].shape
      rw [e7] at hc6 hq
      refine X.w [] [] R rfl fun h R => ?_
      refine X.freeD (fun h => StepD.un 54 rfl (slG_vec (by rw [hL6]; exact hlt)) rfl rfl (StepD.indexAddr rfl rfl rfl rfl rfl rfl (Int.natCast_nonneg _) (by rw [Int.toNat_natCast]; exact hc6) h)) rfl ?_
      refine X.w [] [] R rfl fun h R => ?_
      refine X.callQD rfl Tryz.call78 hq ?_
      refine X.w [] [92] R rfl fun h R => ?_
      refine X.free (StepD.idxSl rfl rfl rfl rfl rfl rfl (Int.natCast_nonneg _) (by omega)) rfl ?_
      refine X.st (StepD.loadR rfl rfl rfl rfl rfl R.g (marks_ld hlt)) rfl ?_
      refine X.w [] [92] R rfl fun h R => ?_
      refine X.free (StepD.idxSl rfl rfl rfl rfl rfl rfl (Int.natCast_nonneg _) (by omega)) rfl ?_
      refine X.st0 (StepD.storeR (ds := [.bool false]) rfl rfl rfl rfl rfl rfl rfl R.g (by simp; omega) (by simp; omega)) rfl ?_
      rw [marks_set hlt]
      have R2 : RI h0 o xs.length (h.set o (nMarks xs.length)) := ⟨HI.setO R.hi (by simp) (.inr (by simp)), AH.set_at, R.l⟩
      refine X.w [] [] R2 rfl fun h R => ?_
      exact again (i + 1) (by omega) (HQ.mk rfl ⟨rfl, rfl, rfl, rfl, rfl, rfl, rfl, vi (wI (by omega)), trivial⟩) ⟨R, by omega⟩
    · refine X.w [] [] R rfl fun h R => ?_
      exact done () rfl R
  · clear R
    rintro ⟨⟩ h R
    refine X.w [] [90] R rfl fun h R => ?_
    refine X.roll ?_
    refine X.w [] [] R rfl fun h R => ?_
    refine X.split rfl (fun hb => ?_) fun hb => ?_
    · refine X.w [] [90] R rfl fun h R => ?_
      refine X.roll ?_
      refine X.w [] [] R rfl fun h R => ?_
      refine X.split rfl (fun hb => ?_) fun hb => ?_
      · refine X.w [] [90] R rfl fun h R => ?_
        exact X.retV [] R.hi rfl ⟨R.hi.kp.drop (R.g.trans hg.symm), rfl⟩
      · refine X.w [] [90] R rfl fun h R => ?_
        exact X.retV [] R.hi rfl ⟨R.hi.kp.drop (R.g.trans hg.symm), rfl⟩
    · refine X.w [] [90] R rfl fun h R => ?_
      refine X.roll ?_
      refine X.w [] [] R rfl fun h R => ?_
      refine X.split rfl (fun hb => ?_) fun hb => ?_
      · refine X.w [] [90] R rfl fun h R => ?_
        exact X.retV [] R.hi rfl ⟨R.hi.kp.drop (R.g.trans hg.symm), rfl⟩
      · refine X.w [] [90] R rfl fun h R => ?_
        exact X.retV [] R.hi rfl ⟨R.hi.kp.drop (R.g.trans hg.symm), rfl⟩
end
end Go.Am
