import Derived.Test.YtlnpifmdjcnflaaGreatDoorS44
set_option linter.unusedVariables false
set_option linter.unusedSimpArgs false
namespace Go.Am
open Go.Proofs
set_option maxRecDepth 100000
set_option linter.unusedSimpArgs false
set_option linter.unusedVariables false
attribute [local irreducible] AC AL AW AD
theorem ARun.args2 {P : Program} {f : FuncId} {a b b' v : AV} {h h' : AH} (hs : SayR b b') (H : ARun P f [a, b'] h v h') : ARun P f [a, b] h v h' := by
  intro g w vs R hvs
  refine H g w vs R ⟨hvs.1, fun i hi => ?_⟩
  match i, hi with
  | 0, _ => exact hvs.2 0 (by simp)
  | 1, _ => exact hs _ _ _ (hvs.2 1 (by simp))
attribute [local irreducible] ARun
theorem slG_true (sz : Nat) (es : List (List AV)) : slG true sz es = .vec .none sz es := by cases es <;> rfl
section
variable {h h0 : AH} {fE f1 f2 : Bool}
theorem amongV_run (s : Str) (ns : List Str) (hl : ns.length ≤ 2147483647) : ∀ h0, ARun Tryz.prog 27 [.str s, .vec .none 1 (ns.map strCs)] h0 (.bool (decide (s ∈ ns))) h0 := fun h0 => by
  refine ARun.args2 (fun g w v h => ?_) (among_run (fE := true) s ns hl h0)
  rw [sls, slG_true]
  exact .one _ _ h (by cases h; rfl)
set_option maxHeartbeats 1000000 in
theorem sameNames_run (ns ts : List Str) (hn : ns.length ≤ 2147483647) (hl : ts.length ≤ 2147483647) (h1 : ∀ s ∈ ns, s ∈ ts) (h2 : ∀ s ∈ ts, s ∈ ns) : ∀ h0, ARun Tryz.prog 127 [.vec .none 1 (ns.map strCs), sls fE ts] h0 (.bool true) h0 := by
  intro h0
  have hE := slG_elems fE 1 (ts.map strCs)
  have hL : (ts.map strCs).length = ts.length := by simp
  have hLn : (ns.map strCs).length = ns.length := by simp
  refine ARun.pure (.bool _) ?_
  refine X.of (n := 33) (rs := [.tmp 4]) [] ⟨Tryz.func127, rfl, rfl, rfl⟩ rfl ?_
  have H : HI h0 [] h0 [] := HI.nil
  refine X.g H rfl fun h H nN => ?_
  refine X.whileJ 33 (fun i : Nat => ns.length - i) (fun i => [(0, .vec .none 1 (ns.map strCs)), (1, sls fE ts), (5, .int .i64 (i : Nat))])
    (fun i h' => HI h0 [] h' [] ∧ i ≤ ns.length) (fun _ : Unit => [(0, .vec .none 1 (ns.map strCs)), (1, sls fE ts)]) (fun _ h' => HI h0 [] h' []) 0 rfl ⟨H, by omega⟩ ?_ ?_
  · clear H
    rintro i h ⟨H, hi⟩ again done
    refine X.g H rfl fun h H nN => ?_
    refine X.cond rfl (fun hb3 => ?_) fun hb3 => ?_
    · have hlt : i < ns.length := by have := of_decide_eq_true hb3; rw [hLn] at this; omega
      have hc : (ns.map strCs)[i]? = some (strCs ns[i]) := by simp [hlt]
      have ha := among_run (fE := fE) ns[i] ts hl
      rw [decide_eq_true (h1 _ (List.getElem_mem hlt))] at ha
      refine X.g H rfl fun h H nN => ?_
      refine X.free (StepD.indexAddr rfl rfl rfl rfl rfl rfl (Int.natCast_nonneg _) (by rw [Int.toNat_natCast]; exact hc)) rfl ?_
      refine X.g H rfl fun h H nN => ?_
      refine X.callQ rfl Tryz.call27 ha ?_
      refine X.gh [90] H rfl fun h H nN => ?_
      exact again (i + 1) (by omega) (HQ.mk rfl ⟨rfl, rfl, vi (wI (by omega)), trivial⟩) ⟨H, by omega⟩
    · refine X.g H rfl fun h H nN => ?_
      exact done () rfl H
  clear H
  rintro ⟨⟩ h H
  refine X.g H rfl fun h H nN => ?_
  refine X.whileJ 33 (fun i : Nat => ts.length - i) (fun i => [(0, .vec .none 1 (ns.map strCs)), (1, sls fE ts), (6, .int .i64 (i : Nat))])
    (fun i h' => HI h0 [] h' [] ∧ i ≤ ts.length) (fun _ : Unit => []) (fun _ h' => HI h0 [] h' []) 0 rfl ⟨H, by omega⟩ ?_ ?_
  · clear H
    rintro i h ⟨H, hi⟩ again done
    refine X.g H rfl fun h H nN => ?_
    refine X.lenZ 1 rfl rfl rfl rfl rfl hE rfl rfl rfl ?_
    refine X.g H rfl fun h H nN => ?_
    refine X.cond rfl (fun hb3 => ?_) fun hb3 => ?_
    · have hlt : i < ts.length := by have := of_decide_eq_true hb3; rw [hL] at this; omega
      have hc : (ts.map strCs)[i]? = some (strCs ts[i]) := by simp [hlt]
      have ha := amongV_run ts[i] ns hn
      rw [decide_eq_true (h2 _ (List.getElem_mem hlt))] at ha
      refine X.g H rfl fun h H nN => ?_
      refine X.free (fun h => StepD.un 26 rfl (slG_vec (by rw [hL]; exact hlt)) rfl rfl (StepD.indexAddr rfl rfl rfl rfl rfl rfl (Int.natCast_nonneg _) (by rw [Int.toNat_natCast]; exact hc) h)) rfl ?_
      refine X.g H rfl fun h H nN => ?_
      refine X.callQ rfl Tryz.call27 ha ?_
      refine X.gh [90] H rfl fun h H nN => ?_
      refine again (i + 1) (by omega) (HQ.mk rfl ⟨rfl, rfl, vi (wI (by omega)), trivial⟩) ⟨H, by omega⟩
    · refine X.g H rfl fun h H nN => ?_
      exact done () rfl H
  clear H
  rintro ⟨⟩ h H
  refine X.g H rfl fun h H nN => ?_
  exact X.retV [] H rfl ⟨H.kp, fun _ _ _ h => h⟩
end
end Go.Am
