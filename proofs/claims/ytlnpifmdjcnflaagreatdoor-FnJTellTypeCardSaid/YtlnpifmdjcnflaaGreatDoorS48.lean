import Derived.Test.YtlnpifmdjcnflaaGreatDoorS47
set_option linter.unusedVariables false
set_option linter.unusedSimpArgs false
section
namespace Go.Am
open Go.Proofs
set_option maxRecDepth 100000
set_option linter.unusedSimpArgs false
set_option linter.unusedVariables false
attribute [local irreducible] AC AL AW AD ARun
section
variable {h h0 : AH} {fE f1 f2 : Bool}
theorem right_run (ts : List Str) (hl : ts.length ≤ 2147483647) (hne : ts ≠ []) (v : JV) (hv : v.Fit) (hk : kindS v.k ∉ ts) (ns : List Str) (hn : ns.length ≤ 2147483647) (h1 : ∀ s ∈ ns, s ∈ ts) (h2 : ∀ s ∈ ts, s ∈ ns) :
    ∀ h0, ARun Tryz.prog 18 [.int .i64 2020, sch 0 fE ts, .agg v.cs, .agg (rootC [49] (leafT [49] (kindS v.k) ns))] h0 (.bool true) h0 := by
  intro h0
  have hq := errRT2_run (fE := fE) ts hl hne v hv hk ns hn h1 h2
  generalize kindS v.k = s at hq ⊢
  obtain ⟨b, m, z1, z2, e⟩ := v.shape
  rw [e] at hq ⊢
  refine ARun.pure (.bool _) ?_
  refine X.of (n := 16) (rs := [.tmp 8]) [] ⟨Tryz.func18, rfl, rfl, rfl⟩ rfl ?_
  have H : HI h0 [] h0 [] := HI.nil
  refine X.gm [5, 6, 7] [] H rfl fun h H nN => ?_
  refine X.callQ rfl Tryz.call28 hq ?_
  refine X.g H rfl fun h H nN => ?_
  exact X.retV [] H rfl ⟨H.kp, fun _ _ _ h => h⟩
theorem rightF_run : ∀ h0, ARun Tryz.prog 18 [.int .i64 2020, sch 2 false [], .agg jv0, .agg (rootC [49] (leafF [49]))] h0 (.bool true) h0 := by
  intro h0
  refine ARun.pure (.bool _) ?_
  refine X.of (n := 16) (rs := [.tmp 8]) [] ⟨Tryz.func18, rfl, rfl, rfl⟩ rfl ?_
  have H : HI h0 [] h0 [] := HI.nil
  refine X.gm [5, 6, 7] [] H rfl fun h H nN => ?_
  refine X.callQ rfl Tryz.call28 errRF2_run ?_
  refine X.g H rfl fun h H nN => ?_
  exact X.retV [] H rfl ⟨H.kp, fun _ _ _ h => h⟩
set_option maxHeartbeats 1000000 in
theorem tells_run (ts : List Str) (hl : ts.length ≤ 2147483647) (hok : okB ts = true) (v : JV) (hv : v.Fit) : ∀ h0, ARun Tryz.prog 9 [sch 0 fE ts, .agg v.cs, .vec .full 1 [[.str sType]]] h0 (.bool true) h0 := by
  intro h0
  have hof := ofj_run _ v (Nat.lt_succ_self _) hv.sm hv.ok hv.nn
  have herr := errs_run (fE := fE) ts hl hok v hof
  have hval := valid_run (fE := fE) v hv ts hl
  have hrt := right_run (fE := fE) ts hl
  refine ARun.pure (.bool _) ?_
  by_cases hin : ts = [] ∨ kindS v.k ∈ ts
  · rw [decide_eq_true hin] at hval
    simp only [jeR, hin, if_true] at herr
    clear hrt
    obtain ⟨b, m, z1, z2, e⟩ := v.shape
    rw [e] at herr hval ⊢
    refine X.of (n := 30) (rs := [.tmp 6]) [] ⟨Tryz.func9, rfl, rfl, rfl⟩ rfl ?_
    have H : HI h0 [] h0 [] := HI.nil
    refine X.gm [4] [] H rfl fun h H nN => ?_
    refine X.call rfl Tryz.call15 (herr h) ?_
    rintro _ h1 ⟨k1, rfl⟩
    replace H := H.same k1
    refine X.gh [0, 91] H rfl fun h H nN => ?_
    refine X.callQ rfl Tryz.call16 hval ?_
    refine X.gh [] H rfl fun h H nN => ?_
    exact X.retV [] H rfl ⟨H.kp, fun _ _ _ h => h⟩
  · simp only [jeR, hin, if_false] at herr
    rw [not_or] at hin
    have hr := hrt hin.1 v hv hin.2 (namesM (maskL ts) bits) (Nat.le_trans (namesM_len _ _) (by decide)) (fun s hs => (mem_names hok s).1 hs) (fun s hs => (mem_names hok s).2 hs)
    generalize kindS v.k = s at herr hr
    obtain ⟨b, m, z1, z2, e⟩ := v.shape
    rw [e] at herr hr ⊢
    refine X.of (n := 30) (rs := [.tmp 6]) [] ⟨Tryz.func9, rfl, rfl, rfl⟩ rfl ?_
    have H : HI h0 [] h0 [] := HI.nil
    refine X.gm [4] [] H rfl fun h H nN => ?_
    refine X.call rfl Tryz.call15 (herr h) ?_
    rintro _ h1 ⟨k1, rfl⟩
    replace H := H.same k1
    refine X.gh [0, 90, 0] H rfl fun h H nN => ?_
    refine X.callQ rfl Tryz.call17 (kindsR_run sType (by decide) _ _ _ _) ?_
    refine X.gh [92, 0] H rfl fun h H nN => ?_
    refine X.callQ rfl Tryz.call18 hr ?_
    refine X.gh [] H rfl fun h H nN => ?_
    exact X.retV [] H rfl ⟨H.kp, fun _ _ _ h => h⟩
end
end Go.Am
end
section
namespace Go.Am
open Go.Proofs
set_option maxRecDepth 100000
set_option linter.unusedSimpArgs false
set_option linter.unusedVariables false
attribute [local irreducible] AC AL AW AD ARun
theorem sayR_vec1 {tk : Tk} {sz : Nat} {c c' : List AV} (hs : Says c c') : SayR (.vec tk sz [c]) (.vec .none sz [c']) := fun g w v h => by
  obtain ⟨k1, k2⟩ := hs.get
  cases h with
  | vec _ _ _ ad cap vs hs hc hv ho hm hn hcap ht hz =>
    have h0 := hs 0 (by simp)
    simp only [List.getElem_cons_zero] at h0
    refine .vec .none sz [c'] ad cap vs (fun i hi => ?_) hc (fun i j hi hj => ?_) ho hm hn hcap trivial (fun _ => hz (by simp))
    · have : i = 0 := by simpa using hi
      subst this
      simp only [List.getElem_cons_zero]
      omega
    · have : i = 0 := by simpa using hi
      subst this
      simp only [List.getElem_cons_zero] at hj ⊢
      have := hv 0 j (by simp) (by simp only [List.getElem_cons_zero]; omega)
      simp only [List.getElem_cons_zero] at this
      exact k2 j (by omega) hj g w _ this (ho 0 j (by simp) (by omega))
theorem X.reO {P : Program} {lt : LT} {C : Exit → AFr → AH → Prop} {ks : List Kt} {fr : AFr} {h : AH} (t : Nat) {x y : AV} (ht : fr.f t = .v x) (hs : SayR x y) {ops l : List Oper} {D : List Nat} (K : XS P lt C (.ops ops l D) ks (fr.putD t (.v y)) h) : XS P lt C (.ops ops l D) ks fr h := X.ghostO (AS.slot ht hs) K
/-- The False node as it is built. -/
def ndF : List AV := (ndC 2 false []).set 9 .nilsl
theorem ndF_say : Says ndF (ndC 2 false []) := ⟨.refl _, .refl _, .refl _, .refl _, .refl _, .refl _, .refl _, .refl _, .refl _, .one _, .refl _, .refl _, .refl _, .refl _, .refl _, .refl _, .refl _, .refl _, .refl _, .refl _, .refl _, .refl _, .refl _, .refl _, .refl _, .refl _, .refl _, .refl _, .refl _, .refl _, .refl _, .refl _, .refl _, .refl _, .refl _, .refl _, .refl _, .refl _, .refl _, .refl _, .refl _, .refl _, .refl _, .refl _, .refl _, .refl _, .refl _, .refl _, .refl _, .refl _, .refl _, .refl _, .refl _, trivial⟩
section
variable {h h0 : AH} {fE f1 f2 : Bool}
theorem tellsF_run : ∀ h0, ARun Tryz.prog 10 [] h0 (.bool true) h0 := by
  intro h0
  refine ARun.pure (.bool _) ?_
  refine X.of (n := 24) (rs := [.tmp 0]) [] ⟨Tryz.func10, rfl, rfl, rfl⟩ rfl ?_
  have H : HI h0 [] h0 [] := HI.nil
  refine X.g H rfl fun h H nN => ?_
  refine X.reO 5 (y := sch 2 false []) rfl (sayR_vec1 (c := ndF) ndF_say) ?_
  refine X.call rfl Tryz.call15 (errsF_run h) ?_
  rintro _ h1 ⟨k1, rfl⟩
  replace H := H.same k1
  refine X.gh [0, 92, 0] H rfl fun h H nN => ?_
  refine X.reO 13 (y := sch 2 false []) rfl (sayR_vec1 (c := ndF) ndF_say) ?_
  refine X.callQ rfl Tryz.call18 rightF_run ?_
  refine X.gh [92, 0] H rfl fun h H nN => ?_
  refine X.callQ rfl Tryz.call17 (kindsR_run sFalse (by decide) _ _ _ _) ?_
  refine X.gh [] H rfl fun h H nN => ?_
  exact X.retV [] H rfl ⟨H.kp, fun _ _ _ h => h⟩
set_option maxHeartbeats 1000000 in
theorem law_run (ts : List Str) (v : JV) (hv : v.Sm) : ∀ h0, ARun Tryz.prog 3 [sls fE ts, .agg v.cs] h0 (.bool true) h0 := by
  intro h0
  obtain ⟨b4, h4, hl⟩ := fits4_run (fE := fE) ts
  have h5 := fits5_run v
  have h8 := fun tk => countless_run tk v hv
  have h9 := fun hl hok hf => tells_run (fE := fE) ts hl hok v hf
  obtain ⟨b, m, z1, z2, e⟩ := v.shape
  rw [e] at h5 h8 h9 ⊢
  refine ARun.pure (.bool _) ?_
  refine X.of (n := 35) (rs := [.tmp 4]) [] ⟨Tryz.func3, rfl, rfl, rfl⟩ rfl ?_
  have H : HI h0 [] h0 [] := HI.nil
  refine X.gm [3] [] H rfl fun h H nN => ?_
  refine X.callQ rfl Tryz.call4 h4 ?_
  cases b4
  · refine X.gh [92, 91] H rfl fun h H nN => ?_
    exact X.retV [] H rfl ⟨H.kp, fun _ _ _ h => h⟩
  replace hl := hl rfl
  refine X.gh [92] H rfl fun h H nN => ?_
  refine X.callT rfl Tryz.call5 h5 ?_
  rintro _ ⟨b5, rfl, -⟩
  cases b5
  · refine X.gh [91] H rfl fun h H nN => ?_
    exact X.retV [] H rfl ⟨H.kp, fun _ _ _ h => h⟩
  refine X.gh [90] H rfl fun h H nN => ?_
  refine X.callQ rfl Tryz.call6 (alone_run (fE := fE) ts) ?_
  refine X.gh [] H rfl fun h H nN => ?_
  refine X.callQ rfl Tryz.call7 (schema_run (fE := fE) ts hl) ?_
  cases hok : okB ts
  · refine X.gh [92, 92] H rfl fun h H nN => ?_
    exact X.retV [] H rfl ⟨H.kp, fun _ _ _ h => h⟩
  refine X.gh [92] H rfl fun h H nN => ?_
  refine X.callT rfl Tryz.call8 (h8 _) ?_
  rintro _ ⟨b8, rfl, h8'⟩
  cases b8
  · refine X.gh [92] H rfl fun h H nN => ?_
    exact X.retV [] H rfl ⟨H.kp, fun _ _ _ h => h⟩
  obtain ⟨ho, hn⟩ := h8' rfl
  refine X.gh [92] H rfl fun h H nN => ?_
  refine X.callQ rfl Tryz.call9 (h9 hl hok ⟨hv, ho, hn⟩) ?_
  refine X.gh [92] H rfl fun h H nN => ?_
  refine X.callQ rfl Tryz.call10 tellsF_run ?_
  refine X.gh [] H rfl fun h H nN => ?_
  exact X.retV [] H rfl ⟨H.kp, fun _ _ _ h => h⟩
end
end Go.Am
end
