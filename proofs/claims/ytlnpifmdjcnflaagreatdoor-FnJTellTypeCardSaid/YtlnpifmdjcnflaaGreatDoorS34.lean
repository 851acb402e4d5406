import Derived.Test.YtlnpifmdjcnflaaGreatDoorS33
set_option linter.unusedVariables false
set_option linter.unusedSimpArgs false
section
namespace Go.Am
open Go.Proofs
set_option maxRecDepth 100000
set_option linter.unusedSimpArgs false
set_option linter.unusedVariables false
attribute [local irreducible] AC AL AW AD ARun
theorem HI.add {h0 h : AH} {ids : List Nat} {V : View} {a : Nat} {cs : List AV} (H : HI h0 ids h V) (hg : h.get a = some (.cells cs)) (hl : a < h.n) (hn : ∀ e ∈ V, e.1 ≠ a) (h0a : h0.n ≤ a) : HI h0 ids h ((a, cs) :: V) :=
  ⟨⟨⟨hg, hl, hn⟩, H.hv⟩, H.kp, fun e he => by
    rcases List.mem_cons.1 he with rfl | he
    · exact .inr h0a
    · exact H.new e he⟩
theorem EM.mt {h0 h : AH} {v : AV} {a : Nat} {x : AObj} {cs : List AV} (t : EM h0 h v) (hg : h.get a = some (.cells cs)) : MT (h.set a x) v := by
  obtain ⟨m, a1, _, b, c⟩ := t
  refine ⟨m, a1, b, (AH.set_ne ?_).trans c⟩
  rintro rfl
  rw [hg] at c; cases c
theorem ScOK.scv {h0 h : AH} {A : Nat} {ts : List Str} {s : Sc} (t : ScOK h0 A ts h s) : ScV (h.set A .frz) ts s := by
  obtain ⟨g, ⟨s1, s2, s3, s4⟩, T, E1, E2, E3, E4, E5⟩ := t
  refine ⟨s1, s3, s4, T.imp id fun ⟨a, p, b, c, d, e⟩ => ⟨a, p, b, Nat.zero_le _, d, (AH.set_ne ?_).trans e⟩, E1.mt g, E2.mt g, E3.mt g, E4.mt g, E5.mt g⟩
  rintro rfl
  rw [g] at e
  injection e with e
  injection e with e
  have := congrArg List.length e
  simp [Sc.cs] at this
/-- An error that is none. -/
abbrev noE : List AV := [.str [], .str [], .nilsl, .nilsl, .str [], .nilsl, .nilsl, .nilsl]
/-- What JErrors says of a schema of types. -/
def jeR (ts : List Str) (k : Int) : AV := if ts = [] ∨ kindS k ∈ ts then .tup [.agg noE, .bool false] else .tup [.agg (rootC [49] (leafT [49] (kindS k) (namesM (maskL ts) bits))), .bool true]
theorem X.freezeO {P : Program} {lt : LT} {C : Exit → AFr → AH → Prop} {ks : List Kt} {fr : AFr} {h h0 : AH} {ids : List Nat} {V : View} {d : Nat} {cs : List AV} (t : Nat) (H : HI h0 ids h V) (ht : fr.f t = .v (.ptr d 0)) (hg : h.get d = some (.cells cs)) (hn : ∀ e ∈ V, e.1 ≠ d) (hd : h0.n ≤ d) {ops l : List Oper} {D : List Nat}
    (K : HI h0 ids (h.set d .frz) V → XS P lt C (.ops ops l D) ks (fr.putD t (.v (.ref none cs))) (h.set d .frz)) : XS P lt C (.ops ops l D) ks fr h :=
  X.ghostO (AS.freeze ht hg) (K (HI.setO H hn (.inl hd)))
section
variable {h h0 : AH} {fE f1 f2 : Bool}
set_option maxHeartbeats 4000000 in
theorem draft_run (ts : List Str) (hl : ts.length ≤ 2147483647) (hok : okB ts = true) (v : JV) (hv : OfJ v) : ∀ h0, ARunE Tryz.prog 25 [.int .i64 2020, sch 0 fE ts, .agg v.cs] h0 fun r h' => Kp [] h0 h' ∧ r = jeR ts v.k := by
  intro h0
  unfold OfJ at hv
  obtain ⟨b, n, z1, z2, e⟩ := v.shape
  rw [e] at hv ⊢
  refine X.of (n := 30) (rs := [.cell 6 53, .tmp 7]) [] ⟨Tryz.func25, rfl, rfl, rfl⟩ rfl ?_
  have H : HI h0 [] h0 [] := HI.nil
  refine X.gm [5] [] H rfl fun h H nN => ?_
  refine X.call rfl Tryz.call33 (compiled_run ts hl _) ?_
  rintro _ h1 ⟨A, s, rfl, k1, a1, a2, hsc⟩
  have hA0 := H.kp.n
  have hnA := H.at_.2
  replace H := H.same k1
  refine X.freezeO 13 H rfl hsc.1 (by simp; omega) (by omega) fun H => ?_
  have hs := hsc.scv
  have ha := H.at_.1
  refine X.rh [90] H rfl fun h H nN kq => ?_
  replace hs := hs.kp (kq.drop (H.at_.1.trans ha.symm))
  refine X.call rfl Tryz.call35 (hv h) ?_
  rintro x h2 ⟨k2, hx⟩
  replace H := H.same k2
  replace hs := hs.kp k2
  refine X.call rfl Tryz.call34 (Val_run ts hok s hs hx) ?_
  rintro _ h3 ⟨k3, rfl⟩
  replace H := H.same k3
  have sl := hsc.2.1.2.1
  rw [sl]
  by_cases hin : ts = [] ∨ kindS v.k ∈ ts
  · simp only [val1, jeR, hin, if_true]
    refine X.op rfl rfl rfl ?_
    refine X.gh [91, 0] H rfl fun h H nN => ?_
    exact X.retV [0] H rfl ⟨H.kp, rfl⟩
  · simp only [val1, jeR, hin, if_false]
    refine X.op rfl rfl rfl ?_
    refine X.gh [90] H rfl fun h H nN => ?_
    refine X.call rfl Tryz.call36 (errRT_run _ _ _ (Nat.le_trans (namesM_len _ _) (by decide)) h) ?_
    rintro _ h1 ⟨k1, rfl⟩
    replace H := H.same k1
    refine X.gh [0] H rfl fun h H nN => ?_
    exact X.retV [0] H rfl ⟨H.kp, rfl⟩
end
end Go.Am
end
section
namespace Go.Am
open Go.Proofs
set_option maxRecDepth 100000
set_option linter.unusedSimpArgs false
set_option linter.unusedVariables false
attribute [local irreducible] AC AL AW AD ARun
/-- The value that is given as none. -/
abbrev jv0 : List AV := [.int .i64 0, .bool false, .int .i64 0, .str [], .nilsl, .nilsl]
def jeF : AV := .tup [.agg (rootC [49] (leafF [49])), .bool true]
section
variable {h h0 : AH} {fE f1 f2 : Bool}
theorem ofj0_run : ∀ h0, ARun Tryz.prog 35 [.agg jv0] h0 .nili h0 := by
  intro h0
  refine ARun.pure .nili ?_
  refine X.of (n := 56) (rs := [.tmp 2]) [] ⟨Tryz.func35, rfl, rfl, rfl⟩ rfl ?_
  have H : HI h0 [] h0 [] := HI.nil
  refine X.gh [90, 90, 90, 90, 90] H rfl fun h H nN => ?_
  exact X.retV [] H rfl ⟨H.kp, fun _ _ _ h => h⟩
theorem draftF_run : ∀ h0, ARunE Tryz.prog 25 [.int .i64 2020, sch 2 false [], .agg jv0] h0 fun r h' => Kp [] h0 h' ∧ r = jeF := by
  intro h0
  refine X.of (n := 30) (rs := [.cell 6 53, .tmp 7]) [] ⟨Tryz.func25, rfl, rfl, rfl⟩ rfl ?_
  have H : HI h0 [] h0 [] := HI.nil
  refine X.gm [5] [] H rfl fun h H nN => ?_
  refine X.call rfl Tryz.call33 (compiled2_run _) ?_
  rintro _ h1 ⟨A, m, rfl, k1, a1, a2, m1, m2, hmA, gm, gA⟩
  have hA0 := H.kp.n
  have hnA := H.at_.2
  replace H := H.same k1
  refine X.freezeO 13 H rfl gA (by simp; omega) (by omega) fun H => ?_
  have hs : (h1.set A .frz).get m = some (.cells [.bool false]) := (AH.set_ne hmA).trans gm
  have hl : m < (h1.set A .frz).n := m2
  have ha := H.at_.1
  refine X.rh [90] H rfl fun h H nN kq => ?_
  have kd := kq.drop (H.at_.1.trans ha.symm)
  replace hs := (kd.get m hl (by simp)).trans hs
  replace hl := Nat.lt_of_lt_of_le hl kd.n
  refine X.callQ rfl Tryz.call35 ofj0_run ?_
  refine X.call rfl Tryz.call34 (ValF_run m (sc2 m) rfl hs hl) ?_
  rintro _ h3 ⟨k3, rfl⟩
  replace H := H.same k3
  refine X.op rfl rfl rfl ?_
  refine X.gh [90] H rfl fun h H nN => ?_
  refine X.call rfl Tryz.call36 (errRF_run _ h) ?_
  rintro _ h1 ⟨k1, rfl⟩
  replace H := H.same k1
  refine X.gh [0] H rfl fun h H nN => ?_
  exact X.retV [0] H rfl ⟨H.kp, rfl⟩
theorem errsF_run : ∀ h0, ARunE Tryz.prog 15 [sch 2 false [], .agg jv0] h0 fun r h' => Kp [] h0 h' ∧ r = jeF := by
  intro h0
  refine X.of (n := 11) (rs := [.cell 4 53, .tmp 5]) [] ⟨Tryz.func15, rfl, rfl, rfl⟩ rfl ?_
  have H : HI h0 [] h0 [] := HI.nil
  refine X.gm [3] [] H rfl fun h H nN => ?_
  refine X.call rfl Tryz.call25 (draftF_run h) ?_
  rintro _ h1 ⟨k1, rfl⟩
  replace H := H.same k1
  refine X.gh [0] H rfl fun h H nN => ?_
  exact X.retV [0] H rfl ⟨H.kp, rfl⟩
theorem errs_run (ts : List Str) (hl : ts.length ≤ 2147483647) (hok : okB ts = true) (v : JV) (hv : OfJ v) : ∀ h0, ARunE Tryz.prog 15 [sch 0 fE ts, .agg v.cs] h0 fun r h' => Kp [] h0 h' ∧ r = jeR ts v.k := by
  intro h0
  have hd := draft_run (fE := fE) ts hl hok v hv
  obtain ⟨b, n, z1, z2, e⟩ := v.shape
  rw [e] at hd ⊢
  refine X.of (n := 11) (rs := [.cell 4 53, .tmp 5]) [] ⟨Tryz.func15, rfl, rfl, rfl⟩ rfl ?_
  have H : HI h0 [] h0 [] := HI.nil
  refine X.gm [3] [] H rfl fun h H nN => ?_
  refine X.call rfl Tryz.call25 (hd h) ?_
  rintro _ h1 ⟨k1, rfl⟩
  replace H := H.same k1
  unfold jeR
  split
  · refine X.gh [0] H rfl fun h H nN => ?_
    exact X.retV [0] H rfl ⟨H.kp, rfl⟩
  · refine X.gh [0] H rfl fun h H nN => ?_
    exact X.retV [0] H rfl ⟨H.kp, rfl⟩
end
end Go.Am
end
section
namespace Go.Am
open Go.Proofs
set_option maxRecDepth 100000
set_option linter.unusedSimpArgs false
set_option linter.unusedVariables false
attribute [local irreducible] AC AL AW AD ARun
section
variable {h h0 : AH} {fE f1 f2 : Bool}
theorem among1_run (s x : Str) : ∀ h0, ARun Tryz.prog 27 [.str s, .vec .full 1 [[.str x]]] h0 (.bool (decide (s = x))) h0 := by
  intro h0
  refine ARun.pure (.bool _) ?_
  refine X.of (n := 18) (rs := [.tmp 4]) [] ⟨Tryz.func27, rfl, rfl, rfl⟩ rfl ?_
  have H : HI h0 [] h0 [] := HI.nil
  refine X.g H rfl fun h H nN => ?_
  refine X.roll ?_
  refine X.gh [91] H rfl fun h H nN => ?_
  refine X.free (StepD.indexAddr rfl rfl rfl rfl rfl rfl (by decide) rfl) rfl ?_
  refine X.gh [] H rfl fun h H nN => ?_
  refine X.cond rfl (fun hb => ?_) fun hb => ?_
  · refine X.gh [] H rfl fun h H nN => ?_
    refine X.retV [] H rfl ⟨H.kp, fun _ _ _ h => vbool h ?_⟩
    have := of_decide_eq_true hb
    simp_all
  · refine X.gh [] H rfl fun h H nN => ?_
    refine X.eqi 5 1 rfl (by decide) ?_
    refine X.rollN ?_
    refine X.gh [90] H rfl fun h H nN => ?_
    refine X.retV [] H rfl ⟨H.kp, fun _ _ _ h => vbool h ?_⟩
    have := of_decide_eq_false hb
    symm
    exact decide_eq_false fun e => this (by first | rw [e] | simp_all)
/-- A leaf's count. -/
theorem kindsL_run (s : Str) (p a n : AV) (t : Str) : ∀ h0, ARun Tryz.prog 17 [.agg (jeC [49] s p a t n .nilsl), .str [49], .vec .full 1 [[.str s]]] h0 (.int .i64 1) h0 := by
  intro h0
  refine ARun.pure (.int _ _) ?_
  refine X.of (n := 37) (rs := [.tmp 6]) [] ⟨Tryz.func17, rfl, rfl, rfl⟩ rfl ?_
  have H : HI h0 [] h0 [] := HI.nil
  refine X.gm [3] [92] H rfl fun h H nN => ?_
  refine X.callQ rfl Tryz.call27 (among1_run s s) ?_
  refine X.gh [] H rfl fun h H nN => ?_
  refine X.cond rfl (fun hb => ?_) fun hb => absurd hb (by simp)
  refine X.gh [] H rfl fun h H nN => ?_
  refine X.roll ?_
  refine X.gh [90] H rfl fun h H nN => ?_
  exact X.retV [] H rfl ⟨H.kp, fun _ _ _ h => h⟩
theorem kindsR_run (s : Str) (hs : s ≠ [83,99,104,101,109,97]) (p a n : AV) (t : Str) : ∀ h0, ARun Tryz.prog 17 [.agg (rootC [49] (jeC [49] s p a t n .nilsl)), .str [49], .vec .full 1 [[.str s]]] h0 (.int .i64 1) h0 := by
  intro h0
  refine ARun.pure (.int _ _) ?_
  refine X.of (n := 37) (rs := [.tmp 6]) [] ⟨Tryz.func17, rfl, rfl, rfl⟩ rfl ?_
  have H : HI h0 [] h0 [] := HI.nil
  refine X.gm [3] [92] H rfl fun h H nN => ?_
  refine X.callQ rfl Tryz.call27 (among1_run _ s) ?_
  refine X.gh [] H rfl fun h H nN => ?_
  refine X.cond rfl (fun hb => absurd (of_decide_eq_true hb) fun e => hs e.symm) fun hb => ?_
  refine X.gh [] H rfl fun h H nN => ?_
  refine X.roll ?_
  refine X.gh [] H rfl fun h H nN => ?_
  refine X.unO 21 rfl ?_
  refine X.gh [91] H rfl fun h H nN => ?_
  refine X.unO 28 rfl ?_
  refine X.free (StepD.indexAddr rfl rfl rfl rfl rfl rfl (by decide) rfl) rfl ?_
  refine X.gh [] H rfl fun h H nN => ?_
  refine X.callQ rfl Tryz.call17 (kindsL_run s p a n t) ?_
  refine X.gh [] H rfl fun h H nN => ?_
  refine X.eqi 8 1 rfl (by decide) ?_
  refine X.eqi 7 1 rfl (by decide) ?_
  refine X.rollN ?_
  refine X.gh [] H rfl fun h H nN => ?_
  refine X.unO 21 rfl ?_
  refine X.gh [90] H rfl fun h H nN => ?_
  exact X.retV [] H rfl ⟨H.kp, fun _ _ _ h => h⟩
end
end Go.Am
end
