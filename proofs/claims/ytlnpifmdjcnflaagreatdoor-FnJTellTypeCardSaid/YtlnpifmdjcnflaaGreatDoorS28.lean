import Derived.Test.YtlnpifmdjcnflaaGreatDoorS27
set_option linter.unusedVariables false
set_option linter.unusedSimpArgs false
namespace Go.Am
open Go.Proofs
set_option maxRecDepth 100000
set_option linter.unusedSimpArgs false
set_option linter.unusedVariables false
attribute [local irreducible] AC AL AW AD ARun
theorem aEffD_look {P : Program} {lt : LT} {fr : AFr} {h : AH} {o : Oper} {t : TypeId} {x i : Operand} {ok : Bool} {mo : Nat} {key : Str} {s : Slot} {q : TypeId × TypeId} (hop : o.op = .lookup t x i ok) (ht : mapT P t = some q) (hm : fr.ev x = .v (.map mo)) (hk : fr.ev i = .v (.str key)) (hg : h.get mo = some (.map [])) (hr : lookR P q.2 ok none = some s) :
    aEffD P lt fr h o.dst o.op = some (s, h) := by
  rw [hop]
  obtain ⟨q1, q2⟩ := q
  have e : aLookup P fr h t x i ok = some s := by
    unfold aLookup aEntries
    simp only [ht, hm, hk, hg, findA]
    exact hr
  simp only [aEffD, aPureD, aPure, e]
/-- An empty map. -/
def MT (h : AH) (v : AV) : Prop := ∃ m, v = .map m ∧ m < h.n ∧ h.get m = some (.map [])
theorem MT.kp {h h' : AH} {v : AV} {ids : List Nat} (t : MT h v) (k : Kp ids h h') (hi : ∀ m, v = .map m → m ∉ ids) : MT h' v := by
  obtain ⟨m, a, b, c⟩ := t
  exact ⟨m, a, Nat.lt_of_lt_of_le b k.n, (k.get m b (hi m a)).trans c⟩
/-- A loop over an empty map. -/
theorem X.mapNone {P : Program} {lt : LT} {C : Exit → AFr → AH → Prop} {h : AH} {c y : Code} {id : Nat} {o : Oper} {l : List Oper} {ks : List Kt} {fr : AFr} {n : Nat} {S : List (Nat × AV)} {it m : Nat} {d : Tmp} {x : Operand} {eX : Exit}
    (hc : c = .seq (.region id (o :: l).toArray false) y) (ho : (o.op, o.guard, o.dst) = (.next x false, none, some d)) (hS : HQ fr n S) (hx : (canF n S).ev x = .v (.ptr it 0))
    (hit : h.get it = some (.mit m 0 0 none)) (hm : h.get m = some (.map [])) (hX : eX ≠ .normal)
    (over : XS P lt (fun e1 fr1 h1 => e1 = eX ∧ Weak lt fr1 (canF n S) ∧ Kp [] h h1) (.ops (o :: l) l []) [.seq y] ((canF n S).putD d (.v (.tup [.bool false]))) h)
    (K : XS P lt C (.ext eX) ks (canF n S) h) : XS P lt C (.code (.loop c)) ks fr h := by
  have e : h.set it (.mit m (([] : List (AV × AV)).length) (([] : List (AV × AV)).length) none) = h := AH.set_self hit
  refine X.mapLoop (es := []) hc ho hS hx hit hm hX (fun i e he => by cases he) ?_ ?_
  · rw [e]; exact over
  · rw [e]; exact K
section
variable {h h0 : AH} {fE f1 f2 : Bool}
set_option maxHeartbeats 4000000 in
theorem obj_run (o m : Nat) (x vl : AV) (s : Sc) (hd : s.draft = 2020) (hr : s.req = .vec .none 1 []) (sp un er : AV) (es : List (AV × AV)) (hk : Keyed es) (hm : h0.get m = some (.map es)) (hml : m < h0.n)
    (E1 : MT h0 s.props) (E2 : MT h0 s.pats) (E3 : MT h0 s.deps) (E4 : MT h0 s.dreq) (E5 : MT h0 s.dsch)
    (hg : h0.get o = some (.cells (vdC x vl s sp un er))) (ho : o < h0.n) : ARunE Tryz.prog 153 [.ptr o 0, .map m] h0 fun v h' => Kp [] h0 h' ∧ v = .tup [] := by
  obtain ⟨d, l, b, t, r, p, q, e1, e2, e3⟩ := s
  simp only at hd hr
  subst hd hr
  obtain ⟨m1, a1, b1, c1⟩ := E1
  obtain ⟨m2, a2, b2, c2⟩ := E2
  obtain ⟨m3, a3, b3, c3⟩ := E3
  obtain ⟨m4, a4, b4, c4⟩ := E4
  obtain ⟨m5, a5, b5, c5⟩ := E5
  simp only at a1 a2 a3 a4 a5
  subst a1 a2 a3 a4 a5
  have hmo : ∀ k, h0.get k = some (.map []) → k ≠ o := fun k hk e => by rw [e, hg] at hk; cases hk
  have n1 := hmo m1 c1
  have n2 := hmo m2 c2
  have n3 := hmo m3 c3
  have n4 := hmo m4 c4
  have n5 := hmo m5 c5
  have nm : m ≠ o := fun e => by rw [e, hg] at hm; cases hm
  refine X.of (n := 388) (rs := []) [] ⟨Tryz.func153, rfl, rfl, rfl⟩ rfl ?_
  have H : HI h0 [o] h0 [(o, vdC x vl ⟨2020, l, b, t, .vec .none 1 [], .map m1, .map m2, .map m3, .map m4, .map m5⟩ sp un er)] := HI.one hg ho
  refine X.rh [90, 90, 90, 92, 90] H rfl fun hA H nN kq => ?_
  have pA : h0.n ≤ hA.n := kq.n
  have MK : ∀ {h : AH}, Kp [o] h0 h → ∀ k, k ≠ o → k < h0.n → h.get k = h0.get k := fun kq k hk hl => kq.get k hl (by simpa using hk)
  refine X.st (StepD.rangeM rfl rfl rfl rfl ((MK H.kp m3 n3 b3).trans c3)) rfl ?_
  have gI : (hA.push (.mit m3 0 0 none)).get hA.n = some (.mit m3 0 0 none) := by simp [AH.push]
  have gN : hA.n < (hA.push (.mit m3 0 0 none)).n := by simp [AH.push]
  replace H := HI.pushO (x := .mit m3 0 0 none) H
  refine X.rh [] H rfl fun h H nN kq => ?_
  refine X.mapNone (n := 388) (S := [(0, .ptr o 0), (1, .map m), (4, .ref none (⟨2020, l, b, t, .vec .none 1 [], .map m1, .map m2, .map m3, .map m4, .map m5⟩ : Sc).cs), (131, .ptr hA.n 0)]) (eX := .exit 0) rfl rfl (HQ.mk rfl ⟨rfl, rfl, rfl, rfl, trivial⟩) rfl
    ((kq.get _ gN (by simp; omega)).trans gI) ((MK H.kp m3 n3 b3).trans c3) (fun h => by cases h) ?_ ?_
  · refine X.gh [90] (HI.nil (h := h) (ids := [])) rfl fun h H nN => ?_
    exact ⟨rfl, Weak.sl (HQ.mk rfl ⟨rfl, rfl, rfl, rfl, trivial⟩), H.kp⟩
  refine X.rh [] H rfl fun hB H nN kq => ?_
  have pB : h0.n ≤ hB.n := H.kp.n
  refine X.st (StepD.rangeM rfl rfl rfl rfl ((MK H.kp m nm hml).trans hm)) rfl ?_
  have gI : (hB.push (.mit m es.length 0 none)).get hB.n = some (.mit m es.length 0 none) := by simp [AH.push]
  have gN : hB.n < (hB.push (.mit m es.length 0 none)).n := by simp [AH.push]
  replace H := HI.pushO (x := .mit m es.length 0 none) H
  refine X.rh [] H rfl fun h H nN kq => ?_
  have hit : h.get hB.n = some (.mit m es.length 0 none) := (kq.get _ gN (by simp; omega)).trans gI
  refine X.mapLoop (n := 388) (S := [(0, .ptr o 0), (1, .map m), (4, .ref none (⟨2020, l, b, t, .vec .none 1 [], .map m1, .map m2, .map m3, .map m4, .map m5⟩ : Sc).cs), (13, .nilsl), (170, .ptr hB.n 0)]) (eX := .exit 3) rfl rfl (HQ.mk rfl ⟨rfl, rfl, rfl, rfl, rfl, trivial⟩) rfl
    hit ((MK H.kp m nm hml).trans hm) (fun h => by cases h) ?_ ?_ ?_
  · intro i e he k hkl
    obtain ⟨key, e1⟩ := hk e (List.mem_of_getElem? he)
    obtain ⟨ek, ev⟩ := e
    simp only at e1
    subst e1
    have hoB : o < hB.n := by omega
    generalize hh : h.set hB.n (.mit m es.length (k + 1) (some i)) = h1
    have T : ∀ j, j ≠ hB.n → h1.get j = h.get j := fun j hj => by rw [← hh]; exact AH.set_ne hj
    have hN : h1.n = h.n := by rw [← hh]; rfl
    have g1 : h1.get o = some (.cells (vdC x vl ⟨2020, l, b, t, .vec .none 1 [], .map m1, .map m2, .map m3, .map m4, .map m5⟩ sp un er)) := (T o (by omega)).trans H.at_.1
    have H1 := HI.one (h := h1) g1 (by rw [hN]; exact H.at_.2)
    have hit1 : h1.get hB.n = some (.mit m es.length (k + 1) (some i)) := by rw [← hh]; exact AH.set_at
    have hm1 : h1.get m = some (.map es) := (T m (by omega)).trans ((MK H.kp m nm hml).trans hm)
    have hp1 : h1.get m1 = some (.map []) := (T m1 (by omega)).trans ((MK H.kp m1 n1 b1).trans c1)
    have hp2 : h1.get m2 = some (.map []) := (T m2 (by omega)).trans ((MK H.kp m2 n2 b2).trans c2)
    have hln : hB.n < h1.n := by have := kq.n; simp [AH.push] at this; omega
    have M1 : ∀ {h : AH}, Kp [o] h1 h → ∀ k, k ≠ o → k < h1.n → h.get k = h1.get k := fun kq k hk hl => kq.get k hl (by simpa using hk)
    refine X.gh [91] H1 rfl fun h H nN => ?_
    refine X.st (StepD.entryM rfl rfl rfl ((M1 H.kp _ (by omega) hln).trans hit1) ((M1 H.kp _ nm (by omega)).trans hm1) he) rfl ?_
    refine X.gh [92, 90] H rfl fun h H nN => ?_
    refine X.op rfl (aEffD_look rfl rfl rfl rfl ((M1 H.kp _ n1 (by omega)).trans hp1) rfl) rfl ?_
    refine X.rh [90] H rfl fun hC H nN kq => ?_
    have pC : h1.n ≤ hC.n := H.kp.n
    refine X.st (StepD.rangeM rfl rfl rfl rfl ((M1 H.kp m2 n2 (by omega)).trans hp2)) rfl ?_
    have gI : (hC.push (.mit m2 0 0 none)).get hC.n = some (.mit m2 0 0 none) := by simp [AH.push]
    have gN : hC.n < (hC.push (.mit m2 0 0 none)).n := by simp [AH.push]
    replace H := HI.pushO (x := .mit m2 0 0 none) H
    refine X.rh [] H rfl fun h H nN kq => ?_
    refine X.mapNone (n := 388) (S := [(0, .ptr o 0), (1, .map m), (4, .ref none (⟨2020, l, b, t, .vec .none 1 [], .map m1, .map m2, .map m3, .map m4, .map m5⟩ : Sc).cs), (13, .nilsl), (16, .bool false), (170, .ptr hB.n 0), (209, .ptr hC.n 0)]) (eX := .exit 5) rfl rfl (HQ.mk rfl ⟨rfl, rfl, rfl, rfl, rfl, rfl, rfl, trivial⟩) rfl
      ((kq.get _ gN (by simp; omega)).trans gI) ((M1 H.kp m2 n2 (by omega)).trans hp2) (fun h => by cases h) ?_ ?_
    · refine X.gh [90] (HI.nil (h := h) (ids := [])) rfl fun h H nN => ?_
      exact ⟨rfl, Weak.sl (HQ.mk rfl ⟨rfl, rfl, rfl, rfl, rfl, rfl, rfl, trivial⟩), H.kp⟩
    refine X.gh [92, 90, 90] H rfl fun h H nN => ?_
    exact ⟨rfl, Weak.sl (HQ.mk rfl ⟨rfl, rfl, rfl, rfl, rfl, trivial⟩), H.kp.drop (H.at_.1.trans g1.symm)⟩
  · refine X.gh [90] (HI.nil (h := h.set hB.n (.mit m es.length es.length none)) (ids := [])) rfl fun h H nN => ?_
    exact ⟨rfl, Weak.sl (HQ.mk rfl ⟨rfl, rfl, rfl, rfl, rfl, trivial⟩), H.kp⟩
  replace H := HI.setO (o := hB.n) (x := .mit m es.length es.length none) H (by simp; omega) (.inl pB)
  refine X.rh [90, 90, 90, 90] H rfl fun hC H nN kq => ?_
  have pC : h0.n ≤ hC.n := H.kp.n
  refine X.st (StepD.rangeM rfl rfl rfl rfl ((MK H.kp m5 n5 b5).trans c5)) rfl ?_
  have gI : (hC.push (.mit m5 0 0 none)).get hC.n = some (.mit m5 0 0 none) := by simp [AH.push]
  have gN : hC.n < (hC.push (.mit m5 0 0 none)).n := by simp [AH.push]
  replace H := HI.pushO (x := .mit m5 0 0 none) H
  refine X.rh [] H rfl fun h H nN kq => ?_
  refine X.mapNone (n := 388) (S := [(0, .ptr o 0), (1, .map m), (4, .ref none (⟨2020, l, b, t, .vec .none 1 [], .map m1, .map m2, .map m3, .map m4, .map m5⟩ : Sc).cs), (340, .ptr hC.n 0)]) (eX := .exit 10) rfl rfl (HQ.mk rfl ⟨rfl, rfl, rfl, rfl, trivial⟩) rfl
    ((kq.get _ gN (by simp; omega)).trans gI) ((MK H.kp m5 n5 b5).trans c5) (fun h => by cases h) ?_ ?_
  · refine X.gh [90] (HI.nil (h := h) (ids := [])) rfl fun h H nN => ?_
    exact ⟨rfl, Weak.sl (HQ.mk rfl ⟨rfl, rfl, rfl, rfl, trivial⟩), H.kp⟩
  refine X.rh [] H rfl fun hD H nN kq => ?_
  have pD : h0.n ≤ hD.n := H.kp.n
  refine X.st (StepD.rangeM rfl rfl rfl rfl ((MK H.kp m4 n4 b4).trans c4)) rfl ?_
  have gI : (hD.push (.mit m4 0 0 none)).get hD.n = some (.mit m4 0 0 none) := by simp [AH.push]
  have gN : hD.n < (hD.push (.mit m4 0 0 none)).n := by simp [AH.push]
  replace H := HI.pushO (x := .mit m4 0 0 none) H
  refine X.rh [] H rfl fun h H nN kq => ?_
  refine X.mapNone (n := 388) (S := [(0, .ptr o 0), (1, .map m), (4, .ref none (⟨2020, l, b, t, .vec .none 1 [], .map m1, .map m2, .map m3, .map m4, .map m5⟩ : Sc).cs), (362, .ptr hD.n 0)]) (eX := .exit 12) rfl rfl (HQ.mk rfl ⟨rfl, rfl, rfl, rfl, trivial⟩) rfl
    ((kq.get _ gN (by simp; omega)).trans gI) ((MK H.kp m4 n4 b4).trans c4) (fun h => by cases h) ?_ ?_
  · refine X.gh [90] (HI.nil (h := h) (ids := [])) rfl fun h H nN => ?_
    exact ⟨rfl, Weak.sl (HQ.mk rfl ⟨rfl, rfl, rfl, rfl, trivial⟩), H.kp⟩
  refine X.gh [] H rfl fun h H nN => ?_
  exact X.endV [] H rfl ⟨H.kp.drop (H.at_.1.trans hg.symm), rfl⟩
end
end Go.Am
