import Derived.Test.YtlnpifmdjcnflaaGreatDoorS18
set_option linter.unusedVariables false
set_option linter.unusedSimpArgs false
section
namespace Go.Am
open Go.Proofs
set_option maxRecDepth 100000
set_option linter.unusedSimpArgs false
set_option linter.unusedVariables false
attribute [local irreducible] AC AL AW AD ARun
section
variable {P : Program} {lt : LT} {h h1 h0 : AH} {fr : AFr} {ks : List Kt} {C : Exit → AFr → AH → Prop} {ops l : List Oper} {o : Oper} {D pre : List Nat} {ids : List Nat} {V : View}
/-- A slice that was built whole, or one that has grown. -/
def GrowF (h0 h : AH) (sz : Nat) (x : AV) (es : List (List AV)) : Prop := x = .vec .full sz es ∨ Grows h0 h sz x es
theorem GrowF.kp {hb : AH} {sz : Nat} {x : AV} {es : List (List AV)} {ids : List Nat} (g : GrowF hb h sz x es) (k : Kp ids h h1) : GrowF hb h1 sz x es := g.imp id fun g => g.kp k
theorem X.appF {s x : Operand} {t : TypeId} {sz by_ : Nat} {xs y : AV} {es ys : List (List AV)} {d : Tmp} (H : HI h0 ids h V) (ha : appArgs o.op = some (s, x, t)) (hw : aWanted ops fr o.guard = some true) (hi : appInfo P t = some (sz, by_))
    (es_ : fr.ev s = .v xs) (ex : fr.ev x = .v y) (hy : elemsOf sz y = some ys) (hne : ys ≠ []) (hd : o.dst = some d) (hG : GrowF h0 h sz xs es) (hb_ : (es.length + ys.length) * (by_ + 1) ≤ 140737488355328)
    (T : ∀ x' h', HI h0 ids h' V → GrowF h0 h' sz x' (es ++ ys) → XS P lt C (.ops ops l D) ks (fr.putD d (.v x')) h') : XS P lt C (.ops ops (o :: l) D) ks fr h := by
  rcases hG with rfl | hG
  · have st := StepD.app (lt := lt) (h := h) (h' := h.newLin) (lin := h.nt) (v := 0) ha hw hi es_ ex (.inr (.inl ⟨rfl, rfl, rfl, rfl⟩)) hy hne hb_
    refine AL.ofStepD st ?_
    rw [hd]
    have k : Kp [] h h.newLin := ⟨Nat.le_refl _, fun _ _ _ => rfl, Nat.le_succ _, fun l hl => by simp only [AH.newLin]; rw [beq_false_of_ne (by omega)], rfl⟩
    exact T _ _ (H.same k) (.inr (.inr ⟨h.nt, 0, .inl rfl, H.kp.nt, Nat.lt_succ_self _, by simp [AH.newLin]⟩))
  · exact X.app H ha hw hi es_ ex hy hd hG hb_ fun x' h' H G _ => T x' h' H (.inr G)
end
section
variable {h h0 : AH} {fE f1 f2 : Bool}
theorem IVo.cells {k : Int} {x : AV} {h' : AH} (i : IVo k x h') : x.cells = some [x] := by
  rcases i with ⟨-, rfl⟩ | ⟨-, b, rfl⟩ | ⟨-, b, rfl⟩ | ⟨-, b, c, rfl⟩ | ⟨-, b, c, rfl, -⟩ <;> rfl
theorem GrowF.vec {h0 h : AH} {x : AV} {es : List (List AV)} (g : GrowF h0 h 1 x es) : x = .nilsl ∨ ∃ tk, x = .vec tk 1 es := by
  rcases g with rfl | g
  · exact .inr ⟨_, rfl⟩
  · exact g.form
set_option maxHeartbeats 2000000 in
theorem ofjs_run (xs : List JV) (hx : xs.length ≤ 1700000000000) (ih : ∀ x ∈ xs, OfJ x) : ∀ h0, ARunE Tryz.prog 60 [.one (slG f2 6 (xs.map JV.cs))] h0 fun x h' => Kp [] h0 h' ∧ ∃ tk es, x = .vec tk 1 es := by
  intro h0
  refine X.of (n := 20) (rs := [.tmp 2]) [] ⟨Tryz.func60, rfl, rfl, rfl⟩ rfl ?_
  have H : HI h0 [] h0 [] := HI.nil
  have hE6 := slG_elems f2 6 (xs.map JV.cs)
  have hL6 : (xs.map JV.cs).length = xs.length := by simp
  refine X.g H rfl fun h H nN => ?_
  refine X.lenZ 6 rfl rfl rfl rfl rfl hE6 rfl rfl rfl ?_
  refine X.unO 7 rfl ?_
  refine X.g H rfl fun h H nN => ?_
  rw [hL6]
  refine X.whileJ 20 (fun p : Nat × AV => xs.length - p.1) (fun p => [(3, p.2), (7, slG f2 6 (xs.map JV.cs)), (8, .int .i64 (xs.length : Nat)), (9, .int .i64 (p.1 : Nat))])
    (fun p h' => HI h0 [] h' [] ∧ p.1 ≤ xs.length ∧ (∃ tk es, p.2 = .vec tk 1 es) ∧ ∃ es, GrowF h0 h' 1 p.2 es ∧ es.length = p.1) (fun x : AV => [(3, x)]) (fun x h' => HI h0 [] h' [] ∧ ∃ tk es, x = .vec tk 1 es) (0, .vec .full 1 []) rfl ⟨H, by simp, ⟨_, _, rfl⟩, [], .inl rfl, rfl⟩ ?_ ?_
  · clear H
    rintro ⟨i, x⟩ h ⟨H, hi, hv, es, G, hel⟩ again done
    simp only at hi hv G hel again done
    refine X.r H rfl fun h H nN kq => ?_
    replace G := G.kp kq
    refine X.cond rfl (fun hb3 => ?_) fun hb3 => ?_
    · have hlt : i < xs.length := by have := of_decide_eq_true hb3; omega
      have hc : (xs.map JV.cs)[i]? = some (xs[i].cs) := by simp [hlt]
      have hq := ih xs[i] (List.getElem_mem hlt)
      unfold OfJ at hq
      obtain ⟨b7, n7, z1, z2, e7⟩ := xs[i].shape
      rw [e7] at hc hq
      rw [slG_vec (sz := 6) (by rw [hL6]; exact hlt)] at again ⊢
      refine X.r H rfl fun h H nN kq => ?_
      replace G := G.kp kq
      refine X.free (StepD.indexAddr rfl rfl rfl rfl rfl rfl (Int.natCast_nonneg _) (by rw [Int.toNat_natCast]; exact hc)) rfl ?_
      refine X.rh [0, 0] H rfl fun h H nN kq => ?_
      replace G := G.kp kq
      refine X.call rfl Tryz.call35 ((hq _).one (Q' := fun y h' => Kp [] h h' ∧ ∃ z, y = .one z) (fun v h' q => q.2.cells) fun v h' q => ⟨q.1, _, rfl⟩) ?_
      rintro _ h1 ⟨k1, y, rfl⟩
      replace H := H.same k1
      replace G := G.kp k1
      refine X.r H rfl fun h H nN kq => ?_
      replace G := G.kp kq
      refine X.appF (by_ := 16) (es := es) (ys := [[.one y]]) H rfl rfl rfl rfl rfl rfl (by simp) rfl G (by simp; omega) fun x' h' H G => ?_
      refine X.r (H.take (k := 0)) rfl fun h H nN kq => ?_
      replace G := G.kp kq
      exact again (i + 1, x') (by simp; omega) (HQ.mk rfl ⟨rfl, rfl, rfl, vi (wI (by omega)), trivial⟩) ⟨H, by simp; omega, by
        rcases G.vec with rfl | ⟨tk, e⟩
        · rcases G with h | h
          · cases h
          · have := h.elems
            simp [elemsOf] at this
        · exact ⟨_, _, e⟩, _, G, by simp [hel]⟩
    · refine X.g H rfl fun h H nN => ?_
      exact done x rfl ⟨H, hv⟩
  · clear H
    rintro x h ⟨H, tk, es, rfl⟩
    refine X.g H rfl fun h H nN => ?_
    exact X.retV [] H rfl ⟨H.kp, _, _, rfl⟩
end
end Go.Am
namespace Go.Am
theorem ofj_run : ∀ (N : Nat) (v : JV), SizeOf.sizeOf v < N → v.Sm → v.Ok → v.Nn → OfJ v := by
  intro N
  induction N with
  | zero => intro v h; omega
  | succ N ih =>
    intro v hN hs ho hn
    obtain ⟨k, b, n, t, ns, xs, f1, f2⟩ := v
    have hx : ∀ x ∈ xs, OfJ x := fun x hx => ih x (by
      have := List.sizeOf_lt_of_mem hx
      simp at hN
      omega) (hs.get.2.2 x hx) (ho.get.2.2.2 x hx) (hn.get.2 x hx)
    exact ofj_step _ hs ho hn hx (ofjs_run xs hs.get.2.1 hx)
end Go.Am
end
section
namespace Go.Am
open Go.Proofs
set_option maxRecDepth 100000
set_option linter.unusedSimpArgs false
set_option linter.unusedVariables false
attribute [local irreducible] AC AL AW AD ARun
section
variable {h h0 : AH} {fE f1 f2 : Bool}
theorem at0_run (x : AV) (n : Int) (hn : 0 ≤ n) : ∀ h0, ARun Tryz.prog 58 [x, .int .i64 0, .int .i64 n] h0 .nilp h0 := by
  intro h0
  refine ARun.pure .nilp ?_
  refine X.of (n := 21) (rs := [.tmp 6]) [] ⟨Tryz.func58, rfl, rfl, rfl⟩ rfl ?_
  have H : HI h0 [] h0 [] := HI.nil
  refine X.g H rfl fun h H nN => ?_
  refine X.split rfl (fun hb => ?_) fun hb => ?_
  · refine X.gh [91] H rfl fun h H nN => ?_
    exact X.retV [] H rfl ⟨H.kp, fun _ _ _ h => h⟩
  · exact absurd hn (of_decide_eq_false hb)
theorem all_run (x : AV) (n : Int) : ∀ h0, ARun Tryz.prog 95 [x, .nilsl, .int .i64 n] h0 .nilsl h0 := by
  intro h0
  refine ARun.pure .nilsl ?_
  refine X.of (n := 29) (rs := [.tmp 6]) [] ⟨Tryz.func95, rfl, rfl, rfl⟩ rfl ?_
  have H : HI h0 [] h0 [] := HI.nil
  refine X.g H rfl fun h H nN => ?_
  refine X.roll ?_
  refine X.gh [90] H rfl fun h H nN => ?_
  exact X.retV [] H rfl ⟨H.kp, fun _ _ _ h => h⟩
theorem limit_run : ∀ h0, ARun Tryz.prog 98 [.agg [.bool false, .int .i64 0]] h0 .nilp h0 := by
  intro h0
  refine ARun.pure .nilp ?_
  refine X.of (n := 7) (rs := [.tmp 2]) [] ⟨Tryz.func98, rfl, rfl, rfl⟩ rfl ?_
  have H : HI h0 [] h0 [] := HI.nil
  refine X.gh [91] H rfl fun h H nN => ?_
  exact X.retV [] H rfl ⟨H.kp, fun _ _ _ h => h⟩
theorem more_run (x : AV) : ∀ h0, ARun Tryz.prog 101 [x, .agg [.int .i64 0, .int .i64 0]] h0 .nili h0 := by
  intro h0
  refine ARun.pure .nili ?_
  refine X.of (n := 24) (rs := [.tmp 4]) [] ⟨Tryz.func101, rfl, rfl, rfl⟩ rfl ?_
  have H : HI h0 [] h0 [] := HI.nil
  refine X.gh [90, 90, 90] H rfl fun h H nN => ?_
  exact X.retV [] H rfl ⟨H.kp, fun _ _ _ h => h⟩
/-- A new map, still empty. -/
def NewMap (h0 : AH) (v : AV) (h' : AH) : Prop := ∃ m, v = .map m ∧ Kp [] h0 h' ∧ h0.n ≤ m ∧ m < h'.n ∧ h'.get m = some (.map [])
theorem props_run (x : AV) (n : Int) : ∀ h0, ARunE Tryz.prog 100 [x, .nilsl, .int .i64 n] h0 (NewMap h0) := by
  intro h0
  refine X.of (n := 31) (rs := [.tmp 6]) [] ⟨Tryz.func100, rfl, rfl, rfl⟩ rfl ?_
  have H : HI h0 [] h0 [] := HI.nil
  refine X.g H rfl fun hM H nN => ?_
  have hM0 : h0.n ≤ hM.n := H.kp.n
  refine X.op rfl rfl rfl ?_
  replace H := HI.pushO (x := .map []) H
  have G : (hM.push (.map [])).get hM.n = some (.map []) ∧ hM.n < (hM.push (.map [])).n := ⟨by simp [AH.push], by simp [AH.push]⟩
  refine X.r H rfl fun h H nN kq => ?_
  replace G : h.get hM.n = some (.map []) ∧ hM.n < h.n := ⟨(kq.get _ G.2 (by simp)).trans G.1, Nat.lt_of_lt_of_le G.2 kq.n⟩
  refine X.roll ?_
  refine X.rh [90] H rfl fun h H nN kq => ?_
  replace G : h.get hM.n = some (.map []) ∧ hM.n < h.n := ⟨(kq.get _ G.2 (by simp)).trans G.1, Nat.lt_of_lt_of_le G.2 kq.n⟩
  exact X.retV [] H rfl ⟨_, rfl, H.kp, hM0, G.2, G.1⟩
theorem copied_nil : ∀ h0, ARun Tryz.prog 61 [.nilsl] h0 (.vec .none 1 []) h0 := by
  intro h0
  refine ARun.pure (.vec _ _ fun c hc => by cases hc) ?_
  refine X.of (n := 6) (rs := [.tmp 2]) [] ⟨Tryz.func61, rfl, rfl, rfl⟩ rfl ?_
  have H : HI h0 [] h0 [] := HI.nil
  refine X.g H rfl fun h H nN => ?_
  refine X.free (StepD.app0 (sz := 1) (by_ := 16) rfl rfl rfl rfl rfl rfl rfl) rfl ?_
  refine X.g H rfl fun h H nN => ?_
  exact X.retV [] H rfl ⟨H.kp, fun g w v h => vecR_none g w v h⟩
end
end Go.Am
end
