import Derived.Test.YtlnpifmdjcnflaaGreatDoorS17
set_option linter.unusedVariables false
set_option linter.unusedSimpArgs false
namespace Go.Am
open Go.Proofs
set_option maxRecDepth 100000
set_option linter.unusedSimpArgs false
set_option linter.unusedVariables false
attribute [local irreducible] AC AL AW AD ARun
section
variable {P : Program} {lt : LT} {h h1 h0 : AH} {fr : AFr} {ks : List Kt} {C : Exit → AFr → AH → Prop} {ops l : List Oper} {o : Oper} {D pre : List Nat} {ids : List Nat} {V : View}
theorem AS.freeze {t d : Nat} {cs : List AV} (ht : fr.f t = .v (.ptr d 0)) (hg : h.get d = some (.cells cs)) : ∀ g0 w0 a w, AS lt h fr g0 w0 a w → AS lt (h.set d .frz) (fr.putD t (.v (.ref none cs))) g0 w0 a w := by
  rintro g0 w0 a w ⟨g, lb, E, R, F⟩
  obtain ⟨g', E', R', V⟩ := freeze_ptr R hg
  have F' := F.mono E'
  refine ⟨g', lb, E.trans E', R', F'.defers, F'.size, fun k hk => ?_, fun k d' off e => ?_, F'.lbi, F'.lbo⟩
  · simp only [AFr.putD]
    split
    · rename_i hkt
      have hkt := Nat.eq_of_beq_eq_true hkt
      subst hkt
      have := F.slot k hk
      rw [ht] at this
      exact V _ this
    · exact F'.slot k hk
  · simp only [AFr.putD] at e
    split at e
    · cases e
    · exact F'.hold k d' off e
theorem X.re (t : Nat) {x y : AV} (ht : fr.f t = .v x) (hs : SayR x y) {c : Code} (K : XS P lt C (.code c) ks (fr.putD t (.v y)) h) : XS P lt C (.code c) ks fr h := X.ghost (AS.slot ht hs) K
/-- A box that nobody writes to any more becomes data. -/
theorem X.freeze {d : Nat} {cs : List AV} (t : Nat) (H : HI h0 ids h ((d, cs) :: V)) (ht : fr.f t = .v (.ptr d 0)) (hd : h0.n ≤ d) {c : Code} (K : HI h0 ids (h.set d .frz) V → XS P lt C (.code c) ks (fr.putD t (.v (.ref none cs))) (h.set d .frz)) : XS P lt C (.code c) ks fr h := by
  refine X.ghost (AS.freeze ht H.at_.1) (K ?_)
  have Hn := H.hv.nodup
  refine HI.setO ⟨H.hv.2, H.kp, fun e he => H.new e (List.mem_cons_of_mem _ he)⟩ (fun e he hq => ?_) (.inl hd)
  simp only [List.map_cons, List.nodup_cons] at Hn
  exact Hn.1 (hq ▸ List.mem_map.2 ⟨e, he, rfl⟩)
theorem X.op {s : Slot} (hw : aWanted ops fr o.guard = some true) (hx : aEffD P lt fr h o.dst o.op = some (s, h1)) (hs : slotOK lt o.dst s = true) (K : XS P lt C (.ops ops l D) ks (fr.put o.dst s) h1) : XS P lt C (.ops ops (o :: l) D) ks fr h :=
  AL.ofStepD (StepD.op hw hx hs) K
theorem X.opD {s : Slot} (hw : aWanted ops fr o.guard = some true) (hx : aEffD P lt fr h o.dst o.op = some (s, h1)) (hs : slotOK lt o.dst s = true) (K : XS P lt C (.dops ops l D (2 :: pre)) ks (fr.put o.dst s) h1) : XS P lt C (.dops ops (o :: l) D pre) ks fr h :=
  stepD_AD (s := s) (h1 := h1) (kd := 2) (.inr (.inr ⟨rfl, StepD.op hw hx hs⟩)) K
theorem aEffD_map {t : TypeId} {m k v : Operand} {mo : Nat} {key : Str} {y : AV} {es es' : List (AV × AV)} {q : TypeId × TypeId} (hop : o.op = .mapUpdate t m k v) (ht : mapT P t = some q) (hm : fr.ev m = .v (.map mo)) (hk : fr.ev k = .v (.str key)) (hv : fr.ev v = .v y) (hg : h.get mo = some (.map es)) (hp : putA key y es = some es') :
    aEffD P lt fr h o.dst o.op = some (.junk, h.set mo (.map es')) := by
  rw [hop]; simp only [aEffD, aMapD, ht, hm, hk, hv, hg, hp]
/-- All keys are texts. -/
def Keyed (es : List (AV × AV)) : Prop := ∀ e ∈ es, ∃ s : Str, e.1 = .str s
theorem putA_keyed (k : Str) (v : AV) : ∀ {es : List (AV × AV)}, Keyed es → ∃ es', putA k v es = some es' ∧ Keyed es'
  | [], _ => ⟨[(.str k, v)], rfl, fun e he => ⟨k, by rw [List.mem_singleton.1 he]⟩⟩
  | (x, v') :: r, h => by
    obtain ⟨s, rfl⟩ := h (x, v') (by simp)
    have hr : Keyed r := fun e he => h e (List.mem_cons_of_mem _ he)
    simp only [putA]
    cases hb : (k == s) with
    | true =>
      exact ⟨_, rfl, fun e he => by
        rcases List.mem_cons.1 he with rfl | he
        · exact ⟨k, rfl⟩
        · exact hr e he⟩
    | false =>
      obtain ⟨es', h1, h2⟩ := putA_keyed k v hr
      simp only [h1]
      exact ⟨_, rfl, fun e he => by
        rcases List.mem_cons.1 he with rfl | he
        · exact ⟨s, rfl⟩
        · exact h2 e he⟩
end
section
variable {h h0 : AH} {fE f1 f2 : Bool}
/-- What the instance looks like at its top. -/
def IVo (k : Int) (x : AV) (h' : AH) : Prop :=
  (k = 0 ∧ x = .nili) ∨ (k = 1 ∧ ∃ b, x = .iface 4 (.bool b)) ∨ (k = 3 ∧ ∃ s, x = .iface 9 (.str s)) ∨ (k = 4 ∧ ∃ tk es, x = .iface 125 (.vec tk 1 es)) ∨
  (k = 5 ∧ ∃ o es, x = .iface 121 (.map o) ∧ h'.get o = some (.map es) ∧ Keyed es ∧ o < h'.n)
theorem JV.Ok.get {k : Int} {b n t ns xs} (h : (JV.mk k b n t ns xs f1 f2).Ok) : 0 ≤ k ∧ k ≤ 5 ∧ (k = 5 → ns.length = xs.length) ∧ ∀ x ∈ xs, x.Ok := by cases h; exact ⟨‹_›, ‹_›, ‹_›, ‹_›⟩
theorem JV.Nn.get {k : Int} {b n t ns xs} (h : (JV.mk k b n t ns xs f1 f2).Nn) : k ≠ 2 ∧ ∀ x ∈ xs, x.Nn := by cases h; exact ⟨‹_›, ‹_›⟩
theorem JV.Sm.get {k : Int} {b n t ns xs} (h : (JV.mk k b n t ns xs f1 f2).Sm) : ns.length ≤ 4611686018427387904 ∧ xs.length ≤ 1700000000000 ∧ ∀ x ∈ xs, x.Sm := by cases h; exact ⟨‹_›, ‹_›, ‹_›⟩
def OfJ (v : JV) : Prop := ∀ h0, ARunE Tryz.prog 35 [.agg v.cs] h0 fun x h' => Kp [] h0 h' ∧ IVo v.k x h'
set_option maxHeartbeats 2000000 in
theorem ofj_step (v : JV) (hs : v.Sm) (ho : v.Ok) (hn : v.Nn) (ih : ∀ x ∈ v.xs, OfJ x) (ih4 : ∀ h0, ARunE Tryz.prog 60 [.one (slG v.fb 6 (v.xs.map JV.cs))] h0 fun x h' => Kp [] h0 h' ∧ ∃ tk es, x = .vec tk 1 es) : OfJ v := by
  intro h0
  obtain ⟨k, b, n, t, ns, xs, f1, f2⟩ := v
  obtain ⟨k0, k5, hlen, -⟩ := ho.get
  obtain ⟨k2, -⟩ := hn.get
  obtain ⟨hsn, hsx, -⟩ := hs.get
  simp only [JV.xs] at ih ih4
  rw [JV.cs_mk]
  refine X.of (n := 56) (rs := [.tmp 2]) [] ⟨Tryz.func35, rfl, rfl, rfl⟩ rfl ?_
  have H : HI h0 [] h0 [] := HI.nil
  refine X.g H rfl fun h H nN => ?_
  refine X.freeze 1 H rfl (Nat.le_refl _) fun H => ?_
  refine X.cond rfl (fun hb => ?_) fun hb1 => ?_
  · refine X.g H rfl fun h H nN => ?_
    exact X.retV [] H rfl ⟨H.kp, .inr (.inl ⟨of_decide_eq_true hb, _, rfl⟩)⟩
  refine X.g H rfl fun h H nN => ?_
  refine X.cond rfl (fun hb => ?_) fun hb2 => ?_
  · exact absurd (of_decide_eq_true hb) k2
  refine X.g H rfl fun h H nN => ?_
  refine X.cond rfl (fun hb => ?_) fun hb3 => ?_
  · refine X.g H rfl fun h H nN => ?_
    exact X.retV [] H rfl ⟨H.kp, .inr (.inr (.inl ⟨of_decide_eq_true hb, _, rfl⟩))⟩
  refine X.g H rfl fun h H nN => ?_
  refine X.cond rfl (fun hb => ?_) fun hb4 => ?_
  · refine X.g H rfl fun h H nN => ?_
    refine X.call rfl Tryz.call60 (ih4 _) ?_
    rintro x h1 ⟨k1, tk, es, rfl⟩
    replace H := H.same k1
    refine X.g H rfl fun h H nN => ?_
    exact X.retV [] H rfl ⟨H.kp, .inr (.inr (.inr (.inl ⟨of_decide_eq_true hb, _, _, rfl⟩)))⟩
  refine X.g H rfl fun h H nN => ?_
  refine X.cond rfl (fun hb => ?_) fun hb5 => ?_
  · have hk : k = 5 := of_decide_eq_true hb
    have hln := hlen hk
    refine X.g H rfl fun hM H nN => ?_
    have hM0 : h0.n ≤ hM.n := H.kp.n
    refine X.op rfl rfl rfl ?_
    replace H := HI.pushO (x := .map []) H
    have G : (hM.push (.map [])).get hM.n = some (.map []) ∧ hM.n < (hM.push (.map [])).n := ⟨by simp [AH.push], by simp [AH.push]⟩
    refine X.r H rfl fun h H nN kq => ?_
    replace G : h.get hM.n = some (.map []) ∧ hM.n < h.n := ⟨(kq.get _ G.2 (by simp)).trans G.1, Nat.lt_of_lt_of_le G.2 kq.n⟩
    have hE6 := slG_elems f2 6 (xs.map JV.cs)
    have hL6 : (xs.map JV.cs).length = xs.length := by simp
    have hE1 := slG_elems f1 1 (ns.map strCs)
    have hL1 : (ns.map strCs).length = ns.length := by simp
    refine X.lenZ 6 rfl rfl rfl rfl rfl hE6 rfl rfl rfl ?_
    refine X.unO 33 rfl ?_
    refine X.r H rfl fun h H nN kq => ?_
    replace G : h.get hM.n = some (.map []) ∧ hM.n < h.n := ⟨(kq.get _ G.2 (by simp)).trans G.1, Nat.lt_of_lt_of_le G.2 kq.n⟩
    rw [hL6]
    refine X.whileJ 56 (fun i : Nat => xs.length - i) (fun i => [(1, .ref none [.int .i64 k, .bool b, .int .i64 n, .str t, .one (slG f1 1 (ns.map strCs)), .one (slG f2 6 (xs.map JV.cs))]), (3, .map hM.n), (33, slG f2 6 (xs.map JV.cs)), (34, .int .i64 (xs.length : Nat)), (35, .int .i64 (i : Nat))])
      (fun i h' => HI h0 [] h' [] ∧ i ≤ xs.length ∧ hM.n < h'.n ∧ ∃ es, h'.get hM.n = some (.map es) ∧ Keyed es) (fun _ : Unit => [(3, .map hM.n)]) (fun _ h' => HI h0 [] h' [] ∧ hM.n < h'.n ∧ ∃ es, h'.get hM.n = some (.map es) ∧ Keyed es) 0 rfl ⟨H, by omega, G.2, _, G.1, fun e he => by simp at he⟩ ?_ ?_
    · clear H G nN kq
      rintro i h ⟨H, hi, hlt0, es, hes, hke⟩ again done
      refine X.r H rfl fun h H nN kq => ?_
      replace hes := (kq.get _ hlt0 (by simp)).trans hes
      replace hlt0 := Nat.lt_of_lt_of_le hlt0 kq.n
      refine X.cond rfl (fun hb3 => ?_) fun hb3 => ?_
      · have hlt : i < xs.length := by have := of_decide_eq_true hb3; omega
        have hltn : i < ns.length := by omega
        have hc : (xs.map JV.cs)[i]? = some (xs[i].cs) := by simp [hlt]
        have hcn : (ns.map strCs)[i]? = some (strCs ns[i]) := by simp [hltn]
        have hq := ih xs[i] (List.getElem_mem hlt)
        unfold OfJ at hq
        obtain ⟨b7, n7, z1, z2, e7⟩ := xs[i].shape
        rw [e7] at hc hq
        rw [slG_vec (sz := 6) (by rw [hL6]; exact hlt), slG_vec (sz := 1) (es := ns.map strCs) (by rw [hL1]; exact hltn)] at again ⊢
        refine X.r H rfl fun h H nN kq => ?_
        replace hes := (kq.get _ hlt0 (by simp)).trans hes
        replace hlt0 := Nat.lt_of_lt_of_le hlt0 kq.n
        refine X.free (StepD.indexAddr rfl rfl rfl rfl rfl rfl (Int.natCast_nonneg _) (by rw [Int.toNat_natCast]; exact hc)) rfl ?_
        have hd : h0.n ≤ h.n := H.kp.n
        have hltA := hlt0
        refine X.rh [0] H rfl fun h' H nN kq => ?_
        replace hes := (kq.get _ hlt0 (by simp)).trans hes
        replace hlt0 := Nat.lt_of_lt_of_le hlt0 kq.n
        refine X.lenZ 1 rfl rfl rfl rfl rfl (show elemsOf 1 (.vec .none 1 (ns.map strCs)) = some (ns.map strCs) by simp [elemsOf]) rfl rfl rfl ?_
        refine X.r H rfl fun h' H nN kq => ?_
        have hne : hM.n ≠ h.n := by omega
        replace hes := (kq.get _ hlt0 (by simpa using hne)).trans hes
        replace hlt0 := Nat.lt_of_lt_of_le hlt0 kq.n
        refine X.freeze 5 H rfl hd fun H => ?_
        replace hes : (h'.set h.n .frz).get hM.n = some (.map es) := (AH.set_ne hne).trans hes
        replace hlt0 : hM.n < (h'.set h.n .frz).n := hlt0
        refine X.re 1 (x := .ref none [.int .i64 k, .bool b, .int .i64 n, .str t, .one (.vec .none 1 (ns.map strCs)), .one (.vec .none 6 (xs.map JV.cs))]) rfl (y := .ref none [.int .i64 k, .bool b, .int .i64 n, .str t, .vec .none 1 (ns.map strCs), .one (.vec .none 6 (xs.map JV.cs))]) (SayR.refs ⟨.refl _, .refl _, .refl _, .refl _, .un _, .refl _, trivial⟩) ?_
        refine X.cond rfl (fun hb4 => ?_) fun hb4 => ?_
        · refine X.r H rfl fun h H nN kq => ?_
          replace hes := (kq.get _ hlt0 (by simp)).trans hes
          replace hlt0 := Nat.lt_of_lt_of_le hlt0 kq.n
          refine X.freeD (StepD.indexAddr rfl rfl rfl rfl rfl rfl (Int.natCast_nonneg _) (by rw [Int.toNat_natCast]; exact hcn)) rfl ?_
          refine X.r H rfl fun h H nN kq => ?_
          replace hes := (kq.get _ hlt0 (by simp)).trans hes
          replace hlt0 := Nat.lt_of_lt_of_le hlt0 kq.n
          refine X.callD rfl Tryz.call35 (hq _) ?_
          rintro x h1 ⟨k1, -⟩
          replace H := H.same k1
          replace hes := (k1.get _ hlt0 (by simp)).trans hes
          replace hlt0 := Nat.lt_of_lt_of_le hlt0 k1.n
          obtain ⟨es', hp, hke'⟩ := putA_keyed ns[i] x hke
          refine X.opD rfl (aEffD_map rfl rfl rfl rfl rfl hes hp) rfl ?_
          replace H := H.setO (x := .map es') (fun e he => by simp at he) (.inl hM0)
          replace hes : (h1.set hM.n (.map es')).get hM.n = some (.map es') := AH.set_at
          replace hlt0 : hM.n < (h1.set hM.n (.map es')).n := hlt0
          refine X.n 3 H rfl fun h H nN kq => ?_
          replace hes := (kq.get _ hlt0 (by simp)).trans hes
          replace hlt0 := Nat.lt_of_lt_of_le hlt0 kq.n
          refine X.re 1 (x := .ref none [.int .i64 k, .bool b, .int .i64 n, .str t, .vec .none 1 (ns.map strCs), .one (.vec .none 6 (xs.map JV.cs))]) rfl (y := .ref none [.int .i64 k, .bool b, .int .i64 n, .str t, .one (.vec .none 1 (ns.map strCs)), .one (.vec .none 6 (xs.map JV.cs))]) (SayR.refs ⟨.refl _, .refl _, .refl _, .refl _, .one _, .refl _, trivial⟩) ?_
          refine X.r H rfl fun h H nN kq => ?_
          replace hes := (kq.get _ hlt0 (by simp)).trans hes
          replace hlt0 := Nat.lt_of_lt_of_le hlt0 kq.n
          exact again (i + 1) (by omega) (HQ.mk rfl ⟨rfl, rfl, rfl, rfl, vi (wI (by omega)), trivial⟩) ⟨H, by omega, hlt0, es', hes, hke'⟩
        · exact absurd (of_decide_eq_false hb4) (by rw [hL1]; omega)
      · refine X.r H rfl fun h H nN kq => ?_
        replace hes := (kq.get _ hlt0 (by simp)).trans hes
        replace hlt0 := Nat.lt_of_lt_of_le hlt0 kq.n
        exact done () rfl ⟨H, hlt0, es, hes, hke⟩
    · clear H G nN kq
      rintro ⟨⟩ h ⟨H, hlt0, es, hes, hke⟩
      refine X.r H rfl fun h H nN kq => ?_
      replace hes := (kq.get _ hlt0 (by simp)).trans hes
      replace hlt0 := Nat.lt_of_lt_of_le hlt0 kq.n
      exact X.retV [] H rfl ⟨H.kp, .inr (.inr (.inr (.inr ⟨hk, _, _, rfl, hes, hke, hlt0⟩)))⟩
  · refine X.g H rfl fun h H nN => ?_
    have : k = 0 := by
      have a1 := of_decide_eq_false hb1
      have a2 := of_decide_eq_false hb2
      have a3 := of_decide_eq_false hb3
      have a4 := of_decide_eq_false hb4
      have a5 := of_decide_eq_false hb5
      omega
    exact X.retV [] H rfl ⟨H.kp, .inl ⟨this, rfl⟩⟩
end
end Go.Am
