import Derived.Test.YtlnpifmdjcnflaaGreatDoorS36
set_option linter.unusedVariables false
set_option linter.unusedSimpArgs false
namespace Go.Am
open Go.Proofs
set_option maxRecDepth 100000
set_option linter.unusedSimpArgs false
set_option linter.unusedVariables false
attribute [local irreducible] AC AL AW AD ARun
theorem TQ.ofR {f : FuncId} {args : List AV} {Q : AV → Prop} (hp : ∀ v, Q v → Pure v) (H : ∀ h0, ARunE Tryz.prog f args h0 fun v h' => Kp [] h0 h' ∧ ∃ y, Q y ∧ SayR v y) : TQ f args Q := fun h => by
  obtain ⟨v, h', ⟨k, y, q, s⟩, r⟩ := H h
  exact ⟨y, h, ⟨q, rfl⟩, ARun.pure (hp y q) ⟨v, h', ⟨k, s⟩, r⟩⟩
section
variable {lt : LT} {h : AH} {fr : AFr} {ks : List Kt} {C : Exit → AFr → AH → Prop} {ops l : List Oper} {o : Oper} {D pre : List Nat}
theorem X.callTD {f : FuncId} {args : List AV} {Q : AV → Prop} {d : Tmp} (hc : (aCallee fr o.op, aWanted ops fr o.guard, o.dst) = (some (f, args), some true, some d)) (hf : Callable Tryz.prog f)
    (H : TQ f args Q) (K : ∀ v, Q v → XS Tryz.prog lt C (.dops ops l D (1 :: pre)) ks (fr.putD d (.v v)) h) : XS Tryz.prog lt C (.dops ops (o :: l) D pre) ks fr h := by
  injection hc with hc hg
  injection hg with hg hd
  obtain ⟨v, h1, ⟨q, rfl⟩, r⟩ := H h
  exact X.rdD (StepD.call hc hg hf r) hd (K v q)
end
/-- A place among some: -1 or below n. -/
abbrev isM (n : Nat) (v : AV) : Prop := ∃ i : Int, v = .int .i64 i ∧ i < n ∧ (i = -1 ∨ 0 ≤ i)
section
variable {h h0 : AH} {fE f1 f2 : Bool}
set_option maxHeartbeats 1000000 in
theorem member_run (v : JV) (hv : v.Sm) (s : Str) : TQ 71 [.agg v.cs, .str s] (isM v.ns.length) := by
  refine TQ.of (fun r ⟨i, e, _⟩ => e ▸ .int _ _) fun h0 => ?_
  obtain ⟨k, b, n, t, ns, xs, f1, f2⟩ := v
  have hn := hv.get.1
  rw [JV.cs_mk]
  simp only [JV.ns]
  have hE1 := slG_elems f1 1 (ns.map strCs)
  have hL1 : (ns.map strCs).length = ns.length := by simp
  refine X.of (n := 22) (rs := [.tmp 4]) [] ⟨Tryz.func71, rfl, rfl, rfl⟩ rfl ?_
  have H : HI h0 [] h0 [] := HI.nil
  refine X.gm [2] [] H rfl fun h H nN => ?_
  refine X.lenZ 1 rfl rfl rfl rfl rfl hE1 rfl rfl rfl ?_
  refine X.g H rfl fun h H nN => ?_
  refine X.eqv 5 (y := .int .i64 ((ns.length : Int) - 1)) rfl (by rw [hL1]; exact congrArg (AV.int .i64) (wI (by omega))) ?_
  refine X.whileJ 22 (fun j : Nat => j) (fun j => [(1, .str s), (2, .ref none [.int .i64 k, .bool b, .int .i64 n, .str t, .one (slG f1 1 (ns.map strCs)), .one (slG f2 6 (xs.map JV.cs))]), (5, .int .i64 ((j : Int) - 1))])
    (fun j h' => HI h0 [] h' [] ∧ j ≤ ns.length) (fun _ : Unit => []) (fun _ h' => HI h0 [] h' []) ns.length rfl ⟨H, Nat.le_refl _⟩ ?_ ?_
  · clear H
    rintro j h ⟨H, hj⟩ again done
    refine X.g H rfl fun h H nN => ?_
    refine X.cond rfl (fun hb3 => ?_) fun hb3 => ?_
    · have hj1 : 1 ≤ j := by have := of_decide_eq_true hb3; omega
      have hlt : j - 1 < ns.length := by omega
      have hc : (ns.map strCs)[((j : Int) - 1).toNat]? = some (strCs ns[j - 1]) := by
        rw [show ((j : Int) - 1).toNat = j - 1 by omega]
        simp [hlt]
      refine X.g H rfl fun h H nN => ?_
      refine X.unO 15 rfl ?_
      rw [slG_vec (sz := 1) (by rw [hL1]; exact hlt)] at again ⊢
      refine X.free (StepD.indexAddr rfl rfl rfl rfl rfl rfl (by omega) hc) rfl ?_
      refine X.g H rfl fun h H nN => ?_
      refine X.cond rfl (fun hb4 => ?_) fun hb4 => ?_
      · refine X.g H rfl fun h H nN => ?_
        exact X.retV [] H rfl ⟨H.kp, _, rfl, by omega, .inr (by omega)⟩
      · refine X.g H rfl fun h H nN => ?_
        refine again (j - 1) (by omega) (HQ.mk rfl ⟨rfl, rfl, vi (wI (m := ((j - 1 : Nat) : Int) - 1) (by omega)), trivial⟩) ⟨H, by omega⟩
    · refine X.g H rfl fun h H nN => ?_
      exact done () rfl H
  · clear H
    rintro ⟨⟩ h H
    refine X.g H rfl fun h H nN => ?_
    exact X.retV [] H rfl ⟨H.kp, -1, rfl, by omega, .inl rfl⟩
/-- A list of places below n. -/
abbrev isL (n : Nat) (v : AV) : Prop := ∃ l : List Nat, v = .one (slC 1 (l.map fun i => [.int .i64 (i : Nat)])) ∧ (∀ i ∈ l, i < n) ∧ l.length ≤ n
set_option maxHeartbeats 1000000 in
theorem members_run (v : JV) (hv : v.Sm) (hn : v.ns.length ≤ 1700000000000) : TQ 80 [.agg v.cs] (isL v.ns.length) := by
  refine TQ.ofR (fun r ⟨l, e, _⟩ => e ▸ slN_pure fun a _ => .cons (.int _ _) .nil) fun h0 => ?_
  have hm := member_run v hv
  obtain ⟨k, b, n, t, ns, xs, f1, f2⟩ := v
  simp only [JV.ns] at hn hm
  rw [JV.cs_mk] at hm ⊢
  simp only [JV.ns]
  have hE1 := slG_elems f1 1 (ns.map strCs)
  have hL1 : (ns.map strCs).length = ns.length := by simp
  refine X.of (n := 26) (rs := [.tmp 2]) [] ⟨Tryz.func80, rfl, rfl, rfl⟩ rfl ?_
  have H : HI h0 [] h0 [] := HI.nil
  refine X.gm [1] [] H rfl fun h H nN => ?_
  refine X.whileJ 26 (fun p : Nat × AV => ns.length - p.1) (fun p => [(1, .ref none [.int .i64 k, .bool b, .int .i64 n, .str t, .one (slG f1 1 (ns.map strCs)), .one (slG f2 6 (xs.map JV.cs))]), (3, p.2), (4, .int .i64 (p.1 : Nat))])
    (fun p h' => HI h0 [] h' [] ∧ p.1 ≤ ns.length ∧ ∃ l : List Nat, Grows h0 h' 1 p.2 (l.map fun i => [.int .i64 (i : Nat)]) ∧ (p.2 = .nilsl ∨ l ≠ []) ∧ (∀ i ∈ l, i < ns.length) ∧ l.length ≤ p.1) (fun x : AV => [(3, x)])
    (fun x h' => HI h0 [] h' [] ∧ ∃ l : List Nat, Grows h0 h' 1 x (l.map fun i => [.int .i64 (i : Nat)]) ∧ (x = .nilsl ∨ l ≠ []) ∧ (∀ i ∈ l, i < ns.length) ∧ l.length ≤ ns.length) (0, .nilsl) rfl ⟨H, by simp, [], .inl ⟨rfl, rfl⟩, .inl rfl, by simp, by simp⟩ ?_ ?_
  · clear H
    rintro ⟨i, x⟩ h ⟨H, hi, l, G, hz, hl, hll⟩ again done
    simp only at hi G hz hll again done
    refine X.r H rfl fun h H nN kq => ?_
    replace G := G.kp kq
    refine X.lenZ 1 rfl rfl rfl rfl rfl hE1 rfl rfl rfl ?_
    refine X.r H rfl fun h H nN kq => ?_
    replace G := G.kp kq
    refine X.cond rfl (fun hb3 => ?_) fun hb3 => ?_
    · have hlt : i < ns.length := by have := of_decide_eq_true hb3; rw [hL1] at this; omega
      have hc : (ns.map strCs)[i]? = some (strCs ns[i]) := by simp [hlt]
      refine X.r H rfl fun h H nN kq => ?_
      replace G := G.kp kq
      refine X.freeD (fun h => StepD.un 14 rfl (slG_vec (by rw [hL1]; exact hlt)) rfl rfl (StepD.indexAddr rfl rfl rfl rfl rfl rfl (Int.natCast_nonneg _) (by rw [Int.toNat_natCast]; exact hc) h)) rfl ?_
      refine X.r H rfl fun h H nN kq => ?_
      replace G := G.kp kq
      refine X.callTD rfl Tryz.call71 (hm ns[i]) ?_
      rintro _ ⟨m, rfl, _⟩
      refine X.r H rfl fun h H nN kq => ?_
      replace G := G.kp kq
      refine X.cond rfl (fun hb4 => ?_) fun hb4 => ?_
      · refine X.r H rfl fun h H nN kq => ?_
        replace G := G.kp kq
        refine X.app (by_ := 8) (es := l.map fun i => [.int .i64 (i : Nat)]) (ys := [[.int .i64 (i : Nat)]]) H rfl rfl rfl rfl rfl rfl rfl G (by simp; omega) fun x' h H G _ => ?_
        refine X.r H rfl fun h H nN kq => ?_
        replace G := G.kp kq
        refine again (i + 1, x') (by simp; omega) (HQ.mk rfl ⟨rfl, rfl, vi (wI (by omega)), trivial⟩) ⟨H, by simp; omega, l ++ [i], by simpa using G, .inr (by simp), fun j hj => ?_, by simp; omega⟩
        rcases List.mem_append.1 hj with hj | hj
        · exact hl j hj
        · rw [List.mem_singleton] at hj; omega
      · refine X.r H rfl fun h H nN kq => ?_
        replace G := G.kp kq
        exact again (i + 1, x) (by simp; omega) (HQ.mk rfl ⟨rfl, rfl, vi (wI (by omega)), trivial⟩) ⟨H, by simp; omega, l, G, hz, hl, by simp; omega⟩
    · refine X.r H rfl fun h H nN kq => ?_
      replace G := G.kp kq
      exact done x rfl ⟨H, l, G, hz, hl, by omega⟩
  · clear H
    rintro x h ⟨H, l, G, hz, hl, hll⟩
    refine X.r H rfl fun h H nN kq => ?_
    replace G := G.kp kq
    refine X.retV [] H rfl ⟨H.kp, _, ⟨l, rfl, hl, hll⟩, oneR_sl (G.sayR fun tk e => ?_) G.isSl⟩
    rcases hz with hz | hz
    · rw [hz] at e; cases e
    · simpa using hz
end
end Go.Am
