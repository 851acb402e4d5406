import Derived.Test.YtlnpifmdjcnflaaGreatDoorS10
set_option linter.unusedVariables false
set_option linter.unusedSimpArgs false
namespace Go.Am
open Go.Proofs
set_option maxRecDepth 100000
set_option linter.unusedSimpArgs false
set_option linter.unusedVariables false
attribute [local irreducible] AC AL AW AD ARun
theorem vval {g : Gh} {w : World} {v : Value} {a b : AV} (h : VR g w a v) (e : a = b) : VR g w b v := e ▸ h
/-- Whatever the heap: a result with Q, and the heap as it was. -/
def TQ (f : FuncId) (args : List AV) (Q : AV → Prop) : Prop := ∀ h, ARunE Tryz.prog f args h fun v h' => Q v ∧ h' = h
abbrev isB (v : AV) : Prop := ∃ b, v = .bool b
theorem TQ.of {f : FuncId} {args : List AV} {Q : AV → Prop} (hp : ∀ v, Q v → Pure v) (H : ∀ h0, ARunE Tryz.prog f args h0 fun v h' => Kp [] h0 h' ∧ Q v) : TQ f args Q := fun h => by
  obtain ⟨v, h', ⟨k, q⟩, r⟩ := H h
  exact ⟨v, h, ⟨q, rfl⟩, ARun.pure (hp v q) ⟨v, h', ⟨k, fun _ _ _ h => h⟩, r⟩⟩
theorem TQ.b {f : FuncId} {args : List AV} (H : ∀ h0, ARunE Tryz.prog f args h0 fun v h' => Kp [] h0 h' ∧ isB v) : TQ f args isB := TQ.of (fun v ⟨b, e⟩ => e ▸ .bool b) H
theorem TQ.arun {f : FuncId} {args : List AV} {v : AV} (H : ∀ h, ARun Tryz.prog f args h v h) : TQ f args (· = v) := fun h => ⟨v, h, ⟨rfl, rfl⟩, H h⟩
theorem TQ.mono {f : FuncId} {args : List AV} {Q Q' : AV → Prop} (H : TQ f args Q) (h : ∀ v, Q v → Q' v) : TQ f args Q' := fun h0 => by
  obtain ⟨v, h', ⟨q, e⟩, r⟩ := H h0
  exact ⟨v, h', ⟨h v q, e⟩, r⟩
section
variable {lt : LT} {h : AH} {fr : AFr} {ks : List Kt} {C : Exit → AFr → AH → Prop} {ops l : List Oper} {o : Oper} {D : List Nat}
theorem X.callT {f : FuncId} {args : List AV} {Q : AV → Prop} {d : Tmp} (hc : (aCallee fr o.op, aWanted ops fr o.guard, o.dst) = (some (f, args), some true, some d)) (hf : Callable Tryz.prog f)
    (H : TQ f args Q) (K : ∀ v, Q v → XS Tryz.prog lt C (.ops ops l D) ks (fr.putD d (.v v)) h) : XS Tryz.prog lt C (.ops ops (o :: l) D) ks fr h :=
  X.call hc hf (H h) fun v h1 q => by obtain ⟨q, rfl⟩ := q; exact K v q
end
section
variable {h h0 : AH} {fE f1 f2 : Bool}
def JV.k : JV → Int | .mk k _ _ _ _ _ _ _ => k
def JV.t : JV → Str | .mk _ _ _ t _ _ _ _ => t
def JV.ns : JV → List Str | .mk _ _ _ _ ns _ _ _ => ns
def JV.xs : JV → List JV | .mk _ _ _ _ _ xs _ _ => xs
def JV.fa : JV → Bool | .mk _ _ _ _ _ _ f _ => f
def JV.fb : JV → Bool | .mk _ _ _ _ _ _ _ f => f
def JV.fit : JV → Prop | .mk _ _ _ t ns xs _ _ => t.length ≤ 2147483647 ∧ ns.length ≤ 2147483647 ∧ xs.length ≤ 2147483647
theorem among_run (s : Str) (ts : List Str) (hl : ts.length ≤ 2147483647) : ∀ h0, ARun Tryz.prog 27 [.str s, sls fE ts] h0 (.bool (decide (s ∈ ts))) h0 := by
  intro h0
  refine ARun.pure (.bool _) ?_
  refine X.of (n := 18) (rs := [.tmp 4]) [] ⟨Tryz.func27, rfl, rfl, rfl⟩ rfl ?_
  have H : HI h0 [] h0 [] := HI.nil
  have hE := slG_elems fE 1 (ts.map strCs)
  have hL : (ts.map strCs).length = ts.length := by simp
  refine X.g H rfl fun h H nN => ?_
  refine X.whileJ 18 (fun i : Nat => ts.length - i) (fun i => [(0, .str s), (1, sls fE ts), (5, .int .i64 (i : Nat))])
    (fun i h' => HI h0 [] h' [] ∧ i ≤ ts.length ∧ ∀ j < i, ts[j]? ≠ some s) (fun _ : Unit => []) (fun _ h' => HI h0 [] h' [] ∧ s ∉ ts) 0 rfl ⟨H, by omega, fun j h => by omega⟩ ?_ ?_
  · clear H
    rintro i h ⟨H, hi, hs⟩ again done
    refine X.g H rfl fun h H nN => ?_
    refine X.lenZ 1 rfl rfl rfl rfl rfl hE rfl rfl rfl ?_
    refine X.g H rfl fun h H nN => ?_
    refine X.cond rfl (fun hb3 => ?_) fun hb3 => ?_
    · have hlt : i < ts.length := by have := of_decide_eq_true hb3; rw [hL] at this; omega
      have hc : (ts.map strCs)[i]? = some (strCs ts[i]) := by simp [hlt]
      refine X.g H rfl fun h H nN => ?_
      refine X.unO 12 rfl ?_
      rw [slG_vec (by rw [hL]; exact hlt)]
      refine X.free (StepD.indexAddr rfl rfl rfl rfl rfl rfl (Int.natCast_nonneg _) (by rw [Int.toNat_natCast]; exact hc)) rfl ?_
      refine X.g H rfl fun h H nN => ?_
      refine X.cond rfl (fun hb4 => ?_) fun hb4 => ?_
      · refine X.g H rfl fun h H nN => ?_
        refine X.retV [] H rfl ⟨H.kp, fun _ _ _ h => vbool h ?_⟩
        have : ts[i] = s := of_decide_eq_true hb4
        rw [← this]
        simp
      · refine X.g H rfl fun h H nN => ?_
        refine again (i + 1) (by omega) (HQ.mk rfl ⟨rfl, by rw [← slG_vec (e := fE) (by rw [hL]; exact hlt)]; rfl, vi (wI (by omega)), trivial⟩) ⟨H, by omega, fun j hj ht => ?_⟩
        by_cases e : j = i
        · subst e; rw [List.getElem?_eq_getElem hlt] at ht; injection ht with ht; exact of_decide_eq_false hb4 ht
        · exact hs j (by omega) ht
    · have : i = ts.length := by have := of_decide_eq_false hb3; rw [hL] at this; omega
      subst this
      refine X.g H rfl fun h H nN => ?_
      refine done () rfl ⟨H, fun ht => ?_⟩
      obtain ⟨j, hj, e⟩ := List.mem_iff_getElem.1 ht
      exact hs j hj (by rw [List.getElem?_eq_getElem hj, e])
  · clear H
    rintro ⟨⟩ h ⟨H, ha⟩
    refine X.g H rfl fun h H nN => ?_
    exact X.retV [] H rfl ⟨H.kp, fun _ _ _ h => vbool h (by simp [ha])⟩
/-- The kind's name. -/
def kindS (k : Int) : Str := if k = 0 then [110,117,108,108] else if k = 1 then [98,111,111,108,101,97,110] else if k = 2 then [110,117,109,98,101,114] else if k = 3 then [115,116,114,105,110,103] else if k = 4 then [97,114,114,97,121] else [111,98,106,101,99,116]
theorem JV.shape (v : JV) : ∃ b n z1 z2, v.cs = [.int .i64 v.k, .bool b, .int .i64 n, .str v.t, .one z1, .one z2] := by
  obtain ⟨k, b, n, t, ns, xs, f1, f2⟩ := v
  exact ⟨_, _, _, _, JV.cs_mk k b n t ns xs f1 f2⟩
theorem kind_run (v : JV) : ∀ h0, ARun Tryz.prog 117 [.agg v.cs] h0 (.str (kindS v.k)) h0 := by
  intro h0
  obtain ⟨b, n, z1, z2, e⟩ := v.shape
  rw [e]
  refine ARun.pure (.str _) ?_
  refine X.of (n := 15) (rs := [.tmp 2]) [] ⟨Tryz.func117, rfl, rfl, rfl⟩ rfl ?_
  have H : HI h0 [] h0 [] := HI.nil
  refine X.g H rfl fun h H nN => ?_
  refine X.cond rfl (fun hb => ?_) fun hb0 => ?_
  · refine X.g H rfl fun h H nN => ?_
    refine X.retV [] H rfl ⟨H.kp, fun _ _ _ h => vval h (congrArg AV.str ?_)⟩
    simp_all [kindS]
  refine X.g H rfl fun h H nN => ?_
  refine X.cond rfl (fun hb => ?_) fun hb1 => ?_
  · refine X.g H rfl fun h H nN => ?_
    refine X.retV [] H rfl ⟨H.kp, fun _ _ _ h => vval h (congrArg AV.str ?_)⟩
    simp_all [kindS]
  refine X.g H rfl fun h H nN => ?_
  refine X.cond rfl (fun hb => ?_) fun hb2 => ?_
  · refine X.g H rfl fun h H nN => ?_
    refine X.retV [] H rfl ⟨H.kp, fun _ _ _ h => vval h (congrArg AV.str ?_)⟩
    simp_all [kindS]
  refine X.g H rfl fun h H nN => ?_
  refine X.cond rfl (fun hb => ?_) fun hb3 => ?_
  · refine X.g H rfl fun h H nN => ?_
    refine X.retV [] H rfl ⟨H.kp, fun _ _ _ h => vval h (congrArg AV.str ?_)⟩
    simp_all [kindS]
  refine X.g H rfl fun h H nN => ?_
  refine X.cond rfl (fun hb => ?_) fun hb4 => ?_
  · refine X.g H rfl fun h H nN => ?_
    refine X.retV [] H rfl ⟨H.kp, fun _ _ _ h => vval h (congrArg AV.str ?_)⟩
    simp_all [kindS]
  refine X.g H rfl fun h H nN => ?_
  refine X.retV [] H rfl ⟨H.kp, fun _ _ _ h => vval h (congrArg AV.str ?_)⟩
  simp_all [kindS]
set_option maxHeartbeats 1000000 in
theorem fits5_run (v : JV) : TQ 5 [.agg v.cs] fun r => ∃ b, r = .bool b ∧ (b = true → v.fit) := by
  refine TQ.of (fun r ⟨b, e, _⟩ => e ▸ .bool b) fun h0 => ?_
  obtain ⟨k, b, n, t, ns, xs, f1, f2⟩ := v
  rw [JV.cs_mk]
  refine X.of (n := 15) (rs := [.tmp 2]) [] ⟨Tryz.func5, rfl, rfl, rfl⟩ rfl ?_
  have H : HI h0 [] h0 [] := HI.nil
  have hE := slG_elems f2 6 (xs.map JV.cs)
  refine X.g H rfl fun h H nN => ?_
  refine X.cond rfl (fun hb => ?_) fun hb1 => ?_
  · refine X.g H rfl fun h H nN => ?_
    exact X.retV [] H rfl ⟨H.kp, false, rfl, fun h => by cases h⟩
  refine X.g H rfl fun h H nN => ?_
  obtain ⟨b4, h4, h4'⟩ := fits4_run ns
  refine X.callT rfl Tryz.call4 (TQ.arun h4) ?_
  rintro _ rfl
  refine X.g H rfl fun h H nN => ?_
  refine X.cond rfl (fun hb => ?_) fun hb2 => ?_
  · refine X.g H rfl fun h H nN => ?_
    exact X.retV [] H rfl ⟨H.kp, false, rfl, fun h => by cases h⟩
  refine X.g H rfl fun h H nN => ?_
  refine X.lenZ 6 rfl rfl rfl rfl rfl hE rfl rfl rfl ?_
  refine X.g H rfl fun h H nN => ?_
  refine X.cond rfl (fun hb => ?_) fun hb3 => ?_
  · refine X.g H rfl fun h H nN => ?_
    exact X.retV [] H rfl ⟨H.kp, false, rfl, fun h => by cases h⟩
  refine X.g H rfl fun h H nN => ?_
  refine X.retV [] H rfl ⟨H.kp, true, rfl, fun _ => ⟨?_, h4' (by simpa using hb2), ?_⟩⟩
  · have := of_decide_eq_false hb1; simp at this; omega
  · have := of_decide_eq_false hb3; simp at this; omega
end
end Go.Am
