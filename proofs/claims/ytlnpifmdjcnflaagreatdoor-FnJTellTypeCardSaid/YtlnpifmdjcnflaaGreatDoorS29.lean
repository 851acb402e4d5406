import Derived.Test.YtlnpifmdjcnflaaGreatDoorS28
import Derived.Test.YtlnpifmdjcnflaaGreatDoorS25
set_option linter.unusedVariables false
set_option linter.unusedSimpArgs false
section
namespace Go.Am
open Go.Proofs
set_option maxRecDepth 100000
set_option linter.unusedSimpArgs false
set_option linter.unusedVariables false
attribute [local irreducible] AC AL AW AD ARun
section
variable {h h0 : AH} {fE f1 f2 : Bool}
theorem clone_run : ∀ h0, ARun Tryz.prog 213 [.one (.vec .none 1 [])] h0 (.vec .none 1 []) h0 := by
  intro h0
  refine ARun.pure (.vec _ _ fun c hc => by cases hc) ?_
  refine X.of (n := 8) (rs := [.tmp 2]) [] ⟨Tryz.func213, rfl, rfl, rfl⟩ rfl ?_
  have H : HI h0 [] h0 [] := HI.nil
  refine X.un 0 rfl ?_
  refine X.gh [90] H rfl fun h H nN => ?_
  refine X.free (StepD.app0 (sz := 1) (by_ := 16) rfl rfl rfl rfl rfl rfl rfl) rfl ?_
  refine X.g H rfl fun h H nN => ?_
  exact X.retV [] H rfl ⟨H.kp, fun g w v h => vecR_none g w v h⟩
theorem inst_run (o : Nat) (x : AV) (s : Sc) (sp un er : AV) (hg : h0.get o = some (.cells (vdC x (.vec .none 1 []) s sp un er))) (ho : o < h0.n) : ARun Tryz.prog 179 [.ptr o 0] h0 (.vec .none 1 []) h0 := by
  refine ARun.pure (.vec _ _ fun c hc => by cases hc) ?_
  refine X.of (n := 8) (rs := [.tmp 2]) [] ⟨Tryz.func179, rfl, rfl, rfl⟩ rfl ?_
  have H : HI h0 [o] h0 [(o, vdC x (.vec .none 1 []) s sp un er)] := HI.one hg ho
  refine X.g H rfl fun h H nN => ?_
  refine X.callQ rfl Tryz.call213 clone_run ?_
  refine X.g H rfl fun h H nN => ?_
  exact X.retV [] H rfl ⟨H.kp.drop (H.at_.1.trans hg.symm), fun _ _ _ h => h⟩
/-- The cells of an error. -/
abbrev veC (loc : Str) (kd causes : AV) : List AV := [.str loc, .vec .none 1 [], kd, causes]
theorem err_run (o : Nat) (x : AV) (s : Sc) (sp un er y : AV) (t : Nat) (hg : h0.get o = some (.cells (vdC x (.vec .none 1 []) s sp un er))) (ho : o < h0.n) : ARunE Tryz.prog 142 [.ptr o 0, .iface t y] h0 fun v h' => Kp [] h0 h' ∧ v = .ref none (veC s.loc (.iface t y) .nilsl) := by
  refine X.of (n := 23) (rs := [.tmp 4]) [] ⟨Tryz.func142, rfl, rfl, rfl⟩ rfl ?_
  have H : HI h0 [o] h0 [(o, vdC x (.vec .none 1 []) s sp un er)] := HI.one hg ho
  refine X.gh [90] H rfl fun h H nN => ?_
  refine X.rdD (StepD.call rfl rfl Tryz.call179 (inst_run o x s sp un er H.at_.1 H.at_.2)) rfl ?_
  have hN := H.kp.n
  refine X.q 5 H rfl fun h H nN => ?_
  replace H : HI h0 [o] h [(_, veC s.loc (.iface t y) .nilsl), (o, vdC x (.vec .none 1 []) s sp un er)] := H.swap
  refine X.freeze 4 H rfl hN fun H => ?_
  refine X.g H rfl fun h H nN => ?_
  exact X.retV [] H rfl ⟨H.kp.drop (H.at_.1.trans hg.symm), rfl⟩
end
end Go.Am
end
section
namespace Go.Am
open Go.Proofs
set_option maxRecDepth 100000
set_option linter.unusedSimpArgs false
set_option linter.unusedVariables false
attribute [local irreducible] AC AL AW AD ARun
section
variable {h h0 : AH} {fE f1 f2 : Bool}
theorem HI.two {a b : Nat} {x y : List AV} (hab : a ≠ b) (ha : h.get a = some (.cells x)) (la : a < h.n) (hb : h.get b = some (.cells y)) (lb : b < h.n) : HI h [a, b] h [(a, x), (b, y)] :=
  ⟨⟨⟨ha, la, by simpa using hab.symm⟩, ⟨hb, lb, by simp⟩, trivial⟩, .refl, by simp⟩
theorem Kp.drop2 {a b : Nat} {h0 h : AH} (k : Kp [a, b] h0 h) (ea : h.get a = h0.get a) (eb : h.get b = h0.get b) : Kp [] h0 h :=
  ⟨k.n, fun i hi hn => by
    by_cases q : i = a
    · rw [q, ea]
    · by_cases q2 : i = b
      · rw [q2, eb]
      · exact k.get i hi (by simp [q, q2]), k.nt, k.tip, k.tabs⟩
/-- The validator of the False schema. -/
theorem vfalse_run (o m : Nat) (x : AV) (s : Sc) (hs : s.bool = .ptr m 0) (sp un er : AV) (hg : h0.get o = some (.cells (vdC x (.vec .none 1 []) s sp un er))) (ho : o < h0.n) (hm : h0.get m = some (.cells [.bool false])) (hml : m < h0.n) :
    ARunE Tryz.prog 105 [.ptr o 0] h0 fun v h' => Kp [] h0 h' ∧ v = .tup [.nilp, .iface 84 (.ref none (veC s.loc (.iface 273 (.ref none [])) .nilsl))] := by
  obtain ⟨d, l, b, t, r, p, q, e1, e2, e3⟩ := s
  simp only at hs
  subst hs
  refine X.of (n := 353) (rs := [.tmp 2, .tmp 3]) [] ⟨Tryz.func105, rfl, rfl, rfl⟩ rfl ?_
  have hom : o ≠ m := fun e => by rw [e, hm] at hg; cases hg
  have H : HI h0 [o, m] h0 [(o, vdC x (.vec .none 1 []) ⟨d, l, .ptr m 0, t, r, p, q, e1, e2, e3⟩ sp un er), (m, [.bool false])] := HI.two hom hg ho hm hml
  refine X.gm [47] [0, 0, 91, 1, 90] H rfl fun h H nN => ?_
  refine X.call rfl Tryz.call142 (err_run o x _ sp un er _ _ H.at_.1 H.at_.2) ?_
  rintro _ h1 ⟨k1, rfl⟩
  replace H := H.same k1
  refine X.g H rfl fun h H nN => ?_
  exact X.retV [] H rfl ⟨H.kp.drop2 (H.at_.1.trans hg.symm) (H.at2.1.trans hm.symm), rfl⟩
/-- A scope without a parent has no cycle (the scope is data). -/
theorem cycle2_run (a b c : AV) : ∀ h0, ARunE Tryz.prog 143 [.ref none [a, b, c, .nilp]] h0 fun v h' => Kp [] h0 h' ∧ v = .nilp := by
  intro h0
  refine X.of (n := 33) (rs := [.tmp 2]) [] ⟨Tryz.func143, rfl, rfl, rfl⟩ rfl ?_
  have H : HI h0 [] h0 [] := HI.nil
  refine X.g H rfl fun h H nN => ?_
  refine X.roll ?_
  refine X.gh [90] H rfl fun h H nN => ?_
  exact X.retV [] H rfl ⟨H.kp, rfl⟩
/-- Nothing is to be watched for what was not evaluated (the schema is data). -/
theorem uneval2_run {k : Int} {x : AV} {hx : AH} (i : IVo k x hx) (s : Sc) : ∀ h0, ARun Tryz.prog 104 [x, .ref none s.cs, .bool false] h0 (.ref none [.nilm, .nilm]) h0 := by
  intro h0
  refine ARun.pure (.ref _ fun x hx => by simp at hx; subst hx; exact .nilm) ?_
  refine X.of (n := 97) (rs := [.tmp 6]) [] ⟨Tryz.func104, rfl, rfl, rfl⟩ rfl ?_
  have H : HI h0 [] h0 [] := HI.nil
  rcases i with ⟨rfl, rfl⟩ | ⟨rfl, b, rfl⟩ | ⟨rfl, b, rfl⟩ | ⟨rfl, b, c, rfl⟩ | ⟨rfl, b, c, rfl, -⟩
  · refine X.gm [13] [] H rfl fun h H nN => ?_
    refine X.op rfl rfl rfl ?_
    refine X.gh [90] H rfl fun h H nN => ?_
    refine X.op rfl rfl rfl ?_
    refine X.gh [90] H rfl fun h H nN => ?_
    exact X.retV [] H rfl ⟨H.kp, fun _ _ _ h => h⟩
  · refine X.gm [13] [] H rfl fun h H nN => ?_
    refine X.op rfl rfl rfl ?_
    refine X.gh [90] H rfl fun h H nN => ?_
    refine X.op rfl rfl rfl ?_
    refine X.gh [90] H rfl fun h H nN => ?_
    exact X.retV [] H rfl ⟨H.kp, fun _ _ _ h => h⟩
  · refine X.gm [13] [] H rfl fun h H nN => ?_
    refine X.op rfl rfl rfl ?_
    refine X.gh [90] H rfl fun h H nN => ?_
    refine X.op rfl rfl rfl ?_
    refine X.gh [90] H rfl fun h H nN => ?_
    exact X.retV [] H rfl ⟨H.kp, fun _ _ _ h => h⟩
  · refine X.gm [13] [] H rfl fun h H nN => ?_
    refine X.op rfl rfl rfl ?_
    refine X.gh [90] H rfl fun h H nN => ?_
    refine X.op rfl rfl rfl ?_
    refine X.gh [91, 92, 92, 92, 90] H rfl fun h H nN => ?_
    exact X.retV [] H rfl ⟨H.kp, fun _ _ _ h => h⟩
  · refine X.gm [13] [] H rfl fun h H nN => ?_
    refine X.op rfl rfl rfl ?_
    refine X.gh [91, 92, 92, 90] H rfl fun h H nN => ?_
    exact X.retV [] H rfl ⟨H.kp, fun _ _ _ h => h⟩
end
end Go.Am
end
section
namespace Go.Am
set_option maxRecDepth 100000
set_option linter.unusedSimpArgs false
set_option linter.unusedVariables false
theorem mask_step : ∀ a : Fin 256, ∀ c ∈ (0 :: bits), (0 ≤ orI (a.val : Int) c ∧ orI (a.val : Int) c < 256) ∧ ∀ b ∈ bits, (decide (andI (orI (a.val : Int) c) b = 0) = (decide (andI (a.val : Int) b = 0) && decide (andI c b = 0))) := by decide +kernel
theorem tyB_in (s : Str) : tyB s ∈ (0 :: bits) := by
  unfold tyB bits
  repeat' split
  all_goals simp
theorem mask_fold (b : Int) (hb : b ∈ bits) : ∀ (ts : List Str) (a : Int), 0 ≤ a → a < 256 → (andI (ts.foldl (fun a t => orI a (tyB t)) a) b = 0 ↔ andI a b = 0 ∧ ∀ t ∈ ts, andI (tyB t) b = 0)
  | [], a, _, _ => by simp
  | t :: r, a, h0, h1 => by
    have hs := mask_step ⟨a.toNat, by omega⟩ (tyB t) (tyB_in t)
    have ea : ((a.toNat : Nat) : Int) = a := by omega
    simp only [ea] at hs
    rw [List.foldl_cons, mask_fold b hb r _ hs.1.1 hs.1.2]
    have := hs.2 b hb
    have e : (andI (orI a (tyB t)) b = 0) ↔ (andI a b = 0 ∧ andI (tyB t) b = 0) := by
      have := congrArg (· = true) this
      simpa using this
    rw [e]
    simp only [List.mem_cons, forall_eq_or_imp, and_assoc]
theorem mask_and (b : Int) (hb : b ∈ bits) (ts : List Str) : andI (maskL ts) b = 0 ↔ ∀ t ∈ ts, andI (tyB t) b = 0 := by
  rw [maskL, mask_fold b hb ts 0 (by decide) (by decide)]
  have : andI 0 b = 0 := by
    have : ∀ b ∈ bits, andI 0 b = 0 := by decide +kernel
    exact this b hb
  simp [this]
theorem kind_bit : ∀ t ∈ kinds, ∀ b ∈ bits, decide (andI (tyB t) b = 0) = !decide (tyS b = t) := by decide +kernel
theorem kindS_in (k : Int) : kindS k ∈ kinds ∧ tyB (kindS k) ∈ bits ∧ tyS (tyB (kindS k)) = kindS k := by
  unfold kindS
  repeat' split
  all_goals decide
theorem okB_mem {ts : List Str} (h : okB ts = true) : ∀ t ∈ ts, t ∈ kinds := fun t ht => by
  have := List.all_eq_true.1 h t ht
  simpa using this
theorem mask_bit {ts : List Str} (h : okB ts = true) {b : Int} (hb : b ∈ bits) : andI (maskL ts) b = 0 ↔ tyS b ∉ ts := by
  rw [mask_and b hb]
  have key : ∀ t ∈ ts, (andI (tyB t) b = 0 ↔ ¬ tyS b = t) := fun t ht => by
    have := congrArg (· = true) (kind_bit t (okB_mem h t ht) b hb)
    simpa using this
  constructor
  · intro H hm
    exact (key _ hm).1 (H _ hm) rfl
  · intro H t ht
    exact (key t ht).2 fun e => H (e ▸ ht)
/-- The program's answer is the specification's. -/
theorem mask_kind {ts : List Str} (h : okB ts = true) (k : Int) : decide (andI (maskL ts) (tyB (kindS k)) = 0) = !decide (kindS k ∈ ts) := by
  obtain ⟨_, h2, h3⟩ := kindS_in k
  have := mask_bit h h2
  rw [h3] at this
  by_cases q : kindS k ∈ ts
  · simp only [q, decide_true, Bool.not_true, decide_eq_false_iff_not]
    exact fun e => (this.1 e) q
  · simp only [q, decide_false, Bool.not_false, decide_eq_true_eq]
    exact this.2 q
theorem kinds_bit : ∀ t ∈ kinds, ∃ b ∈ bits, tyS b = t := by decide +kernel
theorem mem_names {ts : List Str} (h : okB ts = true) (s : Str) : s ∈ namesM (maskL ts) bits ↔ s ∈ ts := by
  simp only [namesM, List.mem_map, List.mem_filter]
  constructor
  · rintro ⟨b, ⟨hb, hq⟩, rfl⟩
    have := mask_bit h hb
    have hne : ¬ andI (maskL ts) b = 0 := by simpa using hq
    exact Classical.byContradiction fun q => hne (this.2 q)
  · intro hs
    obtain ⟨b, hb, rfl⟩ := kinds_bit s (okB_mem h s hs)
    exact ⟨b, ⟨hb, by have := (mask_bit h hb); simp; exact fun e => (this.1 e) hs⟩, rfl⟩
theorem mask_ne {ts : List Str} (h : okB ts = true) (hne : ts ≠ []) : maskL ts ≠ 0 := by
  intro e
  cases ts with
  | nil => exact hne rfl
  | cons t r =>
    obtain ⟨b, hb, hs⟩ := kinds_bit t (okB_mem h t (by simp))
    have hz : ∀ b ∈ bits, andI 0 b = 0 := by decide +kernel
    have := mask_bit h hb
    rw [e, hs] at this
    exact this.1 (hz b hb) (by simp)
end Go.Am
end
