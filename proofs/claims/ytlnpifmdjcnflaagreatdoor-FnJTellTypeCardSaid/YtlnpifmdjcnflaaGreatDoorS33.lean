import Derived.Test.YtlnpifmdjcnflaaGreatDoorS32
set_option linter.unusedVariables false
set_option linter.unusedSimpArgs false
namespace Go.Am
open Go.Proofs
set_option maxRecDepth 100000
set_option linter.unusedSimpArgs false
set_option linter.unusedVariables false
attribute [local irreducible] AC AL AW AD ARun
section
variable {h h0 : AH} {fE f1 f2 : Bool}
theorem copied1_run (c : AV) (hc : Pure c) : ∀ h0, ARun Tryz.prog 61 [.vec .none 1 [[c]]] h0 (.vec .none 1 [[c]]) h0 := by
  intro h0
  refine ARun.pure (.vec _ _ fun d hd x hx => ?_) ?_
  · rw [List.mem_singleton.1 hd] at hx
    rw [List.mem_singleton.1 hx]
    exact hc
  refine X.of (n := 6) (rs := [.tmp 2]) [] ⟨Tryz.func61, rfl, rfl, rfl⟩ rfl ?_
  have H : HI h0 [] h0 [] := HI.nil
  refine X.g H rfl fun h H nN => ?_
  refine X.appF (by_ := 16) (es := []) (ys := [[c]]) H rfl rfl rfl rfl rfl rfl (by simp) rfl (.inl rfl) (by simp) fun x h H G => ?_
  refine X.g H rfl fun h H nN => ?_
  rcases G.vec with rfl | ⟨tk, rfl⟩
  · rcases G with h | h
    · cases h
    · have := h.elems
      simp [elemsOf] at this
  · exact X.retV [] H rfl ⟨H.kp, fun g w v h => vecR_none g w v (by simpa [tupOf] using h)⟩
theorem copied0_run : ∀ h0, ARun Tryz.prog 61 [.vec .none 1 []] h0 (.vec .none 1 []) h0 := by
  intro h0
  refine ARun.pure (.vec _ _ fun d hd x hx => by cases hd) ?_
  refine X.of (n := 6) (rs := [.tmp 2]) [] ⟨Tryz.func61, rfl, rfl, rfl⟩ rfl ?_
  have H : HI h0 [] h0 [] := HI.nil
  refine X.g H rfl fun h H nN => ?_
  refine X.free (StepD.app0 (sz := 1) (by_ := 16) rfl rfl rfl rfl rfl rfl rfl) rfl ?_
  refine X.g H rfl fun h H nN => ?_
  exact X.retV [] H rfl ⟨H.kp, fun g w v h => vecR_none g w v h⟩
theorem kwSch_run (x : AV) : ∀ h0 : AH, ARun Tryz.prog 247 [x] h0 .nilsl h0 := by
  intro h0
  refine ARun.pure .nilsl ?_
  refine X.of (n := 3) (rs := [.tmp 2]) [] ⟨Tryz.func247, rfl, rfl, rfl⟩ rfl ?_
  have H : HI h0 [] h0 [] := HI.nil
  refine X.g H rfl fun h H nN => ?_
  exact X.retV [] H rfl ⟨H.kp, fun _ _ _ h => h⟩
theorem kwFalse_run (x : AV) : ∀ h0 : AH, ARun Tryz.prog 260 [x] h0 .nilsl h0 := by
  intro h0
  refine ARun.pure .nilsl ?_
  refine X.of (n := 3) (rs := [.tmp 2]) [] ⟨Tryz.func260, rfl, rfl, rfl⟩ rfl ?_
  have H : HI h0 [] h0 [] := HI.nil
  refine X.g H rfl fun h H nN => ?_
  exact X.retV [] H rfl ⟨H.kp, fun _ _ _ h => h⟩
/-- The data of an error. -/
abbrev jeC (loc kind : Str) (path at_ : AV) (text : Str) (names kids : AV) : List AV := [.str loc, .str kind, path, at_, .str text, names, .nilsl, kids]
abbrev leafT (loc : Str) (a : Str) (ns : List Str) : List AV := jeC loc [84,121,112,101] (.vec .none 1 [[.str [116,121,112,101]]]) (.vec .none 1 []) a (.vec .none 1 (ns.map strCs)) .nilsl
abbrev leafF (loc : Str) : List AV := jeC loc [70,97,108,115,101,83,99,104,101,109,97] (.vec .none 1 []) (.vec .none 1 []) [] .nilsl .nilsl
abbrev rootC (loc : Str) (kid : List AV) : List AV := jeC loc [83,99,104,101,109,97] (.vec .none 1 []) (.vec .none 1 []) [] .nilsl (.one (.vec .none 8 [kid]))
set_option maxHeartbeats 2000000 in
theorem errT_run (loc a : Str) (ns : List Str) (hl : ns.length ≤ 2147483647) : ∀ h0, ARunE Tryz.prog 36 [.ref none (veC loc (.iface 196 (.ref none [.str a, sls false ns])) .nilsl)] h0 fun v h' => Kp [] h0 h' ∧ v = .agg (leafT loc a ns) := by
  intro h0
  refine X.of (n := 63) (rs := [.cell 2 53]) [] ⟨Tryz.func36, rfl, rfl, rfl⟩ rfl ?_
  have H : HI h0 [] h0 [] := HI.nil
  refine X.g H rfl fun h H nN => ?_
  refine X.callQD rfl Tryz.call61 copied0_run ?_
  refine X.gh [1, 91] H rfl fun h H nN => ?_
  refine X.st (StepD.callI rfl rfl rfl rfl rfl (by rfl) (by rfl) (by rfl) (by rfl) (by rfl) Tryz.call248 (kwType_run _ _)) rfl ?_
  refine X.callQ rfl Tryz.call61 (copied1_run _ (.str _)) ?_
  refine X.gh [1] H rfl fun h H nN => ?_
  refine X.call rfl Tryz.call62 (kindOf_run a ns hl _) ?_
  rintro _ h1 ⟨k1, rfl⟩
  replace H := H.same k1
  refine X.gh [1, 1, 1, 1] H rfl fun h H nN => ?_
  refine X.roll ?_
  refine X.gh [90, 1] H rfl fun h H nN => ?_
  refine X.call rfl Tryz.call63 (sort_nil _ _) ?_
  rintro _ h1 ⟨k1, rfl⟩
  replace H := H.same k1
  refine X.gh [1, 0] H rfl fun h H nN => ?_
  exact X.retV [0] H rfl ⟨H.kp, rfl⟩
set_option maxHeartbeats 2000000 in
theorem errF_run (loc : Str) : ∀ h0, ARunE Tryz.prog 36 [.ref none (veC loc (.iface 273 (.ref none [])) .nilsl)] h0 fun v h' => Kp [] h0 h' ∧ v = .agg (leafF loc) := by
  intro h0
  refine X.of (n := 63) (rs := [.cell 2 53]) [] ⟨Tryz.func36, rfl, rfl, rfl⟩ rfl ?_
  have H : HI h0 [] h0 [] := HI.nil
  refine X.g H rfl fun h H nN => ?_
  refine X.callQD rfl Tryz.call61 copied0_run ?_
  refine X.gh [1, 91] H rfl fun h H nN => ?_
  refine X.st (StepD.callI rfl rfl rfl rfl rfl (by rfl) (by rfl) (by rfl) (by rfl) (by rfl) Tryz.call260 (kwFalse_run _ _)) rfl ?_
  refine X.callQ rfl Tryz.call61 copied_nil ?_
  refine X.gh [1] H rfl fun h H nN => ?_
  refine X.call rfl Tryz.call62 (kindF_run _) ?_
  rintro _ h1 ⟨k1, rfl⟩
  replace H := H.same k1
  refine X.gh [1, 1, 1, 1] H rfl fun h H nN => ?_
  refine X.roll ?_
  refine X.gh [90, 1] H rfl fun h H nN => ?_
  refine X.call rfl Tryz.call63 (sort_nil _ _) ?_
  rintro _ h1 ⟨k1, rfl⟩
  replace H := H.same k1
  refine X.gh [1, 0] H rfl fun h H nN => ?_
  exact X.retV [0] H rfl ⟨H.kp, rfl⟩
set_option maxHeartbeats 2000000 in
theorem errR_run (loc : Str) (vc : List AV) (l0 l1 l4 : Str) (l2 l3 l5 l7 : AV) (hp : PureL (jeC l0 l1 l2 l3 l4 l5 l7)) (hk : ∀ h, ARun Tryz.prog 36 [.ref none vc] h (.agg (jeC l0 l1 l2 l3 l4 l5 l7)) h) : ∀ h0, ARunE Tryz.prog 36 [.ref none [.str loc, .nilsl, .iface 193 (.ref none [.str loc]), .vec .full 1 [[.ref none vc]]]] h0 fun v h' => Kp [] h0 h' ∧ v = .agg (rootC loc (jeC l0 l1 l2 l3 l4 l5 l7)) := by
  intro h0
  refine X.of (n := 63) (rs := [.cell 2 53]) [] ⟨Tryz.func36, rfl, rfl, rfl⟩ rfl ?_
  have H : HI h0 [] h0 [] := HI.nil
  refine X.g H rfl fun h H nN => ?_
  refine X.callQD rfl Tryz.call61 copied_nil ?_
  refine X.gh [1, 91] H rfl fun h H nN => ?_
  refine X.st (StepD.callI rfl rfl rfl rfl rfl (by rfl) (by rfl) (by rfl) (by rfl) (by rfl) Tryz.call247 (kwSch_run _ _)) rfl ?_
  refine X.callQ rfl Tryz.call61 copied_nil ?_
  refine X.gh [1] H rfl fun h H nN => ?_
  refine X.call rfl Tryz.call62 (kindS_run _ _) ?_
  rintro _ h1 ⟨k1, rfl⟩
  replace H := H.same k1
  refine X.gh [1, 1, 1, 1] H rfl fun h H nN => ?_
  refine X.roll ?_
  refine X.gh [91] H rfl fun h H nN => ?_
  refine X.free (StepD.indexAddr rfl rfl rfl rfl rfl rfl (by decide) rfl) rfl ?_
  refine X.gh [1] H rfl fun h H nN => ?_
  refine X.callQD rfl Tryz.call36 hk ?_
  refine X.gh [] H rfl fun h H nN => ?_
  refine X.appPD (by_ := 168) (ys := [jeC l0 l1 l2 l3 l4 l5 l7]) rfl rfl rfl rfl rfl rfl rfl (by simp) (fun c hc => by rw [List.mem_singleton.1 hc]; exact hp) ?_
  refine X.gh [1] H rfl fun h H nN => ?_
  refine X.eqi 47 1 rfl (by decide) ?_
  refine X.rollN ?_
  refine X.gh [90, 1] H rfl fun h H nN => ?_
  refine X.unO 60 rfl ?_
  refine X.call rfl Tryz.call63 (sort_one _ _ _ _) ?_
  rintro _ h1 ⟨k1, rfl⟩
  replace H := H.same k1
  refine X.gh [1, 0] H rfl fun h H nN => ?_
  exact X.retV [0] H rfl ⟨H.kp, rfl⟩
theorem leafT_pure (loc a : Str) (ns : List Str) : PureL (leafT loc a ns) :=
  .cons (.str _) (.cons (.str _) (.cons (.vec _ _ fun c hc x hx => by rw [List.mem_singleton.1 hc] at hx; rw [List.mem_singleton.1 hx]; exact .str _) (.cons (.vec _ _ fun c hc => by cases hc) (.cons (.str _) (.cons (.vec _ _ fun c hc x hx => by obtain ⟨s, _, rfl⟩ := List.mem_map.1 hc; exact strCs_pure s x hx) (.cons .nilsl (.cons .nilsl .nil)))))))
theorem leafF_pure (loc : Str) : PureL (leafF loc) :=
  .cons (.str _) (.cons (.str _) (.cons (.vec _ _ fun c hc => by cases hc) (.cons (.vec _ _ fun c hc => by cases hc) (.cons (.str _) (.cons .nilsl (.cons .nilsl (.cons .nilsl .nil)))))))
theorem ARunE.eq {P : Program} {f : FuncId} {args : List AV} {v : AV} {h0 : AH} (H : ARunE P f args h0 fun r h' => Kp [] h0 h' ∧ r = v) : ARunE P f args h0 fun r h' => Kp [] h0 h' ∧ ∀ (g : Gh) (w : World) (u : Value), VR g w r u → VR g w v u := by
  obtain ⟨r, h', ⟨k, rfl⟩, q⟩ := H
  exact ⟨r, h', ⟨k, fun _ _ _ h => h⟩, q⟩
theorem errRT_run (loc a : Str) (ns : List Str) (hl : ns.length ≤ 2147483647) (h0 : AH) : ARunE Tryz.prog 36 [.ref none [.str loc, .nilsl, .iface 193 (.ref none [.str loc]), .vec .full 1 [[.ref none (veC loc (.iface 196 (.ref none [.str a, sls false ns])) .nilsl)]]]] h0 fun v h' => Kp [] h0 h' ∧ v = .agg (rootC loc (leafT loc a ns)) :=
  errR_run loc _ _ _ _ _ _ _ _ (leafT_pure loc a ns) (fun h => ARun.pure (.agg _ (leafT_pure loc a ns)) (errT_run loc a ns hl h).eq) h0
theorem errRF_run (loc : Str) (h0 : AH) : ARunE Tryz.prog 36 [.ref none [.str loc, .nilsl, .iface 193 (.ref none [.str loc]), .vec .full 1 [[.ref none (veC loc (.iface 273 (.ref none [])) .nilsl)]]]] h0 fun v h' => Kp [] h0 h' ∧ v = .agg (rootC loc (leafF loc)) :=
  errR_run loc _ _ _ _ _ _ _ _ (leafF_pure loc) (fun h => ARun.pure (.agg _ (leafF_pure loc)) (errF_run loc h).eq) h0
end
end Go.Am
