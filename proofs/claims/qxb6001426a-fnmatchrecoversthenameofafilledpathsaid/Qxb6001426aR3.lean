/-
  The row: FnMatchRecoversTheNameOfAFilledPath.
-/
import Derived.Test.Qxb6001426aIo
import Derived.Test.Qxb6001426aL3
namespace Go.Proofs.Qxb6001426a
open Go.ChangeShapes Go.WideShapes Go.ChangeAt Go.RowKit Fw
set_option linter.unusedSimpArgs false
set_option linter.unusedVariables false

set_option maxRecDepth 100000 in
theorem lifted3 (os : Os) (started : os.Started) (H : Type) (enc : TypeId × Value → H) :
    ReturnsInHanded {} Try.checked os 3 .any (Rows.fnMatchRecoversTheNameOfAFilledPathSpec.pre6 enc Try.prog Try.f3 Rows.fnMatchRecoversTheNameOfAFilledPathRow.domain false) (Rows.fnMatchRecoversTheNameOfAFilledPathSpec.post enc Try.prog Try.f3 false true false false) := by
  refine returnsInHanded_of_change (C := Try.checked) Try.own started (by kernel_rfl) Try.func3
    (ChangeSpec.witness6 (enc := enc) (C := Try.checked) false ⟨#[], #[.slice none 0 0, .slice none 0 0, .slice none 0 0], []⟩ 8 (by kernel_rfl) (by kernel_rfl) (by kernel_rfl) (by kernel_rfl)) ?_
  intro W base args ds gs before hval0 hW hcnd _
  have hval : ∀ (j : Nat) t v, Try.f3.params[j]? = some t → args[j]? = some v → Value.okWide Try.prog W .any base t v := hval0
  have hW' := hW
  obtain ⟨p, q, hA0, hV, rfl, hfz, hnd⟩ := hW
  have hA : DataW.TrodAll enc Try.prog W 0 (fun _ => true) true Try.f3.params.toList args.toList ds p := hA0
  rw [Try.params3] at hA hval
  obtain ⟨v0, v1, v2, d0, d1, d2, p0, p1, p2, rfl, rfl, rfl, h0, h1, h2⟩ := trodAll_three hA
  obtain ⟨rfl, rfl⟩ := trodVars_none hV
  obtain ⟨a0, n0, c0, rfl⟩ := okWide_slice Try.underlying22 (hval 0 22 v0 rfl rfl)
  obtain ⟨a1, n1, c1, rfl⟩ := okWide_slice Try.underlying22 (hval 1 22 v1 rfl rfl)
  obtain ⟨a2, n2, c2, rfl⟩ := okWide_slice Try.underlying22 (hval 2 22 v2 rfl rfl)
  have h0k := h0
  have h1k := h1
  have h2k := h2
  obtain ⟨fu0, hf0⟩ := h0
  obtain ⟨l0, hT0⟩ := open_strs hf0
  obtain ⟨fu1, hf1⟩ := h1
  obtain ⟨l1, hT1⟩ := open_strs hf1
  obtain ⟨fu2, hf2⟩ := h2
  obtain ⟨l2, hT2⟩ := open_strs hf2
  clear hA0 hval0
  have hlt : ∀ x ∈ p0 ++ p1 ++ p2, x.block < W.heap.size := fun x hx => by simpa using hW'.lt x (List.mem_append_left _ hx)
  refine (law3 hT0 hT1 hT2).mono fun e W' ⟨he, hb⟩ => ?_
  subst he
  exact ⟨_, rfl, [d0, d1, d2], [], _, [], _, [], hW', trodAll_mk1 (shut_bool Try.underlying4 _),
    trodAll_mk3 (Below.trod Try.laidOut (by kernel_rfl) (of_decide_eq_true (by kernel_rfl)) h0k hb (fun x hx => hlt x (by simp [hx]))) (Below.trod Try.laidOut (by kernel_rfl) (of_decide_eq_true (by kernel_rfl)) h1k hb (fun x hx => hlt x (by simp [hx]))) (Below.trod Try.laidOut (by kernel_rfl) (of_decide_eq_true (by kernel_rfl)) h2k hb (fun x hx => hlt x (by simp [hx]))), rfl, hb.frame _, fun h => by cases h⟩

theorem named3 : Try.prog.funcNamed Rows.fnMatchRecoversTheNameOfAFilledPathRow.func = some 3 := by kernel_rfl
theorem c3_1 : Rows.fnMatchRecoversTheNameOfAFilledPathRow.wf (OpenSpec.ofChange Rows.fnMatchRecoversTheNameOfAFilledPathSpec) = true := by kernel_rfl
theorem c3_3 : mapsRowed Try.prog = true := by kernel_rfl
theorem c3_4 : Try.f3.params.all (Try.prog.readableRec ·) = true := by kernel_rfl
theorem c3_5 : namedTie Try.prog Rows.fnMatchRecoversTheNameOfAFilledPathRow.named Rows.fnMatchRecoversTheNameOfAFilledPathSpec.vars = true := by kernel_rfl
theorem c3_6 : (Rows.fnMatchRecoversTheNameOfAFilledPathRow.stops == []) = true := by kernel_rfl
theorem c3_7 : (Try.prog.stops == []) = true := by kernel_rfl
theorem c3_8 : (Rows.fnMatchRecoversTheNameOfAFilledPathRow.knobs == []) = true := by kernel_rfl
theorem c3_9 : (Try.prog.stopKnobs == []) = true := by kernel_rfl
theorem c3_10 : (Rows.fnMatchRecoversTheNameOfAFilledPathRow.inPlace == Try.prog.inPlace 3) = true := by kernel_rfl
theorem c3_11 : (Rows.fnMatchRecoversTheNameOfAFilledPathRow.unfollowed == Try.prog.unfollowed 3) = true := by kernel_rfl
theorem c3_12 : (Rows.fnMatchRecoversTheNameOfAFilledPathRow.recurses == Try.prog.recurses 3) = true := by kernel_rfl
theorem c3_13 : (Rows.fnMatchRecoversTheNameOfAFilledPathRow.named == Try.prog.varsNamed 3) = true := by kernel_rfl
theorem c3_14 : (Rows.fnMatchRecoversTheNameOfAFilledPathRow.maps == (Try.f3.params.toList ++ Rows.fnMatchRecoversTheNameOfAFilledPathSpec.plain.varTypes Try.prog).any (Try.prog.mapsRec ·)) = true := by kernel_rfl
theorem c3_15 : (Rows.fnMatchRecoversTheNameOfAFilledPathRow.ifaces == (Try.f3.params.toList ++ Rows.fnMatchRecoversTheNameOfAFilledPathSpec.plain.varTypes Try.prog).any (Try.prog.ifacesRec ·)) = true := by kernel_rfl
theorem c3_16 : (Rows.fnMatchRecoversTheNameOfAFilledPathRow.mapsOut == Try.prog.mapsAmong Try.f3.resultTypes.toList) = true := by kernel_rfl
theorem c3_17 : (Rows.fnMatchRecoversTheNameOfAFilledPathRow.loops == (Try.f3.params.toList ++ Rows.fnMatchRecoversTheNameOfAFilledPathSpec.plain.varTypes Try.prog).any (Try.prog.loopsFrom ·)) = true := by kernel_rfl
theorem c3_18 : (Rows.fnMatchRecoversTheNameOfAFilledPathRow.wideKeys == (Try.f3.params.toList ++ Rows.fnMatchRecoversTheNameOfAFilledPathSpec.plain.varTypes Try.prog ++ Try.f3.resultTypes.toList).any (Try.prog.wideKeysFrom ·)) = true := by kernel_rfl
theorem c3_19 : Rows.fnMatchRecoversTheNameOfAFilledPathSpec.vars.all (Try.prog.varReadable ·) = true := by kernel_rfl
theorem c3_20 : Try.f3.resultTypes.all (fun t => Try.prog.readableRec t && decide (t < Try.prog.types.size)) = true := by kernel_rfl
theorem c3_21 : (Rows.fnMatchRecoversTheNameOfAFilledPathRow.ifacesOut == Try.f3.resultTypes.toList.any (Try.prog.ifacesRec ·)) = true := by kernel_rfl
theorem c3_22 : (Rows.fnMatchRecoversTheNameOfAFilledPathRow.loopsOut == Try.f3.resultTypes.toList.any (Try.prog.loopsFrom ·)) = true := by kernel_rfl
theorem c3_23 : (Rows.fnMatchRecoversTheNameOfAFilledPathRow.plainKeys == Try.prog.plainKeys) = true := by kernel_rfl
theorem c3_24 : Rows.fnMatchRecoversTheNameOfAFilledPathRow.shortTexts.isNone = true := by kernel_rfl
theorem c3_25 : Try.prog.stopsHeard = true := by kernel_rfl
theorem c3_27 : (Rows.fnMatchRecoversTheNameOfAFilledPathRow.lifted == Try.prog.liftsFinal) = true := by rw [liftsFinal]; rfl
theorem c3_28 : (Try.prog.make == some Rows.fnMatchRecoversTheNameOfAFilledPathRow.make) = true := by rw [make]; rfl
theorem c3_29 : (Rows.fnMatchRecoversTheNameOfAFilledPathRow.kinds == (if Rows.fnMatchRecoversTheNameOfAFilledPathRow.domain.isEmpty then [] else Try.f3.params.toList.map fun t => match Try.prog.underlying t with | some (.int k) => some k | _ => none)) = true := by kernel_rfl
theorem c3_30 : (Rows.fnMatchRecoversTheNameOfAFilledPathRow.pinned == Rows.fnMatchRecoversTheNameOfAFilledPathRow.pinnedBy) = true := by kernel_rfl
theorem c3_31 : (Rows.fnMatchRecoversTheNameOfAFilledPathRow.veiled == (Try.f3.params.toList ++ Rows.fnMatchRecoversTheNameOfAFilledPathSpec.plain.varTypes Try.prog ++ Try.f3.resultTypes.toList).any (Try.prog.veiledRec ·)) = true := by kernel_rfl
theorem c3_32 : Rows.fnMatchRecoversTheNameOfAFilledPathRow.veiledFits Try.prog Try.f3.params.toList (Try.f3.params.toList ++ Rows.fnMatchRecoversTheNameOfAFilledPathSpec.plain.varTypes Try.prog ++ Try.f3.resultTypes.toList) = true := by kernel_rfl
theorem closed3 : joinedFacts Try.prog 3 Try.f3 Rows.fnMatchRecoversTheNameOfAFilledPathSpec Rows.fnMatchRecoversTheNameOfAFilledPathRow = true := (aT (aT (aT (aT (aT (aT (aT (aT (aT (aT (aT (aT (aT (aT (aT (aT (aT (aT (aT (aT (aT (aT (aT (aT (aT (aT (aT (aT (aT (aT (aT c3_1 Try.laidOut) c3_3) c3_4) c3_5) c3_6) c3_7) c3_8) c3_9) c3_10) c3_11) c3_12) c3_13) c3_14) c3_15) c3_16) c3_17) c3_18) c3_19) c3_20) c3_21) c3_22) c3_23) c3_24) c3_25) mayEnter) c3_27) c3_28) c3_29) c3_30) c3_31) c3_32)
theorem inst3 : Try.f3.isInstance Try.prog Rows.fnMatchRecoversTheNameOfAFilledPathRow.origin Rows.fnMatchRecoversTheNameOfAFilledPathRow.targs := of_decide_eq_true (by kernel_rfl)
theorem over3 : Rows.fnMatchRecoversTheNameOfAFilledPathRow.holds Try.pinned (OpenSpec.ofChange Rows.fnMatchRecoversTheNameOfAFilledPathSpec) :=
  OpenClaim.holds_of_wide 3 Try.f3 rfl rfl rfl rfl rfl rfl rfl ⟨rfl, rfl, rfl, rfl, rfl⟩ rfl rfl rfl rfl rfl named3 Try.func3 closed3
    inst3 (by unfold Func.isWrapper; first | (rw [if_pos (by decide +kernel)]; kernel_rfl) | (rw [if_neg (by decide +kernel)]; exact ⟨rfl, rfl⟩))
    (fun os started H enc _ => lifted3 os started H enc)

theorem fnMatchRecoversTheNameOfAFilledPathProved : Rows.FnMatchRecoversTheNameOfAFilledPathSaid := over3
end Go.Proofs.Qxb6001426a
