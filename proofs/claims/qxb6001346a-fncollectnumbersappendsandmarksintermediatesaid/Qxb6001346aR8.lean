/-
  The row: FnCollectNumbersAppendsAndMarksIntermediate.
-/
import Derived.Test.Qxb6001346aIo
import Derived.Test.Qxb6001346aL8
namespace Go.Proofs.Qxb6001346a
open Go.ChangeShapes Go.WideShapes Go.ChangeAt Go.RowKit Fw
set_option linter.unusedSimpArgs false
set_option linter.unusedVariables false

set_option maxRecDepth 100000 in
theorem lifted8 (os : Os) (started : os.Started) (H : Type) (enc : TypeId × Value → H) :
    ReturnsInHanded {} Try.checked os 8 .any (Rows.fnCollectNumbersAppendsAndMarksIntermediateSpec.pre6 enc Try.prog Try.f8 Rows.fnCollectNumbersAppendsAndMarksIntermediateRow.domain false) (Rows.fnCollectNumbersAppendsAndMarksIntermediateSpec.post enc Try.prog Try.f8 false true false false) := by
  refine returnsInHanded_of_change (C := Try.checked) Try.own started (by kernel_rfl) Try.func8
    (ChangeSpec.witness6 (enc := enc) (C := Try.checked) false ⟨#[], #[.slice none 0 0], []⟩ 8 (by kernel_rfl) (by kernel_rfl) (by kernel_rfl) (by kernel_rfl)) ?_
  intro W base args ds gs before hval0 hW hcnd _
  have hval : ∀ (j : Nat) t v, Try.f8.params[j]? = some t → args[j]? = some v → Value.okWide Try.prog W .any base t v := hval0
  have hW' := hW
  obtain ⟨p, q, hA0, hV, rfl, hfz, hnd⟩ := hW
  have hA : DataW.TrodAll enc Try.prog W 0 (fun _ => true) true Try.f8.params.toList args.toList ds p := hA0
  rw [Try.params8] at hA hval
  obtain ⟨v0, d0, rfl, rfl, h0⟩ := trodAll_one hA
  obtain ⟨rfl, rfl⟩ := trodVars_none hV
  have h0k := h0
  obtain ⟨a, len, cap, rfl⟩ := okWide_slice Try.underlying32 (hval 0 32 v0 rfl rfl)
  obtain ⟨fuel, hf⟩ := h0
  obtain ⟨T, hT⟩ := open_txs hf
  clear hA0 hval0
  have hlt : ∀ x ∈ p, x.block < W.heap.size := fun x hx => by simpa using hW'.lt x (List.mem_append_left _ hx)
  refine (law8 hT (fun hf => plain8 _)).mono fun e W' ⟨he, hb⟩ => ?_
  subst he
  exact ⟨_, rfl, [d0], [], _, [], _, [], hW', trodAll_mk1 (shut_bool Try.underlying4 _), trodAll_mk1 (Below.trod Try.laidOut (by kernel_rfl) (of_decide_eq_true (by kernel_rfl)) h0k hb hlt), rfl, hb.frame _, fun h => by cases h⟩

theorem named8 : Try.prog.funcNamed Rows.fnCollectNumbersAppendsAndMarksIntermediateRow.func = some 8 := by kernel_rfl
theorem c8_1 : Rows.fnCollectNumbersAppendsAndMarksIntermediateRow.wf (OpenSpec.ofChange Rows.fnCollectNumbersAppendsAndMarksIntermediateSpec) = true := by kernel_rfl
theorem c8_3 : mapsRowed Try.prog = true := by kernel_rfl
theorem c8_4 : Try.f8.params.all (Try.prog.readableRec ·) = true := by kernel_rfl
theorem c8_5 : namedTie Try.prog Rows.fnCollectNumbersAppendsAndMarksIntermediateRow.named Rows.fnCollectNumbersAppendsAndMarksIntermediateSpec.vars = true := by kernel_rfl
theorem c8_6 : (Rows.fnCollectNumbersAppendsAndMarksIntermediateRow.stops == []) = true := by kernel_rfl
theorem c8_7 : (Try.prog.stops == []) = true := by kernel_rfl
theorem c8_8 : (Rows.fnCollectNumbersAppendsAndMarksIntermediateRow.knobs == []) = true := by kernel_rfl
theorem c8_9 : (Try.prog.stopKnobs == []) = true := by kernel_rfl
theorem c8_10 : (Rows.fnCollectNumbersAppendsAndMarksIntermediateRow.inPlace == Try.prog.inPlace 8) = true := by kernel_rfl
theorem c8_11 : (Rows.fnCollectNumbersAppendsAndMarksIntermediateRow.unfollowed == Try.prog.unfollowed 8) = true := by kernel_rfl
theorem c8_12 : (Rows.fnCollectNumbersAppendsAndMarksIntermediateRow.recurses == Try.prog.recurses 8) = true := by kernel_rfl
theorem c8_13 : (Rows.fnCollectNumbersAppendsAndMarksIntermediateRow.named == Try.prog.varsNamed 8) = true := by kernel_rfl
theorem c8_14 : (Rows.fnCollectNumbersAppendsAndMarksIntermediateRow.maps == (Try.f8.params.toList ++ Rows.fnCollectNumbersAppendsAndMarksIntermediateSpec.plain.varTypes Try.prog).any (Try.prog.mapsRec ·)) = true := by kernel_rfl
theorem c8_15 : (Rows.fnCollectNumbersAppendsAndMarksIntermediateRow.ifaces == (Try.f8.params.toList ++ Rows.fnCollectNumbersAppendsAndMarksIntermediateSpec.plain.varTypes Try.prog).any (Try.prog.ifacesRec ·)) = true := by kernel_rfl
theorem c8_16 : (Rows.fnCollectNumbersAppendsAndMarksIntermediateRow.mapsOut == Try.prog.mapsAmong Try.f8.resultTypes.toList) = true := by kernel_rfl
theorem c8_17 : (Rows.fnCollectNumbersAppendsAndMarksIntermediateRow.loops == (Try.f8.params.toList ++ Rows.fnCollectNumbersAppendsAndMarksIntermediateSpec.plain.varTypes Try.prog).any (Try.prog.loopsFrom ·)) = true := by kernel_rfl
theorem c8_18 : (Rows.fnCollectNumbersAppendsAndMarksIntermediateRow.wideKeys == (Try.f8.params.toList ++ Rows.fnCollectNumbersAppendsAndMarksIntermediateSpec.plain.varTypes Try.prog ++ Try.f8.resultTypes.toList).any (Try.prog.wideKeysFrom ·)) = true := by kernel_rfl
theorem c8_19 : Rows.fnCollectNumbersAppendsAndMarksIntermediateSpec.vars.all (Try.prog.varReadable ·) = true := by kernel_rfl
theorem c8_20 : Try.f8.resultTypes.all (fun t => Try.prog.readableRec t && decide (t < Try.prog.types.size)) = true := by kernel_rfl
theorem c8_21 : (Rows.fnCollectNumbersAppendsAndMarksIntermediateRow.ifacesOut == Try.f8.resultTypes.toList.any (Try.prog.ifacesRec ·)) = true := by kernel_rfl
theorem c8_22 : (Rows.fnCollectNumbersAppendsAndMarksIntermediateRow.loopsOut == Try.f8.resultTypes.toList.any (Try.prog.loopsFrom ·)) = true := by kernel_rfl
theorem c8_23 : (Rows.fnCollectNumbersAppendsAndMarksIntermediateRow.plainKeys == Try.prog.plainKeys) = true := by kernel_rfl
theorem c8_24 : Rows.fnCollectNumbersAppendsAndMarksIntermediateRow.shortTexts.isNone = true := by kernel_rfl
theorem c8_25 : Try.prog.stopsHeard = true := by kernel_rfl
theorem c8_27 : (Rows.fnCollectNumbersAppendsAndMarksIntermediateRow.lifted == Try.prog.liftsFinal) = true := by rw [liftsFinal]; rfl
theorem c8_28 : (Try.prog.make == some Rows.fnCollectNumbersAppendsAndMarksIntermediateRow.make) = true := by rw [make]; rfl
theorem c8_29 : (Rows.fnCollectNumbersAppendsAndMarksIntermediateRow.kinds == (if Rows.fnCollectNumbersAppendsAndMarksIntermediateRow.domain.isEmpty then [] else Try.f8.params.toList.map fun t => match Try.prog.underlying t with | some (.int k) => some k | _ => none)) = true := by kernel_rfl
theorem c8_30 : (Rows.fnCollectNumbersAppendsAndMarksIntermediateRow.pinned == Rows.fnCollectNumbersAppendsAndMarksIntermediateRow.pinnedBy) = true := by kernel_rfl
theorem c8_31 : (Rows.fnCollectNumbersAppendsAndMarksIntermediateRow.veiled == (Try.f8.params.toList ++ Rows.fnCollectNumbersAppendsAndMarksIntermediateSpec.plain.varTypes Try.prog ++ Try.f8.resultTypes.toList).any (Try.prog.veiledRec ·)) = true := by kernel_rfl
theorem c8_32 : Rows.fnCollectNumbersAppendsAndMarksIntermediateRow.veiledFits Try.prog Try.f8.params.toList (Try.f8.params.toList ++ Rows.fnCollectNumbersAppendsAndMarksIntermediateSpec.plain.varTypes Try.prog ++ Try.f8.resultTypes.toList) = true := by kernel_rfl
theorem closed8 : joinedFacts Try.prog 8 Try.f8 Rows.fnCollectNumbersAppendsAndMarksIntermediateSpec Rows.fnCollectNumbersAppendsAndMarksIntermediateRow = true := (aT (aT (aT (aT (aT (aT (aT (aT (aT (aT (aT (aT (aT (aT (aT (aT (aT (aT (aT (aT (aT (aT (aT (aT (aT (aT (aT (aT (aT (aT (aT c8_1 Try.laidOut) c8_3) c8_4) c8_5) c8_6) c8_7) c8_8) c8_9) c8_10) c8_11) c8_12) c8_13) c8_14) c8_15) c8_16) c8_17) c8_18) c8_19) c8_20) c8_21) c8_22) c8_23) c8_24) c8_25) mayEnter) c8_27) c8_28) c8_29) c8_30) c8_31) c8_32)
theorem inst8 : Try.f8.isInstance Try.prog Rows.fnCollectNumbersAppendsAndMarksIntermediateRow.origin Rows.fnCollectNumbersAppendsAndMarksIntermediateRow.targs := of_decide_eq_true (by kernel_rfl)
theorem over8 : Rows.fnCollectNumbersAppendsAndMarksIntermediateRow.holds Try.pinned (OpenSpec.ofChange Rows.fnCollectNumbersAppendsAndMarksIntermediateSpec) :=
  OpenClaim.holds_of_wide 8 Try.f8 rfl rfl rfl rfl rfl rfl rfl ⟨rfl, rfl, rfl, rfl, rfl⟩ rfl rfl rfl rfl rfl named8 Try.func8 closed8
    inst8 (by unfold Func.isWrapper; first | (rw [if_pos (by decide +kernel)]; kernel_rfl) | (rw [if_neg (by decide +kernel)]; exact ⟨rfl, rfl⟩))
    (fun os started H enc _ => lifted8 os started H enc)

theorem fnCollectNumbersAppendsAndMarksIntermediateProved : Rows.FnCollectNumbersAppendsAndMarksIntermediateSaid := over8
end Go.Proofs.Qxb6001346a
