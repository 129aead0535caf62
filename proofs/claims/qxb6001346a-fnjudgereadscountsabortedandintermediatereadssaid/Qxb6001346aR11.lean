/-
  The row: FnJudgeReadsCountsAbortedAndIntermediateReads.
-/
import Derived.Test.Qxb6001346aIo
import Derived.Test.Qxb6001346aL11
namespace Go.Proofs.Qxb6001346a
open Go.ChangeShapes Go.WideShapes Go.ChangeAt Go.RowKit Fw
set_option linter.unusedSimpArgs false
set_option linter.unusedVariables false

set_option maxRecDepth 100000 in
theorem lifted11 (os : Os) (started : os.Started) (H : Type) (enc : TypeId × Value → H) :
    ReturnsInHanded {} Try.checked os 11 .any (Rows.fnJudgeReadsCountsAbortedAndIntermediateReadsSpec.pre6 enc Try.prog Try.f11 Rows.fnJudgeReadsCountsAbortedAndIntermediateReadsRow.domain false) (Rows.fnJudgeReadsCountsAbortedAndIntermediateReadsSpec.post enc Try.prog Try.f11 false true false false) := by
  refine returnsInHanded_of_change (C := Try.checked) Try.own started (by kernel_rfl) Try.func11
    (ChangeSpec.witness6 (enc := enc) (C := Try.checked) false ⟨#[], #[.slice none 0 0], []⟩ 8 (by kernel_rfl) (by kernel_rfl) (by kernel_rfl) (by kernel_rfl)) ?_
  intro W base args ds gs before hval0 hW hcnd _
  have hval : ∀ (j : Nat) t v, Try.f11.params[j]? = some t → args[j]? = some v → Value.okWide Try.prog W .any base t v := hval0
  have hW' := hW
  obtain ⟨p, q, hA0, hV, rfl, hfz, hnd⟩ := hW
  have hA : DataW.TrodAll enc Try.prog W 0 (fun _ => true) true Try.f11.params.toList args.toList ds p := hA0
  rw [Try.params11] at hA hval
  obtain ⟨v0, d0, rfl, rfl, h0⟩ := trodAll_one hA
  obtain ⟨rfl, rfl⟩ := trodVars_none hV
  have h0k := h0
  obtain ⟨a, len, cap, rfl⟩ := okWide_slice Try.underlying32 (hval 0 32 v0 rfl rfl)
  obtain ⟨fuel, hf⟩ := h0
  obtain ⟨T, hT⟩ := open_txs hf
  clear hA0 hval0
  have hlt : ∀ x ∈ p, x.block < W.heap.size := fun x hx => by simpa using hW'.lt x (List.mem_append_left _ hx)
  refine (law11 hT (fun hf => ⟨plain9 hf⟩)).mono fun e W' ⟨he, hb⟩ => ?_
  subst he
  exact ⟨_, rfl, [d0], [], _, [], _, [], hW', trodAll_mk1 (shut_bool Try.underlying4 _), trodAll_mk1 (Below.trod Try.laidOut (by kernel_rfl) (of_decide_eq_true (by kernel_rfl)) h0k hb hlt), rfl, hb.frame _, fun h => by cases h⟩

theorem named11 : Try.prog.funcNamed Rows.fnJudgeReadsCountsAbortedAndIntermediateReadsRow.func = some 11 := by kernel_rfl
theorem c11_1 : Rows.fnJudgeReadsCountsAbortedAndIntermediateReadsRow.wf (OpenSpec.ofChange Rows.fnJudgeReadsCountsAbortedAndIntermediateReadsSpec) = true := by kernel_rfl
theorem c11_3 : mapsRowed Try.prog = true := by kernel_rfl
theorem c11_4 : Try.f11.params.all (Try.prog.readableRec ·) = true := by kernel_rfl
theorem c11_5 : namedTie Try.prog Rows.fnJudgeReadsCountsAbortedAndIntermediateReadsRow.named Rows.fnJudgeReadsCountsAbortedAndIntermediateReadsSpec.vars = true := by kernel_rfl
theorem c11_6 : (Rows.fnJudgeReadsCountsAbortedAndIntermediateReadsRow.stops == []) = true := by kernel_rfl
theorem c11_7 : (Try.prog.stops == []) = true := by kernel_rfl
theorem c11_8 : (Rows.fnJudgeReadsCountsAbortedAndIntermediateReadsRow.knobs == []) = true := by kernel_rfl
theorem c11_9 : (Try.prog.stopKnobs == []) = true := by kernel_rfl
theorem c11_10 : (Rows.fnJudgeReadsCountsAbortedAndIntermediateReadsRow.inPlace == Try.prog.inPlace 11) = true := by kernel_rfl
theorem c11_11 : (Rows.fnJudgeReadsCountsAbortedAndIntermediateReadsRow.unfollowed == Try.prog.unfollowed 11) = true := by kernel_rfl
theorem c11_12 : (Rows.fnJudgeReadsCountsAbortedAndIntermediateReadsRow.recurses == Try.prog.recurses 11) = true := by kernel_rfl
theorem c11_13 : (Rows.fnJudgeReadsCountsAbortedAndIntermediateReadsRow.named == Try.prog.varsNamed 11) = true := by kernel_rfl
theorem c11_14 : (Rows.fnJudgeReadsCountsAbortedAndIntermediateReadsRow.maps == (Try.f11.params.toList ++ Rows.fnJudgeReadsCountsAbortedAndIntermediateReadsSpec.plain.varTypes Try.prog).any (Try.prog.mapsRec ·)) = true := by kernel_rfl
theorem c11_15 : (Rows.fnJudgeReadsCountsAbortedAndIntermediateReadsRow.ifaces == (Try.f11.params.toList ++ Rows.fnJudgeReadsCountsAbortedAndIntermediateReadsSpec.plain.varTypes Try.prog).any (Try.prog.ifacesRec ·)) = true := by kernel_rfl
theorem c11_16 : (Rows.fnJudgeReadsCountsAbortedAndIntermediateReadsRow.mapsOut == Try.prog.mapsAmong Try.f11.resultTypes.toList) = true := by kernel_rfl
theorem c11_17 : (Rows.fnJudgeReadsCountsAbortedAndIntermediateReadsRow.loops == (Try.f11.params.toList ++ Rows.fnJudgeReadsCountsAbortedAndIntermediateReadsSpec.plain.varTypes Try.prog).any (Try.prog.loopsFrom ·)) = true := by kernel_rfl
theorem c11_18 : (Rows.fnJudgeReadsCountsAbortedAndIntermediateReadsRow.wideKeys == (Try.f11.params.toList ++ Rows.fnJudgeReadsCountsAbortedAndIntermediateReadsSpec.plain.varTypes Try.prog ++ Try.f11.resultTypes.toList).any (Try.prog.wideKeysFrom ·)) = true := by kernel_rfl
theorem c11_19 : Rows.fnJudgeReadsCountsAbortedAndIntermediateReadsSpec.vars.all (Try.prog.varReadable ·) = true := by kernel_rfl
theorem c11_20 : Try.f11.resultTypes.all (fun t => Try.prog.readableRec t && decide (t < Try.prog.types.size)) = true := by kernel_rfl
theorem c11_21 : (Rows.fnJudgeReadsCountsAbortedAndIntermediateReadsRow.ifacesOut == Try.f11.resultTypes.toList.any (Try.prog.ifacesRec ·)) = true := by kernel_rfl
theorem c11_22 : (Rows.fnJudgeReadsCountsAbortedAndIntermediateReadsRow.loopsOut == Try.f11.resultTypes.toList.any (Try.prog.loopsFrom ·)) = true := by kernel_rfl
theorem c11_23 : (Rows.fnJudgeReadsCountsAbortedAndIntermediateReadsRow.plainKeys == Try.prog.plainKeys) = true := by kernel_rfl
theorem c11_24 : Rows.fnJudgeReadsCountsAbortedAndIntermediateReadsRow.shortTexts.isNone = true := by kernel_rfl
theorem c11_25 : Try.prog.stopsHeard = true := by kernel_rfl
theorem c11_27 : (Rows.fnJudgeReadsCountsAbortedAndIntermediateReadsRow.lifted == Try.prog.liftsFinal) = true := by rw [liftsFinal]; rfl
theorem c11_28 : (Try.prog.make == some Rows.fnJudgeReadsCountsAbortedAndIntermediateReadsRow.make) = true := by rw [make]; rfl
theorem c11_29 : (Rows.fnJudgeReadsCountsAbortedAndIntermediateReadsRow.kinds == (if Rows.fnJudgeReadsCountsAbortedAndIntermediateReadsRow.domain.isEmpty then [] else Try.f11.params.toList.map fun t => match Try.prog.underlying t with | some (.int k) => some k | _ => none)) = true := by kernel_rfl
theorem c11_30 : (Rows.fnJudgeReadsCountsAbortedAndIntermediateReadsRow.pinned == Rows.fnJudgeReadsCountsAbortedAndIntermediateReadsRow.pinnedBy) = true := by kernel_rfl
theorem c11_31 : (Rows.fnJudgeReadsCountsAbortedAndIntermediateReadsRow.veiled == (Try.f11.params.toList ++ Rows.fnJudgeReadsCountsAbortedAndIntermediateReadsSpec.plain.varTypes Try.prog ++ Try.f11.resultTypes.toList).any (Try.prog.veiledRec ·)) = true := by kernel_rfl
theorem c11_32 : Rows.fnJudgeReadsCountsAbortedAndIntermediateReadsRow.veiledFits Try.prog Try.f11.params.toList (Try.f11.params.toList ++ Rows.fnJudgeReadsCountsAbortedAndIntermediateReadsSpec.plain.varTypes Try.prog ++ Try.f11.resultTypes.toList) = true := by kernel_rfl
theorem closed11 : joinedFacts Try.prog 11 Try.f11 Rows.fnJudgeReadsCountsAbortedAndIntermediateReadsSpec Rows.fnJudgeReadsCountsAbortedAndIntermediateReadsRow = true := (aT (aT (aT (aT (aT (aT (aT (aT (aT (aT (aT (aT (aT (aT (aT (aT (aT (aT (aT (aT (aT (aT (aT (aT (aT (aT (aT (aT (aT (aT (aT c11_1 Try.laidOut) c11_3) c11_4) c11_5) c11_6) c11_7) c11_8) c11_9) c11_10) c11_11) c11_12) c11_13) c11_14) c11_15) c11_16) c11_17) c11_18) c11_19) c11_20) c11_21) c11_22) c11_23) c11_24) c11_25) mayEnter) c11_27) c11_28) c11_29) c11_30) c11_31) c11_32)
theorem inst11 : Try.f11.isInstance Try.prog Rows.fnJudgeReadsCountsAbortedAndIntermediateReadsRow.origin Rows.fnJudgeReadsCountsAbortedAndIntermediateReadsRow.targs := of_decide_eq_true (by kernel_rfl)
theorem over11 : Rows.fnJudgeReadsCountsAbortedAndIntermediateReadsRow.holds Try.pinned (OpenSpec.ofChange Rows.fnJudgeReadsCountsAbortedAndIntermediateReadsSpec) :=
  OpenClaim.holds_of_wide 11 Try.f11 rfl rfl rfl rfl rfl rfl rfl ⟨rfl, rfl, rfl, rfl, rfl⟩ rfl rfl rfl rfl rfl named11 Try.func11 closed11
    inst11 (by unfold Func.isWrapper; first | (rw [if_pos (by decide +kernel)]; kernel_rfl) | (rw [if_neg (by decide +kernel)]; exact ⟨rfl, rfl⟩))
    (fun os started H enc _ => lifted11 os started H enc)

theorem fnJudgeReadsCountsAbortedAndIntermediateReadsProved : Rows.FnJudgeReadsCountsAbortedAndIntermediateReadsSaid := over11
end Go.Proofs.Qxb6001346a
