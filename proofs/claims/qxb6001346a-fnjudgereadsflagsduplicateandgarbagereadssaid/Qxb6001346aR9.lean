/-
  The row: FnJudgeReadsFlagsDuplicateAndGarbageReads.
-/
import Derived.Test.Qxb6001346aIo
import Derived.Test.Qxb6001346aL9
namespace Go.Proofs.Qxb6001346a
open Go.ChangeShapes Go.WideShapes Go.ChangeAt Go.RowKit Fw
set_option linter.unusedSimpArgs false
set_option linter.unusedVariables false

set_option maxRecDepth 100000 in
theorem lifted9 (os : Os) (started : os.Started) (H : Type) (enc : TypeId × Value → H) :
    ReturnsInHanded {} Try.checked os 9 .any (Rows.fnJudgeReadsFlagsDuplicateAndGarbageReadsSpec.pre6 enc Try.prog Try.f9 Rows.fnJudgeReadsFlagsDuplicateAndGarbageReadsRow.domain false) (Rows.fnJudgeReadsFlagsDuplicateAndGarbageReadsSpec.post enc Try.prog Try.f9 false true false false) := by
  refine returnsInHanded_of_change (C := Try.checked) Try.own started (by kernel_rfl) Try.func9
    (ChangeSpec.witness6 (enc := enc) (C := Try.checked) false ⟨#[], #[.slice none 0 0], []⟩ 8 (by kernel_rfl) (by kernel_rfl) (by kernel_rfl) (by kernel_rfl)) ?_
  intro W base args ds gs before hval0 hW hcnd _
  have hval : ∀ (j : Nat) t v, Try.f9.params[j]? = some t → args[j]? = some v → Value.okWide Try.prog W .any base t v := hval0
  have hW' := hW
  obtain ⟨p, q, hA0, hV, rfl, hfz, hnd⟩ := hW
  have hA : DataW.TrodAll enc Try.prog W 0 (fun _ => true) true Try.f9.params.toList args.toList ds p := hA0
  rw [Try.params9] at hA hval
  obtain ⟨v0, d0, rfl, rfl, h0⟩ := trodAll_one hA
  obtain ⟨rfl, rfl⟩ := trodVars_none hV
  have h0k := h0
  obtain ⟨a, len, cap, rfl⟩ := okWide_slice Try.underlying32 (hval 0 32 v0 rfl rfl)
  obtain ⟨fuel, hf⟩ := h0
  obtain ⟨T, hT⟩ := open_txs hf
  clear hA0 hval0
  have hlt : ∀ x ∈ p, x.block < W.heap.size := fun x hx => by simpa using hW'.lt x (List.mem_append_left _ hx)
  refine (law9 hT (fun hf => plain9 hf)).mono fun e W' ⟨he, hb⟩ => ?_
  subst he
  exact ⟨_, rfl, [d0], [], _, [], _, [], hW', trodAll_mk1 (shut_bool Try.underlying4 _), trodAll_mk1 (Below.trod Try.laidOut (by kernel_rfl) (of_decide_eq_true (by kernel_rfl)) h0k hb hlt), rfl, hb.frame _, fun h => by cases h⟩

theorem named9 : Try.prog.funcNamed Rows.fnJudgeReadsFlagsDuplicateAndGarbageReadsRow.func = some 9 := by kernel_rfl
theorem c9_1 : Rows.fnJudgeReadsFlagsDuplicateAndGarbageReadsRow.wf (OpenSpec.ofChange Rows.fnJudgeReadsFlagsDuplicateAndGarbageReadsSpec) = true := by kernel_rfl
theorem c9_3 : mapsRowed Try.prog = true := by kernel_rfl
theorem c9_4 : Try.f9.params.all (Try.prog.readableRec ·) = true := by kernel_rfl
theorem c9_5 : namedTie Try.prog Rows.fnJudgeReadsFlagsDuplicateAndGarbageReadsRow.named Rows.fnJudgeReadsFlagsDuplicateAndGarbageReadsSpec.vars = true := by kernel_rfl
theorem c9_6 : (Rows.fnJudgeReadsFlagsDuplicateAndGarbageReadsRow.stops == []) = true := by kernel_rfl
theorem c9_7 : (Try.prog.stops == []) = true := by kernel_rfl
theorem c9_8 : (Rows.fnJudgeReadsFlagsDuplicateAndGarbageReadsRow.knobs == []) = true := by kernel_rfl
theorem c9_9 : (Try.prog.stopKnobs == []) = true := by kernel_rfl
theorem c9_10 : (Rows.fnJudgeReadsFlagsDuplicateAndGarbageReadsRow.inPlace == Try.prog.inPlace 9) = true := by kernel_rfl
theorem c9_11 : (Rows.fnJudgeReadsFlagsDuplicateAndGarbageReadsRow.unfollowed == Try.prog.unfollowed 9) = true := by kernel_rfl
theorem c9_12 : (Rows.fnJudgeReadsFlagsDuplicateAndGarbageReadsRow.recurses == Try.prog.recurses 9) = true := by kernel_rfl
theorem c9_13 : (Rows.fnJudgeReadsFlagsDuplicateAndGarbageReadsRow.named == Try.prog.varsNamed 9) = true := by kernel_rfl
theorem c9_14 : (Rows.fnJudgeReadsFlagsDuplicateAndGarbageReadsRow.maps == (Try.f9.params.toList ++ Rows.fnJudgeReadsFlagsDuplicateAndGarbageReadsSpec.plain.varTypes Try.prog).any (Try.prog.mapsRec ·)) = true := by kernel_rfl
theorem c9_15 : (Rows.fnJudgeReadsFlagsDuplicateAndGarbageReadsRow.ifaces == (Try.f9.params.toList ++ Rows.fnJudgeReadsFlagsDuplicateAndGarbageReadsSpec.plain.varTypes Try.prog).any (Try.prog.ifacesRec ·)) = true := by kernel_rfl
theorem c9_16 : (Rows.fnJudgeReadsFlagsDuplicateAndGarbageReadsRow.mapsOut == Try.prog.mapsAmong Try.f9.resultTypes.toList) = true := by kernel_rfl
theorem c9_17 : (Rows.fnJudgeReadsFlagsDuplicateAndGarbageReadsRow.loops == (Try.f9.params.toList ++ Rows.fnJudgeReadsFlagsDuplicateAndGarbageReadsSpec.plain.varTypes Try.prog).any (Try.prog.loopsFrom ·)) = true := by kernel_rfl
theorem c9_18 : (Rows.fnJudgeReadsFlagsDuplicateAndGarbageReadsRow.wideKeys == (Try.f9.params.toList ++ Rows.fnJudgeReadsFlagsDuplicateAndGarbageReadsSpec.plain.varTypes Try.prog ++ Try.f9.resultTypes.toList).any (Try.prog.wideKeysFrom ·)) = true := by kernel_rfl
theorem c9_19 : Rows.fnJudgeReadsFlagsDuplicateAndGarbageReadsSpec.vars.all (Try.prog.varReadable ·) = true := by kernel_rfl
theorem c9_20 : Try.f9.resultTypes.all (fun t => Try.prog.readableRec t && decide (t < Try.prog.types.size)) = true := by kernel_rfl
theorem c9_21 : (Rows.fnJudgeReadsFlagsDuplicateAndGarbageReadsRow.ifacesOut == Try.f9.resultTypes.toList.any (Try.prog.ifacesRec ·)) = true := by kernel_rfl
theorem c9_22 : (Rows.fnJudgeReadsFlagsDuplicateAndGarbageReadsRow.loopsOut == Try.f9.resultTypes.toList.any (Try.prog.loopsFrom ·)) = true := by kernel_rfl
theorem c9_23 : (Rows.fnJudgeReadsFlagsDuplicateAndGarbageReadsRow.plainKeys == Try.prog.plainKeys) = true := by kernel_rfl
theorem c9_24 : Rows.fnJudgeReadsFlagsDuplicateAndGarbageReadsRow.shortTexts.isNone = true := by kernel_rfl
theorem c9_25 : Try.prog.stopsHeard = true := by kernel_rfl
theorem c9_27 : (Rows.fnJudgeReadsFlagsDuplicateAndGarbageReadsRow.lifted == Try.prog.liftsFinal) = true := by rw [liftsFinal]; rfl
theorem c9_28 : (Try.prog.make == some Rows.fnJudgeReadsFlagsDuplicateAndGarbageReadsRow.make) = true := by rw [make]; rfl
theorem c9_29 : (Rows.fnJudgeReadsFlagsDuplicateAndGarbageReadsRow.kinds == (if Rows.fnJudgeReadsFlagsDuplicateAndGarbageReadsRow.domain.isEmpty then [] else Try.f9.params.toList.map fun t => match Try.prog.underlying t with | some (.int k) => some k | _ => none)) = true := by kernel_rfl
theorem c9_30 : (Rows.fnJudgeReadsFlagsDuplicateAndGarbageReadsRow.pinned == Rows.fnJudgeReadsFlagsDuplicateAndGarbageReadsRow.pinnedBy) = true := by kernel_rfl
theorem c9_31 : (Rows.fnJudgeReadsFlagsDuplicateAndGarbageReadsRow.veiled == (Try.f9.params.toList ++ Rows.fnJudgeReadsFlagsDuplicateAndGarbageReadsSpec.plain.varTypes Try.prog ++ Try.f9.resultTypes.toList).any (Try.prog.veiledRec ·)) = true := by kernel_rfl
theorem c9_32 : Rows.fnJudgeReadsFlagsDuplicateAndGarbageReadsRow.veiledFits Try.prog Try.f9.params.toList (Try.f9.params.toList ++ Rows.fnJudgeReadsFlagsDuplicateAndGarbageReadsSpec.plain.varTypes Try.prog ++ Try.f9.resultTypes.toList) = true := by kernel_rfl
theorem closed9 : joinedFacts Try.prog 9 Try.f9 Rows.fnJudgeReadsFlagsDuplicateAndGarbageReadsSpec Rows.fnJudgeReadsFlagsDuplicateAndGarbageReadsRow = true := (aT (aT (aT (aT (aT (aT (aT (aT (aT (aT (aT (aT (aT (aT (aT (aT (aT (aT (aT (aT (aT (aT (aT (aT (aT (aT (aT (aT (aT (aT (aT c9_1 Try.laidOut) c9_3) c9_4) c9_5) c9_6) c9_7) c9_8) c9_9) c9_10) c9_11) c9_12) c9_13) c9_14) c9_15) c9_16) c9_17) c9_18) c9_19) c9_20) c9_21) c9_22) c9_23) c9_24) c9_25) mayEnter) c9_27) c9_28) c9_29) c9_30) c9_31) c9_32)
theorem inst9 : Try.f9.isInstance Try.prog Rows.fnJudgeReadsFlagsDuplicateAndGarbageReadsRow.origin Rows.fnJudgeReadsFlagsDuplicateAndGarbageReadsRow.targs := of_decide_eq_true (by kernel_rfl)
theorem over9 : Rows.fnJudgeReadsFlagsDuplicateAndGarbageReadsRow.holds Try.pinned (OpenSpec.ofChange Rows.fnJudgeReadsFlagsDuplicateAndGarbageReadsSpec) :=
  OpenClaim.holds_of_wide 9 Try.f9 rfl rfl rfl rfl rfl rfl rfl ⟨rfl, rfl, rfl, rfl, rfl⟩ rfl rfl rfl rfl rfl named9 Try.func9 closed9
    inst9 (by unfold Func.isWrapper; first | (rw [if_pos (by decide +kernel)]; kernel_rfl) | (rw [if_neg (by decide +kernel)]; exact ⟨rfl, rfl⟩))
    (fun os started H enc _ => lifted9 os started H enc)

theorem fnJudgeReadsFlagsDuplicateAndGarbageReadsProved : Rows.FnJudgeReadsFlagsDuplicateAndGarbageReadsSaid := over9
end Go.Proofs.Qxb6001346a
