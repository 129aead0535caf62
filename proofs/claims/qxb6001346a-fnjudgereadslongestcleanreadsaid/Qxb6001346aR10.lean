/-
  The row: FnJudgeReadsLongestCleanRead.
-/
import Derived.Test.Qxb6001346aIo
import Derived.Test.Qxb6001346aP2
namespace Go.Proofs.Qxb6001346a
open Go.ChangeShapes Go.WideShapes Go.ChangeAt Go.RowKit Fw
set_option linter.unusedSimpArgs false
set_option linter.unusedVariables false

set_option maxRecDepth 100000 in
theorem lifted10 (os : Os) (started : os.Started) (H : Type) (enc : TypeId × Value → H) :
    ReturnsInHanded {} Try.checked os 10 .any (Rows.fnJudgeReadsLongestCleanReadSpec.pre6 enc Try.prog Try.f10 Rows.fnJudgeReadsLongestCleanReadRow.domain false) (Rows.fnJudgeReadsLongestCleanReadSpec.post enc Try.prog Try.f10 false true false false) := by
  refine returnsInHanded_of_change (C := Try.checked) Try.own started (by kernel_rfl) Try.func10
    (ChangeSpec.witness6 (enc := enc) (C := Try.checked) false ⟨#[], #[.slice none 0 0], []⟩ 8 (by kernel_rfl) (by kernel_rfl) (by kernel_rfl) (by kernel_rfl)) ?_
  intro W base args ds gs before hval0 hW hcnd _
  have hval : ∀ (j : Nat) t v, Try.f10.params[j]? = some t → args[j]? = some v → Value.okWide Try.prog W .any base t v := hval0
  have hW' := hW
  obtain ⟨p, q, hA0, hV, rfl, hfz, hnd⟩ := hW
  have hA : DataW.TrodAll enc Try.prog W 0 (fun _ => true) true Try.f10.params.toList args.toList ds p := hA0
  rw [Try.params10] at hA hval
  obtain ⟨v0, d0, rfl, rfl, h0⟩ := trodAll_one hA
  obtain ⟨rfl, rfl⟩ := trodVars_none hV
  have h0k := h0
  obtain ⟨a, len, cap, rfl⟩ := okWide_slice Try.underlying32 (hval 0 32 v0 rfl rfl)
  obtain ⟨fuel, hf⟩ := h0
  obtain ⟨T, hT⟩ := open_txs hf
  clear hA0 hval0
  have hlt : ∀ x ∈ p, x.block < W.heap.size := fun x hx => by simpa using hW'.lt x (List.mem_append_left _ hx)
  refine (law10 hT (fun hf => plain10 hf)).mono fun e W' ⟨he, hb⟩ => ?_
  subst he
  exact ⟨_, rfl, [d0], [], _, [], _, [], hW', trodAll_mk1 (shut_bool Try.underlying4 _), trodAll_mk1 (Below.trod Try.laidOut (by kernel_rfl) (of_decide_eq_true (by kernel_rfl)) h0k hb hlt), rfl, hb.frame _, fun h => by cases h⟩

theorem named10 : Try.prog.funcNamed Rows.fnJudgeReadsLongestCleanReadRow.func = some 10 := by kernel_rfl
theorem c10_1 : Rows.fnJudgeReadsLongestCleanReadRow.wf (OpenSpec.ofChange Rows.fnJudgeReadsLongestCleanReadSpec) = true := by kernel_rfl
theorem c10_3 : mapsRowed Try.prog = true := by kernel_rfl
theorem c10_4 : Try.f10.params.all (Try.prog.readableRec ·) = true := by kernel_rfl
theorem c10_5 : namedTie Try.prog Rows.fnJudgeReadsLongestCleanReadRow.named Rows.fnJudgeReadsLongestCleanReadSpec.vars = true := by kernel_rfl
theorem c10_6 : (Rows.fnJudgeReadsLongestCleanReadRow.stops == []) = true := by kernel_rfl
theorem c10_7 : (Try.prog.stops == []) = true := by kernel_rfl
theorem c10_8 : (Rows.fnJudgeReadsLongestCleanReadRow.knobs == []) = true := by kernel_rfl
theorem c10_9 : (Try.prog.stopKnobs == []) = true := by kernel_rfl
theorem c10_10 : (Rows.fnJudgeReadsLongestCleanReadRow.inPlace == Try.prog.inPlace 10) = true := by kernel_rfl
theorem c10_11 : (Rows.fnJudgeReadsLongestCleanReadRow.unfollowed == Try.prog.unfollowed 10) = true := by kernel_rfl
theorem c10_12 : (Rows.fnJudgeReadsLongestCleanReadRow.recurses == Try.prog.recurses 10) = true := by kernel_rfl
theorem c10_13 : (Rows.fnJudgeReadsLongestCleanReadRow.named == Try.prog.varsNamed 10) = true := by kernel_rfl
theorem c10_14 : (Rows.fnJudgeReadsLongestCleanReadRow.maps == (Try.f10.params.toList ++ Rows.fnJudgeReadsLongestCleanReadSpec.plain.varTypes Try.prog).any (Try.prog.mapsRec ·)) = true := by kernel_rfl
theorem c10_15 : (Rows.fnJudgeReadsLongestCleanReadRow.ifaces == (Try.f10.params.toList ++ Rows.fnJudgeReadsLongestCleanReadSpec.plain.varTypes Try.prog).any (Try.prog.ifacesRec ·)) = true := by kernel_rfl
theorem c10_16 : (Rows.fnJudgeReadsLongestCleanReadRow.mapsOut == Try.prog.mapsAmong Try.f10.resultTypes.toList) = true := by kernel_rfl
theorem c10_17 : (Rows.fnJudgeReadsLongestCleanReadRow.loops == (Try.f10.params.toList ++ Rows.fnJudgeReadsLongestCleanReadSpec.plain.varTypes Try.prog).any (Try.prog.loopsFrom ·)) = true := by kernel_rfl
theorem c10_18 : (Rows.fnJudgeReadsLongestCleanReadRow.wideKeys == (Try.f10.params.toList ++ Rows.fnJudgeReadsLongestCleanReadSpec.plain.varTypes Try.prog ++ Try.f10.resultTypes.toList).any (Try.prog.wideKeysFrom ·)) = true := by kernel_rfl
theorem c10_19 : Rows.fnJudgeReadsLongestCleanReadSpec.vars.all (Try.prog.varReadable ·) = true := by kernel_rfl
theorem c10_20 : Try.f10.resultTypes.all (fun t => Try.prog.readableRec t && decide (t < Try.prog.types.size)) = true := by kernel_rfl
theorem c10_21 : (Rows.fnJudgeReadsLongestCleanReadRow.ifacesOut == Try.f10.resultTypes.toList.any (Try.prog.ifacesRec ·)) = true := by kernel_rfl
theorem c10_22 : (Rows.fnJudgeReadsLongestCleanReadRow.loopsOut == Try.f10.resultTypes.toList.any (Try.prog.loopsFrom ·)) = true := by kernel_rfl
theorem c10_23 : (Rows.fnJudgeReadsLongestCleanReadRow.plainKeys == Try.prog.plainKeys) = true := by kernel_rfl
theorem c10_24 : Rows.fnJudgeReadsLongestCleanReadRow.shortTexts.isNone = true := by kernel_rfl
theorem c10_25 : Try.prog.stopsHeard = true := by kernel_rfl
theorem c10_27 : (Rows.fnJudgeReadsLongestCleanReadRow.lifted == Try.prog.liftsFinal) = true := by rw [liftsFinal]; rfl
theorem c10_28 : (Try.prog.make == some Rows.fnJudgeReadsLongestCleanReadRow.make) = true := by rw [make]; rfl
theorem c10_29 : (Rows.fnJudgeReadsLongestCleanReadRow.kinds == (if Rows.fnJudgeReadsLongestCleanReadRow.domain.isEmpty then [] else Try.f10.params.toList.map fun t => match Try.prog.underlying t with | some (.int k) => some k | _ => none)) = true := by kernel_rfl
theorem c10_30 : (Rows.fnJudgeReadsLongestCleanReadRow.pinned == Rows.fnJudgeReadsLongestCleanReadRow.pinnedBy) = true := by kernel_rfl
theorem c10_31 : (Rows.fnJudgeReadsLongestCleanReadRow.veiled == (Try.f10.params.toList ++ Rows.fnJudgeReadsLongestCleanReadSpec.plain.varTypes Try.prog ++ Try.f10.resultTypes.toList).any (Try.prog.veiledRec ·)) = true := by kernel_rfl
theorem c10_32 : Rows.fnJudgeReadsLongestCleanReadRow.veiledFits Try.prog Try.f10.params.toList (Try.f10.params.toList ++ Rows.fnJudgeReadsLongestCleanReadSpec.plain.varTypes Try.prog ++ Try.f10.resultTypes.toList) = true := by kernel_rfl
theorem closed10 : joinedFacts Try.prog 10 Try.f10 Rows.fnJudgeReadsLongestCleanReadSpec Rows.fnJudgeReadsLongestCleanReadRow = true := (aT (aT (aT (aT (aT (aT (aT (aT (aT (aT (aT (aT (aT (aT (aT (aT (aT (aT (aT (aT (aT (aT (aT (aT (aT (aT (aT (aT (aT (aT (aT c10_1 Try.laidOut) c10_3) c10_4) c10_5) c10_6) c10_7) c10_8) c10_9) c10_10) c10_11) c10_12) c10_13) c10_14) c10_15) c10_16) c10_17) c10_18) c10_19) c10_20) c10_21) c10_22) c10_23) c10_24) c10_25) mayEnter) c10_27) c10_28) c10_29) c10_30) c10_31) c10_32)
theorem inst10 : Try.f10.isInstance Try.prog Rows.fnJudgeReadsLongestCleanReadRow.origin Rows.fnJudgeReadsLongestCleanReadRow.targs := of_decide_eq_true (by kernel_rfl)
theorem over10 : Rows.fnJudgeReadsLongestCleanReadRow.holds Try.pinned (OpenSpec.ofChange Rows.fnJudgeReadsLongestCleanReadSpec) :=
  OpenClaim.holds_of_wide 10 Try.f10 rfl rfl rfl rfl rfl rfl rfl ⟨rfl, rfl, rfl, rfl, rfl⟩ rfl rfl rfl rfl rfl named10 Try.func10 closed10
    inst10 (by unfold Func.isWrapper; first | (rw [if_pos (by decide +kernel)]; kernel_rfl) | (rw [if_neg (by decide +kernel)]; exact ⟨rfl, rfl⟩))
    (fun os started H enc _ => lifted10 os started H enc)

theorem fnJudgeReadsLongestCleanReadProved : Rows.FnJudgeReadsLongestCleanReadSaid := over10
end Go.Proofs.Qxb6001346a
