/-
  The row: FnCollectCommittedExactly.
-/
import Derived.Test.Qxb6001346aIo
import Derived.Test.Qxb6001346aL6
namespace Go.Proofs.Qxb6001346a
open Go.ChangeShapes Go.WideShapes Go.ChangeAt Go.RowKit Fw
set_option linter.unusedSimpArgs false
set_option linter.unusedVariables false

set_option maxRecDepth 100000 in
theorem lifted6 (os : Os) (started : os.Started) (H : Type) (enc : TypeId × Value → H) :
    ReturnsInHanded {} Try.checked os 6 .any (Rows.fnCollectCommittedExactlySpec.pre6 enc Try.prog Try.f6 Rows.fnCollectCommittedExactlyRow.domain false) (Rows.fnCollectCommittedExactlySpec.post enc Try.prog Try.f6 false true false false) := by
  refine returnsInHanded_of_change (C := Try.checked) Try.own started (by kernel_rfl) Try.func6
    (ChangeSpec.witness6 (enc := enc) (C := Try.checked) false ⟨#[], #[.slice none 0 0], []⟩ 8 (by kernel_rfl) (by kernel_rfl) (by kernel_rfl) (by kernel_rfl)) ?_
  intro W base args ds gs before hval0 hW hcnd _
  have hval : ∀ (j : Nat) t v, Try.f6.params[j]? = some t → args[j]? = some v → Value.okWide Try.prog W .any base t v := hval0
  have hW' := hW
  obtain ⟨p, q, hA0, hV, rfl, hfz, hnd⟩ := hW
  have hA : DataW.TrodAll enc Try.prog W 0 (fun _ => true) true Try.f6.params.toList args.toList ds p := hA0
  rw [Try.params6] at hA hval
  obtain ⟨v0, d0, rfl, rfl, h0⟩ := trodAll_one hA
  obtain ⟨rfl, rfl⟩ := trodVars_none hV
  have h0k := h0
  obtain ⟨a, len, cap, rfl⟩ := okWide_slice Try.underlying32 (hval 0 32 v0 rfl rfl)
  obtain ⟨fuel, hf⟩ := h0
  obtain ⟨T, hT⟩ := open_txs hf
  clear hA0 hval0
  have hlt : ∀ x ∈ p, x.block < W.heap.size := fun x hx => by simpa using hW'.lt x (List.mem_append_left _ hx)
  refine (law6 hT (fun hf => ⟨fun i hi => (colS_RI _).s i hi⟩)).mono fun e W' ⟨he, hb⟩ => ?_
  subst he
  exact ⟨_, rfl, [d0], [], _, [], _, [], hW', trodAll_mk1 (shut_bool Try.underlying4 _), trodAll_mk1 (Below.trod Try.laidOut (by kernel_rfl) (of_decide_eq_true (by kernel_rfl)) h0k hb hlt), rfl, hb.frame _, fun h => by cases h⟩

theorem named6 : Try.prog.funcNamed Rows.fnCollectCommittedExactlyRow.func = some 6 := by kernel_rfl
theorem c6_1 : Rows.fnCollectCommittedExactlyRow.wf (OpenSpec.ofChange Rows.fnCollectCommittedExactlySpec) = true := by kernel_rfl
theorem c6_3 : mapsRowed Try.prog = true := by kernel_rfl
theorem c6_4 : Try.f6.params.all (Try.prog.readableRec ·) = true := by kernel_rfl
theorem c6_5 : namedTie Try.prog Rows.fnCollectCommittedExactlyRow.named Rows.fnCollectCommittedExactlySpec.vars = true := by kernel_rfl
theorem c6_6 : (Rows.fnCollectCommittedExactlyRow.stops == []) = true := by kernel_rfl
theorem c6_7 : (Try.prog.stops == []) = true := by kernel_rfl
theorem c6_8 : (Rows.fnCollectCommittedExactlyRow.knobs == []) = true := by kernel_rfl
theorem c6_9 : (Try.prog.stopKnobs == []) = true := by kernel_rfl
theorem c6_10 : (Rows.fnCollectCommittedExactlyRow.inPlace == Try.prog.inPlace 6) = true := by kernel_rfl
theorem c6_11 : (Rows.fnCollectCommittedExactlyRow.unfollowed == Try.prog.unfollowed 6) = true := by kernel_rfl
theorem c6_12 : (Rows.fnCollectCommittedExactlyRow.recurses == Try.prog.recurses 6) = true := by kernel_rfl
theorem c6_13 : (Rows.fnCollectCommittedExactlyRow.named == Try.prog.varsNamed 6) = true := by kernel_rfl
theorem c6_14 : (Rows.fnCollectCommittedExactlyRow.maps == (Try.f6.params.toList ++ Rows.fnCollectCommittedExactlySpec.plain.varTypes Try.prog).any (Try.prog.mapsRec ·)) = true := by kernel_rfl
theorem c6_15 : (Rows.fnCollectCommittedExactlyRow.ifaces == (Try.f6.params.toList ++ Rows.fnCollectCommittedExactlySpec.plain.varTypes Try.prog).any (Try.prog.ifacesRec ·)) = true := by kernel_rfl
theorem c6_16 : (Rows.fnCollectCommittedExactlyRow.mapsOut == Try.prog.mapsAmong Try.f6.resultTypes.toList) = true := by kernel_rfl
theorem c6_17 : (Rows.fnCollectCommittedExactlyRow.loops == (Try.f6.params.toList ++ Rows.fnCollectCommittedExactlySpec.plain.varTypes Try.prog).any (Try.prog.loopsFrom ·)) = true := by kernel_rfl
theorem c6_18 : (Rows.fnCollectCommittedExactlyRow.wideKeys == (Try.f6.params.toList ++ Rows.fnCollectCommittedExactlySpec.plain.varTypes Try.prog ++ Try.f6.resultTypes.toList).any (Try.prog.wideKeysFrom ·)) = true := by kernel_rfl
theorem c6_19 : Rows.fnCollectCommittedExactlySpec.vars.all (Try.prog.varReadable ·) = true := by kernel_rfl
theorem c6_20 : Try.f6.resultTypes.all (fun t => Try.prog.readableRec t && decide (t < Try.prog.types.size)) = true := by kernel_rfl
theorem c6_21 : (Rows.fnCollectCommittedExactlyRow.ifacesOut == Try.f6.resultTypes.toList.any (Try.prog.ifacesRec ·)) = true := by kernel_rfl
theorem c6_22 : (Rows.fnCollectCommittedExactlyRow.loopsOut == Try.f6.resultTypes.toList.any (Try.prog.loopsFrom ·)) = true := by kernel_rfl
theorem c6_23 : (Rows.fnCollectCommittedExactlyRow.plainKeys == Try.prog.plainKeys) = true := by kernel_rfl
theorem c6_24 : Rows.fnCollectCommittedExactlyRow.shortTexts.isNone = true := by kernel_rfl
theorem c6_25 : Try.prog.stopsHeard = true := by kernel_rfl
theorem c6_27 : (Rows.fnCollectCommittedExactlyRow.lifted == Try.prog.liftsFinal) = true := by rw [liftsFinal]; rfl
theorem c6_28 : (Try.prog.make == some Rows.fnCollectCommittedExactlyRow.make) = true := by rw [make]; rfl
theorem c6_29 : (Rows.fnCollectCommittedExactlyRow.kinds == (if Rows.fnCollectCommittedExactlyRow.domain.isEmpty then [] else Try.f6.params.toList.map fun t => match Try.prog.underlying t with | some (.int k) => some k | _ => none)) = true := by kernel_rfl
theorem c6_30 : (Rows.fnCollectCommittedExactlyRow.pinned == Rows.fnCollectCommittedExactlyRow.pinnedBy) = true := by kernel_rfl
theorem c6_31 : (Rows.fnCollectCommittedExactlyRow.veiled == (Try.f6.params.toList ++ Rows.fnCollectCommittedExactlySpec.plain.varTypes Try.prog ++ Try.f6.resultTypes.toList).any (Try.prog.veiledRec ·)) = true := by kernel_rfl
theorem c6_32 : Rows.fnCollectCommittedExactlyRow.veiledFits Try.prog Try.f6.params.toList (Try.f6.params.toList ++ Rows.fnCollectCommittedExactlySpec.plain.varTypes Try.prog ++ Try.f6.resultTypes.toList) = true := by kernel_rfl
theorem closed6 : joinedFacts Try.prog 6 Try.f6 Rows.fnCollectCommittedExactlySpec Rows.fnCollectCommittedExactlyRow = true := (aT (aT (aT (aT (aT (aT (aT (aT (aT (aT (aT (aT (aT (aT (aT (aT (aT (aT (aT (aT (aT (aT (aT (aT (aT (aT (aT (aT (aT (aT (aT c6_1 Try.laidOut) c6_3) c6_4) c6_5) c6_6) c6_7) c6_8) c6_9) c6_10) c6_11) c6_12) c6_13) c6_14) c6_15) c6_16) c6_17) c6_18) c6_19) c6_20) c6_21) c6_22) c6_23) c6_24) c6_25) mayEnter) c6_27) c6_28) c6_29) c6_30) c6_31) c6_32)
theorem inst6 : Try.f6.isInstance Try.prog Rows.fnCollectCommittedExactlyRow.origin Rows.fnCollectCommittedExactlyRow.targs := of_decide_eq_true (by kernel_rfl)
theorem over6 : Rows.fnCollectCommittedExactlyRow.holds Try.pinned (OpenSpec.ofChange Rows.fnCollectCommittedExactlySpec) :=
  OpenClaim.holds_of_wide 6 Try.f6 rfl rfl rfl rfl rfl rfl rfl ⟨rfl, rfl, rfl, rfl, rfl⟩ rfl rfl rfl rfl rfl named6 Try.func6 closed6
    inst6 (by unfold Func.isWrapper; first | (rw [if_pos (by decide +kernel)]; kernel_rfl) | (rw [if_neg (by decide +kernel)]; exact ⟨rfl, rfl⟩))
    (fun os started H enc _ => lifted6 os started H enc)

theorem fnCollectCommittedExactlyProved : Rows.FnCollectCommittedExactlySaid := over6
end Go.Proofs.Qxb6001346a
