/-
  The row: FnCollectNumbersReadValuesConsistently.
-/
import Derived.Test.Qxb6001346aIo
import Derived.Test.Qxb6001346aL7
namespace Go.Proofs.Qxb6001346a
open Go.ChangeShapes Go.WideShapes Go.ChangeAt Go.RowKit Fw
set_option linter.unusedSimpArgs false
set_option linter.unusedVariables false

set_option maxRecDepth 100000 in
theorem lifted7 (os : Os) (started : os.Started) (H : Type) (enc : TypeId × Value → H) :
    ReturnsInHanded {} Try.checked os 7 .any (Rows.fnCollectNumbersReadValuesConsistentlySpec.pre6 enc Try.prog Try.f7 Rows.fnCollectNumbersReadValuesConsistentlyRow.domain false) (Rows.fnCollectNumbersReadValuesConsistentlySpec.post enc Try.prog Try.f7 false true false false) := by
  refine returnsInHanded_of_change (C := Try.checked) Try.own started (by kernel_rfl) Try.func7
    (ChangeSpec.witness6 (enc := enc) (C := Try.checked) false ⟨#[], #[.slice none 0 0], []⟩ 8 (by kernel_rfl) (by kernel_rfl) (by kernel_rfl) (by kernel_rfl)) ?_
  intro W base args ds gs before hval0 hW hcnd _
  have hval : ∀ (j : Nat) t v, Try.f7.params[j]? = some t → args[j]? = some v → Value.okWide Try.prog W .any base t v := hval0
  have hW' := hW
  obtain ⟨p, q, hA0, hV, rfl, hfz, hnd⟩ := hW
  have hA : DataW.TrodAll enc Try.prog W 0 (fun _ => true) true Try.f7.params.toList args.toList ds p := hA0
  rw [Try.params7] at hA hval
  obtain ⟨v0, d0, rfl, rfl, h0⟩ := trodAll_one hA
  obtain ⟨rfl, rfl⟩ := trodVars_none hV
  have h0k := h0
  obtain ⟨a, len, cap, rfl⟩ := okWide_slice Try.underlying32 (hval 0 32 v0 rfl rfl)
  obtain ⟨fuel, hf⟩ := h0
  obtain ⟨T, hT⟩ := open_txs hf
  clear hA0 hval0
  have hlt : ∀ x ∈ p, x.block < W.heap.size := fun x hx => by simpa using hW'.lt x (List.mem_append_left _ hx)
  refine (law7 hT (fun hf => plain7 _)).mono fun e W' ⟨he, hb⟩ => ?_
  subst he
  exact ⟨_, rfl, [d0], [], _, [], _, [], hW', trodAll_mk1 (shut_bool Try.underlying4 _), trodAll_mk1 (Below.trod Try.laidOut (by kernel_rfl) (of_decide_eq_true (by kernel_rfl)) h0k hb hlt), rfl, hb.frame _, fun h => by cases h⟩

theorem named7 : Try.prog.funcNamed Rows.fnCollectNumbersReadValuesConsistentlyRow.func = some 7 := by kernel_rfl
theorem c7_1 : Rows.fnCollectNumbersReadValuesConsistentlyRow.wf (OpenSpec.ofChange Rows.fnCollectNumbersReadValuesConsistentlySpec) = true := by kernel_rfl
theorem c7_3 : mapsRowed Try.prog = true := by kernel_rfl
theorem c7_4 : Try.f7.params.all (Try.prog.readableRec ·) = true := by kernel_rfl
theorem c7_5 : namedTie Try.prog Rows.fnCollectNumbersReadValuesConsistentlyRow.named Rows.fnCollectNumbersReadValuesConsistentlySpec.vars = true := by kernel_rfl
theorem c7_6 : (Rows.fnCollectNumbersReadValuesConsistentlyRow.stops == []) = true := by kernel_rfl
theorem c7_7 : (Try.prog.stops == []) = true := by kernel_rfl
theorem c7_8 : (Rows.fnCollectNumbersReadValuesConsistentlyRow.knobs == []) = true := by kernel_rfl
theorem c7_9 : (Try.prog.stopKnobs == []) = true := by kernel_rfl
theorem c7_10 : (Rows.fnCollectNumbersReadValuesConsistentlyRow.inPlace == Try.prog.inPlace 7) = true := by kernel_rfl
theorem c7_11 : (Rows.fnCollectNumbersReadValuesConsistentlyRow.unfollowed == Try.prog.unfollowed 7) = true := by kernel_rfl
theorem c7_12 : (Rows.fnCollectNumbersReadValuesConsistentlyRow.recurses == Try.prog.recurses 7) = true := by kernel_rfl
theorem c7_13 : (Rows.fnCollectNumbersReadValuesConsistentlyRow.named == Try.prog.varsNamed 7) = true := by kernel_rfl
theorem c7_14 : (Rows.fnCollectNumbersReadValuesConsistentlyRow.maps == (Try.f7.params.toList ++ Rows.fnCollectNumbersReadValuesConsistentlySpec.plain.varTypes Try.prog).any (Try.prog.mapsRec ·)) = true := by kernel_rfl
theorem c7_15 : (Rows.fnCollectNumbersReadValuesConsistentlyRow.ifaces == (Try.f7.params.toList ++ Rows.fnCollectNumbersReadValuesConsistentlySpec.plain.varTypes Try.prog).any (Try.prog.ifacesRec ·)) = true := by kernel_rfl
theorem c7_16 : (Rows.fnCollectNumbersReadValuesConsistentlyRow.mapsOut == Try.prog.mapsAmong Try.f7.resultTypes.toList) = true := by kernel_rfl
theorem c7_17 : (Rows.fnCollectNumbersReadValuesConsistentlyRow.loops == (Try.f7.params.toList ++ Rows.fnCollectNumbersReadValuesConsistentlySpec.plain.varTypes Try.prog).any (Try.prog.loopsFrom ·)) = true := by kernel_rfl
theorem c7_18 : (Rows.fnCollectNumbersReadValuesConsistentlyRow.wideKeys == (Try.f7.params.toList ++ Rows.fnCollectNumbersReadValuesConsistentlySpec.plain.varTypes Try.prog ++ Try.f7.resultTypes.toList).any (Try.prog.wideKeysFrom ·)) = true := by kernel_rfl
theorem c7_19 : Rows.fnCollectNumbersReadValuesConsistentlySpec.vars.all (Try.prog.varReadable ·) = true := by kernel_rfl
theorem c7_20 : Try.f7.resultTypes.all (fun t => Try.prog.readableRec t && decide (t < Try.prog.types.size)) = true := by kernel_rfl
theorem c7_21 : (Rows.fnCollectNumbersReadValuesConsistentlyRow.ifacesOut == Try.f7.resultTypes.toList.any (Try.prog.ifacesRec ·)) = true := by kernel_rfl
theorem c7_22 : (Rows.fnCollectNumbersReadValuesConsistentlyRow.loopsOut == Try.f7.resultTypes.toList.any (Try.prog.loopsFrom ·)) = true := by kernel_rfl
theorem c7_23 : (Rows.fnCollectNumbersReadValuesConsistentlyRow.plainKeys == Try.prog.plainKeys) = true := by kernel_rfl
theorem c7_24 : Rows.fnCollectNumbersReadValuesConsistentlyRow.shortTexts.isNone = true := by kernel_rfl
theorem c7_25 : Try.prog.stopsHeard = true := by kernel_rfl
theorem c7_27 : (Rows.fnCollectNumbersReadValuesConsistentlyRow.lifted == Try.prog.liftsFinal) = true := by rw [liftsFinal]; rfl
theorem c7_28 : (Try.prog.make == some Rows.fnCollectNumbersReadValuesConsistentlyRow.make) = true := by rw [make]; rfl
theorem c7_29 : (Rows.fnCollectNumbersReadValuesConsistentlyRow.kinds == (if Rows.fnCollectNumbersReadValuesConsistentlyRow.domain.isEmpty then [] else Try.f7.params.toList.map fun t => match Try.prog.underlying t with | some (.int k) => some k | _ => none)) = true := by kernel_rfl
theorem c7_30 : (Rows.fnCollectNumbersReadValuesConsistentlyRow.pinned == Rows.fnCollectNumbersReadValuesConsistentlyRow.pinnedBy) = true := by kernel_rfl
theorem c7_31 : (Rows.fnCollectNumbersReadValuesConsistentlyRow.veiled == (Try.f7.params.toList ++ Rows.fnCollectNumbersReadValuesConsistentlySpec.plain.varTypes Try.prog ++ Try.f7.resultTypes.toList).any (Try.prog.veiledRec ·)) = true := by kernel_rfl
theorem c7_32 : Rows.fnCollectNumbersReadValuesConsistentlyRow.veiledFits Try.prog Try.f7.params.toList (Try.f7.params.toList ++ Rows.fnCollectNumbersReadValuesConsistentlySpec.plain.varTypes Try.prog ++ Try.f7.resultTypes.toList) = true := by kernel_rfl
theorem closed7 : joinedFacts Try.prog 7 Try.f7 Rows.fnCollectNumbersReadValuesConsistentlySpec Rows.fnCollectNumbersReadValuesConsistentlyRow = true := (aT (aT (aT (aT (aT (aT (aT (aT (aT (aT (aT (aT (aT (aT (aT (aT (aT (aT (aT (aT (aT (aT (aT (aT (aT (aT (aT (aT (aT (aT (aT c7_1 Try.laidOut) c7_3) c7_4) c7_5) c7_6) c7_7) c7_8) c7_9) c7_10) c7_11) c7_12) c7_13) c7_14) c7_15) c7_16) c7_17) c7_18) c7_19) c7_20) c7_21) c7_22) c7_23) c7_24) c7_25) mayEnter) c7_27) c7_28) c7_29) c7_30) c7_31) c7_32)
theorem inst7 : Try.f7.isInstance Try.prog Rows.fnCollectNumbersReadValuesConsistentlyRow.origin Rows.fnCollectNumbersReadValuesConsistentlyRow.targs := of_decide_eq_true (by kernel_rfl)
theorem over7 : Rows.fnCollectNumbersReadValuesConsistentlyRow.holds Try.pinned (OpenSpec.ofChange Rows.fnCollectNumbersReadValuesConsistentlySpec) :=
  OpenClaim.holds_of_wide 7 Try.f7 rfl rfl rfl rfl rfl rfl rfl ⟨rfl, rfl, rfl, rfl, rfl⟩ rfl rfl rfl rfl rfl named7 Try.func7 closed7
    inst7 (by unfold Func.isWrapper; first | (rw [if_pos (by decide +kernel)]; kernel_rfl) | (rw [if_neg (by decide +kernel)]; exact ⟨rfl, rfl⟩))
    (fun os started H enc _ => lifted7 os started H enc)

theorem fnCollectNumbersReadValuesConsistentlyProved : Rows.FnCollectNumbersReadValuesConsistentlySaid := over7
end Go.Proofs.Qxb6001346a
