/-
  The row: FnMatchJudgesEachSuffixSlotExactly.
-/
import Derived.Test.Qxb6001426aIo
import Derived.Test.Qxb6001426aL4
namespace Go.Proofs.Qxb6001426a
open Go.ChangeShapes Go.WideShapes Go.ChangeAt Go.RowKit Fw
set_option linter.unusedSimpArgs false
set_option linter.unusedVariables false

set_option maxRecDepth 100000 in
theorem lifted4 (os : Os) (started : os.Started) (H : Type) (enc : TypeId × Value → H) :
    ReturnsInHanded {} Try.checked os 4 .any (Rows.fnMatchJudgesEachSuffixSlotExactlySpec.pre6 enc Try.prog Try.f4 Rows.fnMatchJudgesEachSuffixSlotExactlyRow.domain false) (Rows.fnMatchJudgesEachSuffixSlotExactlySpec.post enc Try.prog Try.f4 false true false false) := by
  refine returnsInHanded_of_change (C := Try.checked) Try.own started (by kernel_rfl) Try.func4
    (ChangeSpec.witness6 (enc := enc) (C := Try.checked) false ⟨#[], #[.slice none 0 0, .slice none 0 0, .int .i64 0, .string ByteArray.empty], []⟩ 8 (by kernel_rfl) (by kernel_rfl) (by kernel_rfl) (by kernel_rfl)) ?_
  intro W base args ds gs before hval0 hW hcnd _
  have hval : ∀ (j : Nat) t v, Try.f4.params[j]? = some t → args[j]? = some v → Value.okWide Try.prog W .any base t v := hval0
  have hW' := hW
  obtain ⟨p, q, hA0, hV, rfl, hfz, hnd⟩ := hW
  have hA : DataW.TrodAll enc Try.prog W 0 (fun _ => true) true Try.f4.params.toList args.toList ds p := hA0
  rw [Try.params4] at hA hval
  obtain ⟨v0, v1, v2, v3, d0, d1, d2, d3, p0, p1, p2, p3, rfl, rfl, rfl, h0, h1, h2, h3⟩ := trodAll_four hA
  obtain ⟨rfl, rfl⟩ := trodVars_none hV
  obtain ⟨a0, n0, c0, rfl⟩ := okWide_slice Try.underlying22 (hval 0 22 v0 rfl rfl)
  obtain ⟨a1, n1, c1, rfl⟩ := okWide_slice Try.underlying22 (hval 1 22 v1 rfl rfl)
  have h0k := h0
  have h1k := h1
  have h2k := h2
  have h3k := h3
  obtain ⟨fu0, hf0⟩ := h0
  obtain ⟨l0, hT0⟩ := open_strs hf0
  obtain ⟨fu1, hf1⟩ := h1
  obtain ⟨l1, hT1⟩ := open_strs hf1
  obtain ⟨k, hk2, _⟩ := open_int Try.underlying3 (hval 2 3 v2 rfl rfl) h2
  obtain ⟨bad, hk3⟩ := okWide_string Try.underlying9 (hval 3 9 v3 rfl rfl)
  subst hk2
  subst hk3
  clear hA0 hval0
  have hlt : ∀ x ∈ p0 ++ p1 ++ p2 ++ p3, x.block < W.heap.size := fun x hx => by simpa using hW'.lt x (List.mem_append_left _ hx)
  refine (law4 (k := k) (bad := bad) hT0 hT1).mono fun e W' ⟨he, hb⟩ => ?_
  subst he
  exact ⟨_, rfl, [d0, d1, d2, d3], [], _, [], _, [], hW', trodAll_mk1 (shut_bool Try.underlying4 _),
    trodAll_mk4 (Below.trod Try.laidOut (by kernel_rfl) (of_decide_eq_true (by kernel_rfl)) h0k hb (fun x hx => hlt x (by simp [hx]))) (Below.trod Try.laidOut (by kernel_rfl) (of_decide_eq_true (by kernel_rfl)) h1k hb (fun x hx => hlt x (by simp [hx]))) (Below.trod Try.laidOut (by kernel_rfl) (of_decide_eq_true (by kernel_rfl)) h2k hb (fun x hx => hlt x (by simp [hx]))) (Below.trod Try.laidOut (by kernel_rfl) (of_decide_eq_true (by kernel_rfl)) h3k hb (fun x hx => hlt x (by simp [hx]))), rfl, hb.frame _, fun h => by cases h⟩

theorem named4 : Try.prog.funcNamed Rows.fnMatchJudgesEachSuffixSlotExactlyRow.func = some 4 := by kernel_rfl
theorem c4_1 : Rows.fnMatchJudgesEachSuffixSlotExactlyRow.wf (OpenSpec.ofChange Rows.fnMatchJudgesEachSuffixSlotExactlySpec) = true := by kernel_rfl
theorem c4_3 : mapsRowed Try.prog = true := by kernel_rfl
theorem c4_4 : Try.f4.params.all (Try.prog.readableRec ·) = true := by kernel_rfl
theorem c4_5 : namedTie Try.prog Rows.fnMatchJudgesEachSuffixSlotExactlyRow.named Rows.fnMatchJudgesEachSuffixSlotExactlySpec.vars = true := by kernel_rfl
theorem c4_6 : (Rows.fnMatchJudgesEachSuffixSlotExactlyRow.stops == []) = true := by kernel_rfl
theorem c4_7 : (Try.prog.stops == []) = true := by kernel_rfl
theorem c4_8 : (Rows.fnMatchJudgesEachSuffixSlotExactlyRow.knobs == []) = true := by kernel_rfl
theorem c4_9 : (Try.prog.stopKnobs == []) = true := by kernel_rfl
theorem c4_10 : (Rows.fnMatchJudgesEachSuffixSlotExactlyRow.inPlace == Try.prog.inPlace 4) = true := by kernel_rfl
theorem c4_11 : (Rows.fnMatchJudgesEachSuffixSlotExactlyRow.unfollowed == Try.prog.unfollowed 4) = true := by kernel_rfl
theorem c4_12 : (Rows.fnMatchJudgesEachSuffixSlotExactlyRow.recurses == Try.prog.recurses 4) = true := by kernel_rfl
theorem c4_13 : (Rows.fnMatchJudgesEachSuffixSlotExactlyRow.named == Try.prog.varsNamed 4) = true := by kernel_rfl
theorem c4_14 : (Rows.fnMatchJudgesEachSuffixSlotExactlyRow.maps == (Try.f4.params.toList ++ Rows.fnMatchJudgesEachSuffixSlotExactlySpec.plain.varTypes Try.prog).any (Try.prog.mapsRec ·)) = true := by kernel_rfl
theorem c4_15 : (Rows.fnMatchJudgesEachSuffixSlotExactlyRow.ifaces == (Try.f4.params.toList ++ Rows.fnMatchJudgesEachSuffixSlotExactlySpec.plain.varTypes Try.prog).any (Try.prog.ifacesRec ·)) = true := by kernel_rfl
theorem c4_16 : (Rows.fnMatchJudgesEachSuffixSlotExactlyRow.mapsOut == Try.prog.mapsAmong Try.f4.resultTypes.toList) = true := by kernel_rfl
theorem c4_17 : (Rows.fnMatchJudgesEachSuffixSlotExactlyRow.loops == (Try.f4.params.toList ++ Rows.fnMatchJudgesEachSuffixSlotExactlySpec.plain.varTypes Try.prog).any (Try.prog.loopsFrom ·)) = true := by kernel_rfl
theorem c4_18 : (Rows.fnMatchJudgesEachSuffixSlotExactlyRow.wideKeys == (Try.f4.params.toList ++ Rows.fnMatchJudgesEachSuffixSlotExactlySpec.plain.varTypes Try.prog ++ Try.f4.resultTypes.toList).any (Try.prog.wideKeysFrom ·)) = true := by kernel_rfl
theorem c4_19 : Rows.fnMatchJudgesEachSuffixSlotExactlySpec.vars.all (Try.prog.varReadable ·) = true := by kernel_rfl
theorem c4_20 : Try.f4.resultTypes.all (fun t => Try.prog.readableRec t && decide (t < Try.prog.types.size)) = true := by kernel_rfl
theorem c4_21 : (Rows.fnMatchJudgesEachSuffixSlotExactlyRow.ifacesOut == Try.f4.resultTypes.toList.any (Try.prog.ifacesRec ·)) = true := by kernel_rfl
theorem c4_22 : (Rows.fnMatchJudgesEachSuffixSlotExactlyRow.loopsOut == Try.f4.resultTypes.toList.any (Try.prog.loopsFrom ·)) = true := by kernel_rfl
theorem c4_23 : (Rows.fnMatchJudgesEachSuffixSlotExactlyRow.plainKeys == Try.prog.plainKeys) = true := by kernel_rfl
theorem c4_24 : Rows.fnMatchJudgesEachSuffixSlotExactlyRow.shortTexts.isNone = true := by kernel_rfl
theorem c4_25 : Try.prog.stopsHeard = true := by kernel_rfl
theorem c4_27 : (Rows.fnMatchJudgesEachSuffixSlotExactlyRow.lifted == Try.prog.liftsFinal) = true := by rw [liftsFinal]; rfl
theorem c4_28 : (Try.prog.make == some Rows.fnMatchJudgesEachSuffixSlotExactlyRow.make) = true := by rw [make]; rfl
theorem c4_29 : (Rows.fnMatchJudgesEachSuffixSlotExactlyRow.kinds == (if Rows.fnMatchJudgesEachSuffixSlotExactlyRow.domain.isEmpty then [] else Try.f4.params.toList.map fun t => match Try.prog.underlying t with | some (.int k) => some k | _ => none)) = true := by kernel_rfl
theorem c4_30 : (Rows.fnMatchJudgesEachSuffixSlotExactlyRow.pinned == Rows.fnMatchJudgesEachSuffixSlotExactlyRow.pinnedBy) = true := by kernel_rfl
theorem c4_31 : (Rows.fnMatchJudgesEachSuffixSlotExactlyRow.veiled == (Try.f4.params.toList ++ Rows.fnMatchJudgesEachSuffixSlotExactlySpec.plain.varTypes Try.prog ++ Try.f4.resultTypes.toList).any (Try.prog.veiledRec ·)) = true := by kernel_rfl
theorem c4_32 : Rows.fnMatchJudgesEachSuffixSlotExactlyRow.veiledFits Try.prog Try.f4.params.toList (Try.f4.params.toList ++ Rows.fnMatchJudgesEachSuffixSlotExactlySpec.plain.varTypes Try.prog ++ Try.f4.resultTypes.toList) = true := by kernel_rfl
theorem closed4 : joinedFacts Try.prog 4 Try.f4 Rows.fnMatchJudgesEachSuffixSlotExactlySpec Rows.fnMatchJudgesEachSuffixSlotExactlyRow = true := (aT (aT (aT (aT (aT (aT (aT (aT (aT (aT (aT (aT (aT (aT (aT (aT (aT (aT (aT (aT (aT (aT (aT (aT (aT (aT (aT (aT (aT (aT (aT c4_1 Try.laidOut) c4_3) c4_4) c4_5) c4_6) c4_7) c4_8) c4_9) c4_10) c4_11) c4_12) c4_13) c4_14) c4_15) c4_16) c4_17) c4_18) c4_19) c4_20) c4_21) c4_22) c4_23) c4_24) c4_25) mayEnter) c4_27) c4_28) c4_29) c4_30) c4_31) c4_32)
theorem inst4 : Try.f4.isInstance Try.prog Rows.fnMatchJudgesEachSuffixSlotExactlyRow.origin Rows.fnMatchJudgesEachSuffixSlotExactlyRow.targs := of_decide_eq_true (by kernel_rfl)
theorem over4 : Rows.fnMatchJudgesEachSuffixSlotExactlyRow.holds Try.pinned (OpenSpec.ofChange Rows.fnMatchJudgesEachSuffixSlotExactlySpec) :=
  OpenClaim.holds_of_wide 4 Try.f4 rfl rfl rfl rfl rfl rfl rfl ⟨rfl, rfl, rfl, rfl, rfl⟩ rfl rfl rfl rfl rfl named4 Try.func4 closed4
    inst4 (by unfold Func.isWrapper; first | (rw [if_pos (by decide +kernel)]; kernel_rfl) | (rw [if_neg (by decide +kernel)]; exact ⟨rfl, rfl⟩))
    (fun os started H enc _ => lifted4 os started H enc)

theorem fnMatchJudgesEachSuffixSlotExactlyProved : Rows.FnMatchJudgesEachSuffixSlotExactlySaid := over4
end Go.Proofs.Qxb6001426a
