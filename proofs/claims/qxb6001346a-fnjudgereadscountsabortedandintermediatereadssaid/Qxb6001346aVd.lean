/-
  flatten.
-/
import Derived.Test.Qxb6001346aVe
namespace Go.Proofs.Qxb6001346a
open Fw Go.RowKit
set_option linter.unusedSimpArgs false
set_option linter.unusedVariables false

/-- Every read value: reader, key, text. -/
def ents (O : List (Nat × LOp)) : List (Nat × ByteArray × ByteArray) := (rds O).flatMap fun x => x.2.list.map fun v => (x.1, x.2.key, v)
theorem ents_append (a b : List (Nat × LOp)) : ents (a ++ b) = ents a ++ ents b := by simp [ents, rds_append]
theorem ents_app {i : Nat} {p : LOp} (h : p.app = true) : ents [(i, p)] = [] := by simp [ents, rds_app h]
theorem ents_read {i : Nat} {p : LOp} (h : p.app = false) : ents [(i, p)] = p.list.map fun v => (i, p.key, v) := by simp [ents, rds_read h]
theorem ents_le (O : List (Nat × LOp)) : (ents O).length ≤ sumL O := by
  induction O with
  | nil => simp [ents, rds]
  | cons x O ih =>
    rw [show x :: O = [x] ++ O from rfl, ents_append, List.length_append, sumL_append]
    obtain ⟨i, p⟩ := x
    cases h : p.app with
    | true => rw [ents_app h]; simp; omega
    | false => rw [ents_read h, sumL_one, List.length_map]; simp only; omega
def vS (l : List ByteArray) : List Value := l.map .string
/-- flatten's five rows. -/
structure FS (lay : Nat → Nat) (c : Nat → Option AO) (a b d e f : Value) (E : List (Nat × ByteArray × ByteArray)) (R : List (Nat × LOp)) : Prop where
  r2 : RowV lay c 2 9 1 a E.length (vS (E.map (·.2.1)))
  r3 : RowV lay c 3 9 1 b E.length (vS (E.map (·.2.2)))
  r4 : RowV lay c 4 3 1 d E.length (vN (E.map (·.1)))
  r5 : RowV lay c 5 3 1 e R.length (vN (R.map (·.1)))
  r6 : RowV lay c 6 3 1 f R.length (vN (R.map fun x => x.2.list.length))
theorem FS.congr {lay lay' : Nat → Nat} {c c' : Nat → Option AO} {a b d e f : Value} {E : List (Nat × ByteArray × ByteArray)} {R : List (Nat × LOp)} (h : FS lay c a b d e f E R) (ho : ∀ s, s < 7 → lay' s = lay s ∧ c' s = c s) : FS lay' c' a b d e f E R :=
  ⟨h.r2.congr (ho 2 (by omega)).1 (ho 2 (by omega)).2, h.r3.congr (ho 3 (by omega)).1 (ho 3 (by omega)).2, h.r4.congr (ho 4 (by omega)).1 (ho 4 (by omega)).2, h.r5.congr (ho 5 (by omega)).1 (ho 5 (by omega)).2, h.r6.congr (ho 6 (by omega)).1 (ho 6 (by omega)).2⟩

set_option maxHeartbeats 8000000 in
theorem flatten_calls {N : Nat} {w : World} {v : Value} {T : List LTx} (h : TxnsAt N w v T) (hf : fits T) :
    Calls Try.prog 25 #[v] w (fun e w' => ∃ va vb vd ve vf, e = .returned (.tuple #[va, vb, vd, ve, vf]) ∧ Below w.heap.size w w' ∧ ValsAt w.heap.size w' va (vS ((ents (fl T)).map (·.2.1))) ∧ ValsAt w.heap.size w' vb (vS ((ents (fl T)).map (·.2.2))) ∧ ValsAt w.heap.size w' vd (vN ((ents (fl T)).map (·.1))) ∧
      ValsAt w.heap.size w' ve (vN ((rds (fl T)).map (·.1))) ∧ ValsAt w.heap.size w' vf (vN ((rds (fl T)).map fun x => x.2.list.length))) := by
  obtain ⟨ta, tcap, rfl, hform⟩ := h.form
  obtain ⟨f1, f2, f3⟩ := hf
  refine calls_of_cwp Try.func25 rfl Try.ntmps25 (by simp) ?_
  have h0 : argE #[.slice ta T.length tcap] 0 = .slice ta T.length tcap := rfl
  generalize argE #[.slice ta T.length tcap] = ρ at h0 ⊢
  refine cwp_sr rfl fun K hK => ?_
  simp only [exL_plain, exL_guard, exL_nil, fx_move, fx_assign, fx_pick, fx_nilCheck, fx_load, fx_fieldAddr, fx_indexAddr, fx_binOp, fx_not, fx_convert, fx_slice, fx_extract, fx_lookup, fx_build, fx_len, fx_store, fx_alloc, fx_box, fx_makeMap, fx_makeSlice, fx_buildSlice, fx_mapUpdate, fx_append, fx_call, ev_tmp, ev_const, updo_some, updo_none, upd_apply, thenQ_normal, optK_some, optE_some, optE_none, ptrK_mk, intK_mk, boolK_mk, strK_mk, sliceK_mk, addrK_mk, tupK_mk, mapK_mk, sndK_mk, mkK_mk, cvK_int, ldN_zero, ldN_two, ldN_four, ldN_five, binK_add, binK_sub, binK_mul, binK_eql, binK_neq, binK_lss, binK_leq, binK_gtr, binK_geq, binK_seql, binK_sneq, binK_sadd, binK_beql, binK_bneq, binK_peql, binK_pneq, binK_leql, binK_lneq, lenK_slice, lenK_string, ex_slice, ex_pointer, inR_i64, inR_i32, gdK_bool, gdK_undef, Ty.all, Nat.reduceEqDiff, Nat.reduceAdd, Nat.reduceMul, if_false, if_true, ↓reduceIte, true_and, and_true, Int.toNat_natCast, Nat.add_zero, Nat.mul_one, Bool.false_eq_true, decide_eq_true_eq, decide_eq_false_iff_not, Option.isNone_some, Option.isNone_none, Option.isSome_some, Option.isSome_none, List.map_toArray, List.map_cons, List.map_nil, stK_eq, stR_int, stR_bool, stR_string, stR_pointer, stR_slice, exD_plain, exD_guard, exD_nil, stepD_true, stepD_false, needOp, pureOp, Bool.false_or, Bool.true_or, Bool.or_false, Bool.or_true, gval_succ, gval_zero, Bd.s22, Bd.s22b, Bd.s31, Bd.s30, Bd.s30b, Bd.s30e, Bd.s42, Bd.s66, Bd.s67, Bd.b49, Bd.b54, Bd.b79, Bd.b82, Bd.b77, Bd.b86, Bd.b74, decide_true, decide_false, reduceCtorEq, ne_eq, not_true_eq_false, not_false_eq_true, true_implies, false_implies, implies_true, cond_true, cond_false, Bool.not_true, Bool.not_false, stR_agg2, stR_agg4, stR_agg5, one_int, one_bool, one_string, one_pointer, one_slice, one_map, retK_mk, cells_agg, rowAt_alloc, setRow_alloc, ow_four, ow_five, List.getElem_toArray, List.getElem_cons_zero, List.getElem_cons_succ, List.size_toArray, List.length_cons, List.length_nil, Nat.reduceLeDiff]
  repeat (refine ⟨by omega, ?_⟩)
  refine hK _ _ ?_
  clear hK K
  refine cwp_forget [0, 2, 3, 4, 5, 6] fun ρ hL => ?_
  have h0X := hL 0 (by simp)
  have h2X := hL 2 (by simp)
  have h3X := hL 3 (by simp)
  have h4X := hL 4 (by simp)
  have h5X := hL 5 (by simp)
  have h6X := hL 6 (by simp)
  clear hL
  simp only [upd_apply, Nat.reduceEqDiff, if_false, if_true, ↓reduceIte, h0] at h0X h2X h3X h4X h5X h6X
  have h0 := h0X
  clear h0X
  have h2 := h2X
  clear h2X
  have h3 := h3X
  clear h3X
  have h4 := h4X
  clear h4X
  have h5 := h5X
  clear h5X
  have h6 := h6X
  clear h6X
  refine cwp_seq fun K hK => ?_
  refine cwp_sr rfl fun K hK => ?_
  simp only [exL_plain, exL_guard, exL_nil, fx_move, fx_assign, fx_pick, fx_nilCheck, fx_load, fx_fieldAddr, fx_indexAddr, fx_binOp, fx_not, fx_convert, fx_slice, fx_extract, fx_lookup, fx_build, fx_len, fx_store, fx_alloc, fx_box, fx_makeMap, fx_makeSlice, fx_buildSlice, fx_mapUpdate, fx_append, fx_call, ev_tmp, ev_const, updo_some, updo_none, upd_apply, thenQ_normal, optK_some, optE_some, optE_none, ptrK_mk, intK_mk, boolK_mk, strK_mk, sliceK_mk, addrK_mk, tupK_mk, mapK_mk, sndK_mk, mkK_mk, cvK_int, ldN_zero, ldN_two, ldN_four, ldN_five, binK_add, binK_sub, binK_mul, binK_eql, binK_neq, binK_lss, binK_leq, binK_gtr, binK_geq, binK_seql, binK_sneq, binK_sadd, binK_beql, binK_bneq, binK_peql, binK_pneq, binK_leql, binK_lneq, lenK_slice, lenK_string, ex_slice, ex_pointer, inR_i64, inR_i32, gdK_bool, gdK_undef, Ty.all, Nat.reduceEqDiff, Nat.reduceAdd, Nat.reduceMul, if_false, if_true, ↓reduceIte, true_and, and_true, Int.toNat_natCast, Nat.add_zero, Nat.mul_one, Bool.false_eq_true, decide_eq_true_eq, decide_eq_false_iff_not, Option.isNone_some, Option.isNone_none, Option.isSome_some, Option.isSome_none, List.map_toArray, List.map_cons, List.map_nil, stK_eq, stR_int, stR_bool, stR_string, stR_pointer, stR_slice, exD_plain, exD_guard, exD_nil, stepD_true, stepD_false, needOp, pureOp, Bool.false_or, Bool.true_or, Bool.or_false, Bool.or_true, gval_succ, gval_zero, Bd.s22, Bd.s22b, Bd.s31, Bd.s30, Bd.s30b, Bd.s30e, Bd.s42, Bd.s66, Bd.s67, Bd.b49, Bd.b54, Bd.b79, Bd.b82, Bd.b77, Bd.b86, Bd.b74, decide_true, decide_false, reduceCtorEq, ne_eq, not_true_eq_false, not_false_eq_true, true_implies, false_implies, implies_true, cond_true, cond_false, Bool.not_true, Bool.not_false, stR_agg2, stR_agg4, stR_agg5, one_int, one_bool, one_string, one_pointer, one_slice, one_map, retK_mk, cells_agg, rowAt_alloc, setRow_alloc, ow_four, ow_five, List.getElem_toArray, List.getElem_cons_zero, List.getElem_cons_succ, List.size_toArray, List.length_cons, List.length_nil, Nat.reduceLeDiff]
  repeat (refine ⟨by omega, ?_⟩)
  refine hK _ _ ?_
  clear hK K
  refine cwp_forget [0, 2, 3, 4, 5, 6, 7] fun ρ hL => ?_
  have h0X := hL 0 (by simp)
  have h2X := hL 2 (by simp)
  have h3X := hL 3 (by simp)
  have h4X := hL 4 (by simp)
  have h5X := hL 5 (by simp)
  have h6X := hL 6 (by simp)
  have h7X := hL 7 (by simp)
  clear hL
  simp only [upd_apply, Nat.reduceEqDiff, if_false, if_true, ↓reduceIte, h0, h2, h3, h4, h5, h6] at h0X h2X h3X h4X h5X h6X h7X
  have h0 := h0X
  clear h0X
  have h2 := h2X
  clear h2X
  have h3 := h3X
  clear h3X
  have h4 := h4X
  clear h4X
  have h5 := h5X
  clear h5X
  have h6 := h6X
  clear h6X
  have h7 := h7X
  clear h7X
  refine cwp_for (fun i ρ wr => i ≤ T.length ∧ ρ 0 = .slice ta T.length tcap ∧ ρ 7 = .int .i64 (i : Nat) ∧ Below w.heap.size w wr ∧ ∃ lay c, St w.heap.size wr lay c ∧ FS lay c (ρ 2) (ρ 3) (ρ 4) (ρ 5) (ρ 6) (ents (fpre T i 0)) (rds (fpre T i 0)))
    (fun i => T.length - i) (fun ρ wr => Below w.heap.size w wr ∧ ∃ lay c, St w.heap.size wr lay c ∧ FS lay c (ρ 2) (ρ 3) (ρ 4) (ρ 5) (ρ 6) (ents (fl T)) (rds (fl T))) 0 ?_ ?_ ?_
  · refine ⟨Nat.zero_le _, h0, h7, Below.refl _ _, fun _ => 0, fun _ => none, ⟨fun r o h => (by cases h), fun r r' o o' h => (by cases h)⟩, ?_⟩
    rw [h2, h3, h4, h5, h6, fpre_zero]
    exact ⟨⟨rfl, .inl ⟨rfl, rfl, rfl⟩⟩, ⟨rfl, .inl ⟨rfl, rfl, rfl⟩⟩, ⟨rfl, .inl ⟨rfl, rfl, rfl⟩⟩, ⟨rfl, .inl ⟨rfl, rfl, rfl⟩⟩, ⟨rfl, .inl ⟨rfl, rfl, rfl⟩⟩⟩
  · clear h0 h2 h3 h4 h5 h6 h7
    rintro i ρ wr ⟨hi, g0, g7, hb, hS⟩ K1 hK1
    obtain ⟨va, g2⟩ : ∃ x, ρ 2 = x := ⟨_, rfl⟩
    obtain ⟨vb, g3⟩ : ∃ x, ρ 3 = x := ⟨_, rfl⟩
    obtain ⟨vd, g4⟩ : ∃ x, ρ 4 = x := ⟨_, rfl⟩
    obtain ⟨ve, g5⟩ : ∃ x, ρ 5 = x := ⟨_, rfl⟩
    obtain ⟨vf, g6⟩ : ∃ x, ρ 6 = x := ⟨_, rfl⟩
    rw [g2, g3, g4, g5, g6] at hS
    refine cwp_seq fun K hK => ?_
    refine cwp_sr rfl fun K hK => ?_
    simp only [exL_plain, exL_guard, exL_nil, fx_move, fx_assign, fx_pick, fx_nilCheck, fx_load, fx_fieldAddr, fx_indexAddr, fx_binOp, fx_not, fx_convert, fx_slice, fx_extract, fx_lookup, fx_build, fx_len, fx_store, fx_alloc, fx_box, fx_makeMap, fx_makeSlice, fx_buildSlice, fx_mapUpdate, fx_append, fx_call, ev_tmp, ev_const, updo_some, updo_none, upd_apply, thenQ_normal, optK_some, optE_some, optE_none, ptrK_mk, intK_mk, boolK_mk, strK_mk, sliceK_mk, addrK_mk, tupK_mk, mapK_mk, sndK_mk, mkK_mk, cvK_int, ldN_zero, ldN_two, ldN_four, ldN_five, binK_add, binK_sub, binK_mul, binK_eql, binK_neq, binK_lss, binK_leq, binK_gtr, binK_geq, binK_seql, binK_sneq, binK_sadd, binK_beql, binK_bneq, binK_peql, binK_pneq, binK_leql, binK_lneq, lenK_slice, lenK_string, ex_slice, ex_pointer, inR_i64, inR_i32, gdK_bool, gdK_undef, Ty.all, Nat.reduceEqDiff, Nat.reduceAdd, Nat.reduceMul, if_false, if_true, ↓reduceIte, true_and, and_true, Int.toNat_natCast, Nat.add_zero, Nat.mul_one, Bool.false_eq_true, decide_eq_true_eq, decide_eq_false_iff_not, Option.isNone_some, Option.isNone_none, Option.isSome_some, Option.isSome_none, List.map_toArray, List.map_cons, List.map_nil, stK_eq, stR_int, stR_bool, stR_string, stR_pointer, stR_slice, exD_plain, exD_guard, exD_nil, stepD_true, stepD_false, needOp, pureOp, Bool.false_or, Bool.true_or, Bool.or_false, Bool.or_true, gval_succ, gval_zero, Bd.s22, Bd.s22b, Bd.s31, Bd.s30, Bd.s30b, Bd.s30e, Bd.s42, Bd.s66, Bd.s67, Bd.b49, Bd.b54, Bd.b79, Bd.b82, Bd.b77, Bd.b86, Bd.b74, decide_true, decide_false, reduceCtorEq, ne_eq, not_true_eq_false, not_false_eq_true, true_implies, false_implies, implies_true, cond_true, cond_false, Bool.not_true, Bool.not_false, stR_agg2, stR_agg4, stR_agg5, one_int, one_bool, one_string, one_pointer, one_slice, one_map, retK_mk, cells_agg, rowAt_alloc, setRow_alloc, ow_four, ow_five, List.getElem_toArray, List.getElem_cons_zero, List.getElem_cons_succ, List.size_toArray, List.length_cons, List.length_nil, Nat.reduceLeDiff, g0, g7]
    repeat (refine ⟨by omega, ?_⟩)
    refine hK _ _ ?_
    clear hK K
    refine cwp_cond ?_
    simp only [exL_plain, exL_guard, exL_nil, fx_move, fx_assign, fx_pick, fx_nilCheck, fx_load, fx_fieldAddr, fx_indexAddr, fx_binOp, fx_not, fx_convert, fx_slice, fx_extract, fx_lookup, fx_build, fx_len, fx_store, fx_alloc, fx_box, fx_makeMap, fx_makeSlice, fx_buildSlice, fx_mapUpdate, fx_append, fx_call, ev_tmp, ev_const, updo_some, updo_none, upd_apply, thenQ_normal, optK_some, optE_some, optE_none, ptrK_mk, intK_mk, boolK_mk, strK_mk, sliceK_mk, addrK_mk, tupK_mk, mapK_mk, sndK_mk, mkK_mk, cvK_int, ldN_zero, ldN_two, ldN_four, ldN_five, binK_add, binK_sub, binK_mul, binK_eql, binK_neq, binK_lss, binK_leq, binK_gtr, binK_geq, binK_seql, binK_sneq, binK_sadd, binK_beql, binK_bneq, binK_peql, binK_pneq, binK_leql, binK_lneq, lenK_slice, lenK_string, ex_slice, ex_pointer, inR_i64, inR_i32, gdK_bool, gdK_undef, Ty.all, Nat.reduceEqDiff, Nat.reduceAdd, Nat.reduceMul, if_false, if_true, ↓reduceIte, true_and, and_true, Int.toNat_natCast, Nat.add_zero, Nat.mul_one, Bool.false_eq_true, decide_eq_true_eq, decide_eq_false_iff_not, Option.isNone_some, Option.isNone_none, Option.isSome_some, Option.isSome_none, List.map_toArray, List.map_cons, List.map_nil, stK_eq, stR_int, stR_bool, stR_string, stR_pointer, stR_slice, exD_plain, exD_guard, exD_nil, stepD_true, stepD_false, needOp, pureOp, Bool.false_or, Bool.true_or, Bool.or_false, Bool.or_true, gval_succ, gval_zero, Bd.s22, Bd.s22b, Bd.s31, Bd.s30, Bd.s30b, Bd.s30e, Bd.s42, Bd.s66, Bd.s67, Bd.b49, Bd.b54, Bd.b79, Bd.b82, Bd.b77, Bd.b86, Bd.b74, decide_true, decide_false, reduceCtorEq, ne_eq, not_true_eq_false, not_false_eq_true, true_implies, false_implies, implies_true, cond_true, cond_false, Bool.not_true, Bool.not_false, stR_agg2, stR_agg4, stR_agg5, one_int, one_bool, one_string, one_pointer, one_slice, one_map, retK_mk, cells_agg, rowAt_alloc, setRow_alloc, ow_four, ow_five, List.getElem_toArray, List.getElem_cons_zero, List.getElem_cons_succ, List.size_toArray, List.length_cons, List.length_nil, Nat.reduceLeDiff]
    refine ⟨fun hlt => cwp_skip (hK _ _ ?_), fun hge => cwp_exit (toJ ?_)⟩
    · clear hK K
      have hlt' : i < T.length := by omega
      obtain ⟨tb, to, rfl, _, opv, c1, hops⟩ := hform i hlt'
      obtain ⟨oa, ocap, rfl, hop⟩ := hops.form
      have hfs : ∀ j, j < (T.getD i tx0).ops.length → fpre T i (j + 1) = fpre T i j ++ [(i, (T.getD i tx0).ops.getD j op0)] := fun j hj => fpre_step hj
      have hn2 := @fpre_next T i hlt'
      have hpre : ∀ j, ∃ r, fl T = fpre T i j ++ r := fun j => fpre_pre hlt'
      generalize ht : T.getD i tx0 = t at *
      refine cwp_forget [0, 7, 2, 3, 4, 5, 6] fun ρ hL => ?_
      have g0X := hL 0 (by simp)
      have g7X := hL 7 (by simp)
      have g2X := hL 2 (by simp)
      have g3X := hL 3 (by simp)
      have g4X := hL 4 (by simp)
      have g5X := hL 5 (by simp)
      have g6X := hL 6 (by simp)
      clear hL
      simp only [upd_apply, Nat.reduceEqDiff, if_false, if_true, ↓reduceIte, g0, g7, g2, g3, g4, g5, g6] at g0X g7X g2X g3X g4X g5X g6X
      have g0 := g0X
      clear g0X
      have g7 := g7X
      clear g7X
      have g2 := g2X
      clear g2X
      have g3 := g3X
      clear g3X
      have g4 := g4X
      clear g4X
      have g5 := g5X
      clear g5X
      have g6 := g6X
      clear g6X
      refine cwp_seq fun K2 hK2 => ?_
      refine cwp_block ?_
      refine cwp_sr rfl fun K hK => ?_
      simp only [exL_plain, exL_guard, exL_nil, fx_move, fx_assign, fx_pick, fx_nilCheck, fx_load, fx_fieldAddr, fx_indexAddr, fx_binOp, fx_not, fx_convert, fx_slice, fx_extract, fx_lookup, fx_build, fx_len, fx_store, fx_alloc, fx_box, fx_makeMap, fx_makeSlice, fx_buildSlice, fx_mapUpdate, fx_append, fx_call, ev_tmp, ev_const, updo_some, updo_none, upd_apply, thenQ_normal, optK_some, optE_some, optE_none, ptrK_mk, intK_mk, boolK_mk, strK_mk, sliceK_mk, addrK_mk, tupK_mk, mapK_mk, sndK_mk, mkK_mk, cvK_int, ldN_zero, ldN_two, ldN_four, ldN_five, binK_add, binK_sub, binK_mul, binK_eql, binK_neq, binK_lss, binK_leq, binK_gtr, binK_geq, binK_seql, binK_sneq, binK_sadd, binK_beql, binK_bneq, binK_peql, binK_pneq, binK_leql, binK_lneq, lenK_slice, lenK_string, ex_slice, ex_pointer, inR_i64, inR_i32, gdK_bool, gdK_undef, Ty.all, Nat.reduceEqDiff, Nat.reduceAdd, Nat.reduceMul, if_false, if_true, ↓reduceIte, true_and, and_true, Int.toNat_natCast, Nat.add_zero, Nat.mul_one, Bool.false_eq_true, decide_eq_true_eq, decide_eq_false_iff_not, Option.isNone_some, Option.isNone_none, Option.isSome_some, Option.isSome_none, List.map_toArray, List.map_cons, List.map_nil, stK_eq, stR_int, stR_bool, stR_string, stR_pointer, stR_slice, exD_plain, exD_guard, exD_nil, stepD_true, stepD_false, needOp, pureOp, Bool.false_or, Bool.true_or, Bool.or_false, Bool.or_true, gval_succ, gval_zero, Bd.s22, Bd.s22b, Bd.s31, Bd.s30, Bd.s30b, Bd.s30e, Bd.s42, Bd.s66, Bd.s67, Bd.b49, Bd.b54, Bd.b79, Bd.b82, Bd.b77, Bd.b86, Bd.b74, decide_true, decide_false, reduceCtorEq, ne_eq, not_true_eq_false, not_false_eq_true, true_implies, false_implies, implies_true, cond_true, cond_false, Bool.not_true, Bool.not_false, stR_agg2, stR_agg4, stR_agg5, one_int, one_bool, one_string, one_pointer, one_slice, one_map, retK_mk, cells_agg, rowAt_alloc, setRow_alloc, ow_four, ow_five, List.getElem_toArray, List.getElem_cons_zero, List.getElem_cons_succ, List.size_toArray, List.length_cons, List.length_nil, Nat.reduceLeDiff]
      repeat (refine ⟨by omega, ?_⟩)
      refine hK _ _ ?_
      clear hK K
      refine cwp_forget [0, 7, 2, 3, 4, 5, 6, 8] fun ρ hL => ?_
      have g0X := hL 0 (by simp)
      have g7X := hL 7 (by simp)
      have g2X := hL 2 (by simp)
      have g3X := hL 3 (by simp)
      have g4X := hL 4 (by simp)
      have g5X := hL 5 (by simp)
      have g6X := hL 6 (by simp)
      have g8X := hL 8 (by simp)
      clear hL
      simp only [upd_apply, Nat.reduceEqDiff, if_false, if_true, ↓reduceIte, g0, g7, g2, g3, g4, g5, g6] at g0X g7X g2X g3X g4X g5X g6X g8X
      have g0 := g0X
      clear g0X
      have g7 := g7X
      clear g7X
      have g2 := g2X
      clear g2X
      have g3 := g3X
      clear g3X
      have g4 := g4X
      clear g4X
      have g5 := g5X
      clear g5X
      have g6 := g6X
      clear g6X
      have g8 := g8X
      clear g8X
      refine cwp_for (fun j ρ wr => j ≤ t.ops.length ∧ ρ 0 = .slice (some ⟨tb, to, none⟩) T.length tcap ∧ ρ 7 = .int .i64 (i : Nat) ∧ ρ 8 = .int .i64 (j : Nat) ∧ Below w.heap.size w wr ∧ ∃ lay c, St w.heap.size wr lay c ∧ FS lay c (ρ 2) (ρ 3) (ρ 4) (ρ 5) (ρ 6) (ents (fpre T i j)) (rds (fpre T i j)))
        (fun j => t.ops.length - j) (fun ρ wr => ρ 0 = .slice (some ⟨tb, to, none⟩) T.length tcap ∧ ρ 7 = .int .i64 (i : Nat) ∧ Below w.heap.size w wr ∧ ∃ lay c, St w.heap.size wr lay c ∧ FS lay c (ρ 2) (ρ 3) (ρ 4) (ρ 5) (ρ 6) (ents (fpre T (i + 1) 0)) (rds (fpre T (i + 1) 0))) 0 ?_ ?_ ?_
      · exact ⟨Nat.zero_le _, g0, g7, g8, hb, by rw [g2, g3, g4, g5, g6]; exact hS⟩
      · clear g0 g7 g2 g3 g4 g5 g6 g8 hb hS
        rintro j ρ wr ⟨hj, g0, g7, g8, hb, hS⟩ K3 hK3
        obtain ⟨va, g2⟩ : ∃ x, ρ 2 = x := ⟨_, rfl⟩
        obtain ⟨vb, g3⟩ : ∃ x, ρ 3 = x := ⟨_, rfl⟩
        obtain ⟨vd, g4⟩ : ∃ x, ρ 4 = x := ⟨_, rfl⟩
        obtain ⟨ve, g5⟩ : ∃ x, ρ 5 = x := ⟨_, rfl⟩
        obtain ⟨vf, g6⟩ : ∃ x, ρ 6 = x := ⟨_, rfl⟩
        rw [g2, g3, g4, g5, g6] at hS
        have c1r := below_up hb c1
        refine cwp_seq fun K hK => ?_
        refine cwp_sr rfl fun K hK => ?_
        simp only [exL_plain, exL_guard, exL_nil, fx_move, fx_assign, fx_pick, fx_nilCheck, fx_load, fx_fieldAddr, fx_indexAddr, fx_binOp, fx_not, fx_convert, fx_slice, fx_extract, fx_lookup, fx_build, fx_len, fx_store, fx_alloc, fx_box, fx_makeMap, fx_makeSlice, fx_buildSlice, fx_mapUpdate, fx_append, fx_call, ev_tmp, ev_const, updo_some, updo_none, upd_apply, thenQ_normal, optK_some, optE_some, optE_none, ptrK_mk, intK_mk, boolK_mk, strK_mk, sliceK_mk, addrK_mk, tupK_mk, mapK_mk, sndK_mk, mkK_mk, cvK_int, ldN_zero, ldN_two, ldN_four, ldN_five, binK_add, binK_sub, binK_mul, binK_eql, binK_neq, binK_lss, binK_leq, binK_gtr, binK_geq, binK_seql, binK_sneq, binK_sadd, binK_beql, binK_bneq, binK_peql, binK_pneq, binK_leql, binK_lneq, lenK_slice, lenK_string, ex_slice, ex_pointer, inR_i64, inR_i32, gdK_bool, gdK_undef, Ty.all, Nat.reduceEqDiff, Nat.reduceAdd, Nat.reduceMul, if_false, if_true, ↓reduceIte, true_and, and_true, Int.toNat_natCast, Nat.add_zero, Nat.mul_one, Bool.false_eq_true, decide_eq_true_eq, decide_eq_false_iff_not, Option.isNone_some, Option.isNone_none, Option.isSome_some, Option.isSome_none, List.map_toArray, List.map_cons, List.map_nil, stK_eq, stR_int, stR_bool, stR_string, stR_pointer, stR_slice, exD_plain, exD_guard, exD_nil, stepD_true, stepD_false, needOp, pureOp, Bool.false_or, Bool.true_or, Bool.or_false, Bool.or_true, gval_succ, gval_zero, Bd.s22, Bd.s22b, Bd.s31, Bd.s30, Bd.s30b, Bd.s30e, Bd.s42, Bd.s66, Bd.s67, Bd.b49, Bd.b54, Bd.b79, Bd.b82, Bd.b77, Bd.b86, Bd.b74, decide_true, decide_false, reduceCtorEq, ne_eq, not_true_eq_false, not_false_eq_true, true_implies, false_implies, implies_true, cond_true, cond_false, Bool.not_true, Bool.not_false, stR_agg2, stR_agg4, stR_agg5, one_int, one_bool, one_string, one_pointer, one_slice, one_map, retK_mk, cells_agg, rowAt_alloc, setRow_alloc, ow_four, ow_five, List.getElem_toArray, List.getElem_cons_zero, List.getElem_cons_succ, List.size_toArray, List.length_cons, List.length_nil, Nat.reduceLeDiff, g0, g7, g8, c1r]
        repeat (refine ⟨by omega, ?_⟩)
        refine hK _ _ ?_
        clear hK K
        refine cwp_cond ?_
        simp only [exL_plain, exL_guard, exL_nil, fx_move, fx_assign, fx_pick, fx_nilCheck, fx_load, fx_fieldAddr, fx_indexAddr, fx_binOp, fx_not, fx_convert, fx_slice, fx_extract, fx_lookup, fx_build, fx_len, fx_store, fx_alloc, fx_box, fx_makeMap, fx_makeSlice, fx_buildSlice, fx_mapUpdate, fx_append, fx_call, ev_tmp, ev_const, updo_some, updo_none, upd_apply, thenQ_normal, optK_some, optE_some, optE_none, ptrK_mk, intK_mk, boolK_mk, strK_mk, sliceK_mk, addrK_mk, tupK_mk, mapK_mk, sndK_mk, mkK_mk, cvK_int, ldN_zero, ldN_two, ldN_four, ldN_five, binK_add, binK_sub, binK_mul, binK_eql, binK_neq, binK_lss, binK_leq, binK_gtr, binK_geq, binK_seql, binK_sneq, binK_sadd, binK_beql, binK_bneq, binK_peql, binK_pneq, binK_leql, binK_lneq, lenK_slice, lenK_string, ex_slice, ex_pointer, inR_i64, inR_i32, gdK_bool, gdK_undef, Ty.all, Nat.reduceEqDiff, Nat.reduceAdd, Nat.reduceMul, if_false, if_true, ↓reduceIte, true_and, and_true, Int.toNat_natCast, Nat.add_zero, Nat.mul_one, Bool.false_eq_true, decide_eq_true_eq, decide_eq_false_iff_not, Option.isNone_some, Option.isNone_none, Option.isSome_some, Option.isSome_none, List.map_toArray, List.map_cons, List.map_nil, stK_eq, stR_int, stR_bool, stR_string, stR_pointer, stR_slice, exD_plain, exD_guard, exD_nil, stepD_true, stepD_false, needOp, pureOp, Bool.false_or, Bool.true_or, Bool.or_false, Bool.or_true, gval_succ, gval_zero, Bd.s22, Bd.s22b, Bd.s31, Bd.s30, Bd.s30b, Bd.s30e, Bd.s42, Bd.s66, Bd.s67, Bd.b49, Bd.b54, Bd.b79, Bd.b82, Bd.b77, Bd.b86, Bd.b74, decide_true, decide_false, reduceCtorEq, ne_eq, not_true_eq_false, not_false_eq_true, true_implies, false_implies, implies_true, cond_true, cond_false, Bool.not_true, Bool.not_false, stR_agg2, stR_agg4, stR_agg5, one_int, one_bool, one_string, one_pointer, one_slice, one_map, retK_mk, cells_agg, rowAt_alloc, setRow_alloc, ow_four, ow_five, List.getElem_toArray, List.getElem_cons_zero, List.getElem_cons_succ, List.size_toArray, List.length_cons, List.length_nil, Nat.reduceLeDiff]
        refine ⟨fun hlt => cwp_skip (hK _ _ ?_), fun hge => cwp_exit (toJ ?_)⟩
        · clear hK K
          have hlj : j < t.ops.length := by omega
          obtain ⟨pb, po, rfl, p0, p1, p2, ls, p3, hlist⟩ := hop j hlj
          obtain ⟨la, lcap, rfl, hlf⟩ := hlist.form
          have hfj := hfs j hlj
          obtain ⟨rest, hrest⟩ := hpre (j + 1)
          generalize hpp : t.ops.getD j op0 = p at *
          have hl3 : (fpre T i (j + 1)).length ≤ 4096 := by rw [hrest] at f2; simp at f2; omega
          have hl5 : j + 1 ≤ (fpre T i (j + 1)).length := fpre_len (by rw [ht]; exact hlj)
          have hl1 : (fpre T i (j + 1)).length = (fpre T i j).length + 1 := by rw [hfj]; simp
          have hrl := rds_len (fpre T i j)
          have hel : (ents (fpre T i j)).length + p.list.length ≤ 4096 := by
            have e1 := ents_le (fpre T i j)
            have e2 : sumL (fl T) = sumL (fpre T i (j + 1)) + sumL rest := by rw [hrest, sumL_append]
            have e3 : sumL (fpre T i (j + 1)) = sumL (fpre T i j) + p.list.length := by rw [hfj, sumL_append]; simp [sumL]
            omega
          have p0 := below_up hb p0
          have p1 := below_up hb p1
          have p2 := below_up hb p2
          have p3 := below_up hb p3
          obtain ⟨lay, c, hSt, hF⟩ := hS
          have hnb := hb.size
          refine cwp_forget [0, 7, 8, 2, 3, 4, 5, 6] fun ρ hL => ?_
          have g0X := hL 0 (by simp)
          have g7X := hL 7 (by simp)
          have g8X := hL 8 (by simp)
          have g2X := hL 2 (by simp)
          have g3X := hL 3 (by simp)
          have g4X := hL 4 (by simp)
          have g5X := hL 5 (by simp)
          have g6X := hL 6 (by simp)
          clear hL
          simp only [upd_apply, Nat.reduceEqDiff, if_false, if_true, ↓reduceIte, g0, g7, g8, g2, g3, g4, g5, g6] at g0X g7X g8X g2X g3X g4X g5X g6X
          have g0 := g0X
          clear g0X
          have g7 := g7X
          clear g7X
          have g8 := g8X
          clear g8X
          have g2 := g2X
          clear g2X
          have g3 := g3X
          clear g3X
          have g4 := g4X
          clear g4X
          have g5 := g5X
          clear g5X
          have g6 := g6X
          clear g6X
          refine cwp_seq fun K4 hK4 => ?_
          refine cwp_block ?_
          have hK5 : ∀ ρ wr, ρ 0 = .slice (some ⟨tb, to, none⟩) T.length tcap → ρ 7 = .int .i64 (i : Nat) → ρ 8 = .int .i64 (j : Nat) → Below w.heap.size w wr → (∃ lay c, St w.heap.size wr lay c ∧ FS lay c (ρ 2) (ρ 3) (ρ 4) (ρ 5) (ρ 6) (ents (fpre T i (j + 1))) (rds (fpre T i (j + 1)))) → K4 ρ wr := by
            clear g0 g7 g8 g2 g3 g4 g5 g6
            intro ρ wr g0 g7 g8 hb hS
            refine hK4 _ _ ?_
            refine cwp_region rfl ?_
            simp only [exL_plain, exL_guard, exL_nil, fx_move, fx_assign, fx_pick, fx_nilCheck, fx_load, fx_fieldAddr, fx_indexAddr, fx_binOp, fx_not, fx_convert, fx_slice, fx_extract, fx_lookup, fx_build, fx_len, fx_store, fx_alloc, fx_box, fx_makeMap, fx_makeSlice, fx_buildSlice, fx_mapUpdate, fx_append, fx_call, ev_tmp, ev_const, updo_some, updo_none, upd_apply, thenQ_normal, optK_some, optE_some, optE_none, ptrK_mk, intK_mk, boolK_mk, strK_mk, sliceK_mk, addrK_mk, tupK_mk, mapK_mk, sndK_mk, mkK_mk, cvK_int, ldN_zero, ldN_two, ldN_four, ldN_five, binK_add, binK_sub, binK_mul, binK_eql, binK_neq, binK_lss, binK_leq, binK_gtr, binK_geq, binK_seql, binK_sneq, binK_sadd, binK_beql, binK_bneq, binK_peql, binK_pneq, binK_leql, binK_lneq, lenK_slice, lenK_string, ex_slice, ex_pointer, inR_i64, inR_i32, gdK_bool, gdK_undef, Ty.all, Nat.reduceEqDiff, Nat.reduceAdd, Nat.reduceMul, if_false, if_true, ↓reduceIte, true_and, and_true, Int.toNat_natCast, Nat.add_zero, Nat.mul_one, Bool.false_eq_true, decide_eq_true_eq, decide_eq_false_iff_not, Option.isNone_some, Option.isNone_none, Option.isSome_some, Option.isSome_none, List.map_toArray, List.map_cons, List.map_nil, stK_eq, stR_int, stR_bool, stR_string, stR_pointer, stR_slice, exD_plain, exD_guard, exD_nil, stepD_true, stepD_false, needOp, pureOp, Bool.false_or, Bool.true_or, Bool.or_false, Bool.or_true, gval_succ, gval_zero, Bd.s22, Bd.s22b, Bd.s31, Bd.s30, Bd.s30b, Bd.s30e, Bd.s42, Bd.s66, Bd.s67, Bd.b49, Bd.b54, Bd.b79, Bd.b82, Bd.b77, Bd.b86, Bd.b74, decide_true, decide_false, reduceCtorEq, ne_eq, not_true_eq_false, not_false_eq_true, true_implies, false_implies, implies_true, cond_true, cond_false, Bool.not_true, Bool.not_false, stR_agg2, stR_agg4, stR_agg5, one_int, one_bool, one_string, one_pointer, one_slice, one_map, retK_mk, cells_agg, rowAt_alloc, setRow_alloc, ow_four, ow_five, List.getElem_toArray, List.getElem_cons_zero, List.getElem_cons_succ, List.size_toArray, List.length_cons, List.length_nil, Nat.reduceLeDiff, g8]
            repeat (refine ⟨by omega, ?_⟩)
            refine hK3 _ _ (j + 1) ⟨hlj, ?_, ?_, ?_, hb, ?_⟩ (by omega)
            · simp only [exL_plain, exL_guard, exL_nil, fx_move, fx_assign, fx_pick, fx_nilCheck, fx_load, fx_fieldAddr, fx_indexAddr, fx_binOp, fx_not, fx_convert, fx_slice, fx_extract, fx_lookup, fx_build, fx_len, fx_store, fx_alloc, fx_box, fx_makeMap, fx_makeSlice, fx_buildSlice, fx_mapUpdate, fx_append, fx_call, ev_tmp, ev_const, updo_some, updo_none, upd_apply, thenQ_normal, optK_some, optE_some, optE_none, ptrK_mk, intK_mk, boolK_mk, strK_mk, sliceK_mk, addrK_mk, tupK_mk, mapK_mk, sndK_mk, mkK_mk, cvK_int, ldN_zero, ldN_two, ldN_four, ldN_five, binK_add, binK_sub, binK_mul, binK_eql, binK_neq, binK_lss, binK_leq, binK_gtr, binK_geq, binK_seql, binK_sneq, binK_sadd, binK_beql, binK_bneq, binK_peql, binK_pneq, binK_leql, binK_lneq, lenK_slice, lenK_string, ex_slice, ex_pointer, inR_i64, inR_i32, gdK_bool, gdK_undef, Ty.all, Nat.reduceEqDiff, Nat.reduceAdd, Nat.reduceMul, if_false, if_true, ↓reduceIte, true_and, and_true, Int.toNat_natCast, Nat.add_zero, Nat.mul_one, Bool.false_eq_true, decide_eq_true_eq, decide_eq_false_iff_not, Option.isNone_some, Option.isNone_none, Option.isSome_some, Option.isSome_none, List.map_toArray, List.map_cons, List.map_nil, stK_eq, stR_int, stR_bool, stR_string, stR_pointer, stR_slice, exD_plain, exD_guard, exD_nil, stepD_true, stepD_false, needOp, pureOp, Bool.false_or, Bool.true_or, Bool.or_false, Bool.or_true, gval_succ, gval_zero, Bd.s22, Bd.s22b, Bd.s31, Bd.s30, Bd.s30b, Bd.s30e, Bd.s42, Bd.s66, Bd.s67, Bd.b49, Bd.b54, Bd.b79, Bd.b82, Bd.b77, Bd.b86, Bd.b74, decide_true, decide_false, reduceCtorEq, ne_eq, not_true_eq_false, not_false_eq_true, true_implies, false_implies, implies_true, cond_true, cond_false, Bool.not_true, Bool.not_false, stR_agg2, stR_agg4, stR_agg5, one_int, one_bool, one_string, one_pointer, one_slice, one_map, retK_mk, cells_agg, rowAt_alloc, setRow_alloc, ow_four, ow_five, List.getElem_toArray, List.getElem_cons_zero, List.getElem_cons_succ, List.size_toArray, List.length_cons, List.length_nil, Nat.reduceLeDiff, g0]
            · simp only [exL_plain, exL_guard, exL_nil, fx_move, fx_assign, fx_pick, fx_nilCheck, fx_load, fx_fieldAddr, fx_indexAddr, fx_binOp, fx_not, fx_convert, fx_slice, fx_extract, fx_lookup, fx_build, fx_len, fx_store, fx_alloc, fx_box, fx_makeMap, fx_makeSlice, fx_buildSlice, fx_mapUpdate, fx_append, fx_call, ev_tmp, ev_const, updo_some, updo_none, upd_apply, thenQ_normal, optK_some, optE_some, optE_none, ptrK_mk, intK_mk, boolK_mk, strK_mk, sliceK_mk, addrK_mk, tupK_mk, mapK_mk, sndK_mk, mkK_mk, cvK_int, ldN_zero, ldN_two, ldN_four, ldN_five, binK_add, binK_sub, binK_mul, binK_eql, binK_neq, binK_lss, binK_leq, binK_gtr, binK_geq, binK_seql, binK_sneq, binK_sadd, binK_beql, binK_bneq, binK_peql, binK_pneq, binK_leql, binK_lneq, lenK_slice, lenK_string, ex_slice, ex_pointer, inR_i64, inR_i32, gdK_bool, gdK_undef, Ty.all, Nat.reduceEqDiff, Nat.reduceAdd, Nat.reduceMul, if_false, if_true, ↓reduceIte, true_and, and_true, Int.toNat_natCast, Nat.add_zero, Nat.mul_one, Bool.false_eq_true, decide_eq_true_eq, decide_eq_false_iff_not, Option.isNone_some, Option.isNone_none, Option.isSome_some, Option.isSome_none, List.map_toArray, List.map_cons, List.map_nil, stK_eq, stR_int, stR_bool, stR_string, stR_pointer, stR_slice, exD_plain, exD_guard, exD_nil, stepD_true, stepD_false, needOp, pureOp, Bool.false_or, Bool.true_or, Bool.or_false, Bool.or_true, gval_succ, gval_zero, Bd.s22, Bd.s22b, Bd.s31, Bd.s30, Bd.s30b, Bd.s30e, Bd.s42, Bd.s66, Bd.s67, Bd.b49, Bd.b54, Bd.b79, Bd.b82, Bd.b77, Bd.b86, Bd.b74, decide_true, decide_false, reduceCtorEq, ne_eq, not_true_eq_false, not_false_eq_true, true_implies, false_implies, implies_true, cond_true, cond_false, Bool.not_true, Bool.not_false, stR_agg2, stR_agg4, stR_agg5, one_int, one_bool, one_string, one_pointer, one_slice, one_map, retK_mk, cells_agg, rowAt_alloc, setRow_alloc, ow_four, ow_five, List.getElem_toArray, List.getElem_cons_zero, List.getElem_cons_succ, List.size_toArray, List.length_cons, List.length_nil, Nat.reduceLeDiff, g7]
            · simp only [exL_plain, exL_guard, exL_nil, fx_move, fx_assign, fx_pick, fx_nilCheck, fx_load, fx_fieldAddr, fx_indexAddr, fx_binOp, fx_not, fx_convert, fx_slice, fx_extract, fx_lookup, fx_build, fx_len, fx_store, fx_alloc, fx_box, fx_makeMap, fx_makeSlice, fx_buildSlice, fx_mapUpdate, fx_append, fx_call, ev_tmp, ev_const, updo_some, updo_none, upd_apply, thenQ_normal, optK_some, optE_some, optE_none, ptrK_mk, intK_mk, boolK_mk, strK_mk, sliceK_mk, addrK_mk, tupK_mk, mapK_mk, sndK_mk, mkK_mk, cvK_int, ldN_zero, ldN_two, ldN_four, ldN_five, binK_add, binK_sub, binK_mul, binK_eql, binK_neq, binK_lss, binK_leq, binK_gtr, binK_geq, binK_seql, binK_sneq, binK_sadd, binK_beql, binK_bneq, binK_peql, binK_pneq, binK_leql, binK_lneq, lenK_slice, lenK_string, ex_slice, ex_pointer, inR_i64, inR_i32, gdK_bool, gdK_undef, Ty.all, Nat.reduceEqDiff, Nat.reduceAdd, Nat.reduceMul, if_false, if_true, ↓reduceIte, true_and, and_true, Int.toNat_natCast, Nat.add_zero, Nat.mul_one, Bool.false_eq_true, decide_eq_true_eq, decide_eq_false_iff_not, Option.isNone_some, Option.isNone_none, Option.isSome_some, Option.isSome_none, List.map_toArray, List.map_cons, List.map_nil, stK_eq, stR_int, stR_bool, stR_string, stR_pointer, stR_slice, exD_plain, exD_guard, exD_nil, stepD_true, stepD_false, needOp, pureOp, Bool.false_or, Bool.true_or, Bool.or_false, Bool.or_true, gval_succ, gval_zero, Bd.s22, Bd.s22b, Bd.s31, Bd.s30, Bd.s30b, Bd.s30e, Bd.s42, Bd.s66, Bd.s67, Bd.b49, Bd.b54, Bd.b79, Bd.b82, Bd.b77, Bd.b86, Bd.b74, decide_true, decide_false, reduceCtorEq, ne_eq, not_true_eq_false, not_false_eq_true, true_implies, false_implies, implies_true, cond_true, cond_false, Bool.not_true, Bool.not_false, stR_agg2, stR_agg4, stR_agg5, one_int, one_bool, one_string, one_pointer, one_slice, one_map, retK_mk, cells_agg, rowAt_alloc, setRow_alloc, ow_four, ow_five, List.getElem_toArray, List.getElem_cons_zero, List.getElem_cons_succ, List.size_toArray, List.length_cons, List.length_nil, Nat.reduceLeDiff]
              rfl
            · simp only [upd_apply, Nat.reduceEqDiff, if_false]
              exact hS
          clear hK4 hK3 hK2 hK1
          refine cwp_sr rfl fun K hK => ?_
          simp only [exL_plain, exL_guard, exL_nil, fx_move, fx_assign, fx_pick, fx_nilCheck, fx_load, fx_fieldAddr, fx_indexAddr, fx_binOp, fx_not, fx_convert, fx_slice, fx_extract, fx_lookup, fx_build, fx_len, fx_store, fx_alloc, fx_box, fx_makeMap, fx_makeSlice, fx_buildSlice, fx_mapUpdate, fx_append, fx_call, ev_tmp, ev_const, updo_some, updo_none, upd_apply, thenQ_normal, optK_some, optE_some, optE_none, ptrK_mk, intK_mk, boolK_mk, strK_mk, sliceK_mk, addrK_mk, tupK_mk, mapK_mk, sndK_mk, mkK_mk, cvK_int, ldN_zero, ldN_two, ldN_four, ldN_five, binK_add, binK_sub, binK_mul, binK_eql, binK_neq, binK_lss, binK_leq, binK_gtr, binK_geq, binK_seql, binK_sneq, binK_sadd, binK_beql, binK_bneq, binK_peql, binK_pneq, binK_leql, binK_lneq, lenK_slice, lenK_string, ex_slice, ex_pointer, inR_i64, inR_i32, gdK_bool, gdK_undef, Ty.all, Nat.reduceEqDiff, Nat.reduceAdd, Nat.reduceMul, if_false, if_true, ↓reduceIte, true_and, and_true, Int.toNat_natCast, Nat.add_zero, Nat.mul_one, Bool.false_eq_true, decide_eq_true_eq, decide_eq_false_iff_not, Option.isNone_some, Option.isNone_none, Option.isSome_some, Option.isSome_none, List.map_toArray, List.map_cons, List.map_nil, stK_eq, stR_int, stR_bool, stR_string, stR_pointer, stR_slice, exD_plain, exD_guard, exD_nil, stepD_true, stepD_false, needOp, pureOp, Bool.false_or, Bool.true_or, Bool.or_false, Bool.or_true, gval_succ, gval_zero, Bd.s22, Bd.s22b, Bd.s31, Bd.s30, Bd.s30b, Bd.s30e, Bd.s42, Bd.s66, Bd.s67, Bd.b49, Bd.b54, Bd.b79, Bd.b82, Bd.b77, Bd.b86, Bd.b74, decide_true, decide_false, reduceCtorEq, ne_eq, not_true_eq_false, not_false_eq_true, true_implies, false_implies, implies_true, cond_true, cond_false, Bool.not_true, Bool.not_false, stR_agg2, stR_agg4, stR_agg5, one_int, one_bool, one_string, one_pointer, one_slice, one_map, retK_mk, cells_agg, rowAt_alloc, setRow_alloc, ow_four, ow_five, List.getElem_toArray, List.getElem_cons_zero, List.getElem_cons_succ, List.size_toArray, List.length_cons, List.length_nil, Nat.reduceLeDiff, g0, g7, g8, c1r, p0, p1, p2, p3]
          repeat (refine ⟨by omega, ?_⟩)
          refine hK _ _ ?_
          clear hK K
          obtain ⟨lay1, c1', S1, a1, d1, o1⟩ := hSt.new' hnb 9 #[.bool p.app, .string p.key, .string p.val, .slice la p.list.length lcap] 54
          have hb1' := hb.alloc hnb (.cells #[.bool p.app, .string p.key, .string p.val, .slice la p.list.length lcap] 54)
          have hF1 := hF.congr (fun s hs => o1 s (by omega))
          have q0 := S1.cell d1 0
          rw [a1] at q0
          simp only [List.getElem?_toArray, List.getElem?_cons_zero, List.getElem?_cons_succ] at q0
          refine cwp_forget [0, 7, 8, 2, 3, 4, 5, 6, 9] fun ρ hL => ?_
          have g0X := hL 0 (by simp)
          have g7X := hL 7 (by simp)
          have g8X := hL 8 (by simp)
          have g2X := hL 2 (by simp)
          have g3X := hL 3 (by simp)
          have g4X := hL 4 (by simp)
          have g5X := hL 5 (by simp)
          have g6X := hL 6 (by simp)
          have g9X := hL 9 (by simp)
          clear hL
          simp only [upd_apply, Nat.reduceEqDiff, if_false, if_true, ↓reduceIte, g0, g7, g8, g2, g3, g4, g5, g6] at g0X g7X g8X g2X g3X g4X g5X g6X g9X
          have g0 := g0X
          clear g0X
          have g7 := g7X
          clear g7X
          have g8 := g8X
          clear g8X
          have g2 := g2X
          clear g2X
          have g3 := g3X
          clear g3X
          have g4 := g4X
          clear g4X
          have g5 := g5X
          clear g5X
          have g6 := g6X
          clear g6X
          have g9 := g9X
          clear g9X
          generalize wr.alloc (.cells #[.bool p.app, .string p.key, .string p.val, .slice la p.list.length lcap] 54) = w6 at *
          generalize wr.heap.size = B9 at *
          refine cwp_seq fun K hK => ?_
          refine cwp_sr rfl fun K hK => ?_
          simp only [exL_plain, exL_guard, exL_nil, fx_move, fx_assign, fx_pick, fx_nilCheck, fx_load, fx_fieldAddr, fx_indexAddr, fx_binOp, fx_not, fx_convert, fx_slice, fx_extract, fx_lookup, fx_build, fx_len, fx_store, fx_alloc, fx_box, fx_makeMap, fx_makeSlice, fx_buildSlice, fx_mapUpdate, fx_append, fx_call, ev_tmp, ev_const, updo_some, updo_none, upd_apply, thenQ_normal, optK_some, optE_some, optE_none, ptrK_mk, intK_mk, boolK_mk, strK_mk, sliceK_mk, addrK_mk, tupK_mk, mapK_mk, sndK_mk, mkK_mk, cvK_int, ldN_zero, ldN_two, ldN_four, ldN_five, binK_add, binK_sub, binK_mul, binK_eql, binK_neq, binK_lss, binK_leq, binK_gtr, binK_geq, binK_seql, binK_sneq, binK_sadd, binK_beql, binK_bneq, binK_peql, binK_pneq, binK_leql, binK_lneq, lenK_slice, lenK_string, ex_slice, ex_pointer, inR_i64, inR_i32, gdK_bool, gdK_undef, Ty.all, Nat.reduceEqDiff, Nat.reduceAdd, Nat.reduceMul, if_false, if_true, ↓reduceIte, true_and, and_true, Int.toNat_natCast, Nat.add_zero, Nat.mul_one, Bool.false_eq_true, decide_eq_true_eq, decide_eq_false_iff_not, Option.isNone_some, Option.isNone_none, Option.isSome_some, Option.isSome_none, List.map_toArray, List.map_cons, List.map_nil, stK_eq, stR_int, stR_bool, stR_string, stR_pointer, stR_slice, exD_plain, exD_guard, exD_nil, stepD_true, stepD_false, needOp, pureOp, Bool.false_or, Bool.true_or, Bool.or_false, Bool.or_true, gval_succ, gval_zero, Bd.s22, Bd.s22b, Bd.s31, Bd.s30, Bd.s30b, Bd.s30e, Bd.s42, Bd.s66, Bd.s67, Bd.b49, Bd.b54, Bd.b79, Bd.b82, Bd.b77, Bd.b86, Bd.b74, decide_true, decide_false, reduceCtorEq, ne_eq, not_true_eq_false, not_false_eq_true, true_implies, false_implies, implies_true, cond_true, cond_false, Bool.not_true, Bool.not_false, stR_agg2, stR_agg4, stR_agg5, one_int, one_bool, one_string, one_pointer, one_slice, one_map, retK_mk, cells_agg, rowAt_alloc, setRow_alloc, ow_four, ow_five, List.getElem_toArray, List.getElem_cons_zero, List.getElem_cons_succ, List.size_toArray, List.length_cons, List.length_nil, Nat.reduceLeDiff, g9, q0]
          repeat (refine ⟨by omega, ?_⟩)
          refine hK _ _ ?_
          clear hK K
          refine cwp_cond ?_
          simp only [exL_plain, exL_guard, exL_nil, fx_move, fx_assign, fx_pick, fx_nilCheck, fx_load, fx_fieldAddr, fx_indexAddr, fx_binOp, fx_not, fx_convert, fx_slice, fx_extract, fx_lookup, fx_build, fx_len, fx_store, fx_alloc, fx_box, fx_makeMap, fx_makeSlice, fx_buildSlice, fx_mapUpdate, fx_append, fx_call, ev_tmp, ev_const, updo_some, updo_none, upd_apply, thenQ_normal, optK_some, optE_some, optE_none, ptrK_mk, intK_mk, boolK_mk, strK_mk, sliceK_mk, addrK_mk, tupK_mk, mapK_mk, sndK_mk, mkK_mk, cvK_int, ldN_zero, ldN_two, ldN_four, ldN_five, binK_add, binK_sub, binK_mul, binK_eql, binK_neq, binK_lss, binK_leq, binK_gtr, binK_geq, binK_seql, binK_sneq, binK_sadd, binK_beql, binK_bneq, binK_peql, binK_pneq, binK_leql, binK_lneq, lenK_slice, lenK_string, ex_slice, ex_pointer, inR_i64, inR_i32, gdK_bool, gdK_undef, Ty.all, Nat.reduceEqDiff, Nat.reduceAdd, Nat.reduceMul, if_false, if_true, ↓reduceIte, true_and, and_true, Int.toNat_natCast, Nat.add_zero, Nat.mul_one, Bool.false_eq_true, decide_eq_true_eq, decide_eq_false_iff_not, Option.isNone_some, Option.isNone_none, Option.isSome_some, Option.isSome_none, List.map_toArray, List.map_cons, List.map_nil, stK_eq, stR_int, stR_bool, stR_string, stR_pointer, stR_slice, exD_plain, exD_guard, exD_nil, stepD_true, stepD_false, needOp, pureOp, Bool.false_or, Bool.true_or, Bool.or_false, Bool.or_true, gval_succ, gval_zero, Bd.s22, Bd.s22b, Bd.s31, Bd.s30, Bd.s30b, Bd.s30e, Bd.s42, Bd.s66, Bd.s67, Bd.b49, Bd.b54, Bd.b79, Bd.b82, Bd.b77, Bd.b86, Bd.b74, decide_true, decide_false, reduceCtorEq, ne_eq, not_true_eq_false, not_false_eq_true, true_implies, false_implies, implies_true, cond_true, cond_false, Bool.not_true, Bool.not_false, stR_agg2, stR_agg4, stR_agg5, one_int, one_bool, one_string, one_pointer, one_slice, one_map, retK_mk, cells_agg, rowAt_alloc, setRow_alloc, ow_four, ow_five, List.getElem_toArray, List.getElem_cons_zero, List.getElem_cons_succ, List.size_toArray, List.length_cons, List.length_nil, Nat.reduceLeDiff]
          refine ⟨fun hA => ?_, fun hA => cwp_skip (hK _ _ ?_)⟩
          · refine cwp_exit ?_
            simp only [thenQ_exit, blkQ_exit, if_true, thenQ_normal]
            have er : rds (fpre T i (j + 1)) = rds (fpre T i j) := by rw [hfj, rds_append, rds_app hA, List.append_nil]
            have ee : ents (fpre T i (j + 1)) = ents (fpre T i j) := by rw [hfj, ents_append, ents_app hA, List.append_nil]
            refine hK5 _ _ ?_ ?_ ?_ hb1' ⟨lay1, c1', S1, ?_⟩
            · simp only [exL_plain, exL_guard, exL_nil, fx_move, fx_assign, fx_pick, fx_nilCheck, fx_load, fx_fieldAddr, fx_indexAddr, fx_binOp, fx_not, fx_convert, fx_slice, fx_extract, fx_lookup, fx_build, fx_len, fx_store, fx_alloc, fx_box, fx_makeMap, fx_makeSlice, fx_buildSlice, fx_mapUpdate, fx_append, fx_call, ev_tmp, ev_const, updo_some, updo_none, upd_apply, thenQ_normal, optK_some, optE_some, optE_none, ptrK_mk, intK_mk, boolK_mk, strK_mk, sliceK_mk, addrK_mk, tupK_mk, mapK_mk, sndK_mk, mkK_mk, cvK_int, ldN_zero, ldN_two, ldN_four, ldN_five, binK_add, binK_sub, binK_mul, binK_eql, binK_neq, binK_lss, binK_leq, binK_gtr, binK_geq, binK_seql, binK_sneq, binK_sadd, binK_beql, binK_bneq, binK_peql, binK_pneq, binK_leql, binK_lneq, lenK_slice, lenK_string, ex_slice, ex_pointer, inR_i64, inR_i32, gdK_bool, gdK_undef, Ty.all, Nat.reduceEqDiff, Nat.reduceAdd, Nat.reduceMul, if_false, if_true, ↓reduceIte, true_and, and_true, Int.toNat_natCast, Nat.add_zero, Nat.mul_one, Bool.false_eq_true, decide_eq_true_eq, decide_eq_false_iff_not, Option.isNone_some, Option.isNone_none, Option.isSome_some, Option.isSome_none, List.map_toArray, List.map_cons, List.map_nil, stK_eq, stR_int, stR_bool, stR_string, stR_pointer, stR_slice, exD_plain, exD_guard, exD_nil, stepD_true, stepD_false, needOp, pureOp, Bool.false_or, Bool.true_or, Bool.or_false, Bool.or_true, gval_succ, gval_zero, Bd.s22, Bd.s22b, Bd.s31, Bd.s30, Bd.s30b, Bd.s30e, Bd.s42, Bd.s66, Bd.s67, Bd.b49, Bd.b54, Bd.b79, Bd.b82, Bd.b77, Bd.b86, Bd.b74, decide_true, decide_false, reduceCtorEq, ne_eq, not_true_eq_false, not_false_eq_true, true_implies, false_implies, implies_true, cond_true, cond_false, Bool.not_true, Bool.not_false, stR_agg2, stR_agg4, stR_agg5, one_int, one_bool, one_string, one_pointer, one_slice, one_map, retK_mk, cells_agg, rowAt_alloc, setRow_alloc, ow_four, ow_five, List.getElem_toArray, List.getElem_cons_zero, List.getElem_cons_succ, List.size_toArray, List.length_cons, List.length_nil, Nat.reduceLeDiff, g0]
            · simp only [exL_plain, exL_guard, exL_nil, fx_move, fx_assign, fx_pick, fx_nilCheck, fx_load, fx_fieldAddr, fx_indexAddr, fx_binOp, fx_not, fx_convert, fx_slice, fx_extract, fx_lookup, fx_build, fx_len, fx_store, fx_alloc, fx_box, fx_makeMap, fx_makeSlice, fx_buildSlice, fx_mapUpdate, fx_append, fx_call, ev_tmp, ev_const, updo_some, updo_none, upd_apply, thenQ_normal, optK_some, optE_some, optE_none, ptrK_mk, intK_mk, boolK_mk, strK_mk, sliceK_mk, addrK_mk, tupK_mk, mapK_mk, sndK_mk, mkK_mk, cvK_int, ldN_zero, ldN_two, ldN_four, ldN_five, binK_add, binK_sub, binK_mul, binK_eql, binK_neq, binK_lss, binK_leq, binK_gtr, binK_geq, binK_seql, binK_sneq, binK_sadd, binK_beql, binK_bneq, binK_peql, binK_pneq, binK_leql, binK_lneq, lenK_slice, lenK_string, ex_slice, ex_pointer, inR_i64, inR_i32, gdK_bool, gdK_undef, Ty.all, Nat.reduceEqDiff, Nat.reduceAdd, Nat.reduceMul, if_false, if_true, ↓reduceIte, true_and, and_true, Int.toNat_natCast, Nat.add_zero, Nat.mul_one, Bool.false_eq_true, decide_eq_true_eq, decide_eq_false_iff_not, Option.isNone_some, Option.isNone_none, Option.isSome_some, Option.isSome_none, List.map_toArray, List.map_cons, List.map_nil, stK_eq, stR_int, stR_bool, stR_string, stR_pointer, stR_slice, exD_plain, exD_guard, exD_nil, stepD_true, stepD_false, needOp, pureOp, Bool.false_or, Bool.true_or, Bool.or_false, Bool.or_true, gval_succ, gval_zero, Bd.s22, Bd.s22b, Bd.s31, Bd.s30, Bd.s30b, Bd.s30e, Bd.s42, Bd.s66, Bd.s67, Bd.b49, Bd.b54, Bd.b79, Bd.b82, Bd.b77, Bd.b86, Bd.b74, decide_true, decide_false, reduceCtorEq, ne_eq, not_true_eq_false, not_false_eq_true, true_implies, false_implies, implies_true, cond_true, cond_false, Bool.not_true, Bool.not_false, stR_agg2, stR_agg4, stR_agg5, one_int, one_bool, one_string, one_pointer, one_slice, one_map, retK_mk, cells_agg, rowAt_alloc, setRow_alloc, ow_four, ow_five, List.getElem_toArray, List.getElem_cons_zero, List.getElem_cons_succ, List.size_toArray, List.length_cons, List.length_nil, Nat.reduceLeDiff, g7]
            · simp only [exL_plain, exL_guard, exL_nil, fx_move, fx_assign, fx_pick, fx_nilCheck, fx_load, fx_fieldAddr, fx_indexAddr, fx_binOp, fx_not, fx_convert, fx_slice, fx_extract, fx_lookup, fx_build, fx_len, fx_store, fx_alloc, fx_box, fx_makeMap, fx_makeSlice, fx_buildSlice, fx_mapUpdate, fx_append, fx_call, ev_tmp, ev_const, updo_some, updo_none, upd_apply, thenQ_normal, optK_some, optE_some, optE_none, ptrK_mk, intK_mk, boolK_mk, strK_mk, sliceK_mk, addrK_mk, tupK_mk, mapK_mk, sndK_mk, mkK_mk, cvK_int, ldN_zero, ldN_two, ldN_four, ldN_five, binK_add, binK_sub, binK_mul, binK_eql, binK_neq, binK_lss, binK_leq, binK_gtr, binK_geq, binK_seql, binK_sneq, binK_sadd, binK_beql, binK_bneq, binK_peql, binK_pneq, binK_leql, binK_lneq, lenK_slice, lenK_string, ex_slice, ex_pointer, inR_i64, inR_i32, gdK_bool, gdK_undef, Ty.all, Nat.reduceEqDiff, Nat.reduceAdd, Nat.reduceMul, if_false, if_true, ↓reduceIte, true_and, and_true, Int.toNat_natCast, Nat.add_zero, Nat.mul_one, Bool.false_eq_true, decide_eq_true_eq, decide_eq_false_iff_not, Option.isNone_some, Option.isNone_none, Option.isSome_some, Option.isSome_none, List.map_toArray, List.map_cons, List.map_nil, stK_eq, stR_int, stR_bool, stR_string, stR_pointer, stR_slice, exD_plain, exD_guard, exD_nil, stepD_true, stepD_false, needOp, pureOp, Bool.false_or, Bool.true_or, Bool.or_false, Bool.or_true, gval_succ, gval_zero, Bd.s22, Bd.s22b, Bd.s31, Bd.s30, Bd.s30b, Bd.s30e, Bd.s42, Bd.s66, Bd.s67, Bd.b49, Bd.b54, Bd.b79, Bd.b82, Bd.b77, Bd.b86, Bd.b74, decide_true, decide_false, reduceCtorEq, ne_eq, not_true_eq_false, not_false_eq_true, true_implies, false_implies, implies_true, cond_true, cond_false, Bool.not_true, Bool.not_false, stR_agg2, stR_agg4, stR_agg5, one_int, one_bool, one_string, one_pointer, one_slice, one_map, retK_mk, cells_agg, rowAt_alloc, setRow_alloc, ow_four, ow_five, List.getElem_toArray, List.getElem_cons_zero, List.getElem_cons_succ, List.size_toArray, List.length_cons, List.length_nil, Nat.reduceLeDiff, g8]
            · simp only [upd_apply, Nat.reduceEqDiff, if_false, g2, g3, g4, g5, g6, er, ee]
              exact hF1
          clear hK K hF hSt q0
          have er : rds (fpre T i (j + 1)) = rds (fpre T i j) ++ [(i, p)] := by rw [hfj, rds_append, rds_read hA]
          have ee : ents (fpre T i (j + 1)) = ents (fpre T i j) ++ p.list.map fun v => (i, p.key, v) := by rw [hfj, ents_append, ents_read hA]
          rw [er, ee] at hK5
          generalize rds (fpre T i j) = R at *
          generalize ents (fpre T i j) = E at *
          have hRl : R.length ≤ 4096 := by omega
          refine cwp_forget [0, 7, 8, 2, 3, 4, 5, 6, 9] fun ρ hL => ?_
          have g0X := hL 0 (by simp)
          have g7X := hL 7 (by simp)
          have g8X := hL 8 (by simp)
          have g2X := hL 2 (by simp)
          have g3X := hL 3 (by simp)
          have g4X := hL 4 (by simp)
          have g5X := hL 5 (by simp)
          have g6X := hL 6 (by simp)
          have g9X := hL 9 (by simp)
          clear hL
          simp only [upd_apply, Nat.reduceEqDiff, if_false, if_true, ↓reduceIte, g0, g7, g8, g2, g3, g4, g5, g6, g9] at g0X g7X g8X g2X g3X g4X g5X g6X g9X
          have g0 := g0X
          clear g0X
          have g7 := g7X
          clear g7X
          have g8 := g8X
          clear g8X
          have g2 := g2X
          clear g2X
          have g3 := g3X
          clear g3X
          have g4 := g4X
          clear g4X
          have g5 := g5X
          clear g5X
          have g6 := g6X
          clear g6X
          have g9 := g9X
          clear g9X
          refine cwp_sr rfl fun K hK => ?_
          simp only [exL_plain, exL_guard, exL_nil, fx_move, fx_assign, fx_pick, fx_nilCheck, fx_load, fx_fieldAddr, fx_indexAddr, fx_binOp, fx_not, fx_convert, fx_slice, fx_extract, fx_lookup, fx_build, fx_len, fx_store, fx_alloc, fx_box, fx_makeMap, fx_makeSlice, fx_buildSlice, fx_mapUpdate, fx_append, fx_call, ev_tmp, ev_const, updo_some, updo_none, upd_apply, thenQ_normal, optK_some, optE_some, optE_none, ptrK_mk, intK_mk, boolK_mk, strK_mk, sliceK_mk, addrK_mk, tupK_mk, mapK_mk, sndK_mk, mkK_mk, cvK_int, ldN_zero, ldN_two, ldN_four, ldN_five, binK_add, binK_sub, binK_mul, binK_eql, binK_neq, binK_lss, binK_leq, binK_gtr, binK_geq, binK_seql, binK_sneq, binK_sadd, binK_beql, binK_bneq, binK_peql, binK_pneq, binK_leql, binK_lneq, lenK_slice, lenK_string, ex_slice, ex_pointer, inR_i64, inR_i32, gdK_bool, gdK_undef, Ty.all, Nat.reduceEqDiff, Nat.reduceAdd, Nat.reduceMul, if_false, if_true, ↓reduceIte, true_and, and_true, Int.toNat_natCast, Nat.add_zero, Nat.mul_one, Bool.false_eq_true, decide_eq_true_eq, decide_eq_false_iff_not, Option.isNone_some, Option.isNone_none, Option.isSome_some, Option.isSome_none, List.map_toArray, List.map_cons, List.map_nil, stK_eq, stR_int, stR_bool, stR_string, stR_pointer, stR_slice, exD_plain, exD_guard, exD_nil, stepD_true, stepD_false, needOp, pureOp, Bool.false_or, Bool.true_or, Bool.or_false, Bool.or_true, gval_succ, gval_zero, Bd.s22, Bd.s22b, Bd.s31, Bd.s30, Bd.s30b, Bd.s30e, Bd.s42, Bd.s66, Bd.s67, Bd.b49, Bd.b54, Bd.b79, Bd.b82, Bd.b77, Bd.b86, Bd.b74, decide_true, decide_false, reduceCtorEq, ne_eq, not_true_eq_false, not_false_eq_true, true_implies, false_implies, implies_true, cond_true, cond_false, Bool.not_true, Bool.not_false, stR_agg2, stR_agg4, stR_agg5, one_int, one_bool, one_string, one_pointer, one_slice, one_map, retK_mk, cells_agg, rowAt_alloc, setRow_alloc, ow_four, ow_five, List.getElem_toArray, List.getElem_cons_zero, List.getElem_cons_succ, List.size_toArray, List.length_cons, List.length_nil, Nat.reduceLeDiff, g5, g7]
          refine ap_one S1 hF1.r5 (z := .int .i64 0) (bytes := 8) (by kernel_rfl) rfl (by omega) [.int .i64 (i : Nat)] rfl rfl (by omega) (by omega) hb1'.size ?_
          intro v8 w8 lay8 c8 hS8 hr8 ho8 ⟨cap8, hv8⟩ hb8
          have hb8' := hb1'.trans hb8
          have d8 := (ho8 9 (by omega)).2.trans d1
          have a8 := (ho8 9 (by omega)).1.trans a1
          have q3 := hS8.cell d8 3
          rw [a8] at q3
          simp only [List.getElem?_toArray, List.getElem?_cons_zero, List.getElem?_cons_succ] at q3
          have hr68 := hF1.r6.congr (ho8 6 (by omega)).1 (ho8 6 (by omega)).2
          have hr28 := hF1.r2.congr (ho8 2 (by omega)).1 (ho8 2 (by omega)).2
          have hr38 := hF1.r3.congr (ho8 3 (by omega)).1 (ho8 3 (by omega)).2
          have hr48 := hF1.r4.congr (ho8 4 (by omega)).1 (ho8 4 (by omega)).2
          repeat (refine ⟨by omega, ?_⟩)
          refine hK _ _ ?_
          clear hK K
          refine cwp_forget [0, 7, 8, 2, 3, 4, 5, 6, 9] fun ρ hL => ?_
          have g0X := hL 0 (by simp)
          have g7X := hL 7 (by simp)
          have g8X := hL 8 (by simp)
          have g2X := hL 2 (by simp)
          have g3X := hL 3 (by simp)
          have g4X := hL 4 (by simp)
          have g5X := hL 5 (by simp)
          have g6X := hL 6 (by simp)
          have g9X := hL 9 (by simp)
          clear hL
          simp only [upd_apply, Nat.reduceEqDiff, if_false, if_true, ↓reduceIte, g0, g7, g8, g2, g3, g4, g6, g9] at g0X g7X g8X g2X g3X g4X g5X g6X g9X
          have g0 := g0X
          clear g0X
          have g7 := g7X
          clear g7X
          have g8 := g8X
          clear g8X
          have g2 := g2X
          clear g2X
          have g3 := g3X
          clear g3X
          have g4 := g4X
          clear g4X
          have g5 := g5X
          clear g5X
          have g6 := g6X
          clear g6X
          have g9 := g9X
          clear g9X
          refine cwp_sr rfl fun K hK => ?_
          simp only [exL_plain, exL_guard, exL_nil, fx_move, fx_assign, fx_pick, fx_nilCheck, fx_load, fx_fieldAddr, fx_indexAddr, fx_binOp, fx_not, fx_convert, fx_slice, fx_extract, fx_lookup, fx_build, fx_len, fx_store, fx_alloc, fx_box, fx_makeMap, fx_makeSlice, fx_buildSlice, fx_mapUpdate, fx_append, fx_call, ev_tmp, ev_const, updo_some, updo_none, upd_apply, thenQ_normal, optK_some, optE_some, optE_none, ptrK_mk, intK_mk, boolK_mk, strK_mk, sliceK_mk, addrK_mk, tupK_mk, mapK_mk, sndK_mk, mkK_mk, cvK_int, ldN_zero, ldN_two, ldN_four, ldN_five, binK_add, binK_sub, binK_mul, binK_eql, binK_neq, binK_lss, binK_leq, binK_gtr, binK_geq, binK_seql, binK_sneq, binK_sadd, binK_beql, binK_bneq, binK_peql, binK_pneq, binK_leql, binK_lneq, lenK_slice, lenK_string, ex_slice, ex_pointer, inR_i64, inR_i32, gdK_bool, gdK_undef, Ty.all, Nat.reduceEqDiff, Nat.reduceAdd, Nat.reduceMul, if_false, if_true, ↓reduceIte, true_and, and_true, Int.toNat_natCast, Nat.add_zero, Nat.mul_one, Bool.false_eq_true, decide_eq_true_eq, decide_eq_false_iff_not, Option.isNone_some, Option.isNone_none, Option.isSome_some, Option.isSome_none, List.map_toArray, List.map_cons, List.map_nil, stK_eq, stR_int, stR_bool, stR_string, stR_pointer, stR_slice, exD_plain, exD_guard, exD_nil, stepD_true, stepD_false, needOp, pureOp, Bool.false_or, Bool.true_or, Bool.or_false, Bool.or_true, gval_succ, gval_zero, Bd.s22, Bd.s22b, Bd.s31, Bd.s30, Bd.s30b, Bd.s30e, Bd.s42, Bd.s66, Bd.s67, Bd.b49, Bd.b54, Bd.b79, Bd.b82, Bd.b77, Bd.b86, Bd.b74, decide_true, decide_false, reduceCtorEq, ne_eq, not_true_eq_false, not_false_eq_true, true_implies, false_implies, implies_true, cond_true, cond_false, Bool.not_true, Bool.not_false, stR_agg2, stR_agg4, stR_agg5, one_int, one_bool, one_string, one_pointer, one_slice, one_map, retK_mk, cells_agg, rowAt_alloc, setRow_alloc, ow_four, ow_five, List.getElem_toArray, List.getElem_cons_zero, List.getElem_cons_succ, List.size_toArray, List.length_cons, List.length_nil, Nat.reduceLeDiff, g6, g9, q3, Nat.zero_add]
          refine ap_one hS8 hr68 (z := .int .i64 0) (bytes := 8) (by kernel_rfl) rfl (by omega) [.int .i64 (p.list.length : Nat)] rfl rfl (by omega) (by omega) hb8'.size ?_
          intro v10 w10 lay10 c10 hS10 hr10 ho10 ⟨cap10, hv10⟩ hb10
          have hb10' := hb8'.trans hb10
          have d10 := (ho10 9 (by omega)).2.trans d8
          have a10 := (ho10 9 (by omega)).1.trans a8
          have hF10 : FS lay10 c10 va vb vd v8 v10 E (R ++ [(i, p)]) := by
            refine ⟨hr28.congr (ho10 2 (by omega)).1 (ho10 2 (by omega)).2, hr38.congr (ho10 3 (by omega)).1 (ho10 3 (by omega)).2, hr48.congr (ho10 4 (by omega)).1 (ho10 4 (by omega)).2, ?_, ?_⟩
            · simpa [vN] using hr8.congr (ho10 5 (by omega)).1 (ho10 5 (by omega)).2
            · simpa [vN] using hr10
          repeat (refine ⟨by omega, ?_⟩)
          refine hK _ _ ?_
          clear hK K
          refine cwp_forget [0, 7, 8, 2, 3, 4, 5, 6, 9] fun ρ hL => ?_
          have g0X := hL 0 (by simp)
          have g7X := hL 7 (by simp)
          have g8X := hL 8 (by simp)
          have g2X := hL 2 (by simp)
          have g3X := hL 3 (by simp)
          have g4X := hL 4 (by simp)
          have g5X := hL 5 (by simp)
          have g6X := hL 6 (by simp)
          have g9X := hL 9 (by simp)
          clear hL
          simp only [upd_apply, Nat.reduceEqDiff, if_false, if_true, ↓reduceIte, g0, g7, g8, g2, g3, g4, g5, g9] at g0X g7X g8X g2X g3X g4X g5X g6X g9X
          have g0 := g0X
          clear g0X
          have g7 := g7X
          clear g7X
          have g8 := g8X
          clear g8X
          have g2 := g2X
          clear g2X
          have g3 := g3X
          clear g3X
          have g4 := g4X
          clear g4X
          have g5 := g5X
          clear g5X
          have g6 := g6X
          clear g6X
          have g9 := g9X
          clear g9X
          clear S1 hF1 hS8 hr8 ho8 hr68 hr28 hr38 hr48 hr10 ho10 hb8 hb10 hb8' hb1' d8 a8 q3 d1 a1 o1
          refine cwp_sr rfl fun K hK => ?_
          simp only [exL_plain, exL_guard, exL_nil, fx_move, fx_assign, fx_pick, fx_nilCheck, fx_load, fx_fieldAddr, fx_indexAddr, fx_binOp, fx_not, fx_convert, fx_slice, fx_extract, fx_lookup, fx_build, fx_len, fx_store, fx_alloc, fx_box, fx_makeMap, fx_makeSlice, fx_buildSlice, fx_mapUpdate, fx_append, fx_call, ev_tmp, ev_const, updo_some, updo_none, upd_apply, thenQ_normal, optK_some, optE_some, optE_none, ptrK_mk, intK_mk, boolK_mk, strK_mk, sliceK_mk, addrK_mk, tupK_mk, mapK_mk, sndK_mk, mkK_mk, cvK_int, ldN_zero, ldN_two, ldN_four, ldN_five, binK_add, binK_sub, binK_mul, binK_eql, binK_neq, binK_lss, binK_leq, binK_gtr, binK_geq, binK_seql, binK_sneq, binK_sadd, binK_beql, binK_bneq, binK_peql, binK_pneq, binK_leql, binK_lneq, lenK_slice, lenK_string, ex_slice, ex_pointer, inR_i64, inR_i32, gdK_bool, gdK_undef, Ty.all, Nat.reduceEqDiff, Nat.reduceAdd, Nat.reduceMul, if_false, if_true, ↓reduceIte, true_and, and_true, Int.toNat_natCast, Nat.add_zero, Nat.mul_one, Bool.false_eq_true, decide_eq_true_eq, decide_eq_false_iff_not, Option.isNone_some, Option.isNone_none, Option.isSome_some, Option.isSome_none, List.map_toArray, List.map_cons, List.map_nil, stK_eq, stR_int, stR_bool, stR_string, stR_pointer, stR_slice, exD_plain, exD_guard, exD_nil, stepD_true, stepD_false, needOp, pureOp, Bool.false_or, Bool.true_or, Bool.or_false, Bool.or_true, gval_succ, gval_zero, Bd.s22, Bd.s22b, Bd.s31, Bd.s30, Bd.s30b, Bd.s30e, Bd.s42, Bd.s66, Bd.s67, Bd.b49, Bd.b54, Bd.b79, Bd.b82, Bd.b77, Bd.b86, Bd.b74, decide_true, decide_false, reduceCtorEq, ne_eq, not_true_eq_false, not_false_eq_true, true_implies, false_implies, implies_true, cond_true, cond_false, Bool.not_true, Bool.not_false, stR_agg2, stR_agg4, stR_agg5, one_int, one_bool, one_string, one_pointer, one_slice, one_map, retK_mk, cells_agg, rowAt_alloc, setRow_alloc, ow_four, ow_five, List.getElem_toArray, List.getElem_cons_zero, List.getElem_cons_succ, List.size_toArray, List.length_cons, List.length_nil, Nat.reduceLeDiff]
          repeat (refine ⟨by omega, ?_⟩)
          refine hK _ _ ?_
          clear hK K
          refine cwp_forget [0, 7, 8, 2, 3, 4, 5, 6, 9, 10] fun ρ hL => ?_
          have g0X := hL 0 (by simp)
          have g7X := hL 7 (by simp)
          have g8X := hL 8 (by simp)
          have g2X := hL 2 (by simp)
          have g3X := hL 3 (by simp)
          have g4X := hL 4 (by simp)
          have g5X := hL 5 (by simp)
          have g6X := hL 6 (by simp)
          have g9X := hL 9 (by simp)
          have g10X := hL 10 (by simp)
          clear hL
          simp only [upd_apply, Nat.reduceEqDiff, if_false, if_true, ↓reduceIte, g0, g7, g8, g2, g3, g4, g5, g6, g9] at g0X g7X g8X g2X g3X g4X g5X g6X g9X g10X
          have g0 := g0X
          clear g0X
          have g7 := g7X
          clear g7X
          have g8 := g8X
          clear g8X
          have g2 := g2X
          clear g2X
          have g3 := g3X
          clear g3X
          have g4 := g4X
          clear g4X
          have g5 := g5X
          clear g5X
          have g6 := g6X
          clear g6X
          have g9 := g9X
          clear g9X
          have g10 := g10X
          clear g10X
          refine cwp_for (fun k ρ wr => k ≤ p.list.length ∧ ρ 0 = .slice (some ⟨tb, to, none⟩) T.length tcap ∧ ρ 7 = .int .i64 (i : Nat) ∧ ρ 8 = .int .i64 (j : Nat) ∧ ρ 9 = .pointer (some ⟨B9, 0, none⟩) ∧ ρ 10 = .int .i64 (k : Nat) ∧ Below w.heap.size w wr ∧ ∃ lay c, St w.heap.size wr lay c ∧ lay 9 = B9 ∧ c 9 = some (.inl (#[.bool p.app, .string p.key, .string p.val, .slice la p.list.length lcap], 54)) ∧ FS lay c (ρ 2) (ρ 3) (ρ 4) (ρ 5) (ρ 6) (E ++ (p.list.take k).map fun v => (i, p.key, v)) (R ++ [(i, p)]))
            (fun k => p.list.length - k) (fun ρ wr => ρ 0 = .slice (some ⟨tb, to, none⟩) T.length tcap ∧ ρ 7 = .int .i64 (i : Nat) ∧ ρ 8 = .int .i64 (j : Nat) ∧ Below w.heap.size w wr ∧ ∃ lay c, St w.heap.size wr lay c ∧ FS lay c (ρ 2) (ρ 3) (ρ 4) (ρ 5) (ρ 6) (E ++ p.list.map fun v => (i, p.key, v)) (R ++ [(i, p)])) 0 ?_ ?_ ?_
          · refine ⟨Nat.zero_le _, g0, g7, g8, g9, g10, hb10', lay10, c10, hS10, a10, d10, ?_⟩
            rw [g2, g3, g4, g5, g6]
            simpa using hF10
          · clear g0 g7 g8 g2 g3 g4 g5 g6 g9 g10 hb10' hS10 a10 d10 hF10 hb p0 p1 p2 p3 c1r hK5
            rintro k ρ wr ⟨hk, g0, g7, g8, g9, g10, hb, lay, c, hSt, a9, d9, hF⟩ K6 hK6
            obtain ⟨va, g2⟩ : ∃ x, ρ 2 = x := ⟨_, rfl⟩
            obtain ⟨vb, g3⟩ : ∃ x, ρ 3 = x := ⟨_, rfl⟩
            obtain ⟨vd, g4⟩ : ∃ x, ρ 4 = x := ⟨_, rfl⟩
            obtain ⟨ve, g5⟩ : ∃ x, ρ 5 = x := ⟨_, rfl⟩
            obtain ⟨vf, g6⟩ : ∃ x, ρ 6 = x := ⟨_, rfl⟩
            rw [g2, g3, g4, g5, g6] at hF
            have q3 := hSt.cell d9 3
            have q1 := hSt.cell d9 1
            rw [a9] at q3 q1
            simp only [List.getElem?_toArray, List.getElem?_cons_zero, List.getElem?_cons_succ] at q3 q1
            refine cwp_seq fun K hK => ?_
            refine cwp_sr rfl fun K hK => ?_
            simp only [exL_plain, exL_guard, exL_nil, fx_move, fx_assign, fx_pick, fx_nilCheck, fx_load, fx_fieldAddr, fx_indexAddr, fx_binOp, fx_not, fx_convert, fx_slice, fx_extract, fx_lookup, fx_build, fx_len, fx_store, fx_alloc, fx_box, fx_makeMap, fx_makeSlice, fx_buildSlice, fx_mapUpdate, fx_append, fx_call, ev_tmp, ev_const, updo_some, updo_none, upd_apply, thenQ_normal, optK_some, optE_some, optE_none, ptrK_mk, intK_mk, boolK_mk, strK_mk, sliceK_mk, addrK_mk, tupK_mk, mapK_mk, sndK_mk, mkK_mk, cvK_int, ldN_zero, ldN_two, ldN_four, ldN_five, binK_add, binK_sub, binK_mul, binK_eql, binK_neq, binK_lss, binK_leq, binK_gtr, binK_geq, binK_seql, binK_sneq, binK_sadd, binK_beql, binK_bneq, binK_peql, binK_pneq, binK_leql, binK_lneq, lenK_slice, lenK_string, ex_slice, ex_pointer, inR_i64, inR_i32, gdK_bool, gdK_undef, Ty.all, Nat.reduceEqDiff, Nat.reduceAdd, Nat.reduceMul, if_false, if_true, ↓reduceIte, true_and, and_true, Int.toNat_natCast, Nat.add_zero, Nat.mul_one, Bool.false_eq_true, decide_eq_true_eq, decide_eq_false_iff_not, Option.isNone_some, Option.isNone_none, Option.isSome_some, Option.isSome_none, List.map_toArray, List.map_cons, List.map_nil, stK_eq, stR_int, stR_bool, stR_string, stR_pointer, stR_slice, exD_plain, exD_guard, exD_nil, stepD_true, stepD_false, needOp, pureOp, Bool.false_or, Bool.true_or, Bool.or_false, Bool.or_true, gval_succ, gval_zero, Bd.s22, Bd.s22b, Bd.s31, Bd.s30, Bd.s30b, Bd.s30e, Bd.s42, Bd.s66, Bd.s67, Bd.b49, Bd.b54, Bd.b79, Bd.b82, Bd.b77, Bd.b86, Bd.b74, decide_true, decide_false, reduceCtorEq, ne_eq, not_true_eq_false, not_false_eq_true, true_implies, false_implies, implies_true, cond_true, cond_false, Bool.not_true, Bool.not_false, stR_agg2, stR_agg4, stR_agg5, one_int, one_bool, one_string, one_pointer, one_slice, one_map, retK_mk, cells_agg, rowAt_alloc, setRow_alloc, ow_four, ow_five, List.getElem_toArray, List.getElem_cons_zero, List.getElem_cons_succ, List.size_toArray, List.length_cons, List.length_nil, Nat.reduceLeDiff, g9, g10, q3, Nat.zero_add]
            repeat (refine ⟨by omega, ?_⟩)
            refine hK _ _ ?_
            clear hK K
            refine cwp_cond ?_
            simp only [exL_plain, exL_guard, exL_nil, fx_move, fx_assign, fx_pick, fx_nilCheck, fx_load, fx_fieldAddr, fx_indexAddr, fx_binOp, fx_not, fx_convert, fx_slice, fx_extract, fx_lookup, fx_build, fx_len, fx_store, fx_alloc, fx_box, fx_makeMap, fx_makeSlice, fx_buildSlice, fx_mapUpdate, fx_append, fx_call, ev_tmp, ev_const, updo_some, updo_none, upd_apply, thenQ_normal, optK_some, optE_some, optE_none, ptrK_mk, intK_mk, boolK_mk, strK_mk, sliceK_mk, addrK_mk, tupK_mk, mapK_mk, sndK_mk, mkK_mk, cvK_int, ldN_zero, ldN_two, ldN_four, ldN_five, binK_add, binK_sub, binK_mul, binK_eql, binK_neq, binK_lss, binK_leq, binK_gtr, binK_geq, binK_seql, binK_sneq, binK_sadd, binK_beql, binK_bneq, binK_peql, binK_pneq, binK_leql, binK_lneq, lenK_slice, lenK_string, ex_slice, ex_pointer, inR_i64, inR_i32, gdK_bool, gdK_undef, Ty.all, Nat.reduceEqDiff, Nat.reduceAdd, Nat.reduceMul, if_false, if_true, ↓reduceIte, true_and, and_true, Int.toNat_natCast, Nat.add_zero, Nat.mul_one, Bool.false_eq_true, decide_eq_true_eq, decide_eq_false_iff_not, Option.isNone_some, Option.isNone_none, Option.isSome_some, Option.isSome_none, List.map_toArray, List.map_cons, List.map_nil, stK_eq, stR_int, stR_bool, stR_string, stR_pointer, stR_slice, exD_plain, exD_guard, exD_nil, stepD_true, stepD_false, needOp, pureOp, Bool.false_or, Bool.true_or, Bool.or_false, Bool.or_true, gval_succ, gval_zero, Bd.s22, Bd.s22b, Bd.s31, Bd.s30, Bd.s30b, Bd.s30e, Bd.s42, Bd.s66, Bd.s67, Bd.b49, Bd.b54, Bd.b79, Bd.b82, Bd.b77, Bd.b86, Bd.b74, decide_true, decide_false, reduceCtorEq, ne_eq, not_true_eq_false, not_false_eq_true, true_implies, false_implies, implies_true, cond_true, cond_false, Bool.not_true, Bool.not_false, stR_agg2, stR_agg4, stR_agg5, one_int, one_bool, one_string, one_pointer, one_slice, one_map, retK_mk, cells_agg, rowAt_alloc, setRow_alloc, ow_four, ow_five, List.getElem_toArray, List.getElem_cons_zero, List.getElem_cons_succ, List.size_toArray, List.length_cons, List.length_nil, Nat.reduceLeDiff]
            refine ⟨fun hlt => cwp_skip (hK _ _ ?_), fun hge => cwp_exit (toJ ?_)⟩
            · clear hK K
              have hlk : k < p.list.length := by omega
              obtain ⟨lb, lo, rfl, hlc⟩ := hlf k hlk
              have hlb := cell_lt' hlc
              have hlc := below_up hb hlc
              have hts : (p.list.take (k + 1)).map (fun v => (i, p.key, v)) = (p.list.take k).map (fun v => (i, p.key, v)) ++ [(i, p.key, p.list.getD k ByteArray.empty)] := by
                have ex : p.list.getD k ByteArray.empty = p.list[k] := by simp [List.getD_eq_getElem?_getD, hlk]
                rw [ex, List.take_succ_eq_append_getElem hlk, List.map_append]
                rfl
              have hEl : (E ++ (p.list.take k).map fun v => (i, p.key, v)).length ≤ 4096 := by simp; omega
              have hK6 := fun ρ' w' => hK6 ρ' w' (k + 1)
              simp only [hts, ← List.append_assoc] at hK6
              generalize E ++ (p.list.take k).map (fun v => (i, p.key, v)) = E1 at *
              generalize R ++ [(i, p)] = R1 at *
              generalize p.list.getD k ByteArray.empty = x at *
              refine cwp_forget [0, 7, 8, 2, 3, 4, 5, 6, 9, 10] fun ρ hL => ?_
              have g0X := hL 0 (by simp)
              have g7X := hL 7 (by simp)
              have g8X := hL 8 (by simp)
              have g2X := hL 2 (by simp)
              have g3X := hL 3 (by simp)
              have g4X := hL 4 (by simp)
              have g5X := hL 5 (by simp)
              have g6X := hL 6 (by simp)
              have g9X := hL 9 (by simp)
              have g10X := hL 10 (by simp)
              clear hL
              simp only [upd_apply, Nat.reduceEqDiff, if_false, if_true, ↓reduceIte, g0, g7, g8, g2, g3, g4, g5, g6, g9, g10] at g0X g7X g8X g2X g3X g4X g5X g6X g9X g10X
              have g0 := g0X
              clear g0X
              have g7 := g7X
              clear g7X
              have g8 := g8X
              clear g8X
              have g2 := g2X
              clear g2X
              have g3 := g3X
              clear g3X
              have g4 := g4X
              clear g4X
              have g5 := g5X
              clear g5X
              have g6 := g6X
              clear g6X
              have g9 := g9X
              clear g9X
              have g10 := g10X
              clear g10X
              refine cwp_seq fun K7 hK7 => ?_
              refine cwp_block ?_
              refine cwp_sr rfl fun K hK => ?_
              simp only [exL_plain, exL_guard, exL_nil, fx_move, fx_assign, fx_pick, fx_nilCheck, fx_load, fx_fieldAddr, fx_indexAddr, fx_binOp, fx_not, fx_convert, fx_slice, fx_extract, fx_lookup, fx_build, fx_len, fx_store, fx_alloc, fx_box, fx_makeMap, fx_makeSlice, fx_buildSlice, fx_mapUpdate, fx_append, fx_call, ev_tmp, ev_const, updo_some, updo_none, upd_apply, thenQ_normal, optK_some, optE_some, optE_none, ptrK_mk, intK_mk, boolK_mk, strK_mk, sliceK_mk, addrK_mk, tupK_mk, mapK_mk, sndK_mk, mkK_mk, cvK_int, ldN_zero, ldN_two, ldN_four, ldN_five, binK_add, binK_sub, binK_mul, binK_eql, binK_neq, binK_lss, binK_leq, binK_gtr, binK_geq, binK_seql, binK_sneq, binK_sadd, binK_beql, binK_bneq, binK_peql, binK_pneq, binK_leql, binK_lneq, lenK_slice, lenK_string, ex_slice, ex_pointer, inR_i64, inR_i32, gdK_bool, gdK_undef, Ty.all, Nat.reduceEqDiff, Nat.reduceAdd, Nat.reduceMul, if_false, if_true, ↓reduceIte, true_and, and_true, Int.toNat_natCast, Nat.add_zero, Nat.mul_one, Bool.false_eq_true, decide_eq_true_eq, decide_eq_false_iff_not, Option.isNone_some, Option.isNone_none, Option.isSome_some, Option.isSome_none, List.map_toArray, List.map_cons, List.map_nil, stK_eq, stR_int, stR_bool, stR_string, stR_pointer, stR_slice, exD_plain, exD_guard, exD_nil, stepD_true, stepD_false, needOp, pureOp, Bool.false_or, Bool.true_or, Bool.or_false, Bool.or_true, gval_succ, gval_zero, Bd.s22, Bd.s22b, Bd.s31, Bd.s30, Bd.s30b, Bd.s30e, Bd.s42, Bd.s66, Bd.s67, Bd.b49, Bd.b54, Bd.b79, Bd.b82, Bd.b77, Bd.b86, Bd.b74, decide_true, decide_false, reduceCtorEq, ne_eq, not_true_eq_false, not_false_eq_true, true_implies, false_implies, implies_true, cond_true, cond_false, Bool.not_true, Bool.not_false, stR_agg2, stR_agg4, stR_agg5, one_int, one_bool, one_string, one_pointer, one_slice, one_map, retK_mk, cells_agg, rowAt_alloc, setRow_alloc, ow_four, ow_five, List.getElem_toArray, List.getElem_cons_zero, List.getElem_cons_succ, List.size_toArray, List.length_cons, List.length_nil, Nat.reduceLeDiff, g2, g9, q1, Nat.zero_add]
              refine ap_one hSt hF.r2 (z := .string ByteArray.empty) (bytes := 16) (by kernel_rfl) rfl (by omega) [.string p.key] rfl rfl (by omega) (by omega) hb.size ?_
              intro v2 w2 lay2 c2 hS2 hr2 ho2 ⟨cap2, hv2⟩ hb2
              have hb2' := hb.trans hb2
              have d2 := (ho2 9 (by omega)).2.trans d9
              have a2 := (ho2 9 (by omega)).1.trans a9
              have q3 := hS2.cell d2 3
              rw [a2] at q3
              simp only [List.getElem?_toArray, List.getElem?_cons_zero, List.getElem?_cons_succ] at q3
              have hlc2 := below_at hb2 hlb hlc
              repeat (refine ⟨by omega, ?_⟩)
              refine hK _ _ ?_
              clear hK K
              refine cwp_forget [0, 7, 8, 2, 3, 4, 5, 6, 9, 10] fun ρ hL => ?_
              have g0X := hL 0 (by simp)
              have g7X := hL 7 (by simp)
              have g8X := hL 8 (by simp)
              have g2X := hL 2 (by simp)
              have g3X := hL 3 (by simp)
              have g4X := hL 4 (by simp)
              have g5X := hL 5 (by simp)
              have g6X := hL 6 (by simp)
              have g9X := hL 9 (by simp)
              have g10X := hL 10 (by simp)
              clear hL
              simp only [upd_apply, Nat.reduceEqDiff, if_false, if_true, ↓reduceIte, g0, g7, g8, g3, g4, g5, g6, g9, g10] at g0X g7X g8X g2X g3X g4X g5X g6X g9X g10X
              have g0 := g0X
              clear g0X
              have g7 := g7X
              clear g7X
              have g8 := g8X
              clear g8X
              have g2 := g2X
              clear g2X
              have g3 := g3X
              clear g3X
              have g4 := g4X
              clear g4X
              have g5 := g5X
              clear g5X
              have g6 := g6X
              clear g6X
              have g9 := g9X
              clear g9X
              have g10 := g10X
              clear g10X
              refine cwp_sr rfl fun K hK => ?_
              simp only [exL_plain, exL_guard, exL_nil, fx_move, fx_assign, fx_pick, fx_nilCheck, fx_load, fx_fieldAddr, fx_indexAddr, fx_binOp, fx_not, fx_convert, fx_slice, fx_extract, fx_lookup, fx_build, fx_len, fx_store, fx_alloc, fx_box, fx_makeMap, fx_makeSlice, fx_buildSlice, fx_mapUpdate, fx_append, fx_call, ev_tmp, ev_const, updo_some, updo_none, upd_apply, thenQ_normal, optK_some, optE_some, optE_none, ptrK_mk, intK_mk, boolK_mk, strK_mk, sliceK_mk, addrK_mk, tupK_mk, mapK_mk, sndK_mk, mkK_mk, cvK_int, ldN_zero, ldN_two, ldN_four, ldN_five, binK_add, binK_sub, binK_mul, binK_eql, binK_neq, binK_lss, binK_leq, binK_gtr, binK_geq, binK_seql, binK_sneq, binK_sadd, binK_beql, binK_bneq, binK_peql, binK_pneq, binK_leql, binK_lneq, lenK_slice, lenK_string, ex_slice, ex_pointer, inR_i64, inR_i32, gdK_bool, gdK_undef, Ty.all, Nat.reduceEqDiff, Nat.reduceAdd, Nat.reduceMul, if_false, if_true, ↓reduceIte, true_and, and_true, Int.toNat_natCast, Nat.add_zero, Nat.mul_one, Bool.false_eq_true, decide_eq_true_eq, decide_eq_false_iff_not, Option.isNone_some, Option.isNone_none, Option.isSome_some, Option.isSome_none, List.map_toArray, List.map_cons, List.map_nil, stK_eq, stR_int, stR_bool, stR_string, stR_pointer, stR_slice, exD_plain, exD_guard, exD_nil, stepD_true, stepD_false, needOp, pureOp, Bool.false_or, Bool.true_or, Bool.or_false, Bool.or_true, gval_succ, gval_zero, Bd.s22, Bd.s22b, Bd.s31, Bd.s30, Bd.s30b, Bd.s30e, Bd.s42, Bd.s66, Bd.s67, Bd.b49, Bd.b54, Bd.b79, Bd.b82, Bd.b77, Bd.b86, Bd.b74, decide_true, decide_false, reduceCtorEq, ne_eq, not_true_eq_false, not_false_eq_true, true_implies, false_implies, implies_true, cond_true, cond_false, Bool.not_true, Bool.not_false, stR_agg2, stR_agg4, stR_agg5, one_int, one_bool, one_string, one_pointer, one_slice, one_map, retK_mk, cells_agg, rowAt_alloc, setRow_alloc, ow_four, ow_five, List.getElem_toArray, List.getElem_cons_zero, List.getElem_cons_succ, List.size_toArray, List.length_cons, List.length_nil, Nat.reduceLeDiff, g3, g9, g10, q3, hlc2, Nat.zero_add]
              refine ⟨by omega, by omega, ?_⟩
              refine ap_one hS2 (hF.r3.congr (ho2 3 (by omega)).1 (ho2 3 (by omega)).2) (z := .string ByteArray.empty) (bytes := 16) (by kernel_rfl) rfl (by omega) [.string x] rfl rfl (by omega) (by omega) hb2'.size ?_
              intro v3 w3 lay3 c3 hS3 hr3 ho3 ⟨cap3, hv3⟩ hb3
              have hb3' := hb2'.trans hb3
              repeat (refine ⟨by omega, ?_⟩)
              refine hK _ _ ?_
              clear hK K
              refine cwp_forget [0, 7, 8, 2, 3, 4, 5, 6, 9, 10] fun ρ hL => ?_
              have g0X := hL 0 (by simp)
              have g7X := hL 7 (by simp)
              have g8X := hL 8 (by simp)
              have g2X := hL 2 (by simp)
              have g3X := hL 3 (by simp)
              have g4X := hL 4 (by simp)
              have g5X := hL 5 (by simp)
              have g6X := hL 6 (by simp)
              have g9X := hL 9 (by simp)
              have g10X := hL 10 (by simp)
              clear hL
              simp only [upd_apply, Nat.reduceEqDiff, if_false, if_true, ↓reduceIte, g0, g7, g8, g2, g4, g5, g6, g9, g10] at g0X g7X g8X g2X g3X g4X g5X g6X g9X g10X
              have g0 := g0X
              clear g0X
              have g7 := g7X
              clear g7X
              have g8 := g8X
              clear g8X
              have g2 := g2X
              clear g2X
              have g3 := g3X
              clear g3X
              have g4 := g4X
              clear g4X
              have g5 := g5X
              clear g5X
              have g6 := g6X
              clear g6X
              have g9 := g9X
              clear g9X
              have g10 := g10X
              clear g10X
              refine cwp_region rfl ?_
              simp only [exL_plain, exL_guard, exL_nil, fx_move, fx_assign, fx_pick, fx_nilCheck, fx_load, fx_fieldAddr, fx_indexAddr, fx_binOp, fx_not, fx_convert, fx_slice, fx_extract, fx_lookup, fx_build, fx_len, fx_store, fx_alloc, fx_box, fx_makeMap, fx_makeSlice, fx_buildSlice, fx_mapUpdate, fx_append, fx_call, ev_tmp, ev_const, updo_some, updo_none, upd_apply, thenQ_normal, optK_some, optE_some, optE_none, ptrK_mk, intK_mk, boolK_mk, strK_mk, sliceK_mk, addrK_mk, tupK_mk, mapK_mk, sndK_mk, mkK_mk, cvK_int, ldN_zero, ldN_two, ldN_four, ldN_five, binK_add, binK_sub, binK_mul, binK_eql, binK_neq, binK_lss, binK_leq, binK_gtr, binK_geq, binK_seql, binK_sneq, binK_sadd, binK_beql, binK_bneq, binK_peql, binK_pneq, binK_leql, binK_lneq, lenK_slice, lenK_string, ex_slice, ex_pointer, inR_i64, inR_i32, gdK_bool, gdK_undef, Ty.all, Nat.reduceEqDiff, Nat.reduceAdd, Nat.reduceMul, if_false, if_true, ↓reduceIte, true_and, and_true, Int.toNat_natCast, Nat.add_zero, Nat.mul_one, Bool.false_eq_true, decide_eq_true_eq, decide_eq_false_iff_not, Option.isNone_some, Option.isNone_none, Option.isSome_some, Option.isSome_none, List.map_toArray, List.map_cons, List.map_nil, stK_eq, stR_int, stR_bool, stR_string, stR_pointer, stR_slice, exD_plain, exD_guard, exD_nil, stepD_true, stepD_false, needOp, pureOp, Bool.false_or, Bool.true_or, Bool.or_false, Bool.or_true, gval_succ, gval_zero, Bd.s22, Bd.s22b, Bd.s31, Bd.s30, Bd.s30b, Bd.s30e, Bd.s42, Bd.s66, Bd.s67, Bd.b49, Bd.b54, Bd.b79, Bd.b82, Bd.b77, Bd.b86, Bd.b74, decide_true, decide_false, reduceCtorEq, ne_eq, not_true_eq_false, not_false_eq_true, true_implies, false_implies, implies_true, cond_true, cond_false, Bool.not_true, Bool.not_false, stR_agg2, stR_agg4, stR_agg5, one_int, one_bool, one_string, one_pointer, one_slice, one_map, retK_mk, cells_agg, rowAt_alloc, setRow_alloc, ow_four, ow_five, List.getElem_toArray, List.getElem_cons_zero, List.getElem_cons_succ, List.size_toArray, List.length_cons, List.length_nil, Nat.reduceLeDiff, g4, g7]
              refine ap_one hS3 ((hF.r4.congr (ho2 4 (by omega)).1 (ho2 4 (by omega)).2).congr (ho3 4 (by omega)).1 (ho3 4 (by omega)).2) (z := .int .i64 0) (bytes := 8) (by kernel_rfl) rfl (by omega) [.int .i64 (i : Nat)] rfl rfl (by omega) (by omega) hb3'.size ?_
              intro v4 w4 lay4 c4 hS4 hr4 ho4 ⟨cap4, hv4⟩ hb4
              have hb4' := hb3'.trans hb4
              have hF4 : FS lay4 c4 v2 v3 v4 ve vf (E1 ++ [(i, p.key, x)]) R1 := by
                refine ⟨?_, ?_, ?_, ?_, ?_⟩
                · simpa [vS] using (hr2.congr (ho3 2 (by omega)).1 (ho3 2 (by omega)).2).congr (ho4 2 (by omega)).1 (ho4 2 (by omega)).2
                · simpa [vS] using hr3.congr (ho4 3 (by omega)).1 (ho4 3 (by omega)).2
                · simpa [vN] using hr4
                · exact ((hF.r5.congr (ho2 5 (by omega)).1 (ho2 5 (by omega)).2).congr (ho3 5 (by omega)).1 (ho3 5 (by omega)).2).congr (ho4 5 (by omega)).1 (ho4 5 (by omega)).2
                · exact ((hF.r6.congr (ho2 6 (by omega)).1 (ho2 6 (by omega)).2).congr (ho3 6 (by omega)).1 (ho3 6 (by omega)).2).congr (ho4 6 (by omega)).1 (ho4 6 (by omega)).2
              have a4 := (ho4 9 (by omega)).1.trans ((ho3 9 (by omega)).1.trans a2)
              have d4 := (ho4 9 (by omega)).2.trans ((ho3 9 (by omega)).2.trans d2)
              simp only [blkQ_normal, thenQ_normal]
              refine hK7 _ _ ?_
              refine cwp_forget [0, 7, 8, 2, 3, 4, 5, 6, 9, 10] fun ρ hL => ?_
              have g0X := hL 0 (by simp)
              have g7X := hL 7 (by simp)
              have g8X := hL 8 (by simp)
              have g2X := hL 2 (by simp)
              have g3X := hL 3 (by simp)
              have g4X := hL 4 (by simp)
              have g5X := hL 5 (by simp)
              have g6X := hL 6 (by simp)
              have g9X := hL 9 (by simp)
              have g10X := hL 10 (by simp)
              clear hL
              simp only [upd_apply, Nat.reduceEqDiff, if_false, if_true, ↓reduceIte, g0, g7, g8, g2, g3, g5, g6, g9, g10] at g0X g7X g8X g2X g3X g4X g5X g6X g9X g10X
              have g0 := g0X
              clear g0X
              have g7 := g7X
              clear g7X
              have g8 := g8X
              clear g8X
              have g2 := g2X
              clear g2X
              have g3 := g3X
              clear g3X
              have g4 := g4X
              clear g4X
              have g5 := g5X
              clear g5X
              have g6 := g6X
              clear g6X
              have g9 := g9X
              clear g9X
              have g10 := g10X
              clear g10X
              refine cwp_region rfl ?_
              simp only [exL_plain, exL_guard, exL_nil, fx_move, fx_assign, fx_pick, fx_nilCheck, fx_load, fx_fieldAddr, fx_indexAddr, fx_binOp, fx_not, fx_convert, fx_slice, fx_extract, fx_lookup, fx_build, fx_len, fx_store, fx_alloc, fx_box, fx_makeMap, fx_makeSlice, fx_buildSlice, fx_mapUpdate, fx_append, fx_call, ev_tmp, ev_const, updo_some, updo_none, upd_apply, thenQ_normal, optK_some, optE_some, optE_none, ptrK_mk, intK_mk, boolK_mk, strK_mk, sliceK_mk, addrK_mk, tupK_mk, mapK_mk, sndK_mk, mkK_mk, cvK_int, ldN_zero, ldN_two, ldN_four, ldN_five, binK_add, binK_sub, binK_mul, binK_eql, binK_neq, binK_lss, binK_leq, binK_gtr, binK_geq, binK_seql, binK_sneq, binK_sadd, binK_beql, binK_bneq, binK_peql, binK_pneq, binK_leql, binK_lneq, lenK_slice, lenK_string, ex_slice, ex_pointer, inR_i64, inR_i32, gdK_bool, gdK_undef, Ty.all, Nat.reduceEqDiff, Nat.reduceAdd, Nat.reduceMul, if_false, if_true, ↓reduceIte, true_and, and_true, Int.toNat_natCast, Nat.add_zero, Nat.mul_one, Bool.false_eq_true, decide_eq_true_eq, decide_eq_false_iff_not, Option.isNone_some, Option.isNone_none, Option.isSome_some, Option.isSome_none, List.map_toArray, List.map_cons, List.map_nil, stK_eq, stR_int, stR_bool, stR_string, stR_pointer, stR_slice, exD_plain, exD_guard, exD_nil, stepD_true, stepD_false, needOp, pureOp, Bool.false_or, Bool.true_or, Bool.or_false, Bool.or_true, gval_succ, gval_zero, Bd.s22, Bd.s22b, Bd.s31, Bd.s30, Bd.s30b, Bd.s30e, Bd.s42, Bd.s66, Bd.s67, Bd.b49, Bd.b54, Bd.b79, Bd.b82, Bd.b77, Bd.b86, Bd.b74, decide_true, decide_false, reduceCtorEq, ne_eq, not_true_eq_false, not_false_eq_true, true_implies, false_implies, implies_true, cond_true, cond_false, Bool.not_true, Bool.not_false, stR_agg2, stR_agg4, stR_agg5, one_int, one_bool, one_string, one_pointer, one_slice, one_map, retK_mk, cells_agg, rowAt_alloc, setRow_alloc, ow_four, ow_five, List.getElem_toArray, List.getElem_cons_zero, List.getElem_cons_succ, List.size_toArray, List.length_cons, List.length_nil, Nat.reduceLeDiff, g10]
              repeat (refine ⟨by omega, ?_⟩)
              refine hK6 _ _ ⟨hlk, ?_, ?_, ?_, ?_, ?_, hb4', lay4, c4, hS4, a4, d4, ?_⟩ (by omega)
              · simp only [exL_plain, exL_guard, exL_nil, fx_move, fx_assign, fx_pick, fx_nilCheck, fx_load, fx_fieldAddr, fx_indexAddr, fx_binOp, fx_not, fx_convert, fx_slice, fx_extract, fx_lookup, fx_build, fx_len, fx_store, fx_alloc, fx_box, fx_makeMap, fx_makeSlice, fx_buildSlice, fx_mapUpdate, fx_append, fx_call, ev_tmp, ev_const, updo_some, updo_none, upd_apply, thenQ_normal, optK_some, optE_some, optE_none, ptrK_mk, intK_mk, boolK_mk, strK_mk, sliceK_mk, addrK_mk, tupK_mk, mapK_mk, sndK_mk, mkK_mk, cvK_int, ldN_zero, ldN_two, ldN_four, ldN_five, binK_add, binK_sub, binK_mul, binK_eql, binK_neq, binK_lss, binK_leq, binK_gtr, binK_geq, binK_seql, binK_sneq, binK_sadd, binK_beql, binK_bneq, binK_peql, binK_pneq, binK_leql, binK_lneq, lenK_slice, lenK_string, ex_slice, ex_pointer, inR_i64, inR_i32, gdK_bool, gdK_undef, Ty.all, Nat.reduceEqDiff, Nat.reduceAdd, Nat.reduceMul, if_false, if_true, ↓reduceIte, true_and, and_true, Int.toNat_natCast, Nat.add_zero, Nat.mul_one, Bool.false_eq_true, decide_eq_true_eq, decide_eq_false_iff_not, Option.isNone_some, Option.isNone_none, Option.isSome_some, Option.isSome_none, List.map_toArray, List.map_cons, List.map_nil, stK_eq, stR_int, stR_bool, stR_string, stR_pointer, stR_slice, exD_plain, exD_guard, exD_nil, stepD_true, stepD_false, needOp, pureOp, Bool.false_or, Bool.true_or, Bool.or_false, Bool.or_true, gval_succ, gval_zero, Bd.s22, Bd.s22b, Bd.s31, Bd.s30, Bd.s30b, Bd.s30e, Bd.s42, Bd.s66, Bd.s67, Bd.b49, Bd.b54, Bd.b79, Bd.b82, Bd.b77, Bd.b86, Bd.b74, decide_true, decide_false, reduceCtorEq, ne_eq, not_true_eq_false, not_false_eq_true, true_implies, false_implies, implies_true, cond_true, cond_false, Bool.not_true, Bool.not_false, stR_agg2, stR_agg4, stR_agg5, one_int, one_bool, one_string, one_pointer, one_slice, one_map, retK_mk, cells_agg, rowAt_alloc, setRow_alloc, ow_four, ow_five, List.getElem_toArray, List.getElem_cons_zero, List.getElem_cons_succ, List.size_toArray, List.length_cons, List.length_nil, Nat.reduceLeDiff, g0]
              · simp only [exL_plain, exL_guard, exL_nil, fx_move, fx_assign, fx_pick, fx_nilCheck, fx_load, fx_fieldAddr, fx_indexAddr, fx_binOp, fx_not, fx_convert, fx_slice, fx_extract, fx_lookup, fx_build, fx_len, fx_store, fx_alloc, fx_box, fx_makeMap, fx_makeSlice, fx_buildSlice, fx_mapUpdate, fx_append, fx_call, ev_tmp, ev_const, updo_some, updo_none, upd_apply, thenQ_normal, optK_some, optE_some, optE_none, ptrK_mk, intK_mk, boolK_mk, strK_mk, sliceK_mk, addrK_mk, tupK_mk, mapK_mk, sndK_mk, mkK_mk, cvK_int, ldN_zero, ldN_two, ldN_four, ldN_five, binK_add, binK_sub, binK_mul, binK_eql, binK_neq, binK_lss, binK_leq, binK_gtr, binK_geq, binK_seql, binK_sneq, binK_sadd, binK_beql, binK_bneq, binK_peql, binK_pneq, binK_leql, binK_lneq, lenK_slice, lenK_string, ex_slice, ex_pointer, inR_i64, inR_i32, gdK_bool, gdK_undef, Ty.all, Nat.reduceEqDiff, Nat.reduceAdd, Nat.reduceMul, if_false, if_true, ↓reduceIte, true_and, and_true, Int.toNat_natCast, Nat.add_zero, Nat.mul_one, Bool.false_eq_true, decide_eq_true_eq, decide_eq_false_iff_not, Option.isNone_some, Option.isNone_none, Option.isSome_some, Option.isSome_none, List.map_toArray, List.map_cons, List.map_nil, stK_eq, stR_int, stR_bool, stR_string, stR_pointer, stR_slice, exD_plain, exD_guard, exD_nil, stepD_true, stepD_false, needOp, pureOp, Bool.false_or, Bool.true_or, Bool.or_false, Bool.or_true, gval_succ, gval_zero, Bd.s22, Bd.s22b, Bd.s31, Bd.s30, Bd.s30b, Bd.s30e, Bd.s42, Bd.s66, Bd.s67, Bd.b49, Bd.b54, Bd.b79, Bd.b82, Bd.b77, Bd.b86, Bd.b74, decide_true, decide_false, reduceCtorEq, ne_eq, not_true_eq_false, not_false_eq_true, true_implies, false_implies, implies_true, cond_true, cond_false, Bool.not_true, Bool.not_false, stR_agg2, stR_agg4, stR_agg5, one_int, one_bool, one_string, one_pointer, one_slice, one_map, retK_mk, cells_agg, rowAt_alloc, setRow_alloc, ow_four, ow_five, List.getElem_toArray, List.getElem_cons_zero, List.getElem_cons_succ, List.size_toArray, List.length_cons, List.length_nil, Nat.reduceLeDiff, g7]
              · simp only [exL_plain, exL_guard, exL_nil, fx_move, fx_assign, fx_pick, fx_nilCheck, fx_load, fx_fieldAddr, fx_indexAddr, fx_binOp, fx_not, fx_convert, fx_slice, fx_extract, fx_lookup, fx_build, fx_len, fx_store, fx_alloc, fx_box, fx_makeMap, fx_makeSlice, fx_buildSlice, fx_mapUpdate, fx_append, fx_call, ev_tmp, ev_const, updo_some, updo_none, upd_apply, thenQ_normal, optK_some, optE_some, optE_none, ptrK_mk, intK_mk, boolK_mk, strK_mk, sliceK_mk, addrK_mk, tupK_mk, mapK_mk, sndK_mk, mkK_mk, cvK_int, ldN_zero, ldN_two, ldN_four, ldN_five, binK_add, binK_sub, binK_mul, binK_eql, binK_neq, binK_lss, binK_leq, binK_gtr, binK_geq, binK_seql, binK_sneq, binK_sadd, binK_beql, binK_bneq, binK_peql, binK_pneq, binK_leql, binK_lneq, lenK_slice, lenK_string, ex_slice, ex_pointer, inR_i64, inR_i32, gdK_bool, gdK_undef, Ty.all, Nat.reduceEqDiff, Nat.reduceAdd, Nat.reduceMul, if_false, if_true, ↓reduceIte, true_and, and_true, Int.toNat_natCast, Nat.add_zero, Nat.mul_one, Bool.false_eq_true, decide_eq_true_eq, decide_eq_false_iff_not, Option.isNone_some, Option.isNone_none, Option.isSome_some, Option.isSome_none, List.map_toArray, List.map_cons, List.map_nil, stK_eq, stR_int, stR_bool, stR_string, stR_pointer, stR_slice, exD_plain, exD_guard, exD_nil, stepD_true, stepD_false, needOp, pureOp, Bool.false_or, Bool.true_or, Bool.or_false, Bool.or_true, gval_succ, gval_zero, Bd.s22, Bd.s22b, Bd.s31, Bd.s30, Bd.s30b, Bd.s30e, Bd.s42, Bd.s66, Bd.s67, Bd.b49, Bd.b54, Bd.b79, Bd.b82, Bd.b77, Bd.b86, Bd.b74, decide_true, decide_false, reduceCtorEq, ne_eq, not_true_eq_false, not_false_eq_true, true_implies, false_implies, implies_true, cond_true, cond_false, Bool.not_true, Bool.not_false, stR_agg2, stR_agg4, stR_agg5, one_int, one_bool, one_string, one_pointer, one_slice, one_map, retK_mk, cells_agg, rowAt_alloc, setRow_alloc, ow_four, ow_five, List.getElem_toArray, List.getElem_cons_zero, List.getElem_cons_succ, List.size_toArray, List.length_cons, List.length_nil, Nat.reduceLeDiff, g8]
              · simp only [exL_plain, exL_guard, exL_nil, fx_move, fx_assign, fx_pick, fx_nilCheck, fx_load, fx_fieldAddr, fx_indexAddr, fx_binOp, fx_not, fx_convert, fx_slice, fx_extract, fx_lookup, fx_build, fx_len, fx_store, fx_alloc, fx_box, fx_makeMap, fx_makeSlice, fx_buildSlice, fx_mapUpdate, fx_append, fx_call, ev_tmp, ev_const, updo_some, updo_none, upd_apply, thenQ_normal, optK_some, optE_some, optE_none, ptrK_mk, intK_mk, boolK_mk, strK_mk, sliceK_mk, addrK_mk, tupK_mk, mapK_mk, sndK_mk, mkK_mk, cvK_int, ldN_zero, ldN_two, ldN_four, ldN_five, binK_add, binK_sub, binK_mul, binK_eql, binK_neq, binK_lss, binK_leq, binK_gtr, binK_geq, binK_seql, binK_sneq, binK_sadd, binK_beql, binK_bneq, binK_peql, binK_pneq, binK_leql, binK_lneq, lenK_slice, lenK_string, ex_slice, ex_pointer, inR_i64, inR_i32, gdK_bool, gdK_undef, Ty.all, Nat.reduceEqDiff, Nat.reduceAdd, Nat.reduceMul, if_false, if_true, ↓reduceIte, true_and, and_true, Int.toNat_natCast, Nat.add_zero, Nat.mul_one, Bool.false_eq_true, decide_eq_true_eq, decide_eq_false_iff_not, Option.isNone_some, Option.isNone_none, Option.isSome_some, Option.isSome_none, List.map_toArray, List.map_cons, List.map_nil, stK_eq, stR_int, stR_bool, stR_string, stR_pointer, stR_slice, exD_plain, exD_guard, exD_nil, stepD_true, stepD_false, needOp, pureOp, Bool.false_or, Bool.true_or, Bool.or_false, Bool.or_true, gval_succ, gval_zero, Bd.s22, Bd.s22b, Bd.s31, Bd.s30, Bd.s30b, Bd.s30e, Bd.s42, Bd.s66, Bd.s67, Bd.b49, Bd.b54, Bd.b79, Bd.b82, Bd.b77, Bd.b86, Bd.b74, decide_true, decide_false, reduceCtorEq, ne_eq, not_true_eq_false, not_false_eq_true, true_implies, false_implies, implies_true, cond_true, cond_false, Bool.not_true, Bool.not_false, stR_agg2, stR_agg4, stR_agg5, one_int, one_bool, one_string, one_pointer, one_slice, one_map, retK_mk, cells_agg, rowAt_alloc, setRow_alloc, ow_four, ow_five, List.getElem_toArray, List.getElem_cons_zero, List.getElem_cons_succ, List.size_toArray, List.length_cons, List.length_nil, Nat.reduceLeDiff, g9]
              · simp only [exL_plain, exL_guard, exL_nil, fx_move, fx_assign, fx_pick, fx_nilCheck, fx_load, fx_fieldAddr, fx_indexAddr, fx_binOp, fx_not, fx_convert, fx_slice, fx_extract, fx_lookup, fx_build, fx_len, fx_store, fx_alloc, fx_box, fx_makeMap, fx_makeSlice, fx_buildSlice, fx_mapUpdate, fx_append, fx_call, ev_tmp, ev_const, updo_some, updo_none, upd_apply, thenQ_normal, optK_some, optE_some, optE_none, ptrK_mk, intK_mk, boolK_mk, strK_mk, sliceK_mk, addrK_mk, tupK_mk, mapK_mk, sndK_mk, mkK_mk, cvK_int, ldN_zero, ldN_two, ldN_four, ldN_five, binK_add, binK_sub, binK_mul, binK_eql, binK_neq, binK_lss, binK_leq, binK_gtr, binK_geq, binK_seql, binK_sneq, binK_sadd, binK_beql, binK_bneq, binK_peql, binK_pneq, binK_leql, binK_lneq, lenK_slice, lenK_string, ex_slice, ex_pointer, inR_i64, inR_i32, gdK_bool, gdK_undef, Ty.all, Nat.reduceEqDiff, Nat.reduceAdd, Nat.reduceMul, if_false, if_true, ↓reduceIte, true_and, and_true, Int.toNat_natCast, Nat.add_zero, Nat.mul_one, Bool.false_eq_true, decide_eq_true_eq, decide_eq_false_iff_not, Option.isNone_some, Option.isNone_none, Option.isSome_some, Option.isSome_none, List.map_toArray, List.map_cons, List.map_nil, stK_eq, stR_int, stR_bool, stR_string, stR_pointer, stR_slice, exD_plain, exD_guard, exD_nil, stepD_true, stepD_false, needOp, pureOp, Bool.false_or, Bool.true_or, Bool.or_false, Bool.or_true, gval_succ, gval_zero, Bd.s22, Bd.s22b, Bd.s31, Bd.s30, Bd.s30b, Bd.s30e, Bd.s42, Bd.s66, Bd.s67, Bd.b49, Bd.b54, Bd.b79, Bd.b82, Bd.b77, Bd.b86, Bd.b74, decide_true, decide_false, reduceCtorEq, ne_eq, not_true_eq_false, not_false_eq_true, true_implies, false_implies, implies_true, cond_true, cond_false, Bool.not_true, Bool.not_false, stR_agg2, stR_agg4, stR_agg5, one_int, one_bool, one_string, one_pointer, one_slice, one_map, retK_mk, cells_agg, rowAt_alloc, setRow_alloc, ow_four, ow_five, List.getElem_toArray, List.getElem_cons_zero, List.getElem_cons_succ, List.size_toArray, List.length_cons, List.length_nil, Nat.reduceLeDiff]
                rfl
              · simp only [upd_apply, Nat.reduceEqDiff, if_false, g2, g3, g4, g5, g6]
                exact hF4
            · obtain rfl : k = p.list.length := by omega
              refine ⟨?_, ?_, ?_, hb, lay, c, hSt, ?_⟩
              · simp only [exL_plain, exL_guard, exL_nil, fx_move, fx_assign, fx_pick, fx_nilCheck, fx_load, fx_fieldAddr, fx_indexAddr, fx_binOp, fx_not, fx_convert, fx_slice, fx_extract, fx_lookup, fx_build, fx_len, fx_store, fx_alloc, fx_box, fx_makeMap, fx_makeSlice, fx_buildSlice, fx_mapUpdate, fx_append, fx_call, ev_tmp, ev_const, updo_some, updo_none, upd_apply, thenQ_normal, optK_some, optE_some, optE_none, ptrK_mk, intK_mk, boolK_mk, strK_mk, sliceK_mk, addrK_mk, tupK_mk, mapK_mk, sndK_mk, mkK_mk, cvK_int, ldN_zero, ldN_two, ldN_four, ldN_five, binK_add, binK_sub, binK_mul, binK_eql, binK_neq, binK_lss, binK_leq, binK_gtr, binK_geq, binK_seql, binK_sneq, binK_sadd, binK_beql, binK_bneq, binK_peql, binK_pneq, binK_leql, binK_lneq, lenK_slice, lenK_string, ex_slice, ex_pointer, inR_i64, inR_i32, gdK_bool, gdK_undef, Ty.all, Nat.reduceEqDiff, Nat.reduceAdd, Nat.reduceMul, if_false, if_true, ↓reduceIte, true_and, and_true, Int.toNat_natCast, Nat.add_zero, Nat.mul_one, Bool.false_eq_true, decide_eq_true_eq, decide_eq_false_iff_not, Option.isNone_some, Option.isNone_none, Option.isSome_some, Option.isSome_none, List.map_toArray, List.map_cons, List.map_nil, stK_eq, stR_int, stR_bool, stR_string, stR_pointer, stR_slice, exD_plain, exD_guard, exD_nil, stepD_true, stepD_false, needOp, pureOp, Bool.false_or, Bool.true_or, Bool.or_false, Bool.or_true, gval_succ, gval_zero, Bd.s22, Bd.s22b, Bd.s31, Bd.s30, Bd.s30b, Bd.s30e, Bd.s42, Bd.s66, Bd.s67, Bd.b49, Bd.b54, Bd.b79, Bd.b82, Bd.b77, Bd.b86, Bd.b74, decide_true, decide_false, reduceCtorEq, ne_eq, not_true_eq_false, not_false_eq_true, true_implies, false_implies, implies_true, cond_true, cond_false, Bool.not_true, Bool.not_false, stR_agg2, stR_agg4, stR_agg5, one_int, one_bool, one_string, one_pointer, one_slice, one_map, retK_mk, cells_agg, rowAt_alloc, setRow_alloc, ow_four, ow_five, List.getElem_toArray, List.getElem_cons_zero, List.getElem_cons_succ, List.size_toArray, List.length_cons, List.length_nil, Nat.reduceLeDiff, g0]
              · simp only [exL_plain, exL_guard, exL_nil, fx_move, fx_assign, fx_pick, fx_nilCheck, fx_load, fx_fieldAddr, fx_indexAddr, fx_binOp, fx_not, fx_convert, fx_slice, fx_extract, fx_lookup, fx_build, fx_len, fx_store, fx_alloc, fx_box, fx_makeMap, fx_makeSlice, fx_buildSlice, fx_mapUpdate, fx_append, fx_call, ev_tmp, ev_const, updo_some, updo_none, upd_apply, thenQ_normal, optK_some, optE_some, optE_none, ptrK_mk, intK_mk, boolK_mk, strK_mk, sliceK_mk, addrK_mk, tupK_mk, mapK_mk, sndK_mk, mkK_mk, cvK_int, ldN_zero, ldN_two, ldN_four, ldN_five, binK_add, binK_sub, binK_mul, binK_eql, binK_neq, binK_lss, binK_leq, binK_gtr, binK_geq, binK_seql, binK_sneq, binK_sadd, binK_beql, binK_bneq, binK_peql, binK_pneq, binK_leql, binK_lneq, lenK_slice, lenK_string, ex_slice, ex_pointer, inR_i64, inR_i32, gdK_bool, gdK_undef, Ty.all, Nat.reduceEqDiff, Nat.reduceAdd, Nat.reduceMul, if_false, if_true, ↓reduceIte, true_and, and_true, Int.toNat_natCast, Nat.add_zero, Nat.mul_one, Bool.false_eq_true, decide_eq_true_eq, decide_eq_false_iff_not, Option.isNone_some, Option.isNone_none, Option.isSome_some, Option.isSome_none, List.map_toArray, List.map_cons, List.map_nil, stK_eq, stR_int, stR_bool, stR_string, stR_pointer, stR_slice, exD_plain, exD_guard, exD_nil, stepD_true, stepD_false, needOp, pureOp, Bool.false_or, Bool.true_or, Bool.or_false, Bool.or_true, gval_succ, gval_zero, Bd.s22, Bd.s22b, Bd.s31, Bd.s30, Bd.s30b, Bd.s30e, Bd.s42, Bd.s66, Bd.s67, Bd.b49, Bd.b54, Bd.b79, Bd.b82, Bd.b77, Bd.b86, Bd.b74, decide_true, decide_false, reduceCtorEq, ne_eq, not_true_eq_false, not_false_eq_true, true_implies, false_implies, implies_true, cond_true, cond_false, Bool.not_true, Bool.not_false, stR_agg2, stR_agg4, stR_agg5, one_int, one_bool, one_string, one_pointer, one_slice, one_map, retK_mk, cells_agg, rowAt_alloc, setRow_alloc, ow_four, ow_five, List.getElem_toArray, List.getElem_cons_zero, List.getElem_cons_succ, List.size_toArray, List.length_cons, List.length_nil, Nat.reduceLeDiff, g7]
              · simp only [exL_plain, exL_guard, exL_nil, fx_move, fx_assign, fx_pick, fx_nilCheck, fx_load, fx_fieldAddr, fx_indexAddr, fx_binOp, fx_not, fx_convert, fx_slice, fx_extract, fx_lookup, fx_build, fx_len, fx_store, fx_alloc, fx_box, fx_makeMap, fx_makeSlice, fx_buildSlice, fx_mapUpdate, fx_append, fx_call, ev_tmp, ev_const, updo_some, updo_none, upd_apply, thenQ_normal, optK_some, optE_some, optE_none, ptrK_mk, intK_mk, boolK_mk, strK_mk, sliceK_mk, addrK_mk, tupK_mk, mapK_mk, sndK_mk, mkK_mk, cvK_int, ldN_zero, ldN_two, ldN_four, ldN_five, binK_add, binK_sub, binK_mul, binK_eql, binK_neq, binK_lss, binK_leq, binK_gtr, binK_geq, binK_seql, binK_sneq, binK_sadd, binK_beql, binK_bneq, binK_peql, binK_pneq, binK_leql, binK_lneq, lenK_slice, lenK_string, ex_slice, ex_pointer, inR_i64, inR_i32, gdK_bool, gdK_undef, Ty.all, Nat.reduceEqDiff, Nat.reduceAdd, Nat.reduceMul, if_false, if_true, ↓reduceIte, true_and, and_true, Int.toNat_natCast, Nat.add_zero, Nat.mul_one, Bool.false_eq_true, decide_eq_true_eq, decide_eq_false_iff_not, Option.isNone_some, Option.isNone_none, Option.isSome_some, Option.isSome_none, List.map_toArray, List.map_cons, List.map_nil, stK_eq, stR_int, stR_bool, stR_string, stR_pointer, stR_slice, exD_plain, exD_guard, exD_nil, stepD_true, stepD_false, needOp, pureOp, Bool.false_or, Bool.true_or, Bool.or_false, Bool.or_true, gval_succ, gval_zero, Bd.s22, Bd.s22b, Bd.s31, Bd.s30, Bd.s30b, Bd.s30e, Bd.s42, Bd.s66, Bd.s67, Bd.b49, Bd.b54, Bd.b79, Bd.b82, Bd.b77, Bd.b86, Bd.b74, decide_true, decide_false, reduceCtorEq, ne_eq, not_true_eq_false, not_false_eq_true, true_implies, false_implies, implies_true, cond_true, cond_false, Bool.not_true, Bool.not_false, stR_agg2, stR_agg4, stR_agg5, one_int, one_bool, one_string, one_pointer, one_slice, one_map, retK_mk, cells_agg, rowAt_alloc, setRow_alloc, ow_four, ow_five, List.getElem_toArray, List.getElem_cons_zero, List.getElem_cons_succ, List.size_toArray, List.length_cons, List.length_nil, Nat.reduceLeDiff, g8]
              · simp only [upd_apply, Nat.reduceEqDiff, if_false, g2, g3, g4, g5, g6]
                rw [List.take_length] at hF
                exact hF
          · clear g0 g7 g8 g2 g3 g4 g5 g6 g9 g10
            rintro ρ wr ⟨g0, g7, g8, hb, hS⟩
            simp only [blkQ_normal, thenQ_normal]
            exact hK5 _ _ g0 g7 g8 hb hS
        · obtain rfl : j = t.ops.length := by omega
          refine ⟨?_, ?_, hb, ?_⟩
          · simp only [exL_plain, exL_guard, exL_nil, fx_move, fx_assign, fx_pick, fx_nilCheck, fx_load, fx_fieldAddr, fx_indexAddr, fx_binOp, fx_not, fx_convert, fx_slice, fx_extract, fx_lookup, fx_build, fx_len, fx_store, fx_alloc, fx_box, fx_makeMap, fx_makeSlice, fx_buildSlice, fx_mapUpdate, fx_append, fx_call, ev_tmp, ev_const, updo_some, updo_none, upd_apply, thenQ_normal, optK_some, optE_some, optE_none, ptrK_mk, intK_mk, boolK_mk, strK_mk, sliceK_mk, addrK_mk, tupK_mk, mapK_mk, sndK_mk, mkK_mk, cvK_int, ldN_zero, ldN_two, ldN_four, ldN_five, binK_add, binK_sub, binK_mul, binK_eql, binK_neq, binK_lss, binK_leq, binK_gtr, binK_geq, binK_seql, binK_sneq, binK_sadd, binK_beql, binK_bneq, binK_peql, binK_pneq, binK_leql, binK_lneq, lenK_slice, lenK_string, ex_slice, ex_pointer, inR_i64, inR_i32, gdK_bool, gdK_undef, Ty.all, Nat.reduceEqDiff, Nat.reduceAdd, Nat.reduceMul, if_false, if_true, ↓reduceIte, true_and, and_true, Int.toNat_natCast, Nat.add_zero, Nat.mul_one, Bool.false_eq_true, decide_eq_true_eq, decide_eq_false_iff_not, Option.isNone_some, Option.isNone_none, Option.isSome_some, Option.isSome_none, List.map_toArray, List.map_cons, List.map_nil, stK_eq, stR_int, stR_bool, stR_string, stR_pointer, stR_slice, exD_plain, exD_guard, exD_nil, stepD_true, stepD_false, needOp, pureOp, Bool.false_or, Bool.true_or, Bool.or_false, Bool.or_true, gval_succ, gval_zero, Bd.s22, Bd.s22b, Bd.s31, Bd.s30, Bd.s30b, Bd.s30e, Bd.s42, Bd.s66, Bd.s67, Bd.b49, Bd.b54, Bd.b79, Bd.b82, Bd.b77, Bd.b86, Bd.b74, decide_true, decide_false, reduceCtorEq, ne_eq, not_true_eq_false, not_false_eq_true, true_implies, false_implies, implies_true, cond_true, cond_false, Bool.not_true, Bool.not_false, stR_agg2, stR_agg4, stR_agg5, one_int, one_bool, one_string, one_pointer, one_slice, one_map, retK_mk, cells_agg, rowAt_alloc, setRow_alloc, ow_four, ow_five, List.getElem_toArray, List.getElem_cons_zero, List.getElem_cons_succ, List.size_toArray, List.length_cons, List.length_nil, Nat.reduceLeDiff, g0]
          · simp only [exL_plain, exL_guard, exL_nil, fx_move, fx_assign, fx_pick, fx_nilCheck, fx_load, fx_fieldAddr, fx_indexAddr, fx_binOp, fx_not, fx_convert, fx_slice, fx_extract, fx_lookup, fx_build, fx_len, fx_store, fx_alloc, fx_box, fx_makeMap, fx_makeSlice, fx_buildSlice, fx_mapUpdate, fx_append, fx_call, ev_tmp, ev_const, updo_some, updo_none, upd_apply, thenQ_normal, optK_some, optE_some, optE_none, ptrK_mk, intK_mk, boolK_mk, strK_mk, sliceK_mk, addrK_mk, tupK_mk, mapK_mk, sndK_mk, mkK_mk, cvK_int, ldN_zero, ldN_two, ldN_four, ldN_five, binK_add, binK_sub, binK_mul, binK_eql, binK_neq, binK_lss, binK_leq, binK_gtr, binK_geq, binK_seql, binK_sneq, binK_sadd, binK_beql, binK_bneq, binK_peql, binK_pneq, binK_leql, binK_lneq, lenK_slice, lenK_string, ex_slice, ex_pointer, inR_i64, inR_i32, gdK_bool, gdK_undef, Ty.all, Nat.reduceEqDiff, Nat.reduceAdd, Nat.reduceMul, if_false, if_true, ↓reduceIte, true_and, and_true, Int.toNat_natCast, Nat.add_zero, Nat.mul_one, Bool.false_eq_true, decide_eq_true_eq, decide_eq_false_iff_not, Option.isNone_some, Option.isNone_none, Option.isSome_some, Option.isSome_none, List.map_toArray, List.map_cons, List.map_nil, stK_eq, stR_int, stR_bool, stR_string, stR_pointer, stR_slice, exD_plain, exD_guard, exD_nil, stepD_true, stepD_false, needOp, pureOp, Bool.false_or, Bool.true_or, Bool.or_false, Bool.or_true, gval_succ, gval_zero, Bd.s22, Bd.s22b, Bd.s31, Bd.s30, Bd.s30b, Bd.s30e, Bd.s42, Bd.s66, Bd.s67, Bd.b49, Bd.b54, Bd.b79, Bd.b82, Bd.b77, Bd.b86, Bd.b74, decide_true, decide_false, reduceCtorEq, ne_eq, not_true_eq_false, not_false_eq_true, true_implies, false_implies, implies_true, cond_true, cond_false, Bool.not_true, Bool.not_false, stR_agg2, stR_agg4, stR_agg5, one_int, one_bool, one_string, one_pointer, one_slice, one_map, retK_mk, cells_agg, rowAt_alloc, setRow_alloc, ow_four, ow_five, List.getElem_toArray, List.getElem_cons_zero, List.getElem_cons_succ, List.size_toArray, List.length_cons, List.length_nil, Nat.reduceLeDiff, g7]
          · rw [hn2] at hS
            simp only [upd_apply, Nat.reduceEqDiff, if_false, g2, g3, g4, g5, g6]
            exact hS
      · clear g0 g7 g2 g3 g4 g5 g6 g8 hb hS
        rintro ρ wr ⟨g0, g7, hb, hS⟩
        refine hK2 _ _ ?_
        refine cwp_region rfl ?_
        simp only [exL_plain, exL_guard, exL_nil, fx_move, fx_assign, fx_pick, fx_nilCheck, fx_load, fx_fieldAddr, fx_indexAddr, fx_binOp, fx_not, fx_convert, fx_slice, fx_extract, fx_lookup, fx_build, fx_len, fx_store, fx_alloc, fx_box, fx_makeMap, fx_makeSlice, fx_buildSlice, fx_mapUpdate, fx_append, fx_call, ev_tmp, ev_const, updo_some, updo_none, upd_apply, thenQ_normal, optK_some, optE_some, optE_none, ptrK_mk, intK_mk, boolK_mk, strK_mk, sliceK_mk, addrK_mk, tupK_mk, mapK_mk, sndK_mk, mkK_mk, cvK_int, ldN_zero, ldN_two, ldN_four, ldN_five, binK_add, binK_sub, binK_mul, binK_eql, binK_neq, binK_lss, binK_leq, binK_gtr, binK_geq, binK_seql, binK_sneq, binK_sadd, binK_beql, binK_bneq, binK_peql, binK_pneq, binK_leql, binK_lneq, lenK_slice, lenK_string, ex_slice, ex_pointer, inR_i64, inR_i32, gdK_bool, gdK_undef, Ty.all, Nat.reduceEqDiff, Nat.reduceAdd, Nat.reduceMul, if_false, if_true, ↓reduceIte, true_and, and_true, Int.toNat_natCast, Nat.add_zero, Nat.mul_one, Bool.false_eq_true, decide_eq_true_eq, decide_eq_false_iff_not, Option.isNone_some, Option.isNone_none, Option.isSome_some, Option.isSome_none, List.map_toArray, List.map_cons, List.map_nil, stK_eq, stR_int, stR_bool, stR_string, stR_pointer, stR_slice, exD_plain, exD_guard, exD_nil, stepD_true, stepD_false, needOp, pureOp, Bool.false_or, Bool.true_or, Bool.or_false, Bool.or_true, gval_succ, gval_zero, Bd.s22, Bd.s22b, Bd.s31, Bd.s30, Bd.s30b, Bd.s30e, Bd.s42, Bd.s66, Bd.s67, Bd.b49, Bd.b54, Bd.b79, Bd.b82, Bd.b77, Bd.b86, Bd.b74, decide_true, decide_false, reduceCtorEq, ne_eq, not_true_eq_false, not_false_eq_true, true_implies, false_implies, implies_true, cond_true, cond_false, Bool.not_true, Bool.not_false, stR_agg2, stR_agg4, stR_agg5, one_int, one_bool, one_string, one_pointer, one_slice, one_map, retK_mk, cells_agg, rowAt_alloc, setRow_alloc, ow_four, ow_five, List.getElem_toArray, List.getElem_cons_zero, List.getElem_cons_succ, List.size_toArray, List.length_cons, List.length_nil, Nat.reduceLeDiff, g7]
        repeat (refine ⟨by omega, ?_⟩)
        refine hK1 _ _ (i + 1) ⟨hlt', ?_, ?_, hb, ?_⟩ (by omega)
        · simp only [exL_plain, exL_guard, exL_nil, fx_move, fx_assign, fx_pick, fx_nilCheck, fx_load, fx_fieldAddr, fx_indexAddr, fx_binOp, fx_not, fx_convert, fx_slice, fx_extract, fx_lookup, fx_build, fx_len, fx_store, fx_alloc, fx_box, fx_makeMap, fx_makeSlice, fx_buildSlice, fx_mapUpdate, fx_append, fx_call, ev_tmp, ev_const, updo_some, updo_none, upd_apply, thenQ_normal, optK_some, optE_some, optE_none, ptrK_mk, intK_mk, boolK_mk, strK_mk, sliceK_mk, addrK_mk, tupK_mk, mapK_mk, sndK_mk, mkK_mk, cvK_int, ldN_zero, ldN_two, ldN_four, ldN_five, binK_add, binK_sub, binK_mul, binK_eql, binK_neq, binK_lss, binK_leq, binK_gtr, binK_geq, binK_seql, binK_sneq, binK_sadd, binK_beql, binK_bneq, binK_peql, binK_pneq, binK_leql, binK_lneq, lenK_slice, lenK_string, ex_slice, ex_pointer, inR_i64, inR_i32, gdK_bool, gdK_undef, Ty.all, Nat.reduceEqDiff, Nat.reduceAdd, Nat.reduceMul, if_false, if_true, ↓reduceIte, true_and, and_true, Int.toNat_natCast, Nat.add_zero, Nat.mul_one, Bool.false_eq_true, decide_eq_true_eq, decide_eq_false_iff_not, Option.isNone_some, Option.isNone_none, Option.isSome_some, Option.isSome_none, List.map_toArray, List.map_cons, List.map_nil, stK_eq, stR_int, stR_bool, stR_string, stR_pointer, stR_slice, exD_plain, exD_guard, exD_nil, stepD_true, stepD_false, needOp, pureOp, Bool.false_or, Bool.true_or, Bool.or_false, Bool.or_true, gval_succ, gval_zero, Bd.s22, Bd.s22b, Bd.s31, Bd.s30, Bd.s30b, Bd.s30e, Bd.s42, Bd.s66, Bd.s67, Bd.b49, Bd.b54, Bd.b79, Bd.b82, Bd.b77, Bd.b86, Bd.b74, decide_true, decide_false, reduceCtorEq, ne_eq, not_true_eq_false, not_false_eq_true, true_implies, false_implies, implies_true, cond_true, cond_false, Bool.not_true, Bool.not_false, stR_agg2, stR_agg4, stR_agg5, one_int, one_bool, one_string, one_pointer, one_slice, one_map, retK_mk, cells_agg, rowAt_alloc, setRow_alloc, ow_four, ow_five, List.getElem_toArray, List.getElem_cons_zero, List.getElem_cons_succ, List.size_toArray, List.length_cons, List.length_nil, Nat.reduceLeDiff, g0]
        · simp only [exL_plain, exL_guard, exL_nil, fx_move, fx_assign, fx_pick, fx_nilCheck, fx_load, fx_fieldAddr, fx_indexAddr, fx_binOp, fx_not, fx_convert, fx_slice, fx_extract, fx_lookup, fx_build, fx_len, fx_store, fx_alloc, fx_box, fx_makeMap, fx_makeSlice, fx_buildSlice, fx_mapUpdate, fx_append, fx_call, ev_tmp, ev_const, updo_some, updo_none, upd_apply, thenQ_normal, optK_some, optE_some, optE_none, ptrK_mk, intK_mk, boolK_mk, strK_mk, sliceK_mk, addrK_mk, tupK_mk, mapK_mk, sndK_mk, mkK_mk, cvK_int, ldN_zero, ldN_two, ldN_four, ldN_five, binK_add, binK_sub, binK_mul, binK_eql, binK_neq, binK_lss, binK_leq, binK_gtr, binK_geq, binK_seql, binK_sneq, binK_sadd, binK_beql, binK_bneq, binK_peql, binK_pneq, binK_leql, binK_lneq, lenK_slice, lenK_string, ex_slice, ex_pointer, inR_i64, inR_i32, gdK_bool, gdK_undef, Ty.all, Nat.reduceEqDiff, Nat.reduceAdd, Nat.reduceMul, if_false, if_true, ↓reduceIte, true_and, and_true, Int.toNat_natCast, Nat.add_zero, Nat.mul_one, Bool.false_eq_true, decide_eq_true_eq, decide_eq_false_iff_not, Option.isNone_some, Option.isNone_none, Option.isSome_some, Option.isSome_none, List.map_toArray, List.map_cons, List.map_nil, stK_eq, stR_int, stR_bool, stR_string, stR_pointer, stR_slice, exD_plain, exD_guard, exD_nil, stepD_true, stepD_false, needOp, pureOp, Bool.false_or, Bool.true_or, Bool.or_false, Bool.or_true, gval_succ, gval_zero, Bd.s22, Bd.s22b, Bd.s31, Bd.s30, Bd.s30b, Bd.s30e, Bd.s42, Bd.s66, Bd.s67, Bd.b49, Bd.b54, Bd.b79, Bd.b82, Bd.b77, Bd.b86, Bd.b74, decide_true, decide_false, reduceCtorEq, ne_eq, not_true_eq_false, not_false_eq_true, true_implies, false_implies, implies_true, cond_true, cond_false, Bool.not_true, Bool.not_false, stR_agg2, stR_agg4, stR_agg5, one_int, one_bool, one_string, one_pointer, one_slice, one_map, retK_mk, cells_agg, rowAt_alloc, setRow_alloc, ow_four, ow_five, List.getElem_toArray, List.getElem_cons_zero, List.getElem_cons_succ, List.size_toArray, List.length_cons, List.length_nil, Nat.reduceLeDiff]
          rfl
        · simp only [upd_apply, Nat.reduceEqDiff, if_false]
          exact hS
    · obtain rfl : i = T.length := by omega
      refine ⟨hb, ?_⟩
      rw [fpre_end] at hS
      simp only [upd_apply, Nat.reduceEqDiff, if_false, g2, g3, g4, g5, g6]
      exact hS
  · clear h0 h2 h3 h4 h5 h6 h7
    rintro ρ wr ⟨hb, lay, c, hSt, hF⟩
    refine hK _ _ ?_
    clear hK K
    obtain ⟨va, g2⟩ : ∃ x, ρ 2 = x := ⟨_, rfl⟩
    obtain ⟨vb, g3⟩ : ∃ x, ρ 3 = x := ⟨_, rfl⟩
    obtain ⟨vd, g4⟩ : ∃ x, ρ 4 = x := ⟨_, rfl⟩
    obtain ⟨ve, g5⟩ : ∃ x, ρ 5 = x := ⟨_, rfl⟩
    obtain ⟨vf, g6⟩ : ∃ x, ρ 6 = x := ⟨_, rfl⟩
    rw [g2, g3, g4, g5, g6] at hF
    refine cwp_sr rfl fun K hK => ?_
    simp only [exL_plain, exL_guard, exL_nil, fx_move, fx_assign, fx_pick, fx_nilCheck, fx_load, fx_fieldAddr, fx_indexAddr, fx_binOp, fx_not, fx_convert, fx_slice, fx_extract, fx_lookup, fx_build, fx_len, fx_store, fx_alloc, fx_box, fx_makeMap, fx_makeSlice, fx_buildSlice, fx_mapUpdate, fx_append, fx_call, ev_tmp, ev_const, updo_some, updo_none, upd_apply, thenQ_normal, optK_some, optE_some, optE_none, ptrK_mk, intK_mk, boolK_mk, strK_mk, sliceK_mk, addrK_mk, tupK_mk, mapK_mk, sndK_mk, mkK_mk, cvK_int, ldN_zero, ldN_two, ldN_four, ldN_five, binK_add, binK_sub, binK_mul, binK_eql, binK_neq, binK_lss, binK_leq, binK_gtr, binK_geq, binK_seql, binK_sneq, binK_sadd, binK_beql, binK_bneq, binK_peql, binK_pneq, binK_leql, binK_lneq, lenK_slice, lenK_string, ex_slice, ex_pointer, inR_i64, inR_i32, gdK_bool, gdK_undef, Ty.all, Nat.reduceEqDiff, Nat.reduceAdd, Nat.reduceMul, if_false, if_true, ↓reduceIte, true_and, and_true, Int.toNat_natCast, Nat.add_zero, Nat.mul_one, Bool.false_eq_true, decide_eq_true_eq, decide_eq_false_iff_not, Option.isNone_some, Option.isNone_none, Option.isSome_some, Option.isSome_none, List.map_toArray, List.map_cons, List.map_nil, stK_eq, stR_int, stR_bool, stR_string, stR_pointer, stR_slice, exD_plain, exD_guard, exD_nil, stepD_true, stepD_false, needOp, pureOp, Bool.false_or, Bool.true_or, Bool.or_false, Bool.or_true, gval_succ, gval_zero, Bd.s22, Bd.s22b, Bd.s31, Bd.s30, Bd.s30b, Bd.s30e, Bd.s42, Bd.s66, Bd.s67, Bd.b49, Bd.b54, Bd.b79, Bd.b82, Bd.b77, Bd.b86, Bd.b74, decide_true, decide_false, reduceCtorEq, ne_eq, not_true_eq_false, not_false_eq_true, true_implies, false_implies, implies_true, cond_true, cond_false, Bool.not_true, Bool.not_false, stR_agg2, stR_agg4, stR_agg5, one_int, one_bool, one_string, one_pointer, one_slice, one_map, retK_mk, cells_agg, rowAt_alloc, setRow_alloc, ow_four, ow_five, List.getElem_toArray, List.getElem_cons_zero, List.getElem_cons_succ, List.size_toArray, List.length_cons, List.length_nil, Nat.reduceLeDiff, g2, g3, g4, g5, g6]
    repeat (refine ⟨by omega, ?_⟩)
    refine hK _ _ ?_
    clear hK K
    refine cwp_ret ?_
    refine endQ_five (a := 2) (b := 3) (c := 4) (d := 5) (e := 6) (va := va) (vb := vb) (vc := vd) (vd := ve) (ve := vf) rfl (by simp only [exL_plain, exL_guard, exL_nil, fx_move, fx_assign, fx_pick, fx_nilCheck, fx_load, fx_fieldAddr, fx_indexAddr, fx_binOp, fx_not, fx_convert, fx_slice, fx_extract, fx_lookup, fx_build, fx_len, fx_store, fx_alloc, fx_box, fx_makeMap, fx_makeSlice, fx_buildSlice, fx_mapUpdate, fx_append, fx_call, ev_tmp, ev_const, updo_some, updo_none, upd_apply, thenQ_normal, optK_some, optE_some, optE_none, ptrK_mk, intK_mk, boolK_mk, strK_mk, sliceK_mk, addrK_mk, tupK_mk, mapK_mk, sndK_mk, mkK_mk, cvK_int, ldN_zero, ldN_two, ldN_four, ldN_five, binK_add, binK_sub, binK_mul, binK_eql, binK_neq, binK_lss, binK_leq, binK_gtr, binK_geq, binK_seql, binK_sneq, binK_sadd, binK_beql, binK_bneq, binK_peql, binK_pneq, binK_leql, binK_lneq, lenK_slice, lenK_string, ex_slice, ex_pointer, inR_i64, inR_i32, gdK_bool, gdK_undef, Ty.all, Nat.reduceEqDiff, Nat.reduceAdd, Nat.reduceMul, if_false, if_true, ↓reduceIte, true_and, and_true, Int.toNat_natCast, Nat.add_zero, Nat.mul_one, Bool.false_eq_true, decide_eq_true_eq, decide_eq_false_iff_not, Option.isNone_some, Option.isNone_none, Option.isSome_some, Option.isSome_none, List.map_toArray, List.map_cons, List.map_nil, stK_eq, stR_int, stR_bool, stR_string, stR_pointer, stR_slice, exD_plain, exD_guard, exD_nil, stepD_true, stepD_false, needOp, pureOp, Bool.false_or, Bool.true_or, Bool.or_false, Bool.or_true, gval_succ, gval_zero, Bd.s22, Bd.s22b, Bd.s31, Bd.s30, Bd.s30b, Bd.s30e, Bd.s42, Bd.s66, Bd.s67, Bd.b49, Bd.b54, Bd.b79, Bd.b82, Bd.b77, Bd.b86, Bd.b74, decide_true, decide_false, reduceCtorEq, ne_eq, not_true_eq_false, not_false_eq_true, true_implies, false_implies, implies_true, cond_true, cond_false, Bool.not_true, Bool.not_false, stR_agg2, stR_agg4, stR_agg5, one_int, one_bool, one_string, one_pointer, one_slice, one_map, retK_mk, cells_agg, rowAt_alloc, setRow_alloc, ow_four, ow_five, List.getElem_toArray, List.getElem_cons_zero, List.getElem_cons_succ, List.size_toArray, List.length_cons, List.length_nil, Nat.reduceLeDiff, g2]) (by simp only [exL_plain, exL_guard, exL_nil, fx_move, fx_assign, fx_pick, fx_nilCheck, fx_load, fx_fieldAddr, fx_indexAddr, fx_binOp, fx_not, fx_convert, fx_slice, fx_extract, fx_lookup, fx_build, fx_len, fx_store, fx_alloc, fx_box, fx_makeMap, fx_makeSlice, fx_buildSlice, fx_mapUpdate, fx_append, fx_call, ev_tmp, ev_const, updo_some, updo_none, upd_apply, thenQ_normal, optK_some, optE_some, optE_none, ptrK_mk, intK_mk, boolK_mk, strK_mk, sliceK_mk, addrK_mk, tupK_mk, mapK_mk, sndK_mk, mkK_mk, cvK_int, ldN_zero, ldN_two, ldN_four, ldN_five, binK_add, binK_sub, binK_mul, binK_eql, binK_neq, binK_lss, binK_leq, binK_gtr, binK_geq, binK_seql, binK_sneq, binK_sadd, binK_beql, binK_bneq, binK_peql, binK_pneq, binK_leql, binK_lneq, lenK_slice, lenK_string, ex_slice, ex_pointer, inR_i64, inR_i32, gdK_bool, gdK_undef, Ty.all, Nat.reduceEqDiff, Nat.reduceAdd, Nat.reduceMul, if_false, if_true, ↓reduceIte, true_and, and_true, Int.toNat_natCast, Nat.add_zero, Nat.mul_one, Bool.false_eq_true, decide_eq_true_eq, decide_eq_false_iff_not, Option.isNone_some, Option.isNone_none, Option.isSome_some, Option.isSome_none, List.map_toArray, List.map_cons, List.map_nil, stK_eq, stR_int, stR_bool, stR_string, stR_pointer, stR_slice, exD_plain, exD_guard, exD_nil, stepD_true, stepD_false, needOp, pureOp, Bool.false_or, Bool.true_or, Bool.or_false, Bool.or_true, gval_succ, gval_zero, Bd.s22, Bd.s22b, Bd.s31, Bd.s30, Bd.s30b, Bd.s30e, Bd.s42, Bd.s66, Bd.s67, Bd.b49, Bd.b54, Bd.b79, Bd.b82, Bd.b77, Bd.b86, Bd.b74, decide_true, decide_false, reduceCtorEq, ne_eq, not_true_eq_false, not_false_eq_true, true_implies, false_implies, implies_true, cond_true, cond_false, Bool.not_true, Bool.not_false, stR_agg2, stR_agg4, stR_agg5, one_int, one_bool, one_string, one_pointer, one_slice, one_map, retK_mk, cells_agg, rowAt_alloc, setRow_alloc, ow_four, ow_five, List.getElem_toArray, List.getElem_cons_zero, List.getElem_cons_succ, List.size_toArray, List.length_cons, List.length_nil, Nat.reduceLeDiff, g3]) (by simp only [exL_plain, exL_guard, exL_nil, fx_move, fx_assign, fx_pick, fx_nilCheck, fx_load, fx_fieldAddr, fx_indexAddr, fx_binOp, fx_not, fx_convert, fx_slice, fx_extract, fx_lookup, fx_build, fx_len, fx_store, fx_alloc, fx_box, fx_makeMap, fx_makeSlice, fx_buildSlice, fx_mapUpdate, fx_append, fx_call, ev_tmp, ev_const, updo_some, updo_none, upd_apply, thenQ_normal, optK_some, optE_some, optE_none, ptrK_mk, intK_mk, boolK_mk, strK_mk, sliceK_mk, addrK_mk, tupK_mk, mapK_mk, sndK_mk, mkK_mk, cvK_int, ldN_zero, ldN_two, ldN_four, ldN_five, binK_add, binK_sub, binK_mul, binK_eql, binK_neq, binK_lss, binK_leq, binK_gtr, binK_geq, binK_seql, binK_sneq, binK_sadd, binK_beql, binK_bneq, binK_peql, binK_pneq, binK_leql, binK_lneq, lenK_slice, lenK_string, ex_slice, ex_pointer, inR_i64, inR_i32, gdK_bool, gdK_undef, Ty.all, Nat.reduceEqDiff, Nat.reduceAdd, Nat.reduceMul, if_false, if_true, ↓reduceIte, true_and, and_true, Int.toNat_natCast, Nat.add_zero, Nat.mul_one, Bool.false_eq_true, decide_eq_true_eq, decide_eq_false_iff_not, Option.isNone_some, Option.isNone_none, Option.isSome_some, Option.isSome_none, List.map_toArray, List.map_cons, List.map_nil, stK_eq, stR_int, stR_bool, stR_string, stR_pointer, stR_slice, exD_plain, exD_guard, exD_nil, stepD_true, stepD_false, needOp, pureOp, Bool.false_or, Bool.true_or, Bool.or_false, Bool.or_true, gval_succ, gval_zero, Bd.s22, Bd.s22b, Bd.s31, Bd.s30, Bd.s30b, Bd.s30e, Bd.s42, Bd.s66, Bd.s67, Bd.b49, Bd.b54, Bd.b79, Bd.b82, Bd.b77, Bd.b86, Bd.b74, decide_true, decide_false, reduceCtorEq, ne_eq, not_true_eq_false, not_false_eq_true, true_implies, false_implies, implies_true, cond_true, cond_false, Bool.not_true, Bool.not_false, stR_agg2, stR_agg4, stR_agg5, one_int, one_bool, one_string, one_pointer, one_slice, one_map, retK_mk, cells_agg, rowAt_alloc, setRow_alloc, ow_four, ow_five, List.getElem_toArray, List.getElem_cons_zero, List.getElem_cons_succ, List.size_toArray, List.length_cons, List.length_nil, Nat.reduceLeDiff, g4]) (by simp only [exL_plain, exL_guard, exL_nil, fx_move, fx_assign, fx_pick, fx_nilCheck, fx_load, fx_fieldAddr, fx_indexAddr, fx_binOp, fx_not, fx_convert, fx_slice, fx_extract, fx_lookup, fx_build, fx_len, fx_store, fx_alloc, fx_box, fx_makeMap, fx_makeSlice, fx_buildSlice, fx_mapUpdate, fx_append, fx_call, ev_tmp, ev_const, updo_some, updo_none, upd_apply, thenQ_normal, optK_some, optE_some, optE_none, ptrK_mk, intK_mk, boolK_mk, strK_mk, sliceK_mk, addrK_mk, tupK_mk, mapK_mk, sndK_mk, mkK_mk, cvK_int, ldN_zero, ldN_two, ldN_four, ldN_five, binK_add, binK_sub, binK_mul, binK_eql, binK_neq, binK_lss, binK_leq, binK_gtr, binK_geq, binK_seql, binK_sneq, binK_sadd, binK_beql, binK_bneq, binK_peql, binK_pneq, binK_leql, binK_lneq, lenK_slice, lenK_string, ex_slice, ex_pointer, inR_i64, inR_i32, gdK_bool, gdK_undef, Ty.all, Nat.reduceEqDiff, Nat.reduceAdd, Nat.reduceMul, if_false, if_true, ↓reduceIte, true_and, and_true, Int.toNat_natCast, Nat.add_zero, Nat.mul_one, Bool.false_eq_true, decide_eq_true_eq, decide_eq_false_iff_not, Option.isNone_some, Option.isNone_none, Option.isSome_some, Option.isSome_none, List.map_toArray, List.map_cons, List.map_nil, stK_eq, stR_int, stR_bool, stR_string, stR_pointer, stR_slice, exD_plain, exD_guard, exD_nil, stepD_true, stepD_false, needOp, pureOp, Bool.false_or, Bool.true_or, Bool.or_false, Bool.or_true, gval_succ, gval_zero, Bd.s22, Bd.s22b, Bd.s31, Bd.s30, Bd.s30b, Bd.s30e, Bd.s42, Bd.s66, Bd.s67, Bd.b49, Bd.b54, Bd.b79, Bd.b82, Bd.b77, Bd.b86, Bd.b74, decide_true, decide_false, reduceCtorEq, ne_eq, not_true_eq_false, not_false_eq_true, true_implies, false_implies, implies_true, cond_true, cond_false, Bool.not_true, Bool.not_false, stR_agg2, stR_agg4, stR_agg5, one_int, one_bool, one_string, one_pointer, one_slice, one_map, retK_mk, cells_agg, rowAt_alloc, setRow_alloc, ow_four, ow_five, List.getElem_toArray, List.getElem_cons_zero, List.getElem_cons_succ, List.size_toArray, List.length_cons, List.length_nil, Nat.reduceLeDiff, g5]) (by simp only [exL_plain, exL_guard, exL_nil, fx_move, fx_assign, fx_pick, fx_nilCheck, fx_load, fx_fieldAddr, fx_indexAddr, fx_binOp, fx_not, fx_convert, fx_slice, fx_extract, fx_lookup, fx_build, fx_len, fx_store, fx_alloc, fx_box, fx_makeMap, fx_makeSlice, fx_buildSlice, fx_mapUpdate, fx_append, fx_call, ev_tmp, ev_const, updo_some, updo_none, upd_apply, thenQ_normal, optK_some, optE_some, optE_none, ptrK_mk, intK_mk, boolK_mk, strK_mk, sliceK_mk, addrK_mk, tupK_mk, mapK_mk, sndK_mk, mkK_mk, cvK_int, ldN_zero, ldN_two, ldN_four, ldN_five, binK_add, binK_sub, binK_mul, binK_eql, binK_neq, binK_lss, binK_leq, binK_gtr, binK_geq, binK_seql, binK_sneq, binK_sadd, binK_beql, binK_bneq, binK_peql, binK_pneq, binK_leql, binK_lneq, lenK_slice, lenK_string, ex_slice, ex_pointer, inR_i64, inR_i32, gdK_bool, gdK_undef, Ty.all, Nat.reduceEqDiff, Nat.reduceAdd, Nat.reduceMul, if_false, if_true, ↓reduceIte, true_and, and_true, Int.toNat_natCast, Nat.add_zero, Nat.mul_one, Bool.false_eq_true, decide_eq_true_eq, decide_eq_false_iff_not, Option.isNone_some, Option.isNone_none, Option.isSome_some, Option.isSome_none, List.map_toArray, List.map_cons, List.map_nil, stK_eq, stR_int, stR_bool, stR_string, stR_pointer, stR_slice, exD_plain, exD_guard, exD_nil, stepD_true, stepD_false, needOp, pureOp, Bool.false_or, Bool.true_or, Bool.or_false, Bool.or_true, gval_succ, gval_zero, Bd.s22, Bd.s22b, Bd.s31, Bd.s30, Bd.s30b, Bd.s30e, Bd.s42, Bd.s66, Bd.s67, Bd.b49, Bd.b54, Bd.b79, Bd.b82, Bd.b77, Bd.b86, Bd.b74, decide_true, decide_false, reduceCtorEq, ne_eq, not_true_eq_false, not_false_eq_true, true_implies, false_implies, implies_true, cond_true, cond_false, Bool.not_true, Bool.not_false, stR_agg2, stR_agg4, stR_agg5, one_int, one_bool, one_string, one_pointer, one_slice, one_map, retK_mk, cells_agg, rowAt_alloc, setRow_alloc, ow_four, ow_five, List.getElem_toArray, List.getElem_cons_zero, List.getElem_cons_succ, List.size_toArray, List.length_cons, List.length_nil, Nat.reduceLeDiff, g6]) ?_
    exact ⟨_, _, _, _, _, rfl, hb, hF.r2.vals hSt, hF.r3.vals hSt, hF.r4.vals hSt, hF.r5.vals hSt, hF.r6.vals hSt⟩
end Go.Proofs.Qxb6001346a
