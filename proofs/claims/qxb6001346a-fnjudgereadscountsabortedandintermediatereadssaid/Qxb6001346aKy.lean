/-
  (*txnCheck).key.
-/
import Derived.Test.Qxb6001346aCm
namespace Go.Proofs.Qxb6001346a
open Fw Go.RowKit
set_option linter.unusedSimpArgs false
set_option linter.unusedVariables false

set_option maxHeartbeats 4000000 in
theorem key_calls {N : Nat} {w : World} {lay : Nat → Nat} {c : Nat → Option AO} {tv cv : Value} {fd : Nat → Option Value} {S : CSt} {C : Array Value} {ov wv iv rv lv : Value} {xo : List Value}
    (h : CM N w lay c tv cv fd S C ov wv iv rv lv xo) (name : ByteArray) (hKl : S.K.length ≤ 100000) :
    Calls Try.prog 44 #[.pointer (some ⟨lay 0, 0, none⟩), .string name] w (fun e w' => ∃ lay' c' C' ov' xo' j, e = .returned (kptr lay' j) ∧ keyIdx (addKey S.K name) name = some j ∧
      CM N w' lay' c' tv cv fd { S with K := addKey S.K name } C' ov' wv iv rv lv xo' ∧ Below N w w' ∧ (∀ r, r < 40 → r ≠ 6 → lay' r = lay r) ∧ (∀ r, r < 40 → r ≠ 0 → r ≠ 1 → r ≠ 6 → c' r = c r)) := by
  obtain ⟨hC36, C0, C1, C2, C3, C4, C5, C6, C7⟩ := h.cc
  have cell := h.st.cell h.hc
  have c2 := (cell 2).trans C2
  have hmap := h.st.map h.keys.1
  have hfs := findS_keys lay name S.K 0
  refine calls_of_cwp Try.func44 rfl Try.ntmps44 (by simp) ?_
  have h0 : argE #[.pointer (some ⟨lay 0, 0, none⟩), .string name] 0 = .pointer (some ⟨lay 0, 0, none⟩) := rfl
  have h1 : argE #[.pointer (some ⟨lay 0, 0, none⟩), .string name] 1 = .string name := rfl
  generalize argE #[.pointer (some ⟨lay 0, 0, none⟩), .string name] = ρ at h0 h1 ⊢
  refine cwp_sr rfl fun K hK => ?_
  simp only [exL_plain, exL_guard, exL_nil, fx_move, fx_assign, fx_pick, fx_nilCheck, fx_load, fx_fieldAddr, fx_indexAddr, fx_binOp, fx_not, fx_convert, fx_slice, fx_extract, fx_lookup, fx_build, fx_len, fx_store, fx_alloc, fx_box, fx_makeMap, fx_makeSlice, fx_buildSlice, fx_mapUpdate, fx_append, fx_call, ev_tmp, ev_const, updo_some, updo_none, upd_apply, thenQ_normal, optK_some, optE_some, optE_none, ptrK_mk, intK_mk, boolK_mk, strK_mk, sliceK_mk, addrK_mk, tupK_mk, mapK_mk, sndK_mk, mkK_mk, cvK_int, ldN_zero, ldN_two, ldN_four, ldN_five, binK_add, binK_sub, binK_mul, binK_eql, binK_neq, binK_lss, binK_leq, binK_gtr, binK_geq, binK_seql, binK_sneq, binK_sadd, binK_beql, binK_bneq, binK_peql, binK_pneq, binK_leql, binK_lneq, lenK_slice, lenK_string, ex_slice, ex_pointer, inR_i64, inR_i32, gdK_bool, gdK_undef, Ty.all, Nat.reduceEqDiff, Nat.reduceAdd, Nat.reduceMul, if_false, if_true, ↓reduceIte, true_and, and_true, Int.toNat_natCast, Nat.add_zero, Nat.mul_one, Bool.false_eq_true, decide_eq_true_eq, decide_eq_false_iff_not, Option.isNone_some, Option.isNone_none, Option.isSome_some, Option.isSome_none, List.map_toArray, List.map_cons, List.map_nil, stK_eq, stR_int, stR_bool, stR_string, stR_pointer, stR_slice, exD_plain, exD_guard, exD_nil, stepD_true, stepD_false, needOp, pureOp, Bool.false_or, Bool.true_or, Bool.or_false, Bool.or_true, gval_succ, gval_zero, Bd.s22, Bd.s22b, Bd.s31, Bd.s30, Bd.s30b, Bd.s30e, Bd.s42, Bd.s66, Bd.s67, Bd.b49, Bd.b54, Bd.b79, Bd.b82, Bd.b77, Bd.b86, Bd.b74, decide_true, decide_false, reduceCtorEq, ne_eq, not_true_eq_false, not_false_eq_true, true_implies, false_implies, implies_true, cond_true, cond_false, Bool.not_true, Bool.not_false, stR_agg2, stR_agg4, stR_agg5, one_int, one_bool, one_string, one_pointer, one_slice, one_map, retK_mk, cells_agg, rowAt_alloc, setRow_alloc, ow_four, ow_five, List.size_toArray, List.length_cons, List.length_nil, Nat.reduceLeDiff]
  repeat (refine ⟨by omega, ?_⟩)
  refine hK _ _ ?_
  clear hK K
  cases hj : keyIdx S.K name with
  | some j =>
    rw [hj] at hfs
    simp only [Option.map_some, kptr, Nat.zero_add] at hfs
    refine cwp_sr rfl fun K hK => ?_
    simp only [exL_plain, exL_guard, exL_nil, fx_move, fx_assign, fx_pick, fx_nilCheck, fx_load, fx_fieldAddr, fx_indexAddr, fx_binOp, fx_not, fx_convert, fx_slice, fx_extract, fx_lookup, fx_build, fx_len, fx_store, fx_alloc, fx_box, fx_makeMap, fx_makeSlice, fx_buildSlice, fx_mapUpdate, fx_append, fx_call, ev_tmp, ev_const, updo_some, updo_none, upd_apply, thenQ_normal, optK_some, optE_some, optE_none, ptrK_mk, intK_mk, boolK_mk, strK_mk, sliceK_mk, addrK_mk, tupK_mk, mapK_mk, sndK_mk, mkK_mk, cvK_int, ldN_zero, ldN_two, ldN_four, ldN_five, binK_add, binK_sub, binK_mul, binK_eql, binK_neq, binK_lss, binK_leq, binK_gtr, binK_geq, binK_seql, binK_sneq, binK_sadd, binK_beql, binK_bneq, binK_peql, binK_pneq, binK_leql, binK_lneq, lenK_slice, lenK_string, ex_slice, ex_pointer, inR_i64, inR_i32, gdK_bool, gdK_undef, Ty.all, Nat.reduceEqDiff, Nat.reduceAdd, Nat.reduceMul, if_false, if_true, ↓reduceIte, true_and, and_true, Int.toNat_natCast, Nat.add_zero, Nat.mul_one, Bool.false_eq_true, decide_eq_true_eq, decide_eq_false_iff_not, Option.isNone_some, Option.isNone_none, Option.isSome_some, Option.isSome_none, List.map_toArray, List.map_cons, List.map_nil, stK_eq, stR_int, stR_bool, stR_string, stR_pointer, stR_slice, exD_plain, exD_guard, exD_nil, stepD_true, stepD_false, needOp, pureOp, Bool.false_or, Bool.true_or, Bool.or_false, Bool.or_true, gval_succ, gval_zero, Bd.s22, Bd.s22b, Bd.s31, Bd.s30, Bd.s30b, Bd.s30e, Bd.s42, Bd.s66, Bd.s67, Bd.b49, Bd.b54, Bd.b79, Bd.b82, Bd.b77, Bd.b86, Bd.b74, decide_true, decide_false, reduceCtorEq, ne_eq, not_true_eq_false, not_false_eq_true, true_implies, false_implies, implies_true, cond_true, cond_false, Bool.not_true, Bool.not_false, stR_agg2, stR_agg4, stR_agg5, one_int, one_bool, one_string, one_pointer, one_slice, one_map, retK_mk, cells_agg, rowAt_alloc, setRow_alloc, ow_four, ow_five, List.size_toArray, List.length_cons, List.length_nil, Nat.reduceLeDiff, h0, h1, c2, hmap, hfs, Nat.zero_add, Option.getD_some]
    repeat (refine ⟨by omega, ?_⟩)
    refine hK _ _ ?_
    clear hK K
    refine cwp_seq fun K hK => ?_
    refine cwp_sr rfl fun K hK => ?_
    simp only [exL_plain, exL_guard, exL_nil, fx_move, fx_assign, fx_pick, fx_nilCheck, fx_load, fx_fieldAddr, fx_indexAddr, fx_binOp, fx_not, fx_convert, fx_slice, fx_extract, fx_lookup, fx_build, fx_len, fx_store, fx_alloc, fx_box, fx_makeMap, fx_makeSlice, fx_buildSlice, fx_mapUpdate, fx_append, fx_call, ev_tmp, ev_const, updo_some, updo_none, upd_apply, thenQ_normal, optK_some, optE_some, optE_none, ptrK_mk, intK_mk, boolK_mk, strK_mk, sliceK_mk, addrK_mk, tupK_mk, mapK_mk, sndK_mk, mkK_mk, cvK_int, ldN_zero, ldN_two, ldN_four, ldN_five, binK_add, binK_sub, binK_mul, binK_eql, binK_neq, binK_lss, binK_leq, binK_gtr, binK_geq, binK_seql, binK_sneq, binK_sadd, binK_beql, binK_bneq, binK_peql, binK_pneq, binK_leql, binK_lneq, lenK_slice, lenK_string, ex_slice, ex_pointer, inR_i64, inR_i32, gdK_bool, gdK_undef, Ty.all, Nat.reduceEqDiff, Nat.reduceAdd, Nat.reduceMul, if_false, if_true, ↓reduceIte, true_and, and_true, Int.toNat_natCast, Nat.add_zero, Nat.mul_one, Bool.false_eq_true, decide_eq_true_eq, decide_eq_false_iff_not, Option.isNone_some, Option.isNone_none, Option.isSome_some, Option.isSome_none, List.map_toArray, List.map_cons, List.map_nil, stK_eq, stR_int, stR_bool, stR_string, stR_pointer, stR_slice, exD_plain, exD_guard, exD_nil, stepD_true, stepD_false, needOp, pureOp, Bool.false_or, Bool.true_or, Bool.or_false, Bool.or_true, gval_succ, gval_zero, Bd.s22, Bd.s22b, Bd.s31, Bd.s30, Bd.s30b, Bd.s30e, Bd.s42, Bd.s66, Bd.s67, Bd.b49, Bd.b54, Bd.b79, Bd.b82, Bd.b77, Bd.b86, Bd.b74, decide_true, decide_false, reduceCtorEq, ne_eq, not_true_eq_false, not_false_eq_true, true_implies, false_implies, implies_true, cond_true, cond_false, Bool.not_true, Bool.not_false, stR_agg2, stR_agg4, stR_agg5, one_int, one_bool, one_string, one_pointer, one_slice, one_map, retK_mk, cells_agg, rowAt_alloc, setRow_alloc, ow_four, ow_five, List.size_toArray, List.length_cons, List.length_nil, Nat.reduceLeDiff]
    repeat (refine ⟨by omega, ?_⟩)
    refine hK _ _ ?_
    clear hK K
    refine cwp_cond ?_
    simp only [exL_plain, exL_guard, exL_nil, fx_move, fx_assign, fx_pick, fx_nilCheck, fx_load, fx_fieldAddr, fx_indexAddr, fx_binOp, fx_not, fx_convert, fx_slice, fx_extract, fx_lookup, fx_build, fx_len, fx_store, fx_alloc, fx_box, fx_makeMap, fx_makeSlice, fx_buildSlice, fx_mapUpdate, fx_append, fx_call, ev_tmp, ev_const, updo_some, updo_none, upd_apply, thenQ_normal, optK_some, optE_some, optE_none, ptrK_mk, intK_mk, boolK_mk, strK_mk, sliceK_mk, addrK_mk, tupK_mk, mapK_mk, sndK_mk, mkK_mk, cvK_int, ldN_zero, ldN_two, ldN_four, ldN_five, binK_add, binK_sub, binK_mul, binK_eql, binK_neq, binK_lss, binK_leq, binK_gtr, binK_geq, binK_seql, binK_sneq, binK_sadd, binK_beql, binK_bneq, binK_peql, binK_pneq, binK_leql, binK_lneq, lenK_slice, lenK_string, ex_slice, ex_pointer, inR_i64, inR_i32, gdK_bool, gdK_undef, Ty.all, Nat.reduceEqDiff, Nat.reduceAdd, Nat.reduceMul, if_false, if_true, ↓reduceIte, true_and, and_true, Int.toNat_natCast, Nat.add_zero, Nat.mul_one, Bool.false_eq_true, decide_eq_true_eq, decide_eq_false_iff_not, Option.isNone_some, Option.isNone_none, Option.isSome_some, Option.isSome_none, List.map_toArray, List.map_cons, List.map_nil, stK_eq, stR_int, stR_bool, stR_string, stR_pointer, stR_slice, exD_plain, exD_guard, exD_nil, stepD_true, stepD_false, needOp, pureOp, Bool.false_or, Bool.true_or, Bool.or_false, Bool.or_true, gval_succ, gval_zero, Bd.s22, Bd.s22b, Bd.s31, Bd.s30, Bd.s30b, Bd.s30e, Bd.s42, Bd.s66, Bd.s67, Bd.b49, Bd.b54, Bd.b79, Bd.b82, Bd.b77, Bd.b86, Bd.b74, decide_true, decide_false, reduceCtorEq, ne_eq, not_true_eq_false, not_false_eq_true, true_implies, false_implies, implies_true, cond_true, cond_false, Bool.not_true, Bool.not_false, stR_agg2, stR_agg4, stR_agg5, one_int, one_bool, one_string, one_pointer, one_slice, one_map, retK_mk, cells_agg, rowAt_alloc, setRow_alloc, ow_four, ow_five, List.size_toArray, List.length_cons, List.length_nil, Nat.reduceLeDiff]
    refine cwp_skip (hK _ _ ?_)
    clear hK K
    refine cwp_sr rfl fun K hK => ?_
    simp only [exL_plain, exL_guard, exL_nil, fx_move, fx_assign, fx_pick, fx_nilCheck, fx_load, fx_fieldAddr, fx_indexAddr, fx_binOp, fx_not, fx_convert, fx_slice, fx_extract, fx_lookup, fx_build, fx_len, fx_store, fx_alloc, fx_box, fx_makeMap, fx_makeSlice, fx_buildSlice, fx_mapUpdate, fx_append, fx_call, ev_tmp, ev_const, updo_some, updo_none, upd_apply, thenQ_normal, optK_some, optE_some, optE_none, ptrK_mk, intK_mk, boolK_mk, strK_mk, sliceK_mk, addrK_mk, tupK_mk, mapK_mk, sndK_mk, mkK_mk, cvK_int, ldN_zero, ldN_two, ldN_four, ldN_five, binK_add, binK_sub, binK_mul, binK_eql, binK_neq, binK_lss, binK_leq, binK_gtr, binK_geq, binK_seql, binK_sneq, binK_sadd, binK_beql, binK_bneq, binK_peql, binK_pneq, binK_leql, binK_lneq, lenK_slice, lenK_string, ex_slice, ex_pointer, inR_i64, inR_i32, gdK_bool, gdK_undef, Ty.all, Nat.reduceEqDiff, Nat.reduceAdd, Nat.reduceMul, if_false, if_true, ↓reduceIte, true_and, and_true, Int.toNat_natCast, Nat.add_zero, Nat.mul_one, Bool.false_eq_true, decide_eq_true_eq, decide_eq_false_iff_not, Option.isNone_some, Option.isNone_none, Option.isSome_some, Option.isSome_none, List.map_toArray, List.map_cons, List.map_nil, stK_eq, stR_int, stR_bool, stR_string, stR_pointer, stR_slice, exD_plain, exD_guard, exD_nil, stepD_true, stepD_false, needOp, pureOp, Bool.false_or, Bool.true_or, Bool.or_false, Bool.or_true, gval_succ, gval_zero, Bd.s22, Bd.s22b, Bd.s31, Bd.s30, Bd.s30b, Bd.s30e, Bd.s42, Bd.s66, Bd.s67, Bd.b49, Bd.b54, Bd.b79, Bd.b82, Bd.b77, Bd.b86, Bd.b74, decide_true, decide_false, reduceCtorEq, ne_eq, not_true_eq_false, not_false_eq_true, true_implies, false_implies, implies_true, cond_true, cond_false, Bool.not_true, Bool.not_false, stR_agg2, stR_agg4, stR_agg5, one_int, one_bool, one_string, one_pointer, one_slice, one_map, retK_mk, cells_agg, rowAt_alloc, setRow_alloc, ow_four, ow_five, List.size_toArray, List.length_cons, List.length_nil, Nat.reduceLeDiff]
    repeat (refine ⟨by omega, ?_⟩)
    refine hK _ _ ?_
    clear hK K
    refine cwp_ret ?_
    try simp only [thenQ_ret, blkQ_ret, exQ_ret]
    refine endQ_val (t := 4) (v := kptr lay j) rfl (by simp only [upd_apply, Nat.reduceEqDiff, if_false, if_true, ↓reduceIte, kptr]) ?_
    rw [keyIdx_add_some hj]
    exact ⟨lay, c, C, ov, xo, j, rfl, hj, h, Below.refl _ _, fun _ _ _ => rfl, fun _ _ _ _ _ => rfl⟩
  | none =>
    rw [hj] at hfs
    simp only [Option.map_none] at hfs
    obtain ⟨hadd, hidx⟩ := keyIdx_add_none hj
    refine cwp_sr rfl fun K hK => ?_
    simp only [exL_plain, exL_guard, exL_nil, fx_move, fx_assign, fx_pick, fx_nilCheck, fx_load, fx_fieldAddr, fx_indexAddr, fx_binOp, fx_not, fx_convert, fx_slice, fx_extract, fx_lookup, fx_build, fx_len, fx_store, fx_alloc, fx_box, fx_makeMap, fx_makeSlice, fx_buildSlice, fx_mapUpdate, fx_append, fx_call, ev_tmp, ev_const, updo_some, updo_none, upd_apply, thenQ_normal, optK_some, optE_some, optE_none, ptrK_mk, intK_mk, boolK_mk, strK_mk, sliceK_mk, addrK_mk, tupK_mk, mapK_mk, sndK_mk, mkK_mk, cvK_int, ldN_zero, ldN_two, ldN_four, ldN_five, binK_add, binK_sub, binK_mul, binK_eql, binK_neq, binK_lss, binK_leq, binK_gtr, binK_geq, binK_seql, binK_sneq, binK_sadd, binK_beql, binK_bneq, binK_peql, binK_pneq, binK_leql, binK_lneq, lenK_slice, lenK_string, ex_slice, ex_pointer, inR_i64, inR_i32, gdK_bool, gdK_undef, Ty.all, Nat.reduceEqDiff, Nat.reduceAdd, Nat.reduceMul, if_false, if_true, ↓reduceIte, true_and, and_true, Int.toNat_natCast, Nat.add_zero, Nat.mul_one, Bool.false_eq_true, decide_eq_true_eq, decide_eq_false_iff_not, Option.isNone_some, Option.isNone_none, Option.isSome_some, Option.isSome_none, List.map_toArray, List.map_cons, List.map_nil, stK_eq, stR_int, stR_bool, stR_string, stR_pointer, stR_slice, exD_plain, exD_guard, exD_nil, stepD_true, stepD_false, needOp, pureOp, Bool.false_or, Bool.true_or, Bool.or_false, Bool.or_true, gval_succ, gval_zero, Bd.s22, Bd.s22b, Bd.s31, Bd.s30, Bd.s30b, Bd.s30e, Bd.s42, Bd.s66, Bd.s67, Bd.b49, Bd.b54, Bd.b79, Bd.b82, Bd.b77, Bd.b86, Bd.b74, decide_true, decide_false, reduceCtorEq, ne_eq, not_true_eq_false, not_false_eq_true, true_implies, false_implies, implies_true, cond_true, cond_false, Bool.not_true, Bool.not_false, stR_agg2, stR_agg4, stR_agg5, one_int, one_bool, one_string, one_pointer, one_slice, one_map, retK_mk, cells_agg, rowAt_alloc, setRow_alloc, ow_four, ow_five, List.size_toArray, List.length_cons, List.length_nil, Nat.reduceLeDiff, h0, h1, c2, hmap, hfs, Nat.zero_add, Option.getD_none]
    repeat (refine ⟨by omega, ?_⟩)
    refine hK _ _ ?_
    clear hK K
    refine cwp_seq fun K hK => ?_
    refine cwp_sr rfl fun K hK => ?_
    simp only [exL_plain, exL_guard, exL_nil, fx_move, fx_assign, fx_pick, fx_nilCheck, fx_load, fx_fieldAddr, fx_indexAddr, fx_binOp, fx_not, fx_convert, fx_slice, fx_extract, fx_lookup, fx_build, fx_len, fx_store, fx_alloc, fx_box, fx_makeMap, fx_makeSlice, fx_buildSlice, fx_mapUpdate, fx_append, fx_call, ev_tmp, ev_const, updo_some, updo_none, upd_apply, thenQ_normal, optK_some, optE_some, optE_none, ptrK_mk, intK_mk, boolK_mk, strK_mk, sliceK_mk, addrK_mk, tupK_mk, mapK_mk, sndK_mk, mkK_mk, cvK_int, ldN_zero, ldN_two, ldN_four, ldN_five, binK_add, binK_sub, binK_mul, binK_eql, binK_neq, binK_lss, binK_leq, binK_gtr, binK_geq, binK_seql, binK_sneq, binK_sadd, binK_beql, binK_bneq, binK_peql, binK_pneq, binK_leql, binK_lneq, lenK_slice, lenK_string, ex_slice, ex_pointer, inR_i64, inR_i32, gdK_bool, gdK_undef, Ty.all, Nat.reduceEqDiff, Nat.reduceAdd, Nat.reduceMul, if_false, if_true, ↓reduceIte, true_and, and_true, Int.toNat_natCast, Nat.add_zero, Nat.mul_one, Bool.false_eq_true, decide_eq_true_eq, decide_eq_false_iff_not, Option.isNone_some, Option.isNone_none, Option.isSome_some, Option.isSome_none, List.map_toArray, List.map_cons, List.map_nil, stK_eq, stR_int, stR_bool, stR_string, stR_pointer, stR_slice, exD_plain, exD_guard, exD_nil, stepD_true, stepD_false, needOp, pureOp, Bool.false_or, Bool.true_or, Bool.or_false, Bool.or_true, gval_succ, gval_zero, Bd.s22, Bd.s22b, Bd.s31, Bd.s30, Bd.s30b, Bd.s30e, Bd.s42, Bd.s66, Bd.s67, Bd.b49, Bd.b54, Bd.b79, Bd.b82, Bd.b77, Bd.b86, Bd.b74, decide_true, decide_false, reduceCtorEq, ne_eq, not_true_eq_false, not_false_eq_true, true_implies, false_implies, implies_true, cond_true, cond_false, Bool.not_true, Bool.not_false, stR_agg2, stR_agg4, stR_agg5, one_int, one_bool, one_string, one_pointer, one_slice, one_map, retK_mk, cells_agg, rowAt_alloc, setRow_alloc, ow_four, ow_five, List.size_toArray, List.length_cons, List.length_nil, Nat.reduceLeDiff]
    repeat (refine ⟨by omega, ?_⟩)
    refine hK _ _ ?_
    clear hK K
    refine cwp_cond ?_
    simp only [exL_plain, exL_guard, exL_nil, fx_move, fx_assign, fx_pick, fx_nilCheck, fx_load, fx_fieldAddr, fx_indexAddr, fx_binOp, fx_not, fx_convert, fx_slice, fx_extract, fx_lookup, fx_build, fx_len, fx_store, fx_alloc, fx_box, fx_makeMap, fx_makeSlice, fx_buildSlice, fx_mapUpdate, fx_append, fx_call, ev_tmp, ev_const, updo_some, updo_none, upd_apply, thenQ_normal, optK_some, optE_some, optE_none, ptrK_mk, intK_mk, boolK_mk, strK_mk, sliceK_mk, addrK_mk, tupK_mk, mapK_mk, sndK_mk, mkK_mk, cvK_int, ldN_zero, ldN_two, ldN_four, ldN_five, binK_add, binK_sub, binK_mul, binK_eql, binK_neq, binK_lss, binK_leq, binK_gtr, binK_geq, binK_seql, binK_sneq, binK_sadd, binK_beql, binK_bneq, binK_peql, binK_pneq, binK_leql, binK_lneq, lenK_slice, lenK_string, ex_slice, ex_pointer, inR_i64, inR_i32, gdK_bool, gdK_undef, Ty.all, Nat.reduceEqDiff, Nat.reduceAdd, Nat.reduceMul, if_false, if_true, ↓reduceIte, true_and, and_true, Int.toNat_natCast, Nat.add_zero, Nat.mul_one, Bool.false_eq_true, decide_eq_true_eq, decide_eq_false_iff_not, Option.isNone_some, Option.isNone_none, Option.isSome_some, Option.isSome_none, List.map_toArray, List.map_cons, List.map_nil, stK_eq, stR_int, stR_bool, stR_string, stR_pointer, stR_slice, exD_plain, exD_guard, exD_nil, stepD_true, stepD_false, needOp, pureOp, Bool.false_or, Bool.true_or, Bool.or_false, Bool.or_true, gval_succ, gval_zero, Bd.s22, Bd.s22b, Bd.s31, Bd.s30, Bd.s30b, Bd.s30e, Bd.s42, Bd.s66, Bd.s67, Bd.b49, Bd.b54, Bd.b79, Bd.b82, Bd.b77, Bd.b86, Bd.b74, decide_true, decide_false, reduceCtorEq, ne_eq, not_true_eq_false, not_false_eq_true, true_implies, false_implies, implies_true, cond_true, cond_false, Bool.not_true, Bool.not_false, stR_agg2, stR_agg4, stR_agg5, one_int, one_bool, one_string, one_pointer, one_slice, one_map, retK_mk, cells_agg, rowAt_alloc, setRow_alloc, ow_four, ow_five, List.size_toArray, List.length_cons, List.length_nil, Nat.reduceLeDiff]
    refine cwp_sr rfl fun K hK => ?_
    simp only [exL_plain, exL_guard, exL_nil, fx_move, fx_assign, fx_pick, fx_nilCheck, fx_load, fx_fieldAddr, fx_indexAddr, fx_binOp, fx_not, fx_convert, fx_slice, fx_extract, fx_lookup, fx_build, fx_len, fx_store, fx_alloc, fx_box, fx_makeMap, fx_makeSlice, fx_buildSlice, fx_mapUpdate, fx_append, fx_call, ev_tmp, ev_const, updo_some, updo_none, upd_apply, thenQ_normal, optK_some, optE_some, optE_none, ptrK_mk, intK_mk, boolK_mk, strK_mk, sliceK_mk, addrK_mk, tupK_mk, mapK_mk, sndK_mk, mkK_mk, cvK_int, ldN_zero, ldN_two, ldN_four, ldN_five, binK_add, binK_sub, binK_mul, binK_eql, binK_neq, binK_lss, binK_leq, binK_gtr, binK_geq, binK_seql, binK_sneq, binK_sadd, binK_beql, binK_bneq, binK_peql, binK_pneq, binK_leql, binK_lneq, lenK_slice, lenK_string, ex_slice, ex_pointer, inR_i64, inR_i32, gdK_bool, gdK_undef, Ty.all, Nat.reduceEqDiff, Nat.reduceAdd, Nat.reduceMul, if_false, if_true, ↓reduceIte, true_and, and_true, Int.toNat_natCast, Nat.add_zero, Nat.mul_one, Bool.false_eq_true, decide_eq_true_eq, decide_eq_false_iff_not, Option.isNone_some, Option.isNone_none, Option.isSome_some, Option.isSome_none, List.map_toArray, List.map_cons, List.map_nil, stK_eq, stR_int, stR_bool, stR_string, stR_pointer, stR_slice, exD_plain, exD_guard, exD_nil, stepD_true, stepD_false, needOp, pureOp, Bool.false_or, Bool.true_or, Bool.or_false, Bool.or_true, gval_succ, gval_zero, Bd.s22, Bd.s22b, Bd.s31, Bd.s30, Bd.s30b, Bd.s30e, Bd.s42, Bd.s66, Bd.s67, Bd.b49, Bd.b54, Bd.b79, Bd.b82, Bd.b77, Bd.b86, Bd.b74, decide_true, decide_false, reduceCtorEq, ne_eq, not_true_eq_false, not_false_eq_true, true_implies, false_implies, implies_true, cond_true, cond_false, Bool.not_true, Bool.not_false, stR_agg2, stR_agg4, stR_agg5, one_int, one_bool, one_string, one_pointer, one_slice, one_map, retK_mk, cells_agg, rowAt_alloc, setRow_alloc, ow_four, ow_five, List.size_toArray, List.length_cons, List.length_nil, Nat.reduceLeDiff]
    repeat (refine ⟨by omega, ?_⟩)
    refine hK _ _ ?_
    clear hK K
    have hnb := h.nb
    have hS1 := h.st.newMap h.nb (41 + 2 * S.K.length)
    have hS2 := hS1.new (by simp; omega) (40 + 2 * S.K.length) #[.map (some w.heap.size), .int .i32 (-1), .int .i32 (-1), .int .i32 (-1), .slice none 0 0, .slice none 0 0, .slice none 0 0] 86
    have hb2 : Below N w ((w.alloc (.map #[] 0)).alloc (.cells #[.map (some w.heap.size), .int .i32 (-1), .int .i32 (-1), .int .i32 (-1), .slice none 0 0, .slice none 0 0, .slice none 0 0] 86)) := ((Below.refl _ _).alloc hnb _).alloc (by simp; omega) _
    refine cwp_forget [0, 1, 5] fun ρ hL => ?_
    have h0X := hL 0 (by simp)
    have h1X := hL 1 (by simp)
    have g5X := hL 5 (by simp)
    clear hL
    simp only [upd_apply, Nat.reduceEqDiff, if_false, if_true, ↓reduceIte, h0, h1] at h0X h1X g5X
    have h0 := h0X
    clear h0X
    have h1 := h1X
    clear h1X
    have g5 := g5X
    clear g5X
    obtain ⟨n, hn⟩ : ∃ n, n = S.K.length := ⟨_, rfl⟩
    rw [← hn] at hS1 hS2 hidx hKl
    obtain ⟨w2, lay2, c2', hw2, gp, hS2, hb2, l40, l41, lo, c40, c41, co⟩ : ∃ w2 lay2 c2', w2 = ((w.alloc (.map #[] 0)).alloc (.cells #[.map (some w.heap.size), .int .i32 (-1), .int .i32 (-1), .int .i32 (-1), .slice none 0 0, .slice none 0 0, .slice none 0 0] 86)) ∧
        ρ 5 = kptr lay2 n ∧ St N w2 lay2 c2' ∧ Below N w w2 ∧ lay2 (40 + 2 * n) = w.heap.size + 1 ∧ lay2 (41 + 2 * n) = w.heap.size ∧ (∀ r, r ≠ 40 + 2 * n → r ≠ 41 + 2 * n → lay2 r = lay r) ∧
        c2' (40 + 2 * n) = some (.inl (ksCells lay2 n (newKS name), 86)) ∧ c2' (41 + 2 * n) = some (.inr []) ∧ (∀ r, r ≠ 40 + 2 * n → r ≠ 41 + 2 * n → c2' r = c r) := by
      have ne1 : 41 + 2 * n ≠ 40 + 2 * n := by omega
      refine ⟨_, _, _, rfl, ?_, hS2, hb2, ?_, ?_, ?_, ?_, ?_, ?_⟩
      · rw [g5]; simp [kptr, updN]
      · simp [updN]
      · simp [updN, ne1]
      · intro r h1 h2; simp [updN, h1, h2]
      · simp [updC, ksCells, newKS, updN, ne1]
      · simp [updC, ne1]
      · intro r h1 h2; simp [updC, h1, h2]
    rw [← hw2]
    clear hS1 hw2 g5
    have l0 : lay2 0 = lay 0 := lo 0 (by omega) (by omega)
    have l1 : lay2 1 = lay 1 := lo 1 (by omega) (by omega)
    have hc0 : c2' 0 = some (.inl (C, 74)) := by rw [co 0 (by omega) (by omega)]; exact h.hc
    have hc1 : c2' 1 = some (.inr (keyEntsFrom lay 0 S.K)) := by rw [co 1 (by omega) (by omega)]; exact h.keys.1
    have q2 := (hS2.cell hc0 2).trans C2
    have hm := hS2.map hc1
    rw [l0] at q2
    rw [l1] at hm
    refine cwp_sr rfl fun K hK => ?_
    simp only [exL_plain, exL_guard, exL_nil, fx_move, fx_assign, fx_pick, fx_nilCheck, fx_load, fx_fieldAddr, fx_indexAddr, fx_binOp, fx_not, fx_convert, fx_slice, fx_extract, fx_lookup, fx_build, fx_len, fx_store, fx_alloc, fx_box, fx_makeMap, fx_makeSlice, fx_buildSlice, fx_mapUpdate, fx_append, fx_call, ev_tmp, ev_const, updo_some, updo_none, upd_apply, thenQ_normal, optK_some, optE_some, optE_none, ptrK_mk, intK_mk, boolK_mk, strK_mk, sliceK_mk, addrK_mk, tupK_mk, mapK_mk, sndK_mk, mkK_mk, cvK_int, ldN_zero, ldN_two, ldN_four, ldN_five, binK_add, binK_sub, binK_mul, binK_eql, binK_neq, binK_lss, binK_leq, binK_gtr, binK_geq, binK_seql, binK_sneq, binK_sadd, binK_beql, binK_bneq, binK_peql, binK_pneq, binK_leql, binK_lneq, lenK_slice, lenK_string, ex_slice, ex_pointer, inR_i64, inR_i32, gdK_bool, gdK_undef, Ty.all, Nat.reduceEqDiff, Nat.reduceAdd, Nat.reduceMul, if_false, if_true, ↓reduceIte, true_and, and_true, Int.toNat_natCast, Nat.add_zero, Nat.mul_one, Bool.false_eq_true, decide_eq_true_eq, decide_eq_false_iff_not, Option.isNone_some, Option.isNone_none, Option.isSome_some, Option.isSome_none, List.map_toArray, List.map_cons, List.map_nil, stK_eq, stR_int, stR_bool, stR_string, stR_pointer, stR_slice, exD_plain, exD_guard, exD_nil, stepD_true, stepD_false, needOp, pureOp, Bool.false_or, Bool.true_or, Bool.or_false, Bool.or_true, gval_succ, gval_zero, Bd.s22, Bd.s22b, Bd.s31, Bd.s30, Bd.s30b, Bd.s30e, Bd.s42, Bd.s66, Bd.s67, Bd.b49, Bd.b54, Bd.b79, Bd.b82, Bd.b77, Bd.b86, Bd.b74, decide_true, decide_false, reduceCtorEq, ne_eq, not_true_eq_false, not_false_eq_true, true_implies, false_implies, implies_true, cond_true, cond_false, Bool.not_true, Bool.not_false, stR_agg2, stR_agg4, stR_agg5, one_int, one_bool, one_string, one_pointer, one_slice, one_map, retK_mk, cells_agg, rowAt_alloc, setRow_alloc, ow_four, ow_five, List.size_toArray, List.length_cons, List.length_nil, Nat.reduceLeDiff, h0, h1, gp, q2, hm, hfs, kptr, Nat.zero_add]
    repeat (refine ⟨by omega, ?_⟩)
    refine hK _ _ ?_
    clear hK K
    have hS3 := hS2.pushed hc1 (.string name) (kptr lay2 n)
    have hb3 : Below N w2 (pushMap w2 (lay2 1) (.string name) (kptr lay2 n)) := below_push (hS2.ge hc1)
    rw [l1] at hS3 hb3
    refine cwp_forget [0, 5] fun ρ hL => ?_
    have h0X := hL 0 (by simp)
    have gpX := hL 5 (by simp)
    clear hL
    simp only [upd_apply, Nat.reduceEqDiff, if_false, if_true, ↓reduceIte, h0, gp] at h0X gpX
    have h0 := h0X
    clear h0X
    have gp := gpX
    clear gpX
    simp only [kptr] at hS3 hb3
    generalize pushMap w2 (lay 1) (.string name) (.pointer (some ⟨lay2 (40 + 2 * n), 0, none⟩)) = w3 at hS3 hb3 ⊢
    have hc30 : updC c2' 1 (.inr (keyEntsFrom lay 0 S.K ++ [(.string name, .pointer (some ⟨lay2 (40 + 2 * n), 0, none⟩))])) 0 = some (.inl (C, 74)) := by simp [updC, hc0]
    have q3 := (hS3.cell hc30 3).trans C3
    rw [l0] at q3
    have hod : RowV lay2 (updC c2' 1 (.inr (keyEntsFrom lay 0 S.K ++ [(.string name, .pointer (some ⟨lay2 (40 + 2 * n), 0, none⟩))]))) 6 75 1 ov n xo := by
      rw [hn]
      exact h.od.congr (lo 6 (by omega) (by omega)) (by simp only [updC, Nat.reduceEqDiff, if_false]; exact co 6 (by omega) (by omega))
    have hb3s := hb2.size
    have hb3t := hb3.size
    refine cwp_region rfl ?_
    simp only [exL_plain, exL_guard, exL_nil, fx_move, fx_assign, fx_pick, fx_nilCheck, fx_load, fx_fieldAddr, fx_indexAddr, fx_binOp, fx_not, fx_convert, fx_slice, fx_extract, fx_lookup, fx_build, fx_len, fx_store, fx_alloc, fx_box, fx_makeMap, fx_makeSlice, fx_buildSlice, fx_mapUpdate, fx_append, fx_call, ev_tmp, ev_const, updo_some, updo_none, upd_apply, thenQ_normal, optK_some, optE_some, optE_none, ptrK_mk, intK_mk, boolK_mk, strK_mk, sliceK_mk, addrK_mk, tupK_mk, mapK_mk, sndK_mk, mkK_mk, cvK_int, ldN_zero, ldN_two, ldN_four, ldN_five, binK_add, binK_sub, binK_mul, binK_eql, binK_neq, binK_lss, binK_leq, binK_gtr, binK_geq, binK_seql, binK_sneq, binK_sadd, binK_beql, binK_bneq, binK_peql, binK_pneq, binK_leql, binK_lneq, lenK_slice, lenK_string, ex_slice, ex_pointer, inR_i64, inR_i32, gdK_bool, gdK_undef, Ty.all, Nat.reduceEqDiff, Nat.reduceAdd, Nat.reduceMul, if_false, if_true, ↓reduceIte, true_and, and_true, Int.toNat_natCast, Nat.add_zero, Nat.mul_one, Bool.false_eq_true, decide_eq_true_eq, decide_eq_false_iff_not, Option.isNone_some, Option.isNone_none, Option.isSome_some, Option.isSome_none, List.map_toArray, List.map_cons, List.map_nil, stK_eq, stR_int, stR_bool, stR_string, stR_pointer, stR_slice, exD_plain, exD_guard, exD_nil, stepD_true, stepD_false, needOp, pureOp, Bool.false_or, Bool.true_or, Bool.or_false, Bool.or_true, gval_succ, gval_zero, Bd.s22, Bd.s22b, Bd.s31, Bd.s30, Bd.s30b, Bd.s30e, Bd.s42, Bd.s66, Bd.s67, Bd.b49, Bd.b54, Bd.b79, Bd.b82, Bd.b77, Bd.b86, Bd.b74, decide_true, decide_false, reduceCtorEq, ne_eq, not_true_eq_false, not_false_eq_true, true_implies, false_implies, implies_true, cond_true, cond_false, Bool.not_true, Bool.not_false, stR_agg2, stR_agg4, stR_agg5, one_int, one_bool, one_string, one_pointer, one_slice, one_map, retK_mk, cells_agg, rowAt_alloc, setRow_alloc, ow_four, ow_five, List.size_toArray, List.length_cons, List.length_nil, Nat.reduceLeDiff, h0, gp, q3, kptr, Nat.zero_add]
    refine ap_one hS3 hod (z := .pointer none) (bytes := 8) (by kernel_rfl) rfl (by omega) _ rfl rfl (by omega) (by omega) (by omega) ?_
    intro v4 w4 lay4 c4 hS4 hod4 hoth ⟨cap4, hv4⟩ hb4
    subst hv4
    have l40' := (hoth 0 (by omega)).1
    have hc40 := (hoth 0 (by omega)).2.trans hc30
    have hrow := hS4.row hc40
    rw [l40', l0] at hrow
    simp only [exL_plain, exL_guard, exL_nil, fx_move, fx_assign, fx_pick, fx_nilCheck, fx_load, fx_fieldAddr, fx_indexAddr, fx_binOp, fx_not, fx_convert, fx_slice, fx_extract, fx_lookup, fx_build, fx_len, fx_store, fx_alloc, fx_box, fx_makeMap, fx_makeSlice, fx_buildSlice, fx_mapUpdate, fx_append, fx_call, ev_tmp, ev_const, updo_some, updo_none, upd_apply, thenQ_normal, optK_some, optE_some, optE_none, ptrK_mk, intK_mk, boolK_mk, strK_mk, sliceK_mk, addrK_mk, tupK_mk, mapK_mk, sndK_mk, mkK_mk, cvK_int, ldN_zero, ldN_two, ldN_four, ldN_five, binK_add, binK_sub, binK_mul, binK_eql, binK_neq, binK_lss, binK_leq, binK_gtr, binK_geq, binK_seql, binK_sneq, binK_sadd, binK_beql, binK_bneq, binK_peql, binK_pneq, binK_leql, binK_lneq, lenK_slice, lenK_string, ex_slice, ex_pointer, inR_i64, inR_i32, gdK_bool, gdK_undef, Ty.all, Nat.reduceEqDiff, Nat.reduceAdd, Nat.reduceMul, if_false, if_true, ↓reduceIte, true_and, and_true, Int.toNat_natCast, Nat.add_zero, Nat.mul_one, Bool.false_eq_true, decide_eq_true_eq, decide_eq_false_iff_not, Option.isNone_some, Option.isNone_none, Option.isSome_some, Option.isSome_none, List.map_toArray, List.map_cons, List.map_nil, stK_eq, stR_int, stR_bool, stR_string, stR_pointer, stR_slice, exD_plain, exD_guard, exD_nil, stepD_true, stepD_false, needOp, pureOp, Bool.false_or, Bool.true_or, Bool.or_false, Bool.or_true, gval_succ, gval_zero, Bd.s22, Bd.s22b, Bd.s31, Bd.s30, Bd.s30b, Bd.s30e, Bd.s42, Bd.s66, Bd.s67, Bd.b49, Bd.b54, Bd.b79, Bd.b82, Bd.b77, Bd.b86, Bd.b74, decide_true, decide_false, reduceCtorEq, ne_eq, not_true_eq_false, not_false_eq_true, true_implies, false_implies, implies_true, cond_true, cond_false, Bool.not_true, Bool.not_false, stR_agg2, stR_agg4, stR_agg5, one_int, one_bool, one_string, one_pointer, one_slice, one_map, retK_mk, cells_agg, rowAt_alloc, setRow_alloc, ow_four, ow_five, List.size_toArray, List.length_cons, List.length_nil, Nat.reduceLeDiff, h0, hrow]
    refine ⟨by omega, ?_⟩
    refine hK _ _ ?_
    clear hK K
    have hS5 := hS4.set hc40 (C.setIfInBounds 3 (Value.slice (some ⟨lay4 6, 0, none⟩) (n + 1) cap4))
    have hb5 := below_setRow hb4 (show N ≤ lay4 0 from hS4.ge hc40) (C.setIfInBounds 3 (Value.slice (some ⟨lay4 6, 0, none⟩) (n + 1) cap4))
    rw [l40', l0] at hS5 hb5
    refine cwp_forget [5] fun ρ hL => ?_
    have gpX := hL 5 (by simp)
    clear hL
    simp only [upd_apply, Nat.reduceEqDiff, if_false, if_true, ↓reduceIte, gp] at gpX
    have gp := gpX
    clear gpX
    generalize w4.setRow (lay 0) (C.setIfInBounds 3 (Value.slice (some ⟨lay4 6, 0, none⟩) (n + 1) cap4)) = w5 at hS5 hb5 ⊢
    have hl4 : ∀ r, r ≠ 6 → lay4 r = lay2 r := fun r hr => (hoth r hr).1
    have hc5 : ∀ r, r ≠ 0 → r ≠ 1 → r ≠ 6 → updC c4 0 (.inl (C.setIfInBounds 3 (Value.slice (some ⟨lay4 6, 0, none⟩) (n + 1) cap4), 74)) r = c2' r := fun r h1 h2 h3 => by
      have := (hoth r h3).2
      simp [updC, h1, h2] at this ⊢
      exact this
    have hc51 : updC c4 0 (.inl (C.setIfInBounds 3 (Value.slice (some ⟨lay4 6, 0, none⟩) (n + 1) cap4), 74)) 1 = some (.inr (keyEntsFrom lay 0 S.K ++ [(.string name, .pointer (some ⟨lay2 (40 + 2 * n), 0, none⟩))])) := by
      have := (hoth 1 (by omega)).2
      simp [updC] at this ⊢
      exact this
    have hc50 : updC c4 0 (.inl (C.setIfInBounds 3 (Value.slice (some ⟨lay4 6, 0, none⟩) (n + 1) cap4), 74)) 0 = some (.inl (C.setIfInBounds 3 (Value.slice (some ⟨lay4 6, 0, none⟩) (n + 1) cap4), 74)) := by simp [updC]
    have hod5 : RowV lay4 (updC c4 0 (.inl (C.setIfInBounds 3 (Value.slice (some ⟨lay4 6, 0, none⟩) (n + 1) cap4), 74))) 6 75 1 (Value.slice (some ⟨lay4 6, 0, none⟩) (n + 1) cap4) (n + 1) (xo ++ [.pointer (some ⟨lay2 (40 + 2 * n), 0, none⟩)]) := hod4.congr rfl (by simp [updC])
    generalize updC c4 0 (.inl (C.setIfInBounds 3 (Value.slice (some ⟨lay4 6, 0, none⟩) (n + 1) cap4), 74)) = c5 at hS5 hc5 hc50 hc51 hod5
    have hlo : ∀ r, r < 40 + 2 * n → r ≠ 6 → lay4 r = lay r := fun r h1 h2 => by rw [hl4 r h2, lo r (by omega) (by omega)]
    have hco : ∀ r, r < 40 + 2 * n → r ≠ 0 → r ≠ 1 → r ≠ 6 → c5 r = c r := fun r h1 h2 h3 h4 => by rw [hc5 r h2 h3 h4, co r (by omega) (by omega)]
    refine cwp_sr rfl fun K hK => ?_
    simp only [exL_plain, exL_guard, exL_nil, fx_move, fx_assign, fx_pick, fx_nilCheck, fx_load, fx_fieldAddr, fx_indexAddr, fx_binOp, fx_not, fx_convert, fx_slice, fx_extract, fx_lookup, fx_build, fx_len, fx_store, fx_alloc, fx_box, fx_makeMap, fx_makeSlice, fx_buildSlice, fx_mapUpdate, fx_append, fx_call, ev_tmp, ev_const, updo_some, updo_none, upd_apply, thenQ_normal, optK_some, optE_some, optE_none, ptrK_mk, intK_mk, boolK_mk, strK_mk, sliceK_mk, addrK_mk, tupK_mk, mapK_mk, sndK_mk, mkK_mk, cvK_int, ldN_zero, ldN_two, ldN_four, ldN_five, binK_add, binK_sub, binK_mul, binK_eql, binK_neq, binK_lss, binK_leq, binK_gtr, binK_geq, binK_seql, binK_sneq, binK_sadd, binK_beql, binK_bneq, binK_peql, binK_pneq, binK_leql, binK_lneq, lenK_slice, lenK_string, ex_slice, ex_pointer, inR_i64, inR_i32, gdK_bool, gdK_undef, Ty.all, Nat.reduceEqDiff, Nat.reduceAdd, Nat.reduceMul, if_false, if_true, ↓reduceIte, true_and, and_true, Int.toNat_natCast, Nat.add_zero, Nat.mul_one, Bool.false_eq_true, decide_eq_true_eq, decide_eq_false_iff_not, Option.isNone_some, Option.isNone_none, Option.isSome_some, Option.isSome_none, List.map_toArray, List.map_cons, List.map_nil, stK_eq, stR_int, stR_bool, stR_string, stR_pointer, stR_slice, exD_plain, exD_guard, exD_nil, stepD_true, stepD_false, needOp, pureOp, Bool.false_or, Bool.true_or, Bool.or_false, Bool.or_true, gval_succ, gval_zero, Bd.s22, Bd.s22b, Bd.s31, Bd.s30, Bd.s30b, Bd.s30e, Bd.s42, Bd.s66, Bd.s67, Bd.b49, Bd.b54, Bd.b79, Bd.b82, Bd.b77, Bd.b86, Bd.b74, decide_true, decide_false, reduceCtorEq, ne_eq, not_true_eq_false, not_false_eq_true, true_implies, false_implies, implies_true, cond_true, cond_false, Bool.not_true, Bool.not_false, stR_agg2, stR_agg4, stR_agg5, one_int, one_bool, one_string, one_pointer, one_slice, one_map, retK_mk, cells_agg, rowAt_alloc, setRow_alloc, ow_four, ow_five, List.size_toArray, List.length_cons, List.length_nil, Nat.reduceLeDiff, gp]
    repeat (refine ⟨by omega, ?_⟩)
    refine hK _ _ ?_
    clear hK K
    refine cwp_ret ?_
    try simp only [thenQ_ret, blkQ_ret, exQ_ret]
    refine endQ_val (t := 4) (v := kptr lay2 n) rfl (by simp only [upd_apply, Nat.reduceEqDiff, if_false, if_true, ↓reduceIte, gp]) ?_
    have hkp : kptr lay4 n = kptr lay2 n := by simp only [kptr]; rw [hl4 _ (by omega)]
    refine ⟨lay4, c5, C.setIfInBounds 3 (Value.slice (some ⟨lay4 6, 0, none⟩) (n + 1) cap4), .slice (some ⟨lay4 6, 0, none⟩) (n + 1) cap4, xo ++ [.pointer (some ⟨lay2 (40 + 2 * n), 0, none⟩)], n, by rw [hkp], hidx, ?_, hb2.trans (hb3.trans hb5), fun r h1 h2 => hlo r (by omega) h2, fun r h1 h2 h3 h4 => hco r (by omega) h2 h3 h4⟩
    rw [hadd]
    have hk40 : ∀ j, j < n → lay4 (40 + 2 * j) = lay (40 + 2 * j) := fun j hj => hlo _ (by omega) (by omega)
    have hbs := hb5.size
    refine { st := hS5, hc := hc50, cc := ?_, fnd := ?_, keys := ?_, wr := ?_, im := ?_, rd := ?_, li := ?_, od := ?_, rk := ?_, nb := ?_ }
    · rw [hlo 1 (by omega) (by omega)]
      exact h.cc.set3 _
    · intro i hi
      rw [Array.getElem?_setIfInBounds_ne (by omega)]
      exact h.fnd i hi
    · refine ⟨?_, fun j hj => ?_⟩
      · rw [hc51, keyEnts_append, ← hn, keyEnts_congr S.K 0 (fun i _ hi => hk40 i (by omega)), Nat.zero_add]
        simp only [keyEntsFrom]
        rw [hkp]
        rfl
      · by_cases hjn : j = n
        · subst hjn
          have hg : (S.K ++ [newKS name]).getD j ks0 = newKS name := by rw [hn]; simp
          rw [hg, hc5 _ (by omega) (by omega) (by omega), hc5 _ (by omega) (by omega) (by omega), c40, c41]
          refine ⟨?_, rfl⟩
          simp only [ksCells]
          rw [hl4 _ (by omega)]
        · simp only [List.length_append, List.length_cons, List.length_nil] at hj
          have hjn' : j < S.K.length := by omega
          have hg : (S.K ++ [newKS name]).getD j ks0 = S.K.getD j ks0 := by simp [List.getD_eq_getElem?_getD, List.getElem?_append_left hjn']
          obtain ⟨a, b⟩ := h.keys.2 j hjn'
          rw [hg, hco _ (by omega) (by omega) (by omega) (by omega), hco _ (by omega) (by omega) (by omega) (by omega), a, b]
          refine ⟨?_, rfl⟩
          simp only [ksCells]
          rw [hlo _ (by omega) (by omega)]
    · exact h.wr.congr (hlo 2 (by omega) (by omega)) (hco 2 (by omega) (by omega) (by omega) (by omega))
    · exact h.im.congr (hlo 3 (by omega) (by omega)) (hco 3 (by omega) (by omega) (by omega) (by omega))
    · have hrk := h.rk
      rw [← hn] at hrk
      simp only
      rw [rdCells_congr hrk hk40]
      exact h.rd.congr (hlo 4 (by omega) (by omega)) (hco 4 (by omega) (by omega) (by omega) (by omega))
    · exact h.li.congr (hlo 5 (by omega) (by omega)) (hco 5 (by omega) (by omega) (by omega) (by omega))
    · simp only [List.length_append, List.length_cons, List.length_nil]
      rw [← hn]
      exact hod5
    · intro r hr
      have := h.rk r hr
      simp only [List.length_append, List.length_cons, List.length_nil]
      omega
    · omega
end Go.Proofs.Qxb6001346a
