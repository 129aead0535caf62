/-
  The law on the numbers of the read values: its walk.
-/
import Derived.Test.Qxb6001346aL6
import Derived.Test.Qxb6001346aZb7
namespace Go.Proofs.Qxb6001346a
open Fw Go.RowKit
set_option linter.unusedSimpArgs false
set_option linter.unusedVariables false

theorem sumL_rds (l : List (Nat × LOp)) : sumL (rds l) ≤ sumL l := by
  induction l with
  | nil => simp [rds, sumL]
  | cons x l ih =>
    rw [show x :: l = [x] ++ l from rfl, rds_append, sumL_append, sumL_append]
    have : sumL (rds [x]) ≤ sumL [x] := by
      obtain ⟨i, p⟩ := x
      cases h : p.app with
      | true => rw [rds_app h]; simp [sumL]
      | false => rw [rds_read h]; exact Nat.le_refl _
    omega
theorem wOf_ge (O : List (Nat × LOp)) (k v : ByteArray) : -1 ≤ wOf O k v := by
  unfold wOf
  split <;> omega
def en0 : Nat × ByteArray × ByteArray := (0, ByteArray.empty, ByteArray.empty)
/-- What the law says, of the plain lists. -/
structure Plain7 (T : List LTx) : Prop where
  l0 : (colS T).1.L.length = (ents (fl T)).length
  l1 : (colS T).1.R.length = (rds (fl T)).length
  rd : ∀ r, r < (rds (fl T)).length → ((colS T).1.R.getD r rd0).t = (xat (rds (fl T)) r).1 ∧ ((colS T).1.R.getD r rd0).s = sumL ((rds (fl T)).take r) ∧ ((colS T).1.R.getD r rd0).e = ((sumL ((rds (fl T)).take r) : Nat) : Int) + ((xat (rds (fl T)) r).2.list.length : Nat)
  nu : ∀ p, p < (ents (fl T)).length → 0 ≤ (colS T).1.L.getD p 0 ∧ (colS T).1.L.getD p 0 < (colS T).1.W.length ∧ (colS T).1.W.getD ((colS T).1.L.getD p 0).toNat 0 = wOf (fl T) ((ents (fl T)).getD p en0).2.1 ((ents (fl T)).getD p en0).2.2
  sa : ∀ p q, p < (ents (fl T)).length → q < (ents (fl T)).length → ((colS T).1.L.getD p 0 = (colS T).1.L.getD q 0 ↔ ((ents (fl T)).getD p en0).2.1 = ((ents (fl T)).getD q en0).2.1 ∧ ((ents (fl T)).getD p en0).2.2 = ((ents (fl T)).getD q en0).2.2)
theorem plain7 (T : List LTx) : Plain7 T := by
  have h := colS_RI T
  obtain ⟨g1, g2⟩ := colS_read T
  have hW : (colS T).1.W.length = ((fapp (fl T)).map pr ++ gOf ((fapp (fl T)).map pr) (ents (fl T))).length := by rw [h.w]; simp
  refine ⟨h.ll, g1, fun r hr => ?_, fun p hp => ?_, fun p q hp hq => ?_⟩
  · obtain ⟨a, _, b, c, _⟩ := g2 r hr
    exact ⟨a, b, by rw [c, b]; rfl⟩
  · have h1 := h.l p hp
    rw [h.nu] at h1
    obtain ⟨h2, h3⟩ := h1
    have h4 := (List.getElem?_eq_some_iff.1 h3).1
    refine ⟨h2, by rw [hW]; omega, ?_⟩
    rw [List.getD_eq_getElem?_getD, h.w, writer_at h3]
    rfl
  · have h1 := h.l p hp
    have h2 := h.l q hq
    constructor
    · intro he
      rw [h.nu] at h1 h2
      have e := h1.2.symm.trans ((by rw [he] : _ = _).trans h2.2)
      simp only [Option.some.injEq, Prod.mk.injEq] at e
      exact e
    · rintro ⟨e1, e2⟩
      have e3 : num (colS T).1.K ((ents (fl T)).getD p en0).2.1 ((ents (fl T)).getD p en0).2.2 = some ((colS T).1.L.getD p 0) := h1
      rw [e1, e2] at e3
      have e4 : num (colS T).1.K ((ents (fl T)).getD q en0).2.1 ((ents (fl T)).getD q en0).2.2 = some ((colS T).1.L.getD q 0) := h2
      rw [e4] at e3
      simpa using e3.symm
theorem ValsAt.ints {N : Nat} {w : World} {v : Value} {l : List Int} {n : Nat} (h : ValsAt N w v (vI l)) (hn : l.length = n) : ∃ a cap, v = .slice a n cap ∧ (0 < n → ∃ b o, a = some ⟨b, o, none⟩ ∧ ∀ i, i < n → w.cell? ⟨b, o + i, none⟩ = some (.int .i32 (l.getD i 0))) := by
  obtain ⟨a, cap, hv, hc⟩ := h.at (n := n) (by simp [vI, hn])
  refine ⟨a, cap, hv, fun h0 => ?_⟩
  obtain ⟨b, o, ha, hcc⟩ := hc h0
  exact ⟨b, o, ha, fun i hi => by rw [hcc i hi]; simp [vI, List.getD_eq_getElem?_getD, hn, hi]⟩
theorem ValsAt.nats {N : Nat} {w : World} {v : Value} {l : List Nat} {n : Nat} (h : ValsAt N w v (vN l)) (hn : l.length = n) : ∃ a cap, v = .slice a n cap ∧ (0 < n → ∃ b o, a = some ⟨b, o, none⟩ ∧ ∀ i, i < n → w.cell? ⟨b, o + i, none⟩ = some (.int .i64 (l.getD i 0 : Nat))) := by
  obtain ⟨a, cap, hv, hc⟩ := h.at (n := n) (by simp [vN, hn])
  refine ⟨a, cap, hv, fun h0 => ?_⟩
  obtain ⟨b, o, ha, hcc⟩ := hc h0
  exact ⟨b, o, ha, fun i hi => by rw [hcc i hi]; simp [vN, List.getD_eq_getElem?_getD, hn, hi]⟩
theorem ValsAt.strs {N : Nat} {w : World} {v : Value} {l : List ByteArray} {n : Nat} (h : ValsAt N w v (vS l)) (hn : l.length = n) : ∃ a cap, v = .slice a n cap ∧ (0 < n → ∃ b o, a = some ⟨b, o, none⟩ ∧ ∀ i, i < n → w.cell? ⟨b, o + i, none⟩ = some (.string (l.getD i ByteArray.empty))) := by
  obtain ⟨a, cap, hv, hc⟩ := h.at (n := n) (by simp [vS, hn])
  refine ⟨a, cap, hv, fun h0 => ?_⟩
  obtain ⟨b, o, ha, hcc⟩ := hc h0
  exact ⟨b, o, ha, fun i hi => by rw [hcc i hi]; simp [vS, List.getD_eq_getElem?_getD, hn, hi]⟩
theorem ValsAt.bools {N : Nat} {w : World} {v : Value} {l : List Bool} {n : Nat} (h : ValsAt N w v (vB l)) (hn : l.length = n) : ∃ a cap, v = .slice a n cap ∧ (0 < n → ∃ b o, a = some ⟨b, o, none⟩ ∧ ∀ i, i < n → w.cell? ⟨b, o + i, none⟩ = some (.bool (l.getD i false))) := by
  obtain ⟨a, cap, hv, hc⟩ := h.at (n := n) (by simp [vB, hn])
  refine ⟨a, cap, hv, fun h0 => ?_⟩
  obtain ⟨b, o, ha, hcc⟩ := hc h0
  exact ⟨b, o, ha, fun i hi => by rw [hcc i hi]; simp [vB, List.getD_eq_getElem?_getD, hn, hi]⟩

set_option maxHeartbeats 8000000 in
theorem law7 {N : Nat} {w : World} {v : Value} {T : List LTx} (h : TxnsAt N w v T) (hp : fits T → Plain7 T) :
    Calls Try.prog 7 #[v] w (fun e w' => e = .returned (.bool true) ∧ Below w.heap.size w w') := by
  obtain ⟨a, cap, hv, _⟩ := h.form
  refine calls_of_cwp Try.func7 rfl Try.ntmps7 (by simp) ?_
  have h0 : argE #[v] 0 = v := rfl
  generalize argE #[v] = ρ at h0 ⊢
  refine cwp_sr rfl fun K hK => ?_
  simp only [exL_plain, exL_guard, exL_nil, fx_move, fx_assign, fx_pick, fx_nilCheck, fx_load, fx_fieldAddr, fx_indexAddr, fx_binOp, fx_not, fx_convert, fx_slice, fx_extract, fx_lookup, fx_build, fx_len, fx_store, fx_alloc, fx_box, fx_makeMap, fx_makeSlice, fx_buildSlice, fx_mapUpdate, fx_append, fx_call, ev_tmp, ev_const, updo_some, updo_none, upd_apply, thenQ_normal, optK_some, optE_some, optE_none, ptrK_mk, intK_mk, boolK_mk, strK_mk, sliceK_mk, addrK_mk, tupK_mk, mapK_mk, sndK_mk, mkK_mk, cvK_int, ldN_zero, ldN_two, ldN_four, ldN_five, binK_add, binK_sub, binK_mul, binK_eql, binK_neq, binK_lss, binK_leq, binK_gtr, binK_geq, binK_seql, binK_sneq, binK_sadd, binK_beql, binK_bneq, binK_peql, binK_pneq, binK_leql, binK_lneq, lenK_slice, lenK_string, ex_slice, ex_pointer, inR_i64, inR_i32, gdK_bool, gdK_undef, Ty.all, Nat.reduceEqDiff, Nat.reduceAdd, Nat.reduceMul, if_false, if_true, ↓reduceIte, true_and, and_true, Int.toNat_natCast, Nat.add_zero, Nat.mul_one, Bool.false_eq_true, decide_eq_true_eq, decide_eq_false_iff_not, Option.isNone_some, Option.isNone_none, Option.isSome_some, Option.isSome_none, List.map_toArray, List.map_cons, List.map_nil, stK_eq, stR_int, stR_bool, stR_string, stR_pointer, stR_slice, exD_plain, exD_guard, exD_nil, stepD_true, stepD_false, needOp, pureOp, Bool.false_or, Bool.true_or, Bool.or_false, Bool.or_true, gval_succ, gval_zero, Bd.s22, Bd.s22b, Bd.s31, Bd.s30, Bd.s30b, Bd.s30e, Bd.s42, Bd.s66, Bd.s67, Bd.b49, Bd.b54, Bd.b79, Bd.b82, Bd.b77, Bd.b86, Bd.b74, decide_true, decide_false, reduceCtorEq, ne_eq, not_true_eq_false, not_false_eq_true, true_implies, false_implies, implies_true, cond_true, cond_false, Bool.not_true, Bool.not_false, stR_agg2, stR_agg4, stR_agg5, one_int, one_bool, one_string, one_pointer, one_slice, one_map, retK_mk, cells_agg, rowAt_alloc, setRow_alloc, ow_four, ow_five, List.getElem_toArray, List.getElem_cons_zero, List.getElem_cons_succ, List.size_toArray, List.length_cons, List.length_nil, Nat.reduceLeDiff]
  repeat (refine ⟨by omega, ?_⟩)
  refine hK _ _ ?_
  clear hK K
  refine cwp_seq fun K hK => ?_
  refine cwp_sr rfl fun K hK => ?_
  simp only [exL_plain, exL_guard, exL_nil, fx_move, fx_assign, fx_pick, fx_nilCheck, fx_load, fx_fieldAddr, fx_indexAddr, fx_binOp, fx_not, fx_convert, fx_slice, fx_extract, fx_lookup, fx_build, fx_len, fx_store, fx_alloc, fx_box, fx_makeMap, fx_makeSlice, fx_buildSlice, fx_mapUpdate, fx_append, fx_call, ev_tmp, ev_const, updo_some, updo_none, upd_apply, thenQ_normal, optK_some, optE_some, optE_none, ptrK_mk, intK_mk, boolK_mk, strK_mk, sliceK_mk, addrK_mk, tupK_mk, mapK_mk, sndK_mk, mkK_mk, cvK_int, ldN_zero, ldN_two, ldN_four, ldN_five, binK_add, binK_sub, binK_mul, binK_eql, binK_neq, binK_lss, binK_leq, binK_gtr, binK_geq, binK_seql, binK_sneq, binK_sadd, binK_beql, binK_bneq, binK_peql, binK_pneq, binK_leql, binK_lneq, lenK_slice, lenK_string, ex_slice, ex_pointer, inR_i64, inR_i32, gdK_bool, gdK_undef, Ty.all, Nat.reduceEqDiff, Nat.reduceAdd, Nat.reduceMul, if_false, if_true, ↓reduceIte, true_and, and_true, Int.toNat_natCast, Nat.add_zero, Nat.mul_one, Bool.false_eq_true, decide_eq_true_eq, decide_eq_false_iff_not, Option.isNone_some, Option.isNone_none, Option.isSome_some, Option.isSome_none, List.map_toArray, List.map_cons, List.map_nil, stK_eq, stR_int, stR_bool, stR_string, stR_pointer, stR_slice, exD_plain, exD_guard, exD_nil, stepD_true, stepD_false, needOp, pureOp, Bool.false_or, Bool.true_or, Bool.or_false, Bool.or_true, gval_succ, gval_zero, Bd.s22, Bd.s22b, Bd.s31, Bd.s30, Bd.s30b, Bd.s30e, Bd.s42, Bd.s66, Bd.s67, Bd.b49, Bd.b54, Bd.b79, Bd.b82, Bd.b77, Bd.b86, Bd.b74, decide_true, decide_false, reduceCtorEq, ne_eq, not_true_eq_false, not_false_eq_true, true_implies, false_implies, implies_true, cond_true, cond_false, Bool.not_true, Bool.not_false, stR_agg2, stR_agg4, stR_agg5, one_int, one_bool, one_string, one_pointer, one_slice, one_map, retK_mk, cells_agg, rowAt_alloc, setRow_alloc, ow_four, ow_five, List.getElem_toArray, List.getElem_cons_zero, List.getElem_cons_succ, List.size_toArray, List.length_cons, List.length_nil, Nat.reduceLeDiff, h0]
  refine (zzBytes27 w v T h).mono ?_
  rintro e w' ⟨b, rfl, rfl, hsm⟩
  simp only [exL_plain, exL_guard, exL_nil, fx_move, fx_assign, fx_pick, fx_nilCheck, fx_load, fx_fieldAddr, fx_indexAddr, fx_binOp, fx_not, fx_convert, fx_slice, fx_extract, fx_lookup, fx_build, fx_len, fx_store, fx_alloc, fx_box, fx_makeMap, fx_makeSlice, fx_buildSlice, fx_mapUpdate, fx_append, fx_call, ev_tmp, ev_const, updo_some, updo_none, upd_apply, thenQ_normal, optK_some, optE_some, optE_none, ptrK_mk, intK_mk, boolK_mk, strK_mk, sliceK_mk, addrK_mk, tupK_mk, mapK_mk, sndK_mk, mkK_mk, cvK_int, ldN_zero, ldN_two, ldN_four, ldN_five, binK_add, binK_sub, binK_mul, binK_eql, binK_neq, binK_lss, binK_leq, binK_gtr, binK_geq, binK_seql, binK_sneq, binK_sadd, binK_beql, binK_bneq, binK_peql, binK_pneq, binK_leql, binK_lneq, lenK_slice, lenK_string, ex_slice, ex_pointer, inR_i64, inR_i32, gdK_bool, gdK_undef, Ty.all, Nat.reduceEqDiff, Nat.reduceAdd, Nat.reduceMul, if_false, if_true, ↓reduceIte, true_and, and_true, Int.toNat_natCast, Nat.add_zero, Nat.mul_one, Bool.false_eq_true, decide_eq_true_eq, decide_eq_false_iff_not, Option.isNone_some, Option.isNone_none, Option.isSome_some, Option.isSome_none, List.map_toArray, List.map_cons, List.map_nil, stK_eq, stR_int, stR_bool, stR_string, stR_pointer, stR_slice, exD_plain, exD_guard, exD_nil, stepD_true, stepD_false, needOp, pureOp, Bool.false_or, Bool.true_or, Bool.or_false, Bool.or_true, gval_succ, gval_zero, Bd.s22, Bd.s22b, Bd.s31, Bd.s30, Bd.s30b, Bd.s30e, Bd.s42, Bd.s66, Bd.s67, Bd.b49, Bd.b54, Bd.b79, Bd.b82, Bd.b77, Bd.b86, Bd.b74, decide_true, decide_false, reduceCtorEq, ne_eq, not_true_eq_false, not_false_eq_true, true_implies, false_implies, implies_true, cond_true, cond_false, Bool.not_true, Bool.not_false, stR_agg2, stR_agg4, stR_agg5, one_int, one_bool, one_string, one_pointer, one_slice, one_map, retK_mk, cells_agg, rowAt_alloc, setRow_alloc, ow_four, ow_five, List.getElem_toArray, List.getElem_cons_zero, List.getElem_cons_succ, List.size_toArray, List.length_cons, List.length_nil, Nat.reduceLeDiff]
  repeat (refine ⟨by omega, ?_⟩)
  refine hK _ _ ?_
  clear hK K
  refine cwp_cond ?_
  simp only [exL_plain, exL_guard, exL_nil, fx_move, fx_assign, fx_pick, fx_nilCheck, fx_load, fx_fieldAddr, fx_indexAddr, fx_binOp, fx_not, fx_convert, fx_slice, fx_extract, fx_lookup, fx_build, fx_len, fx_store, fx_alloc, fx_box, fx_makeMap, fx_makeSlice, fx_buildSlice, fx_mapUpdate, fx_append, fx_call, ev_tmp, ev_const, updo_some, updo_none, upd_apply, thenQ_normal, optK_some, optE_some, optE_none, ptrK_mk, intK_mk, boolK_mk, strK_mk, sliceK_mk, addrK_mk, tupK_mk, mapK_mk, sndK_mk, mkK_mk, cvK_int, ldN_zero, ldN_two, ldN_four, ldN_five, binK_add, binK_sub, binK_mul, binK_eql, binK_neq, binK_lss, binK_leq, binK_gtr, binK_geq, binK_seql, binK_sneq, binK_sadd, binK_beql, binK_bneq, binK_peql, binK_pneq, binK_leql, binK_lneq, lenK_slice, lenK_string, ex_slice, ex_pointer, inR_i64, inR_i32, gdK_bool, gdK_undef, Ty.all, Nat.reduceEqDiff, Nat.reduceAdd, Nat.reduceMul, if_false, if_true, ↓reduceIte, true_and, and_true, Int.toNat_natCast, Nat.add_zero, Nat.mul_one, Bool.false_eq_true, decide_eq_true_eq, decide_eq_false_iff_not, Option.isNone_some, Option.isNone_none, Option.isSome_some, Option.isSome_none, List.map_toArray, List.map_cons, List.map_nil, stK_eq, stR_int, stR_bool, stR_string, stR_pointer, stR_slice, exD_plain, exD_guard, exD_nil, stepD_true, stepD_false, needOp, pureOp, Bool.false_or, Bool.true_or, Bool.or_false, Bool.or_true, gval_succ, gval_zero, Bd.s22, Bd.s22b, Bd.s31, Bd.s30, Bd.s30b, Bd.s30e, Bd.s42, Bd.s66, Bd.s67, Bd.b49, Bd.b54, Bd.b79, Bd.b82, Bd.b77, Bd.b86, Bd.b74, decide_true, decide_false, reduceCtorEq, ne_eq, not_true_eq_false, not_false_eq_true, true_implies, false_implies, implies_true, cond_true, cond_false, Bool.not_true, Bool.not_false, stR_agg2, stR_agg4, stR_agg5, one_int, one_bool, one_string, one_pointer, one_slice, one_map, retK_mk, cells_agg, rowAt_alloc, setRow_alloc, ow_four, ow_five, List.getElem_toArray, List.getElem_cons_zero, List.getElem_cons_succ, List.size_toArray, List.length_cons, List.length_nil, Nat.reduceLeDiff]
  refine ⟨fun hb => ?_, fun hb => cwp_skip (hK _ _ ?_)⟩
  · refine cwp_sr rfl fun K hK => ?_
    simp only [exL_plain, exL_guard, exL_nil, fx_move, fx_assign, fx_pick, fx_nilCheck, fx_load, fx_fieldAddr, fx_indexAddr, fx_binOp, fx_not, fx_convert, fx_slice, fx_extract, fx_lookup, fx_build, fx_len, fx_store, fx_alloc, fx_box, fx_makeMap, fx_makeSlice, fx_buildSlice, fx_mapUpdate, fx_append, fx_call, ev_tmp, ev_const, updo_some, updo_none, upd_apply, thenQ_normal, optK_some, optE_some, optE_none, ptrK_mk, intK_mk, boolK_mk, strK_mk, sliceK_mk, addrK_mk, tupK_mk, mapK_mk, sndK_mk, mkK_mk, cvK_int, ldN_zero, ldN_two, ldN_four, ldN_five, binK_add, binK_sub, binK_mul, binK_eql, binK_neq, binK_lss, binK_leq, binK_gtr, binK_geq, binK_seql, binK_sneq, binK_sadd, binK_beql, binK_bneq, binK_peql, binK_pneq, binK_leql, binK_lneq, lenK_slice, lenK_string, ex_slice, ex_pointer, inR_i64, inR_i32, gdK_bool, gdK_undef, Ty.all, Nat.reduceEqDiff, Nat.reduceAdd, Nat.reduceMul, if_false, if_true, ↓reduceIte, true_and, and_true, Int.toNat_natCast, Nat.add_zero, Nat.mul_one, Bool.false_eq_true, decide_eq_true_eq, decide_eq_false_iff_not, Option.isNone_some, Option.isNone_none, Option.isSome_some, Option.isSome_none, List.map_toArray, List.map_cons, List.map_nil, stK_eq, stR_int, stR_bool, stR_string, stR_pointer, stR_slice, exD_plain, exD_guard, exD_nil, stepD_true, stepD_false, needOp, pureOp, Bool.false_or, Bool.true_or, Bool.or_false, Bool.or_true, gval_succ, gval_zero, Bd.s22, Bd.s22b, Bd.s31, Bd.s30, Bd.s30b, Bd.s30e, Bd.s42, Bd.s66, Bd.s67, Bd.b49, Bd.b54, Bd.b79, Bd.b82, Bd.b77, Bd.b86, Bd.b74, decide_true, decide_false, reduceCtorEq, ne_eq, not_true_eq_false, not_false_eq_true, true_implies, false_implies, implies_true, cond_true, cond_false, Bool.not_true, Bool.not_false, stR_agg2, stR_agg4, stR_agg5, one_int, one_bool, one_string, one_pointer, one_slice, one_map, retK_mk, cells_agg, rowAt_alloc, setRow_alloc, ow_four, ow_five, List.getElem_toArray, List.getElem_cons_zero, List.getElem_cons_succ, List.size_toArray, List.length_cons, List.length_nil, Nat.reduceLeDiff]
    repeat (refine ⟨by omega, ?_⟩)
    refine hK _ _ ?_
    clear hK K
    refine cwp_ret ?_
    try simp only [thenQ_ret, blkQ_ret, exQ_ret]
    refine endQ_val (t := 2) (v := .bool true) rfl (by simp only [upd_apply, Nat.reduceEqDiff, if_false, if_true, ↓reduceIte]) ?_
    exact ⟨rfl, Below.refl _ _⟩
  clear hK K
  have hsm := hsm (by simpa using hb)
  refine cwp_forget [0, 2] fun ρ hL => ?_
  have h0X := hL 0 (by simp)
  have h2X := hL 2 (by simp)
  clear hL
  simp only [upd_apply, Nat.reduceEqDiff, if_false, if_true, ↓reduceIte, h0] at h0X h2X
  have h0 := h0X
  clear h0X
  have h2 := h2X
  clear h2X
  rw [hv] at h0
  have hsl := hsm.1
  refine cwp_seq fun K hK => ?_
  refine cwp_sr rfl fun K hK => ?_
  simp only [exL_plain, exL_guard, exL_nil, fx_move, fx_assign, fx_pick, fx_nilCheck, fx_load, fx_fieldAddr, fx_indexAddr, fx_binOp, fx_not, fx_convert, fx_slice, fx_extract, fx_lookup, fx_build, fx_len, fx_store, fx_alloc, fx_box, fx_makeMap, fx_makeSlice, fx_buildSlice, fx_mapUpdate, fx_append, fx_call, ev_tmp, ev_const, updo_some, updo_none, upd_apply, thenQ_normal, optK_some, optE_some, optE_none, ptrK_mk, intK_mk, boolK_mk, strK_mk, sliceK_mk, addrK_mk, tupK_mk, mapK_mk, sndK_mk, mkK_mk, cvK_int, ldN_zero, ldN_two, ldN_four, ldN_five, binK_add, binK_sub, binK_mul, binK_eql, binK_neq, binK_lss, binK_leq, binK_gtr, binK_geq, binK_seql, binK_sneq, binK_sadd, binK_beql, binK_bneq, binK_peql, binK_pneq, binK_leql, binK_lneq, lenK_slice, lenK_string, ex_slice, ex_pointer, inR_i64, inR_i32, gdK_bool, gdK_undef, Ty.all, Nat.reduceEqDiff, Nat.reduceAdd, Nat.reduceMul, if_false, if_true, ↓reduceIte, true_and, and_true, Int.toNat_natCast, Nat.add_zero, Nat.mul_one, Bool.false_eq_true, decide_eq_true_eq, decide_eq_false_iff_not, Option.isNone_some, Option.isNone_none, Option.isSome_some, Option.isSome_none, List.map_toArray, List.map_cons, List.map_nil, stK_eq, stR_int, stR_bool, stR_string, stR_pointer, stR_slice, exD_plain, exD_guard, exD_nil, stepD_true, stepD_false, needOp, pureOp, Bool.false_or, Bool.true_or, Bool.or_false, Bool.or_true, gval_succ, gval_zero, Bd.s22, Bd.s22b, Bd.s31, Bd.s30, Bd.s30b, Bd.s30e, Bd.s42, Bd.s66, Bd.s67, Bd.b49, Bd.b54, Bd.b79, Bd.b82, Bd.b77, Bd.b86, Bd.b74, decide_true, decide_false, reduceCtorEq, ne_eq, not_true_eq_false, not_false_eq_true, true_implies, false_implies, implies_true, cond_true, cond_false, Bool.not_true, Bool.not_false, stR_agg2, stR_agg4, stR_agg5, one_int, one_bool, one_string, one_pointer, one_slice, one_map, retK_mk, cells_agg, rowAt_alloc, setRow_alloc, ow_four, ow_five, List.getElem_toArray, List.getElem_cons_zero, List.getElem_cons_succ, List.size_toArray, List.length_cons, List.length_nil, Nat.reduceLeDiff, h0]
  repeat (refine ⟨by omega, ?_⟩)
  refine hK _ _ ?_
  clear hK K
  refine cwp_cond ?_
  simp only [exL_plain, exL_guard, exL_nil, fx_move, fx_assign, fx_pick, fx_nilCheck, fx_load, fx_fieldAddr, fx_indexAddr, fx_binOp, fx_not, fx_convert, fx_slice, fx_extract, fx_lookup, fx_build, fx_len, fx_store, fx_alloc, fx_box, fx_makeMap, fx_makeSlice, fx_buildSlice, fx_mapUpdate, fx_append, fx_call, ev_tmp, ev_const, updo_some, updo_none, upd_apply, thenQ_normal, optK_some, optE_some, optE_none, ptrK_mk, intK_mk, boolK_mk, strK_mk, sliceK_mk, addrK_mk, tupK_mk, mapK_mk, sndK_mk, mkK_mk, cvK_int, ldN_zero, ldN_two, ldN_four, ldN_five, binK_add, binK_sub, binK_mul, binK_eql, binK_neq, binK_lss, binK_leq, binK_gtr, binK_geq, binK_seql, binK_sneq, binK_sadd, binK_beql, binK_bneq, binK_peql, binK_pneq, binK_leql, binK_lneq, lenK_slice, lenK_string, ex_slice, ex_pointer, inR_i64, inR_i32, gdK_bool, gdK_undef, Ty.all, Nat.reduceEqDiff, Nat.reduceAdd, Nat.reduceMul, if_false, if_true, ↓reduceIte, true_and, and_true, Int.toNat_natCast, Nat.add_zero, Nat.mul_one, Bool.false_eq_true, decide_eq_true_eq, decide_eq_false_iff_not, Option.isNone_some, Option.isNone_none, Option.isSome_some, Option.isSome_none, List.map_toArray, List.map_cons, List.map_nil, stK_eq, stR_int, stR_bool, stR_string, stR_pointer, stR_slice, exD_plain, exD_guard, exD_nil, stepD_true, stepD_false, needOp, pureOp, Bool.false_or, Bool.true_or, Bool.or_false, Bool.or_true, gval_succ, gval_zero, Bd.s22, Bd.s22b, Bd.s31, Bd.s30, Bd.s30b, Bd.s30e, Bd.s42, Bd.s66, Bd.s67, Bd.b49, Bd.b54, Bd.b79, Bd.b82, Bd.b77, Bd.b86, Bd.b74, decide_true, decide_false, reduceCtorEq, ne_eq, not_true_eq_false, not_false_eq_true, true_implies, false_implies, implies_true, cond_true, cond_false, Bool.not_true, Bool.not_false, stR_agg2, stR_agg4, stR_agg5, one_int, one_bool, one_string, one_pointer, one_slice, one_map, retK_mk, cells_agg, rowAt_alloc, setRow_alloc, ow_four, ow_five, List.getElem_toArray, List.getElem_cons_zero, List.getElem_cons_succ, List.size_toArray, List.length_cons, List.length_nil, Nat.reduceLeDiff, h0]
  refine ⟨fun hc => ?_, fun hc => cwp_skip (hK _ _ ?_)⟩
  · refine cwp_sr rfl fun K hK => ?_
    simp only [exL_plain, exL_guard, exL_nil, fx_move, fx_assign, fx_pick, fx_nilCheck, fx_load, fx_fieldAddr, fx_indexAddr, fx_binOp, fx_not, fx_convert, fx_slice, fx_extract, fx_lookup, fx_build, fx_len, fx_store, fx_alloc, fx_box, fx_makeMap, fx_makeSlice, fx_buildSlice, fx_mapUpdate, fx_append, fx_call, ev_tmp, ev_const, updo_some, updo_none, upd_apply, thenQ_normal, optK_some, optE_some, optE_none, ptrK_mk, intK_mk, boolK_mk, strK_mk, sliceK_mk, addrK_mk, tupK_mk, mapK_mk, sndK_mk, mkK_mk, cvK_int, ldN_zero, ldN_two, ldN_four, ldN_five, binK_add, binK_sub, binK_mul, binK_eql, binK_neq, binK_lss, binK_leq, binK_gtr, binK_geq, binK_seql, binK_sneq, binK_sadd, binK_beql, binK_bneq, binK_peql, binK_pneq, binK_leql, binK_lneq, lenK_slice, lenK_string, ex_slice, ex_pointer, inR_i64, inR_i32, gdK_bool, gdK_undef, Ty.all, Nat.reduceEqDiff, Nat.reduceAdd, Nat.reduceMul, if_false, if_true, ↓reduceIte, true_and, and_true, Int.toNat_natCast, Nat.add_zero, Nat.mul_one, Bool.false_eq_true, decide_eq_true_eq, decide_eq_false_iff_not, Option.isNone_some, Option.isNone_none, Option.isSome_some, Option.isSome_none, List.map_toArray, List.map_cons, List.map_nil, stK_eq, stR_int, stR_bool, stR_string, stR_pointer, stR_slice, exD_plain, exD_guard, exD_nil, stepD_true, stepD_false, needOp, pureOp, Bool.false_or, Bool.true_or, Bool.or_false, Bool.or_true, gval_succ, gval_zero, Bd.s22, Bd.s22b, Bd.s31, Bd.s30, Bd.s30b, Bd.s30e, Bd.s42, Bd.s66, Bd.s67, Bd.b49, Bd.b54, Bd.b79, Bd.b82, Bd.b77, Bd.b86, Bd.b74, decide_true, decide_false, reduceCtorEq, ne_eq, not_true_eq_false, not_false_eq_true, true_implies, false_implies, implies_true, cond_true, cond_false, Bool.not_true, Bool.not_false, stR_agg2, stR_agg4, stR_agg5, one_int, one_bool, one_string, one_pointer, one_slice, one_map, retK_mk, cells_agg, rowAt_alloc, setRow_alloc, ow_four, ow_five, List.getElem_toArray, List.getElem_cons_zero, List.getElem_cons_succ, List.size_toArray, List.length_cons, List.length_nil, Nat.reduceLeDiff]
    repeat (refine ⟨by omega, ?_⟩)
    refine hK _ _ ?_
    clear hK K
    refine cwp_ret ?_
    try simp only [thenQ_ret, blkQ_ret, exQ_ret]
    refine endQ_val (t := 2) (v := .bool true) rfl (by simp only [upd_apply, Nat.reduceEqDiff, if_false, if_true, ↓reduceIte]) ?_
    exact ⟨rfl, Below.refl _ _⟩
  clear hK K
  refine cwp_seq fun K hK => ?_
  refine cwp_sr rfl fun K hK => ?_
  simp only [exL_plain, exL_guard, exL_nil, fx_move, fx_assign, fx_pick, fx_nilCheck, fx_load, fx_fieldAddr, fx_indexAddr, fx_binOp, fx_not, fx_convert, fx_slice, fx_extract, fx_lookup, fx_build, fx_len, fx_store, fx_alloc, fx_box, fx_makeMap, fx_makeSlice, fx_buildSlice, fx_mapUpdate, fx_append, fx_call, ev_tmp, ev_const, updo_some, updo_none, upd_apply, thenQ_normal, optK_some, optE_some, optE_none, ptrK_mk, intK_mk, boolK_mk, strK_mk, sliceK_mk, addrK_mk, tupK_mk, mapK_mk, sndK_mk, mkK_mk, cvK_int, ldN_zero, ldN_two, ldN_four, ldN_five, binK_add, binK_sub, binK_mul, binK_eql, binK_neq, binK_lss, binK_leq, binK_gtr, binK_geq, binK_seql, binK_sneq, binK_sadd, binK_beql, binK_bneq, binK_peql, binK_pneq, binK_leql, binK_lneq, lenK_slice, lenK_string, ex_slice, ex_pointer, inR_i64, inR_i32, gdK_bool, gdK_undef, Ty.all, Nat.reduceEqDiff, Nat.reduceAdd, Nat.reduceMul, if_false, if_true, ↓reduceIte, true_and, and_true, Int.toNat_natCast, Nat.add_zero, Nat.mul_one, Bool.false_eq_true, decide_eq_true_eq, decide_eq_false_iff_not, Option.isNone_some, Option.isNone_none, Option.isSome_some, Option.isSome_none, List.map_toArray, List.map_cons, List.map_nil, stK_eq, stR_int, stR_bool, stR_string, stR_pointer, stR_slice, exD_plain, exD_guard, exD_nil, stepD_true, stepD_false, needOp, pureOp, Bool.false_or, Bool.true_or, Bool.or_false, Bool.or_true, gval_succ, gval_zero, Bd.s22, Bd.s22b, Bd.s31, Bd.s30, Bd.s30b, Bd.s30e, Bd.s42, Bd.s66, Bd.s67, Bd.b49, Bd.b54, Bd.b79, Bd.b82, Bd.b77, Bd.b86, Bd.b74, decide_true, decide_false, reduceCtorEq, ne_eq, not_true_eq_false, not_false_eq_true, true_implies, false_implies, implies_true, cond_true, cond_false, Bool.not_true, Bool.not_false, stR_agg2, stR_agg4, stR_agg5, one_int, one_bool, one_string, one_pointer, one_slice, one_map, retK_mk, cells_agg, rowAt_alloc, setRow_alloc, ow_four, ow_five, List.getElem_toArray, List.getElem_cons_zero, List.getElem_cons_succ, List.size_toArray, List.length_cons, List.length_nil, Nat.reduceLeDiff, h0]
  rw [← hv]
  refine (txnsFit w' v T h hsm).mono ?_
  rintro e w1 ⟨b1, rfl, hb1, hft⟩
  simp only [exL_plain, exL_guard, exL_nil, fx_move, fx_assign, fx_pick, fx_nilCheck, fx_load, fx_fieldAddr, fx_indexAddr, fx_binOp, fx_not, fx_convert, fx_slice, fx_extract, fx_lookup, fx_build, fx_len, fx_store, fx_alloc, fx_box, fx_makeMap, fx_makeSlice, fx_buildSlice, fx_mapUpdate, fx_append, fx_call, ev_tmp, ev_const, updo_some, updo_none, upd_apply, thenQ_normal, optK_some, optE_some, optE_none, ptrK_mk, intK_mk, boolK_mk, strK_mk, sliceK_mk, addrK_mk, tupK_mk, mapK_mk, sndK_mk, mkK_mk, cvK_int, ldN_zero, ldN_two, ldN_four, ldN_five, binK_add, binK_sub, binK_mul, binK_eql, binK_neq, binK_lss, binK_leq, binK_gtr, binK_geq, binK_seql, binK_sneq, binK_sadd, binK_beql, binK_bneq, binK_peql, binK_pneq, binK_leql, binK_lneq, lenK_slice, lenK_string, ex_slice, ex_pointer, inR_i64, inR_i32, gdK_bool, gdK_undef, Ty.all, Nat.reduceEqDiff, Nat.reduceAdd, Nat.reduceMul, if_false, if_true, ↓reduceIte, true_and, and_true, Int.toNat_natCast, Nat.add_zero, Nat.mul_one, Bool.false_eq_true, decide_eq_true_eq, decide_eq_false_iff_not, Option.isNone_some, Option.isNone_none, Option.isSome_some, Option.isSome_none, List.map_toArray, List.map_cons, List.map_nil, stK_eq, stR_int, stR_bool, stR_string, stR_pointer, stR_slice, exD_plain, exD_guard, exD_nil, stepD_true, stepD_false, needOp, pureOp, Bool.false_or, Bool.true_or, Bool.or_false, Bool.or_true, gval_succ, gval_zero, Bd.s22, Bd.s22b, Bd.s31, Bd.s30, Bd.s30b, Bd.s30e, Bd.s42, Bd.s66, Bd.s67, Bd.b49, Bd.b54, Bd.b79, Bd.b82, Bd.b77, Bd.b86, Bd.b74, decide_true, decide_false, reduceCtorEq, ne_eq, not_true_eq_false, not_false_eq_true, true_implies, false_implies, implies_true, cond_true, cond_false, Bool.not_true, Bool.not_false, stR_agg2, stR_agg4, stR_agg5, one_int, one_bool, one_string, one_pointer, one_slice, one_map, retK_mk, cells_agg, rowAt_alloc, setRow_alloc, ow_four, ow_five, List.getElem_toArray, List.getElem_cons_zero, List.getElem_cons_succ, List.size_toArray, List.length_cons, List.length_nil, Nat.reduceLeDiff]
  repeat (refine ⟨by omega, ?_⟩)
  refine hK _ _ ?_
  clear hK K
  refine cwp_cond ?_
  simp only [exL_plain, exL_guard, exL_nil, fx_move, fx_assign, fx_pick, fx_nilCheck, fx_load, fx_fieldAddr, fx_indexAddr, fx_binOp, fx_not, fx_convert, fx_slice, fx_extract, fx_lookup, fx_build, fx_len, fx_store, fx_alloc, fx_box, fx_makeMap, fx_makeSlice, fx_buildSlice, fx_mapUpdate, fx_append, fx_call, ev_tmp, ev_const, updo_some, updo_none, upd_apply, thenQ_normal, optK_some, optE_some, optE_none, ptrK_mk, intK_mk, boolK_mk, strK_mk, sliceK_mk, addrK_mk, tupK_mk, mapK_mk, sndK_mk, mkK_mk, cvK_int, ldN_zero, ldN_two, ldN_four, ldN_five, binK_add, binK_sub, binK_mul, binK_eql, binK_neq, binK_lss, binK_leq, binK_gtr, binK_geq, binK_seql, binK_sneq, binK_sadd, binK_beql, binK_bneq, binK_peql, binK_pneq, binK_leql, binK_lneq, lenK_slice, lenK_string, ex_slice, ex_pointer, inR_i64, inR_i32, gdK_bool, gdK_undef, Ty.all, Nat.reduceEqDiff, Nat.reduceAdd, Nat.reduceMul, if_false, if_true, ↓reduceIte, true_and, and_true, Int.toNat_natCast, Nat.add_zero, Nat.mul_one, Bool.false_eq_true, decide_eq_true_eq, decide_eq_false_iff_not, Option.isNone_some, Option.isNone_none, Option.isSome_some, Option.isSome_none, List.map_toArray, List.map_cons, List.map_nil, stK_eq, stR_int, stR_bool, stR_string, stR_pointer, stR_slice, exD_plain, exD_guard, exD_nil, stepD_true, stepD_false, needOp, pureOp, Bool.false_or, Bool.true_or, Bool.or_false, Bool.or_true, gval_succ, gval_zero, Bd.s22, Bd.s22b, Bd.s31, Bd.s30, Bd.s30b, Bd.s30e, Bd.s42, Bd.s66, Bd.s67, Bd.b49, Bd.b54, Bd.b79, Bd.b82, Bd.b77, Bd.b86, Bd.b74, decide_true, decide_false, reduceCtorEq, ne_eq, not_true_eq_false, not_false_eq_true, true_implies, false_implies, implies_true, cond_true, cond_false, Bool.not_true, Bool.not_false, stR_agg2, stR_agg4, stR_agg5, one_int, one_bool, one_string, one_pointer, one_slice, one_map, retK_mk, cells_agg, rowAt_alloc, setRow_alloc, ow_four, ow_five, List.getElem_toArray, List.getElem_cons_zero, List.getElem_cons_succ, List.size_toArray, List.length_cons, List.length_nil, Nat.reduceLeDiff]
  refine ⟨fun hb => ?_, fun hb => cwp_skip (hK _ _ ?_)⟩
  · refine cwp_sr rfl fun K hK => ?_
    simp only [exL_plain, exL_guard, exL_nil, fx_move, fx_assign, fx_pick, fx_nilCheck, fx_load, fx_fieldAddr, fx_indexAddr, fx_binOp, fx_not, fx_convert, fx_slice, fx_extract, fx_lookup, fx_build, fx_len, fx_store, fx_alloc, fx_box, fx_makeMap, fx_makeSlice, fx_buildSlice, fx_mapUpdate, fx_append, fx_call, ev_tmp, ev_const, updo_some, updo_none, upd_apply, thenQ_normal, optK_some, optE_some, optE_none, ptrK_mk, intK_mk, boolK_mk, strK_mk, sliceK_mk, addrK_mk, tupK_mk, mapK_mk, sndK_mk, mkK_mk, cvK_int, ldN_zero, ldN_two, ldN_four, ldN_five, binK_add, binK_sub, binK_mul, binK_eql, binK_neq, binK_lss, binK_leq, binK_gtr, binK_geq, binK_seql, binK_sneq, binK_sadd, binK_beql, binK_bneq, binK_peql, binK_pneq, binK_leql, binK_lneq, lenK_slice, lenK_string, ex_slice, ex_pointer, inR_i64, inR_i32, gdK_bool, gdK_undef, Ty.all, Nat.reduceEqDiff, Nat.reduceAdd, Nat.reduceMul, if_false, if_true, ↓reduceIte, true_and, and_true, Int.toNat_natCast, Nat.add_zero, Nat.mul_one, Bool.false_eq_true, decide_eq_true_eq, decide_eq_false_iff_not, Option.isNone_some, Option.isNone_none, Option.isSome_some, Option.isSome_none, List.map_toArray, List.map_cons, List.map_nil, stK_eq, stR_int, stR_bool, stR_string, stR_pointer, stR_slice, exD_plain, exD_guard, exD_nil, stepD_true, stepD_false, needOp, pureOp, Bool.false_or, Bool.true_or, Bool.or_false, Bool.or_true, gval_succ, gval_zero, Bd.s22, Bd.s22b, Bd.s31, Bd.s30, Bd.s30b, Bd.s30e, Bd.s42, Bd.s66, Bd.s67, Bd.b49, Bd.b54, Bd.b79, Bd.b82, Bd.b77, Bd.b86, Bd.b74, decide_true, decide_false, reduceCtorEq, ne_eq, not_true_eq_false, not_false_eq_true, true_implies, false_implies, implies_true, cond_true, cond_false, Bool.not_true, Bool.not_false, stR_agg2, stR_agg4, stR_agg5, one_int, one_bool, one_string, one_pointer, one_slice, one_map, retK_mk, cells_agg, rowAt_alloc, setRow_alloc, ow_four, ow_five, List.getElem_toArray, List.getElem_cons_zero, List.getElem_cons_succ, List.size_toArray, List.length_cons, List.length_nil, Nat.reduceLeDiff]
    repeat (refine ⟨by omega, ?_⟩)
    refine hK _ _ ?_
    clear hK K
    refine cwp_ret ?_
    try simp only [thenQ_ret, blkQ_ret, exQ_ret]
    refine endQ_val (t := 2) (v := .bool true) rfl (by simp only [upd_apply, Nat.reduceEqDiff, if_false, if_true, ↓reduceIte]) ?_
    exact ⟨rfl, hb1⟩
  clear hK K
  have hft := hft (by simpa using hb)
  have hP := hp hft
  have h1 := h.up hb1
  refine cwp_forget [0] fun ρ hL => ?_
  have h0X := hL 0 (by simp)
  clear hL
  simp only [upd_apply, Nat.reduceEqDiff, if_false, if_true, ↓reduceIte, h0] at h0X
  have h0 := h0X
  clear h0X
  rw [← hv] at h0
  refine cwp_sr rfl fun K hK => ?_
  simp only [exL_plain, exL_guard, exL_nil, fx_move, fx_assign, fx_pick, fx_nilCheck, fx_load, fx_fieldAddr, fx_indexAddr, fx_binOp, fx_not, fx_convert, fx_slice, fx_extract, fx_lookup, fx_build, fx_len, fx_store, fx_alloc, fx_box, fx_makeMap, fx_makeSlice, fx_buildSlice, fx_mapUpdate, fx_append, fx_call, ev_tmp, ev_const, updo_some, updo_none, upd_apply, thenQ_normal, optK_some, optE_some, optE_none, ptrK_mk, intK_mk, boolK_mk, strK_mk, sliceK_mk, addrK_mk, tupK_mk, mapK_mk, sndK_mk, mkK_mk, cvK_int, ldN_zero, ldN_two, ldN_four, ldN_five, binK_add, binK_sub, binK_mul, binK_eql, binK_neq, binK_lss, binK_leq, binK_gtr, binK_geq, binK_seql, binK_sneq, binK_sadd, binK_beql, binK_bneq, binK_peql, binK_pneq, binK_leql, binK_lneq, lenK_slice, lenK_string, ex_slice, ex_pointer, inR_i64, inR_i32, gdK_bool, gdK_undef, Ty.all, Nat.reduceEqDiff, Nat.reduceAdd, Nat.reduceMul, if_false, if_true, ↓reduceIte, true_and, and_true, Int.toNat_natCast, Nat.add_zero, Nat.mul_one, Bool.false_eq_true, decide_eq_true_eq, decide_eq_false_iff_not, Option.isNone_some, Option.isNone_none, Option.isSome_some, Option.isSome_none, List.map_toArray, List.map_cons, List.map_nil, stK_eq, stR_int, stR_bool, stR_string, stR_pointer, stR_slice, exD_plain, exD_guard, exD_nil, stepD_true, stepD_false, needOp, pureOp, Bool.false_or, Bool.true_or, Bool.or_false, Bool.or_true, gval_succ, gval_zero, Bd.s22, Bd.s22b, Bd.s31, Bd.s30, Bd.s30b, Bd.s30e, Bd.s42, Bd.s66, Bd.s67, Bd.b49, Bd.b54, Bd.b79, Bd.b82, Bd.b77, Bd.b86, Bd.b74, decide_true, decide_false, reduceCtorEq, ne_eq, not_true_eq_false, not_false_eq_true, true_implies, false_implies, implies_true, cond_true, cond_false, Bool.not_true, Bool.not_false, stR_agg2, stR_agg4, stR_agg5, one_int, one_bool, one_string, one_pointer, one_slice, one_map, retK_mk, cells_agg, rowAt_alloc, setRow_alloc, ow_four, ow_five, List.getElem_toArray, List.getElem_cons_zero, List.getElem_cons_succ, List.size_toArray, List.length_cons, List.length_nil, Nat.reduceLeDiff, h0]
  refine (cloneTxns w1 v T h1 hsm).mono ?_
  rintro e w2 ⟨v2, rfl, hb2, h2⟩
  simp only [exL_plain, exL_guard, exL_nil, fx_move, fx_assign, fx_pick, fx_nilCheck, fx_load, fx_fieldAddr, fx_indexAddr, fx_binOp, fx_not, fx_convert, fx_slice, fx_extract, fx_lookup, fx_build, fx_len, fx_store, fx_alloc, fx_box, fx_makeMap, fx_makeSlice, fx_buildSlice, fx_mapUpdate, fx_append, fx_call, ev_tmp, ev_const, updo_some, updo_none, upd_apply, thenQ_normal, optK_some, optE_some, optE_none, ptrK_mk, intK_mk, boolK_mk, strK_mk, sliceK_mk, addrK_mk, tupK_mk, mapK_mk, sndK_mk, mkK_mk, cvK_int, ldN_zero, ldN_two, ldN_four, ldN_five, binK_add, binK_sub, binK_mul, binK_eql, binK_neq, binK_lss, binK_leq, binK_gtr, binK_geq, binK_seql, binK_sneq, binK_sadd, binK_beql, binK_bneq, binK_peql, binK_pneq, binK_leql, binK_lneq, lenK_slice, lenK_string, ex_slice, ex_pointer, inR_i64, inR_i32, gdK_bool, gdK_undef, Ty.all, Nat.reduceEqDiff, Nat.reduceAdd, Nat.reduceMul, if_false, if_true, ↓reduceIte, true_and, and_true, Int.toNat_natCast, Nat.add_zero, Nat.mul_one, Bool.false_eq_true, decide_eq_true_eq, decide_eq_false_iff_not, Option.isNone_some, Option.isNone_none, Option.isSome_some, Option.isSome_none, List.map_toArray, List.map_cons, List.map_nil, stK_eq, stR_int, stR_bool, stR_string, stR_pointer, stR_slice, exD_plain, exD_guard, exD_nil, stepD_true, stepD_false, needOp, pureOp, Bool.false_or, Bool.true_or, Bool.or_false, Bool.or_true, gval_succ, gval_zero, Bd.s22, Bd.s22b, Bd.s31, Bd.s30, Bd.s30b, Bd.s30e, Bd.s42, Bd.s66, Bd.s67, Bd.b49, Bd.b54, Bd.b79, Bd.b82, Bd.b77, Bd.b86, Bd.b74, decide_true, decide_false, reduceCtorEq, ne_eq, not_true_eq_false, not_false_eq_true, true_implies, false_implies, implies_true, cond_true, cond_false, Bool.not_true, Bool.not_false, stR_agg2, stR_agg4, stR_agg5, one_int, one_bool, one_string, one_pointer, one_slice, one_map, retK_mk, cells_agg, rowAt_alloc, setRow_alloc, ow_four, ow_five, List.getElem_toArray, List.getElem_cons_zero, List.getElem_cons_succ, List.size_toArray, List.length_cons, List.length_nil, Nat.reduceLeDiff]
  repeat (refine ⟨by omega, ?_⟩)
  refine hK _ _ ?_
  clear hK K
  refine cwp_forget [0] fun ρ hL => ?_
  have h0X := hL 0 (by simp)
  clear hL
  simp only [upd_apply, Nat.reduceEqDiff, if_false, if_true, ↓reduceIte] at h0X
  have h0 := h0X
  clear h0X
  refine cwp_sr rfl fun K hK => ?_
  simp only [exL_plain, exL_guard, exL_nil, fx_move, fx_assign, fx_pick, fx_nilCheck, fx_load, fx_fieldAddr, fx_indexAddr, fx_binOp, fx_not, fx_convert, fx_slice, fx_extract, fx_lookup, fx_build, fx_len, fx_store, fx_alloc, fx_box, fx_makeMap, fx_makeSlice, fx_buildSlice, fx_mapUpdate, fx_append, fx_call, ev_tmp, ev_const, updo_some, updo_none, upd_apply, thenQ_normal, optK_some, optE_some, optE_none, ptrK_mk, intK_mk, boolK_mk, strK_mk, sliceK_mk, addrK_mk, tupK_mk, mapK_mk, sndK_mk, mkK_mk, cvK_int, ldN_zero, ldN_two, ldN_four, ldN_five, binK_add, binK_sub, binK_mul, binK_eql, binK_neq, binK_lss, binK_leq, binK_gtr, binK_geq, binK_seql, binK_sneq, binK_sadd, binK_beql, binK_bneq, binK_peql, binK_pneq, binK_leql, binK_lneq, lenK_slice, lenK_string, ex_slice, ex_pointer, inR_i64, inR_i32, gdK_bool, gdK_undef, Ty.all, Nat.reduceEqDiff, Nat.reduceAdd, Nat.reduceMul, if_false, if_true, ↓reduceIte, true_and, and_true, Int.toNat_natCast, Nat.add_zero, Nat.mul_one, Bool.false_eq_true, decide_eq_true_eq, decide_eq_false_iff_not, Option.isNone_some, Option.isNone_none, Option.isSome_some, Option.isSome_none, List.map_toArray, List.map_cons, List.map_nil, stK_eq, stR_int, stR_bool, stR_string, stR_pointer, stR_slice, exD_plain, exD_guard, exD_nil, stepD_true, stepD_false, needOp, pureOp, Bool.false_or, Bool.true_or, Bool.or_false, Bool.or_true, gval_succ, gval_zero, Bd.s22, Bd.s22b, Bd.s31, Bd.s30, Bd.s30b, Bd.s30e, Bd.s42, Bd.s66, Bd.s67, Bd.b49, Bd.b54, Bd.b79, Bd.b82, Bd.b77, Bd.b86, Bd.b74, decide_true, decide_false, reduceCtorEq, ne_eq, not_true_eq_false, not_false_eq_true, true_implies, false_implies, implies_true, cond_true, cond_false, Bool.not_true, Bool.not_false, stR_agg2, stR_agg4, stR_agg5, one_int, one_bool, one_string, one_pointer, one_slice, one_map, retK_mk, cells_agg, rowAt_alloc, setRow_alloc, ow_four, ow_five, List.getElem_toArray, List.getElem_cons_zero, List.getElem_cons_succ, List.size_toArray, List.length_cons, List.length_nil, Nat.reduceLeDiff, h0]
  refine (toTxns w2 v2 T h2 hsm).mono ?_
  rintro e w3 ⟨v3, rfl, hb3, h3⟩
  simp only [exL_plain, exL_guard, exL_nil, fx_move, fx_assign, fx_pick, fx_nilCheck, fx_load, fx_fieldAddr, fx_indexAddr, fx_binOp, fx_not, fx_convert, fx_slice, fx_extract, fx_lookup, fx_build, fx_len, fx_store, fx_alloc, fx_box, fx_makeMap, fx_makeSlice, fx_buildSlice, fx_mapUpdate, fx_append, fx_call, ev_tmp, ev_const, updo_some, updo_none, upd_apply, thenQ_normal, optK_some, optE_some, optE_none, ptrK_mk, intK_mk, boolK_mk, strK_mk, sliceK_mk, addrK_mk, tupK_mk, mapK_mk, sndK_mk, mkK_mk, cvK_int, ldN_zero, ldN_two, ldN_four, ldN_five, binK_add, binK_sub, binK_mul, binK_eql, binK_neq, binK_lss, binK_leq, binK_gtr, binK_geq, binK_seql, binK_sneq, binK_sadd, binK_beql, binK_bneq, binK_peql, binK_pneq, binK_leql, binK_lneq, lenK_slice, lenK_string, ex_slice, ex_pointer, inR_i64, inR_i32, gdK_bool, gdK_undef, Ty.all, Nat.reduceEqDiff, Nat.reduceAdd, Nat.reduceMul, if_false, if_true, ↓reduceIte, true_and, and_true, Int.toNat_natCast, Nat.add_zero, Nat.mul_one, Bool.false_eq_true, decide_eq_true_eq, decide_eq_false_iff_not, Option.isNone_some, Option.isNone_none, Option.isSome_some, Option.isSome_none, List.map_toArray, List.map_cons, List.map_nil, stK_eq, stR_int, stR_bool, stR_string, stR_pointer, stR_slice, exD_plain, exD_guard, exD_nil, stepD_true, stepD_false, needOp, pureOp, Bool.false_or, Bool.true_or, Bool.or_false, Bool.or_true, gval_succ, gval_zero, Bd.s22, Bd.s22b, Bd.s31, Bd.s30, Bd.s30b, Bd.s30e, Bd.s42, Bd.s66, Bd.s67, Bd.b49, Bd.b54, Bd.b79, Bd.b82, Bd.b77, Bd.b86, Bd.b74, decide_true, decide_false, reduceCtorEq, ne_eq, not_true_eq_false, not_false_eq_true, true_implies, false_implies, implies_true, cond_true, cond_false, Bool.not_true, Bool.not_false, stR_agg2, stR_agg4, stR_agg5, one_int, one_bool, one_string, one_pointer, one_slice, one_map, retK_mk, cells_agg, rowAt_alloc, setRow_alloc, ow_four, ow_five, List.getElem_toArray, List.getElem_cons_zero, List.getElem_cons_succ, List.size_toArray, List.length_cons, List.length_nil, Nat.reduceLeDiff]
  refine (zzCollect h3 hft).mono ?_
  rintro e w4 ⟨u0, u1, u2, u3, u4, u5, u6, rfl, hb4, k0, k1, k2, k3, k4, k5, k6⟩
  simp only [exL_plain, exL_guard, exL_nil, fx_move, fx_assign, fx_pick, fx_nilCheck, fx_load, fx_fieldAddr, fx_indexAddr, fx_binOp, fx_not, fx_convert, fx_slice, fx_extract, fx_lookup, fx_build, fx_len, fx_store, fx_alloc, fx_box, fx_makeMap, fx_makeSlice, fx_buildSlice, fx_mapUpdate, fx_append, fx_call, ev_tmp, ev_const, updo_some, updo_none, upd_apply, thenQ_normal, optK_some, optE_some, optE_none, ptrK_mk, intK_mk, boolK_mk, strK_mk, sliceK_mk, addrK_mk, tupK_mk, mapK_mk, sndK_mk, mkK_mk, cvK_int, ldN_zero, ldN_two, ldN_four, ldN_five, binK_add, binK_sub, binK_mul, binK_eql, binK_neq, binK_lss, binK_leq, binK_gtr, binK_geq, binK_seql, binK_sneq, binK_sadd, binK_beql, binK_bneq, binK_peql, binK_pneq, binK_leql, binK_lneq, lenK_slice, lenK_string, ex_slice, ex_pointer, inR_i64, inR_i32, gdK_bool, gdK_undef, Ty.all, Nat.reduceEqDiff, Nat.reduceAdd, Nat.reduceMul, if_false, if_true, ↓reduceIte, true_and, and_true, Int.toNat_natCast, Nat.add_zero, Nat.mul_one, Bool.false_eq_true, decide_eq_true_eq, decide_eq_false_iff_not, Option.isNone_some, Option.isNone_none, Option.isSome_some, Option.isSome_none, List.map_toArray, List.map_cons, List.map_nil, stK_eq, stR_int, stR_bool, stR_string, stR_pointer, stR_slice, exD_plain, exD_guard, exD_nil, stepD_true, stepD_false, needOp, pureOp, Bool.false_or, Bool.true_or, Bool.or_false, Bool.or_true, gval_succ, gval_zero, Bd.s22, Bd.s22b, Bd.s31, Bd.s30, Bd.s30b, Bd.s30e, Bd.s42, Bd.s66, Bd.s67, Bd.b49, Bd.b54, Bd.b79, Bd.b82, Bd.b77, Bd.b86, Bd.b74, decide_true, decide_false, reduceCtorEq, ne_eq, not_true_eq_false, not_false_eq_true, true_implies, false_implies, implies_true, cond_true, cond_false, Bool.not_true, Bool.not_false, stR_agg2, stR_agg4, stR_agg5, one_int, one_bool, one_string, one_pointer, one_slice, one_map, retK_mk, cells_agg, rowAt_alloc, setRow_alloc, ow_four, ow_five, List.getElem_toArray, List.getElem_cons_zero, List.getElem_cons_succ, List.size_toArray, List.length_cons, List.length_nil, Nat.reduceLeDiff]
  repeat (refine ⟨by omega, ?_⟩)
  refine hK _ _ ?_
  clear hK K
  have h4 := (h2.up hb3).up hb4
  have hb04 : Below w'.heap.size w' w4 := hb1.trans ((hb2.mono hb1.size).trans ((hb3.mono (Nat.le_trans hb1.size hb2.size)).trans (hb4.mono (Nat.le_trans hb1.size (Nat.le_trans hb2.size hb3.size)))))
  refine cwp_forget [0, 4, 6, 7, 8, 9] fun ρ hL => ?_
  have h0X := hL 0 (by simp)
  have z4X := hL 4 (by simp)
  have z6X := hL 6 (by simp)
  have z7X := hL 7 (by simp)
  have z8X := hL 8 (by simp)
  have z9X := hL 9 (by simp)
  clear hL
  simp only [upd_apply, Nat.reduceEqDiff, if_false, if_true, ↓reduceIte, h0] at h0X z4X z6X z7X z8X z9X
  have h0 := h0X
  clear h0X
  have z4 := z4X
  clear z4X
  have z6 := z6X
  clear z6X
  have z7 := z7X
  clear z7X
  have z8 := z8X
  clear z8X
  have z9 := z9X
  clear z9X
  have m4 : ρ 4 = u1 := z4
  clear z4
  have m6 : ρ 6 = u3 := z6
  clear z6
  have m7 : ρ 7 = u4 := z7
  clear z7
  have m8 : ρ 8 = u5 := z8
  clear z8
  have m9 : ρ 9 = u6 := z9
  clear z9
  clear k0 k2 h3 h2 h1 hb1 hb2 hb3 hb4 h hv
  obtain ⟨ta, tcap, rfl, _⟩ := h4.form
  refine cwp_sr rfl fun K hK => ?_
  simp only [exL_plain, exL_guard, exL_nil, fx_move, fx_assign, fx_pick, fx_nilCheck, fx_load, fx_fieldAddr, fx_indexAddr, fx_binOp, fx_not, fx_convert, fx_slice, fx_extract, fx_lookup, fx_build, fx_len, fx_store, fx_alloc, fx_box, fx_makeMap, fx_makeSlice, fx_buildSlice, fx_mapUpdate, fx_append, fx_call, ev_tmp, ev_const, updo_some, updo_none, upd_apply, thenQ_normal, optK_some, optE_some, optE_none, ptrK_mk, intK_mk, boolK_mk, strK_mk, sliceK_mk, addrK_mk, tupK_mk, mapK_mk, sndK_mk, mkK_mk, cvK_int, ldN_zero, ldN_two, ldN_four, ldN_five, binK_add, binK_sub, binK_mul, binK_eql, binK_neq, binK_lss, binK_leq, binK_gtr, binK_geq, binK_seql, binK_sneq, binK_sadd, binK_beql, binK_bneq, binK_peql, binK_pneq, binK_leql, binK_lneq, lenK_slice, lenK_string, ex_slice, ex_pointer, inR_i64, inR_i32, gdK_bool, gdK_undef, Ty.all, Nat.reduceEqDiff, Nat.reduceAdd, Nat.reduceMul, if_false, if_true, ↓reduceIte, true_and, and_true, Int.toNat_natCast, Nat.add_zero, Nat.mul_one, Bool.false_eq_true, decide_eq_true_eq, decide_eq_false_iff_not, Option.isNone_some, Option.isNone_none, Option.isSome_some, Option.isSome_none, List.map_toArray, List.map_cons, List.map_nil, stK_eq, stR_int, stR_bool, stR_string, stR_pointer, stR_slice, exD_plain, exD_guard, exD_nil, stepD_true, stepD_false, needOp, pureOp, Bool.false_or, Bool.true_or, Bool.or_false, Bool.or_true, gval_succ, gval_zero, Bd.s22, Bd.s22b, Bd.s31, Bd.s30, Bd.s30b, Bd.s30e, Bd.s42, Bd.s66, Bd.s67, Bd.b49, Bd.b54, Bd.b79, Bd.b82, Bd.b77, Bd.b86, Bd.b74, decide_true, decide_false, reduceCtorEq, ne_eq, not_true_eq_false, not_false_eq_true, true_implies, false_implies, implies_true, cond_true, cond_false, Bool.not_true, Bool.not_false, stR_agg2, stR_agg4, stR_agg5, one_int, one_bool, one_string, one_pointer, one_slice, one_map, retK_mk, cells_agg, rowAt_alloc, setRow_alloc, ow_four, ow_five, List.getElem_toArray, List.getElem_cons_zero, List.getElem_cons_succ, List.size_toArray, List.length_cons, List.length_nil, Nat.reduceLeDiff, h0]
  refine (view_calls h4 hft).mono ?_
  rintro e w5 ⟨vt, vi, vf, vl, rfl, hb5, x0, x1, x2, x3⟩
  obtain ⟨at_, ct, rfl, _⟩ := x0.form
  obtain ⟨ai, ci, rfl, _⟩ := x1.form
  obtain ⟨af, cf, rfl, _⟩ := x2.form
  obtain ⟨al, cl, rfl, _⟩ := x3.form
  simp only [exL_plain, exL_guard, exL_nil, fx_move, fx_assign, fx_pick, fx_nilCheck, fx_load, fx_fieldAddr, fx_indexAddr, fx_binOp, fx_not, fx_convert, fx_slice, fx_extract, fx_lookup, fx_build, fx_len, fx_store, fx_alloc, fx_box, fx_makeMap, fx_makeSlice, fx_buildSlice, fx_mapUpdate, fx_append, fx_call, ev_tmp, ev_const, updo_some, updo_none, upd_apply, thenQ_normal, optK_some, optE_some, optE_none, ptrK_mk, intK_mk, boolK_mk, strK_mk, sliceK_mk, addrK_mk, tupK_mk, mapK_mk, sndK_mk, mkK_mk, cvK_int, ldN_zero, ldN_two, ldN_four, ldN_five, binK_add, binK_sub, binK_mul, binK_eql, binK_neq, binK_lss, binK_leq, binK_gtr, binK_geq, binK_seql, binK_sneq, binK_sadd, binK_beql, binK_bneq, binK_peql, binK_pneq, binK_leql, binK_lneq, lenK_slice, lenK_string, ex_slice, ex_pointer, inR_i64, inR_i32, gdK_bool, gdK_undef, Ty.all, Nat.reduceEqDiff, Nat.reduceAdd, Nat.reduceMul, if_false, if_true, ↓reduceIte, true_and, and_true, Int.toNat_natCast, Nat.add_zero, Nat.mul_one, Bool.false_eq_true, decide_eq_true_eq, decide_eq_false_iff_not, Option.isNone_some, Option.isNone_none, Option.isSome_some, Option.isSome_none, List.map_toArray, List.map_cons, List.map_nil, stK_eq, stR_int, stR_bool, stR_string, stR_pointer, stR_slice, exD_plain, exD_guard, exD_nil, stepD_true, stepD_false, needOp, pureOp, Bool.false_or, Bool.true_or, Bool.or_false, Bool.or_true, gval_succ, gval_zero, Bd.s22, Bd.s22b, Bd.s31, Bd.s30, Bd.s30b, Bd.s30e, Bd.s42, Bd.s66, Bd.s67, Bd.b49, Bd.b54, Bd.b79, Bd.b82, Bd.b77, Bd.b86, Bd.b74, decide_true, decide_false, reduceCtorEq, ne_eq, not_true_eq_false, not_false_eq_true, true_implies, false_implies, implies_true, cond_true, cond_false, Bool.not_true, Bool.not_false, stR_agg2, stR_agg4, stR_agg5, one_int, one_bool, one_string, one_pointer, one_slice, one_map, retK_mk, cells_agg, rowAt_alloc, setRow_alloc, ow_four, ow_five, List.getElem_toArray, List.getElem_cons_zero, List.getElem_cons_succ, List.size_toArray, List.length_cons, List.length_nil, Nat.reduceLeDiff]
  repeat (refine ⟨by omega, ?_⟩)
  refine hK _ _ ?_
  clear hK K
  refine cwp_forget [0, 4, 6, 7, 8, 9, 10] fun ρ hL => ?_
  have h0X := hL 0 (by simp)
  have m4X := hL 4 (by simp)
  have m6X := hL 6 (by simp)
  have m7X := hL 7 (by simp)
  have m8X := hL 8 (by simp)
  have m9X := hL 9 (by simp)
  have m10X := hL 10 (by simp)
  clear hL
  simp only [upd_apply, Nat.reduceEqDiff, if_false, if_true, ↓reduceIte, h0, m4, m6, m7, m8, m9] at h0X m4X m6X m7X m8X m9X m10X
  have h0 := h0X
  clear h0X
  have m4 := m4X
  clear m4X
  have m6 := m6X
  clear m6X
  have m7 := m7X
  clear m7X
  have m8 := m8X
  clear m8X
  have m9 := m9X
  clear m9X
  have m10 := m10X
  clear m10X
  have hb6 := (Below.refl w5.heap.size w5).alloc (Nat.le_refl _) (.cells #[.slice at_ (vN ((ix T).map (·.1))).length ct, .slice ai (vN ((ix T).map (·.2))).length ci, .slice af (vB (fList (fl T))).length cf, .slice al (vB (lList (fl T))).length cl] 40)
  have hV : View4 w4.heap.size (w5.alloc (.cells #[.slice at_ (vN ((ix T).map (·.1))).length ct, .slice ai (vN ((ix T).map (·.2))).length ci, .slice af (vB (fList (fl T))).length cf, .slice al (vB (lList (fl T))).length cl] 40)) w5.heap.size T :=
    ⟨⟨_, _, cell_new _ _ _ 0, cell_new _ _ _ 1, x0.up hb6, x1.up hb6⟩, _, _, cell_new _ _ _ 2, cell_new _ _ _ 3, x2.up hb6, x3.up hb6⟩
  generalize w5.alloc (.cells #[.slice at_ (vN ((ix T).map (·.1))).length ct, .slice ai (vN ((ix T).map (·.2))).length ci, .slice af (vB (fList (fl T))).length cf, .slice al (vB (lList (fl T))).length cl] 40) = w6 at *
  have h6 := (h4.up hb5).up hb6
  have hb06 := hb04.trans ((hb5.mono hb04.size).trans (hb6.mono (Nat.le_trans hb04.size hb5.size)))
  have k1 := (k1.up hb5).up hb6
  have k3 := (k3.up hb5).up hb6
  have k4 := (k4.up hb5).up hb6
  have k5 := (k5.up hb5).up hb6
  have k6 := (k6.up hb5).up hb6
  clear x0 x1 x2 x3 h4 hb04
  generalize w5.heap.size = B10 at *
  refine cwp_sr rfl fun K hK => ?_
  simp only [exL_plain, exL_guard, exL_nil, fx_move, fx_assign, fx_pick, fx_nilCheck, fx_load, fx_fieldAddr, fx_indexAddr, fx_binOp, fx_not, fx_convert, fx_slice, fx_extract, fx_lookup, fx_build, fx_len, fx_store, fx_alloc, fx_box, fx_makeMap, fx_makeSlice, fx_buildSlice, fx_mapUpdate, fx_append, fx_call, ev_tmp, ev_const, updo_some, updo_none, upd_apply, thenQ_normal, optK_some, optE_some, optE_none, ptrK_mk, intK_mk, boolK_mk, strK_mk, sliceK_mk, addrK_mk, tupK_mk, mapK_mk, sndK_mk, mkK_mk, cvK_int, ldN_zero, ldN_two, ldN_four, ldN_five, binK_add, binK_sub, binK_mul, binK_eql, binK_neq, binK_lss, binK_leq, binK_gtr, binK_geq, binK_seql, binK_sneq, binK_sadd, binK_beql, binK_bneq, binK_peql, binK_pneq, binK_leql, binK_lneq, lenK_slice, lenK_string, ex_slice, ex_pointer, inR_i64, inR_i32, gdK_bool, gdK_undef, Ty.all, Nat.reduceEqDiff, Nat.reduceAdd, Nat.reduceMul, if_false, if_true, ↓reduceIte, true_and, and_true, Int.toNat_natCast, Nat.add_zero, Nat.mul_one, Bool.false_eq_true, decide_eq_true_eq, decide_eq_false_iff_not, Option.isNone_some, Option.isNone_none, Option.isSome_some, Option.isSome_none, List.map_toArray, List.map_cons, List.map_nil, stK_eq, stR_int, stR_bool, stR_string, stR_pointer, stR_slice, exD_plain, exD_guard, exD_nil, stepD_true, stepD_false, needOp, pureOp, Bool.false_or, Bool.true_or, Bool.or_false, Bool.or_true, gval_succ, gval_zero, Bd.s22, Bd.s22b, Bd.s31, Bd.s30, Bd.s30b, Bd.s30e, Bd.s42, Bd.s66, Bd.s67, Bd.b49, Bd.b54, Bd.b79, Bd.b82, Bd.b77, Bd.b86, Bd.b74, decide_true, decide_false, reduceCtorEq, ne_eq, not_true_eq_false, not_false_eq_true, true_implies, false_implies, implies_true, cond_true, cond_false, Bool.not_true, Bool.not_false, stR_agg2, stR_agg4, stR_agg5, one_int, one_bool, one_string, one_pointer, one_slice, one_map, retK_mk, cells_agg, rowAt_alloc, setRow_alloc, ow_four, ow_five, List.getElem_toArray, List.getElem_cons_zero, List.getElem_cons_succ, List.size_toArray, List.length_cons, List.length_nil, Nat.reduceLeDiff, h0]
  refine (flatten_calls h6 hft).mono ?_
  rintro e wz ⟨va, vb, vd, ve, vg, rfl, hb7, y0, y1, y2, y3, y4⟩
  simp only [exL_plain, exL_guard, exL_nil, fx_move, fx_assign, fx_pick, fx_nilCheck, fx_load, fx_fieldAddr, fx_indexAddr, fx_binOp, fx_not, fx_convert, fx_slice, fx_extract, fx_lookup, fx_build, fx_len, fx_store, fx_alloc, fx_box, fx_makeMap, fx_makeSlice, fx_buildSlice, fx_mapUpdate, fx_append, fx_call, ev_tmp, ev_const, updo_some, updo_none, upd_apply, thenQ_normal, optK_some, optE_some, optE_none, ptrK_mk, intK_mk, boolK_mk, strK_mk, sliceK_mk, addrK_mk, tupK_mk, mapK_mk, sndK_mk, mkK_mk, cvK_int, ldN_zero, ldN_two, ldN_four, ldN_five, binK_add, binK_sub, binK_mul, binK_eql, binK_neq, binK_lss, binK_leq, binK_gtr, binK_geq, binK_seql, binK_sneq, binK_sadd, binK_beql, binK_bneq, binK_peql, binK_pneq, binK_leql, binK_lneq, lenK_slice, lenK_string, ex_slice, ex_pointer, inR_i64, inR_i32, gdK_bool, gdK_undef, Ty.all, Nat.reduceEqDiff, Nat.reduceAdd, Nat.reduceMul, if_false, if_true, ↓reduceIte, true_and, and_true, Int.toNat_natCast, Nat.add_zero, Nat.mul_one, Bool.false_eq_true, decide_eq_true_eq, decide_eq_false_iff_not, Option.isNone_some, Option.isNone_none, Option.isSome_some, Option.isSome_none, List.map_toArray, List.map_cons, List.map_nil, stK_eq, stR_int, stR_bool, stR_string, stR_pointer, stR_slice, exD_plain, exD_guard, exD_nil, stepD_true, stepD_false, needOp, pureOp, Bool.false_or, Bool.true_or, Bool.or_false, Bool.or_true, gval_succ, gval_zero, Bd.s22, Bd.s22b, Bd.s31, Bd.s30, Bd.s30b, Bd.s30e, Bd.s42, Bd.s66, Bd.s67, Bd.b49, Bd.b54, Bd.b79, Bd.b82, Bd.b77, Bd.b86, Bd.b74, decide_true, decide_false, reduceCtorEq, ne_eq, not_true_eq_false, not_false_eq_true, true_implies, false_implies, implies_true, cond_true, cond_false, Bool.not_true, Bool.not_false, stR_agg2, stR_agg4, stR_agg5, one_int, one_bool, one_string, one_pointer, one_slice, one_map, retK_mk, cells_agg, rowAt_alloc, setRow_alloc, ow_four, ow_five, List.getElem_toArray, List.getElem_cons_zero, List.getElem_cons_succ, List.size_toArray, List.length_cons, List.length_nil, Nat.reduceLeDiff]
  repeat (refine ⟨by omega, ?_⟩)
  refine hK _ _ ?_
  clear hK K
  refine cwp_forget [0, 4, 6, 7, 8, 9, 10, 11, 12, 14, 15] fun ρ hL => ?_
  have h0X := hL 0 (by simp)
  have m4X := hL 4 (by simp)
  have m6X := hL 6 (by simp)
  have m7X := hL 7 (by simp)
  have m8X := hL 8 (by simp)
  have m9X := hL 9 (by simp)
  have m10X := hL 10 (by simp)
  have z11X := hL 11 (by simp)
  have z12X := hL 12 (by simp)
  have z14X := hL 14 (by simp)
  have z15X := hL 15 (by simp)
  clear hL
  simp only [upd_apply, Nat.reduceEqDiff, if_false, if_true, ↓reduceIte, h0, m4, m6, m7, m8, m9, m10] at h0X m4X m6X m7X m8X m9X m10X z11X z12X z14X z15X
  have h0 := h0X
  clear h0X
  have m4 := m4X
  clear m4X
  have m6 := m6X
  clear m6X
  have m7 := m7X
  clear m7X
  have m8 := m8X
  clear m8X
  have m9 := m9X
  clear m9X
  have m10 := m10X
  clear m10X
  have z11 := z11X
  clear z11X
  have z12 := z12X
  clear z12X
  have z14 := z14X
  clear z14X
  have z15 := z15X
  clear z15X
  have m11 : ρ 11 = va := z11
  clear z11
  have m12 : ρ 12 = vb := z12
  clear z12
  have m14 : ρ 14 = ve := z14
  clear z14
  have m15 : ρ 15 = vg := z15
  clear z15
  have hT := h6.up hb7
  have hV := hV.up hb7
  have hbz := hb06.trans (hb7.mono hb06.size)
  have k1 := k1.up hb7
  have k3 := k3.up hb7
  have k4 := k4.up hb7
  have k5 := k5.up hb7
  have k6 := k6.up hb7
  have hft' := hft
  obtain ⟨f1, f2, f3⟩ := hft'
  have hEl := ents_le (fl T)
  have hRl := rds_len (fl T)
  have hRs : ∀ r, r < (rds (fl T)).length → sumL ((rds (fl T)).take r) + (xat (rds (fl T)) r).2.list.length ≤ 4096 ∧ sumL ((rds (fl T)).take (r + 1)) = sumL ((rds (fl T)).take r) + (xat (rds (fl T)) r).2.list.length := by
    intro r hr
    have e1 : (rds (fl T)).take (r + 1) = (rds (fl T)).take r ++ [xat (rds (fl T)) r] := by
      rw [List.take_succ_eq_append_getElem hr, xat_get hr]
    have e2 : sumL ((rds (fl T)).take (r + 1)) = sumL ((rds (fl T)).take r) + (xat (rds (fl T)) r).2.list.length := by rw [e1, sumL_append, sumL_one]
    have e3 : sumL (rds (fl T)) = sumL ((rds (fl T)).take (r + 1)) + sumL ((rds (fl T)).drop (r + 1)) := by rw [← sumL_append, List.take_append_drop]
    have e4 : sumL (rds (fl T)) ≤ sumL (fl T) := sumL_rds _
    exact ⟨by omega, e2⟩
  obtain ⟨p0, p1, prd, pnu, psa⟩ := hP
  have hWl : (colS T).1.W.length ≤ 8192 := by
    have := (phR_fits hft (show fl T = fl T ++ [] by simp)).2.2.2.1
    change (colS T).1.W.length ≤ _ at this
    omega
  obtain ⟨a4, c4, rfl, hW⟩ := k1.ints rfl
  obtain ⟨a6, c6, rfl, hL⟩ := k3.ints p0
  obtain ⟨a7, c7, rfl, ht⟩ := k4.ints (n := (rds (fl T)).length) (by simpa using p1)
  obtain ⟨a8, c8, rfl, hs⟩ := k5.ints (n := (rds (fl T)).length) (by simpa using p1)
  obtain ⟨a9, c9, rfl, he⟩ := k6.ints (n := (rds (fl T)).length) (by simpa using p1)
  obtain ⟨a11, c11, rfl, hk⟩ := y0.strs (n := (ents (fl T)).length) (by simp)
  obtain ⟨a12, c12, rfl, hx⟩ := y1.strs (n := (ents (fl T)).length) (by simp)
  obtain ⟨a14, c14, rfl, hro⟩ := y3.nats (n := (rds (fl T)).length) (by simp)
  obtain ⟨a15, c15, rfl, hrl⟩ := y4.nats (n := (rds (fl T)).length) (by simp)
  have gt : ∀ r, r < (rds (fl T)).length → ((colS T).1.R.map (·.t)).getD r 0 = ((colS T).1.R.getD r rd0).t := fun r hr => by simp [List.getD_eq_getElem?_getD, p1, hr]
  have gs : ∀ r, r < (rds (fl T)).length → ((colS T).1.R.map (·.s)).getD r 0 = ((colS T).1.R.getD r rd0).s := fun r hr => by simp [List.getD_eq_getElem?_getD, p1, hr]
  have ge : ∀ r, r < (rds (fl T)).length → ((colS T).1.R.map (·.e)).getD r 0 = ((colS T).1.R.getD r rd0).e := fun r hr => by simp [List.getD_eq_getElem?_getD, p1, hr]
  have go : ∀ r, r < (rds (fl T)).length → ((rds (fl T)).map (·.1)).getD r 0 = (xat (rds (fl T)) r).1 := fun r hr => by simp [xat, List.getD_eq_getElem?_getD, hr]
  have gl : ∀ r, r < (rds (fl T)).length → ((rds (fl T)).map fun x => x.2.list.length).getD r 0 = (xat (rds (fl T)) r).2.list.length := fun r hr => by simp [xat, List.getD_eq_getElem?_getD, hr]
  have gk : ∀ p, p < (ents (fl T)).length → ((ents (fl T)).map (·.2.1)).getD p ByteArray.empty = ((ents (fl T)).getD p en0).2.1 := fun r hr => by simp [List.getD_eq_getElem?_getD, hr]
  have gx : ∀ p, p < (ents (fl T)).length → ((ents (fl T)).map (·.2.2)).getD p ByteArray.empty = ((ents (fl T)).getD p en0).2.2 := fun r hr => by simp [List.getD_eq_getElem?_getD, hr]
  generalize hE : ents (fl T) = E at *
  generalize hR : rds (fl T) = R at *
  generalize (colS T).1.L = L at *
  generalize (colS T).1.W = W at *
  clear k1 k3 k4 k5 k6 y0 y1 y2 y3 y4 h6 hb06 hb5 hb6 hb7
  refine cwp_seq fun K hK => ?_
  refine cwp_sr rfl fun K9 hK9 => ?_
  refine exL_abs fun ops H => ?_
  have v5 : ∀ ρ, gval ops ρ 5 = ρ 59 := fun ρ => (H ρ 5).trans rfl
  have v12 : ∀ ρ, gval ops ρ 12 = ρ 66 := fun ρ => (H ρ 12).trans rfl
  have v19 : ∀ ρ, gval ops ρ 19 = ρ 73 := fun ρ => (H ρ 19).trans rfl
  clear H
  refine exL_cut 6 fun K hK => ?_
  simp only [List.take_succ_cons, List.take_zero, exL_plain, exL_nil, fx_move, fx_assign, fx_pick, fx_nilCheck, fx_load, fx_fieldAddr, fx_indexAddr, fx_binOp, fx_not, fx_convert, fx_slice, fx_extract, fx_lookup, fx_build, fx_len, fx_store, fx_alloc, fx_box, fx_makeMap, fx_makeSlice, fx_buildSlice, fx_mapUpdate, fx_append, fx_call, ev_tmp, ev_const, updo_some, updo_none, upd_apply, thenQ_normal, optK_some, optE_some, optE_none, ptrK_mk, intK_mk, boolK_mk, strK_mk, sliceK_mk, addrK_mk, tupK_mk, mapK_mk, sndK_mk, mkK_mk, cvK_int, ldN_zero, ldN_two, ldN_four, ldN_five, binK_add, binK_sub, binK_mul, binK_eql, binK_neq, binK_lss, binK_leq, binK_gtr, binK_geq, binK_seql, binK_sneq, binK_sadd, binK_beql, binK_bneq, binK_peql, binK_pneq, binK_leql, binK_lneq, lenK_slice, lenK_string, ex_slice, ex_pointer, inR_i64, inR_i32, gdK_bool, gdK_undef, Ty.all, Nat.reduceEqDiff, Nat.reduceAdd, Nat.reduceMul, if_false, if_true, ↓reduceIte, true_and, and_true, Int.toNat_natCast, Nat.add_zero, Nat.mul_one, Bool.false_eq_true, decide_eq_true_eq, decide_eq_false_iff_not, Option.isNone_some, Option.isNone_none, Option.isSome_some, Option.isSome_none, List.map_toArray, List.map_cons, List.map_nil, stK_eq, stR_int, stR_bool, stR_string, stR_pointer, stR_slice, exD_plain, exD_nil, stepD_true, stepD_false, needOp, pureOp, Bool.false_or, Bool.true_or, Bool.or_false, Bool.or_true, gval_succ, gval_zero, Bd.s22, Bd.s22b, Bd.s31, Bd.s30, Bd.s30b, Bd.s30e, Bd.s42, Bd.s66, Bd.s67, Bd.b49, Bd.b54, Bd.b79, Bd.b82, Bd.b77, Bd.b86, Bd.b74, decide_true, decide_false, reduceCtorEq, ne_eq, not_true_eq_false, not_false_eq_true, true_implies, false_implies, implies_true, cond_true, cond_false, Bool.not_true, Bool.not_false, stR_agg2, stR_agg4, stR_agg5, one_int, one_bool, one_string, one_pointer, one_slice, one_map, retK_mk, cells_agg, rowAt_alloc, setRow_alloc, ow_four, ow_five, List.getElem_toArray, List.getElem_cons_zero, List.getElem_cons_succ, List.size_toArray, List.length_cons, List.length_nil, Nat.reduceLeDiff, exD_gT, exD_gTs, exD_gTu, exD_gF, exD_gFs, exD_gFu, exL_gT, exL_gTs, exL_gTu, exL_gF, exL_gFs, exL_gFu, v5, v12, v19, m6, m11]
  repeat (refine ⟨by omega, ?_⟩)
  refine hK _ _ ?_
  clear hK K
  simp only [List.drop_succ_cons, List.drop_zero]
  refine exL_forget [0, 4, 6, 7, 8, 9, 10, 11, 12, 14, 15, 59] fun ρ hL => ?_
  have h0X := hL 0 (by simp)
  have m4X := hL 4 (by simp)
  have m6X := hL 6 (by simp)
  have m7X := hL 7 (by simp)
  have m8X := hL 8 (by simp)
  have m9X := hL 9 (by simp)
  have m10X := hL 10 (by simp)
  have m11X := hL 11 (by simp)
  have m12X := hL 12 (by simp)
  have m14X := hL 14 (by simp)
  have m15X := hL 15 (by simp)
  have g59X := hL 59 (by simp)
  clear hL
  simp only [upd_apply, Nat.reduceEqDiff, if_false, if_true, ↓reduceIte, h0, m4, m6, m7, m8, m9, m10, m11, m12, m14, m15] at h0X m4X m6X m7X m8X m9X m10X m11X m12X m14X m15X g59X
  have h0 := h0X
  clear h0X
  have m4 := m4X
  clear m4X
  have m6 := m6X
  clear m6X
  have m7 := m7X
  clear m7X
  have m8 := m8X
  clear m8X
  have m9 := m9X
  clear m9X
  have m10 := m10X
  clear m10X
  have m11 := m11X
  clear m11X
  have m12 := m12X
  clear m12X
  have m14 := m14X
  clear m14X
  have m15 := m15X
  clear m15X
  have g59 := g59X
  clear g59X
  refine exL_cut 7 fun K hK => ?_
  simp only [List.take_succ_cons, List.take_zero, exL_plain, exL_nil, fx_move, fx_assign, fx_pick, fx_nilCheck, fx_load, fx_fieldAddr, fx_indexAddr, fx_binOp, fx_not, fx_convert, fx_slice, fx_extract, fx_lookup, fx_build, fx_len, fx_store, fx_alloc, fx_box, fx_makeMap, fx_makeSlice, fx_buildSlice, fx_mapUpdate, fx_append, fx_call, ev_tmp, ev_const, updo_some, updo_none, upd_apply, thenQ_normal, optK_some, optE_some, optE_none, ptrK_mk, intK_mk, boolK_mk, strK_mk, sliceK_mk, addrK_mk, tupK_mk, mapK_mk, sndK_mk, mkK_mk, cvK_int, ldN_zero, ldN_two, ldN_four, ldN_five, binK_add, binK_sub, binK_mul, binK_eql, binK_neq, binK_lss, binK_leq, binK_gtr, binK_geq, binK_seql, binK_sneq, binK_sadd, binK_beql, binK_bneq, binK_peql, binK_pneq, binK_leql, binK_lneq, lenK_slice, lenK_string, ex_slice, ex_pointer, inR_i64, inR_i32, gdK_bool, gdK_undef, Ty.all, Nat.reduceEqDiff, Nat.reduceAdd, Nat.reduceMul, if_false, if_true, ↓reduceIte, true_and, and_true, Int.toNat_natCast, Nat.add_zero, Nat.mul_one, Bool.false_eq_true, decide_eq_true_eq, decide_eq_false_iff_not, Option.isNone_some, Option.isNone_none, Option.isSome_some, Option.isSome_none, List.map_toArray, List.map_cons, List.map_nil, stK_eq, stR_int, stR_bool, stR_string, stR_pointer, stR_slice, exD_plain, exD_nil, stepD_true, stepD_false, needOp, pureOp, Bool.false_or, Bool.true_or, Bool.or_false, Bool.or_true, gval_succ, gval_zero, Bd.s22, Bd.s22b, Bd.s31, Bd.s30, Bd.s30b, Bd.s30e, Bd.s42, Bd.s66, Bd.s67, Bd.b49, Bd.b54, Bd.b79, Bd.b82, Bd.b77, Bd.b86, Bd.b74, decide_true, decide_false, reduceCtorEq, ne_eq, not_true_eq_false, not_false_eq_true, true_implies, false_implies, implies_true, cond_true, cond_false, Bool.not_true, Bool.not_false, stR_agg2, stR_agg4, stR_agg5, one_int, one_bool, one_string, one_pointer, one_slice, one_map, retK_mk, cells_agg, rowAt_alloc, setRow_alloc, ow_four, ow_five, List.getElem_toArray, List.getElem_cons_zero, List.getElem_cons_succ, List.size_toArray, List.length_cons, List.length_nil, Nat.reduceLeDiff, exD_gT, exD_gTs, exD_gTu, exD_gF, exD_gFs, exD_gFu, exL_gT, exL_gTs, exL_gTu, exL_gF, exL_gFs, exL_gFu, v5, v12, v19, g59, m7, m14]
  repeat (refine ⟨by omega, ?_⟩)
  refine hK _ _ ?_
  clear hK K
  simp only [List.drop_succ_cons, List.drop_zero]
  refine exL_forget [0, 4, 6, 7, 8, 9, 10, 11, 12, 14, 15, 66] fun ρ hL => ?_
  have h0X := hL 0 (by simp)
  have m4X := hL 4 (by simp)
  have m6X := hL 6 (by simp)
  have m7X := hL 7 (by simp)
  have m8X := hL 8 (by simp)
  have m9X := hL 9 (by simp)
  have m10X := hL 10 (by simp)
  have m11X := hL 11 (by simp)
  have m12X := hL 12 (by simp)
  have m14X := hL 14 (by simp)
  have m15X := hL 15 (by simp)
  have g66X := hL 66 (by simp)
  clear hL
  simp only [upd_apply, Nat.reduceEqDiff, if_false, if_true, ↓reduceIte, h0, m4, m6, m7, m8, m9, m10, m11, m12, m14, m15] at h0X m4X m6X m7X m8X m9X m10X m11X m12X m14X m15X g66X
  have h0 := h0X
  clear h0X
  have m4 := m4X
  clear m4X
  have m6 := m6X
  clear m6X
  have m7 := m7X
  clear m7X
  have m8 := m8X
  clear m8X
  have m9 := m9X
  clear m9X
  have m10 := m10X
  clear m10X
  have m11 := m11X
  clear m11X
  have m12 := m12X
  clear m12X
  have m14 := m14X
  clear m14X
  have m15 := m15X
  clear m15X
  have g66 := g66X
  clear g66X
  refine exL_cut 7 fun K hK => ?_
  simp only [List.take_succ_cons, List.take_zero, exL_plain, exL_nil, fx_move, fx_assign, fx_pick, fx_nilCheck, fx_load, fx_fieldAddr, fx_indexAddr, fx_binOp, fx_not, fx_convert, fx_slice, fx_extract, fx_lookup, fx_build, fx_len, fx_store, fx_alloc, fx_box, fx_makeMap, fx_makeSlice, fx_buildSlice, fx_mapUpdate, fx_append, fx_call, ev_tmp, ev_const, updo_some, updo_none, upd_apply, thenQ_normal, optK_some, optE_some, optE_none, ptrK_mk, intK_mk, boolK_mk, strK_mk, sliceK_mk, addrK_mk, tupK_mk, mapK_mk, sndK_mk, mkK_mk, cvK_int, ldN_zero, ldN_two, ldN_four, ldN_five, binK_add, binK_sub, binK_mul, binK_eql, binK_neq, binK_lss, binK_leq, binK_gtr, binK_geq, binK_seql, binK_sneq, binK_sadd, binK_beql, binK_bneq, binK_peql, binK_pneq, binK_leql, binK_lneq, lenK_slice, lenK_string, ex_slice, ex_pointer, inR_i64, inR_i32, gdK_bool, gdK_undef, Ty.all, Nat.reduceEqDiff, Nat.reduceAdd, Nat.reduceMul, if_false, if_true, ↓reduceIte, true_and, and_true, Int.toNat_natCast, Nat.add_zero, Nat.mul_one, Bool.false_eq_true, decide_eq_true_eq, decide_eq_false_iff_not, Option.isNone_some, Option.isNone_none, Option.isSome_some, Option.isSome_none, List.map_toArray, List.map_cons, List.map_nil, stK_eq, stR_int, stR_bool, stR_string, stR_pointer, stR_slice, exD_plain, exD_nil, stepD_true, stepD_false, needOp, pureOp, Bool.false_or, Bool.true_or, Bool.or_false, Bool.or_true, gval_succ, gval_zero, Bd.s22, Bd.s22b, Bd.s31, Bd.s30, Bd.s30b, Bd.s30e, Bd.s42, Bd.s66, Bd.s67, Bd.b49, Bd.b54, Bd.b79, Bd.b82, Bd.b77, Bd.b86, Bd.b74, decide_true, decide_false, reduceCtorEq, ne_eq, not_true_eq_false, not_false_eq_true, true_implies, false_implies, implies_true, cond_true, cond_false, Bool.not_true, Bool.not_false, stR_agg2, stR_agg4, stR_agg5, one_int, one_bool, one_string, one_pointer, one_slice, one_map, retK_mk, cells_agg, rowAt_alloc, setRow_alloc, ow_four, ow_five, List.getElem_toArray, List.getElem_cons_zero, List.getElem_cons_succ, List.size_toArray, List.length_cons, List.length_nil, Nat.reduceLeDiff, exD_gT, exD_gTs, exD_gTu, exD_gF, exD_gFs, exD_gFu, exL_gT, exL_gTs, exL_gTu, exL_gF, exL_gFs, exL_gFu, v5, v12, v19, g66, m8, m14]
  repeat (refine ⟨by omega, ?_⟩)
  refine hK _ _ ?_
  clear hK K
  simp only [List.drop_succ_cons, List.drop_zero]
  refine exL_forget [0, 4, 6, 7, 8, 9, 10, 11, 12, 14, 15, 73] fun ρ hL => ?_
  have h0X := hL 0 (by simp)
  have m4X := hL 4 (by simp)
  have m6X := hL 6 (by simp)
  have m7X := hL 7 (by simp)
  have m8X := hL 8 (by simp)
  have m9X := hL 9 (by simp)
  have m10X := hL 10 (by simp)
  have m11X := hL 11 (by simp)
  have m12X := hL 12 (by simp)
  have m14X := hL 14 (by simp)
  have m15X := hL 15 (by simp)
  have g73X := hL 73 (by simp)
  clear hL
  simp only [upd_apply, Nat.reduceEqDiff, if_false, if_true, ↓reduceIte, h0, m4, m6, m7, m8, m9, m10, m11, m12, m14, m15] at h0X m4X m6X m7X m8X m9X m10X m11X m12X m14X m15X g73X
  have h0 := h0X
  clear h0X
  have m4 := m4X
  clear m4X
  have m6 := m6X
  clear m6X
  have m7 := m7X
  clear m7X
  have m8 := m8X
  clear m8X
  have m9 := m9X
  clear m9X
  have m10 := m10X
  clear m10X
  have m11 := m11X
  clear m11X
  have m12 := m12X
  clear m12X
  have m14 := m14X
  clear m14X
  have m15 := m15X
  clear m15X
  have g73 := g73X
  clear g73X
  simp only [exL_plain, exL_nil, fx_move, fx_assign, fx_pick, fx_nilCheck, fx_load, fx_fieldAddr, fx_indexAddr, fx_binOp, fx_not, fx_convert, fx_slice, fx_extract, fx_lookup, fx_build, fx_len, fx_store, fx_alloc, fx_box, fx_makeMap, fx_makeSlice, fx_buildSlice, fx_mapUpdate, fx_append, fx_call, ev_tmp, ev_const, updo_some, updo_none, upd_apply, thenQ_normal, optK_some, optE_some, optE_none, ptrK_mk, intK_mk, boolK_mk, strK_mk, sliceK_mk, addrK_mk, tupK_mk, mapK_mk, sndK_mk, mkK_mk, cvK_int, ldN_zero, ldN_two, ldN_four, ldN_five, binK_add, binK_sub, binK_mul, binK_eql, binK_neq, binK_lss, binK_leq, binK_gtr, binK_geq, binK_seql, binK_sneq, binK_sadd, binK_beql, binK_bneq, binK_peql, binK_pneq, binK_leql, binK_lneq, lenK_slice, lenK_string, ex_slice, ex_pointer, inR_i64, inR_i32, gdK_bool, gdK_undef, Ty.all, Nat.reduceEqDiff, Nat.reduceAdd, Nat.reduceMul, if_false, if_true, ↓reduceIte, true_and, and_true, Int.toNat_natCast, Nat.add_zero, Nat.mul_one, Bool.false_eq_true, decide_eq_true_eq, decide_eq_false_iff_not, Option.isNone_some, Option.isNone_none, Option.isSome_some, Option.isSome_none, List.map_toArray, List.map_cons, List.map_nil, stK_eq, stR_int, stR_bool, stR_string, stR_pointer, stR_slice, exD_plain, exD_nil, stepD_true, stepD_false, needOp, pureOp, Bool.false_or, Bool.true_or, Bool.or_false, Bool.or_true, gval_succ, gval_zero, Bd.s22, Bd.s22b, Bd.s31, Bd.s30, Bd.s30b, Bd.s30e, Bd.s42, Bd.s66, Bd.s67, Bd.b49, Bd.b54, Bd.b79, Bd.b82, Bd.b77, Bd.b86, Bd.b74, decide_true, decide_false, reduceCtorEq, ne_eq, not_true_eq_false, not_false_eq_true, true_implies, false_implies, implies_true, cond_true, cond_false, Bool.not_true, Bool.not_false, stR_agg2, stR_agg4, stR_agg5, one_int, one_bool, one_string, one_pointer, one_slice, one_map, retK_mk, cells_agg, rowAt_alloc, setRow_alloc, ow_four, ow_five, List.getElem_toArray, List.getElem_cons_zero, List.getElem_cons_succ, List.size_toArray, List.length_cons, List.length_nil, Nat.reduceLeDiff, exD_gT, exD_gTs, exD_gTu, exD_gF, exD_gFs, exD_gFu, exL_gT, exL_gTs, exL_gTu, exL_gF, exL_gFs, exL_gFu, v5, v12, v19, g73, m9, m14]
  refine hK9 _ _ ?_
  clear hK9
  refine cwp_cond ?_
  simp only [exL_plain, exL_guard, exL_nil, fx_move, fx_assign, fx_pick, fx_nilCheck, fx_load, fx_fieldAddr, fx_indexAddr, fx_binOp, fx_not, fx_convert, fx_slice, fx_extract, fx_lookup, fx_build, fx_len, fx_store, fx_alloc, fx_box, fx_makeMap, fx_makeSlice, fx_buildSlice, fx_mapUpdate, fx_append, fx_call, ev_tmp, ev_const, updo_some, updo_none, upd_apply, thenQ_normal, optK_some, optE_some, optE_none, ptrK_mk, intK_mk, boolK_mk, strK_mk, sliceK_mk, addrK_mk, tupK_mk, mapK_mk, sndK_mk, mkK_mk, cvK_int, ldN_zero, ldN_two, ldN_four, ldN_five, binK_add, binK_sub, binK_mul, binK_eql, binK_neq, binK_lss, binK_leq, binK_gtr, binK_geq, binK_seql, binK_sneq, binK_sadd, binK_beql, binK_bneq, binK_peql, binK_pneq, binK_leql, binK_lneq, lenK_slice, lenK_string, ex_slice, ex_pointer, inR_i64, inR_i32, gdK_bool, gdK_undef, Ty.all, Nat.reduceEqDiff, Nat.reduceAdd, Nat.reduceMul, if_false, if_true, ↓reduceIte, true_and, and_true, Int.toNat_natCast, Nat.add_zero, Nat.mul_one, Bool.false_eq_true, decide_eq_true_eq, decide_eq_false_iff_not, Option.isNone_some, Option.isNone_none, Option.isSome_some, Option.isSome_none, List.map_toArray, List.map_cons, List.map_nil, stK_eq, stR_int, stR_bool, stR_string, stR_pointer, stR_slice, exD_plain, exD_guard, exD_nil, stepD_true, stepD_false, needOp, pureOp, Bool.false_or, Bool.true_or, Bool.or_false, Bool.or_true, gval_succ, gval_zero, Bd.s22, Bd.s22b, Bd.s31, Bd.s30, Bd.s30b, Bd.s30e, Bd.s42, Bd.s66, Bd.s67, Bd.b49, Bd.b54, Bd.b79, Bd.b82, Bd.b77, Bd.b86, Bd.b74, decide_true, decide_false, reduceCtorEq, ne_eq, not_true_eq_false, not_false_eq_true, true_implies, false_implies, implies_true, cond_true, cond_false, Bool.not_true, Bool.not_false, stR_agg2, stR_agg4, stR_agg5, one_int, one_bool, one_string, one_pointer, one_slice, one_map, retK_mk, cells_agg, rowAt_alloc, setRow_alloc, ow_four, ow_five, List.getElem_toArray, List.getElem_cons_zero, List.getElem_cons_succ, List.size_toArray, List.length_cons, List.length_nil, Nat.reduceLeDiff]
  refine cwp_skip (hK _ _ ?_)
  clear hK K v5 v12 v19 g59 g66 g73
  refine cwp_forget [0, 4, 6, 7, 8, 9, 10, 11, 12, 14, 15] fun ρ hL => ?_
  have h0X := hL 0 (by simp)
  have m4X := hL 4 (by simp)
  have m6X := hL 6 (by simp)
  have m7X := hL 7 (by simp)
  have m8X := hL 8 (by simp)
  have m9X := hL 9 (by simp)
  have m10X := hL 10 (by simp)
  have m11X := hL 11 (by simp)
  have m12X := hL 12 (by simp)
  have m14X := hL 14 (by simp)
  have m15X := hL 15 (by simp)
  clear hL
  simp only [upd_apply, Nat.reduceEqDiff, if_false, if_true, ↓reduceIte, h0, m4, m6, m7, m8, m9, m10, m11, m12, m14, m15] at h0X m4X m6X m7X m8X m9X m10X m11X m12X m14X m15X
  have h0 := h0X
  clear h0X
  have m4 := m4X
  clear m4X
  have m6 := m6X
  clear m6X
  have m7 := m7X
  clear m7X
  have m8 := m8X
  clear m8X
  have m9 := m9X
  clear m9X
  have m10 := m10X
  clear m10X
  have m11 := m11X
  clear m11X
  have m12 := m12X
  clear m12X
  have m14 := m14X
  clear m14X
  have m15 := m15X
  clear m15X
  refine cwp_sr rfl fun K hK => ?_
  simp only [exL_plain, exL_guard, exL_nil, fx_move, fx_assign, fx_pick, fx_nilCheck, fx_load, fx_fieldAddr, fx_indexAddr, fx_binOp, fx_not, fx_convert, fx_slice, fx_extract, fx_lookup, fx_build, fx_len, fx_store, fx_alloc, fx_box, fx_makeMap, fx_makeSlice, fx_buildSlice, fx_mapUpdate, fx_append, fx_call, ev_tmp, ev_const, updo_some, updo_none, upd_apply, thenQ_normal, optK_some, optE_some, optE_none, ptrK_mk, intK_mk, boolK_mk, strK_mk, sliceK_mk, addrK_mk, tupK_mk, mapK_mk, sndK_mk, mkK_mk, cvK_int, ldN_zero, ldN_two, ldN_four, ldN_five, binK_add, binK_sub, binK_mul, binK_eql, binK_neq, binK_lss, binK_leq, binK_gtr, binK_geq, binK_seql, binK_sneq, binK_sadd, binK_beql, binK_bneq, binK_peql, binK_pneq, binK_leql, binK_lneq, lenK_slice, lenK_string, ex_slice, ex_pointer, inR_i64, inR_i32, gdK_bool, gdK_undef, Ty.all, Nat.reduceEqDiff, Nat.reduceAdd, Nat.reduceMul, if_false, if_true, ↓reduceIte, true_and, and_true, Int.toNat_natCast, Nat.add_zero, Nat.mul_one, Bool.false_eq_true, decide_eq_true_eq, decide_eq_false_iff_not, Option.isNone_some, Option.isNone_none, Option.isSome_some, Option.isSome_none, List.map_toArray, List.map_cons, List.map_nil, stK_eq, stR_int, stR_bool, stR_string, stR_pointer, stR_slice, exD_plain, exD_guard, exD_nil, stepD_true, stepD_false, needOp, pureOp, Bool.false_or, Bool.true_or, Bool.or_false, Bool.or_true, gval_succ, gval_zero, Bd.s22, Bd.s22b, Bd.s31, Bd.s30, Bd.s30b, Bd.s30e, Bd.s42, Bd.s66, Bd.s67, Bd.b49, Bd.b54, Bd.b79, Bd.b82, Bd.b77, Bd.b86, Bd.b74, decide_true, decide_false, reduceCtorEq, ne_eq, not_true_eq_false, not_false_eq_true, true_implies, false_implies, implies_true, cond_true, cond_false, Bool.not_true, Bool.not_false, stR_agg2, stR_agg4, stR_agg5, one_int, one_bool, one_string, one_pointer, one_slice, one_map, retK_mk, cells_agg, rowAt_alloc, setRow_alloc, ow_four, ow_five, List.getElem_toArray, List.getElem_cons_zero, List.getElem_cons_succ, List.size_toArray, List.length_cons, List.length_nil, Nat.reduceLeDiff]
  repeat (refine ⟨by omega, ?_⟩)
  refine hK _ _ ?_
  clear hK K
  refine cwp_seq fun K hK => ?_
  refine cwp_sr rfl fun K hK => ?_
  simp only [exL_plain, exL_guard, exL_nil, fx_move, fx_assign, fx_pick, fx_nilCheck, fx_load, fx_fieldAddr, fx_indexAddr, fx_binOp, fx_not, fx_convert, fx_slice, fx_extract, fx_lookup, fx_build, fx_len, fx_store, fx_alloc, fx_box, fx_makeMap, fx_makeSlice, fx_buildSlice, fx_mapUpdate, fx_append, fx_call, ev_tmp, ev_const, updo_some, updo_none, upd_apply, thenQ_normal, optK_some, optE_some, optE_none, ptrK_mk, intK_mk, boolK_mk, strK_mk, sliceK_mk, addrK_mk, tupK_mk, mapK_mk, sndK_mk, mkK_mk, cvK_int, ldN_zero, ldN_two, ldN_four, ldN_five, binK_add, binK_sub, binK_mul, binK_eql, binK_neq, binK_lss, binK_leq, binK_gtr, binK_geq, binK_seql, binK_sneq, binK_sadd, binK_beql, binK_bneq, binK_peql, binK_pneq, binK_leql, binK_lneq, lenK_slice, lenK_string, ex_slice, ex_pointer, inR_i64, inR_i32, gdK_bool, gdK_undef, Ty.all, Nat.reduceEqDiff, Nat.reduceAdd, Nat.reduceMul, if_false, if_true, ↓reduceIte, true_and, and_true, Int.toNat_natCast, Nat.add_zero, Nat.mul_one, Bool.false_eq_true, decide_eq_true_eq, decide_eq_false_iff_not, Option.isNone_some, Option.isNone_none, Option.isSome_some, Option.isSome_none, List.map_toArray, List.map_cons, List.map_nil, stK_eq, stR_int, stR_bool, stR_string, stR_pointer, stR_slice, exD_plain, exD_guard, exD_nil, stepD_true, stepD_false, needOp, pureOp, Bool.false_or, Bool.true_or, Bool.or_false, Bool.or_true, gval_succ, gval_zero, Bd.s22, Bd.s22b, Bd.s31, Bd.s30, Bd.s30b, Bd.s30e, Bd.s42, Bd.s66, Bd.s67, Bd.b49, Bd.b54, Bd.b79, Bd.b82, Bd.b77, Bd.b86, Bd.b74, decide_true, decide_false, reduceCtorEq, ne_eq, not_true_eq_false, not_false_eq_true, true_implies, false_implies, implies_true, cond_true, cond_false, Bool.not_true, Bool.not_false, stR_agg2, stR_agg4, stR_agg5, one_int, one_bool, one_string, one_pointer, one_slice, one_map, retK_mk, cells_agg, rowAt_alloc, setRow_alloc, ow_four, ow_five, List.getElem_toArray, List.getElem_cons_zero, List.getElem_cons_succ, List.size_toArray, List.length_cons, List.length_nil, Nat.reduceLeDiff]
  repeat (refine ⟨by omega, ?_⟩)
  refine hK _ _ ?_
  clear hK K
  refine cwp_forget [0, 4, 6, 7, 8, 9, 10, 11, 12, 14, 15, 16, 17] fun ρ hL => ?_
  have h0X := hL 0 (by simp)
  have m4X := hL 4 (by simp)
  have m6X := hL 6 (by simp)
  have m7X := hL 7 (by simp)
  have m8X := hL 8 (by simp)
  have m9X := hL 9 (by simp)
  have m10X := hL 10 (by simp)
  have m11X := hL 11 (by simp)
  have m12X := hL 12 (by simp)
  have m14X := hL 14 (by simp)
  have m15X := hL 15 (by simp)
  have m16X := hL 16 (by simp)
  have m17X := hL 17 (by simp)
  clear hL
  simp only [upd_apply, Nat.reduceEqDiff, if_false, if_true, ↓reduceIte, h0, m4, m6, m7, m8, m9, m10, m11, m12, m14, m15] at h0X m4X m6X m7X m8X m9X m10X m11X m12X m14X m15X m16X m17X
  have h0 := h0X
  clear h0X
  have m4 := m4X
  clear m4X
  have m6 := m6X
  clear m6X
  have m7 := m7X
  clear m7X
  have m8 := m8X
  clear m8X
  have m9 := m9X
  clear m9X
  have m10 := m10X
  clear m10X
  have m11 := m11X
  clear m11X
  have m12 := m12X
  clear m12X
  have m14 := m14X
  clear m14X
  have m15 := m15X
  clear m15X
  have m16 := m16X
  clear m16X
  have m17 := m17X
  clear m17X
  refine cwp_for (fun r ρ wr => r ≤ R.length ∧ ρ 0 = .slice ta T.length tcap ∧ ρ 4 = .slice a4 W.length c4 ∧ ρ 6 = .slice a6 E.length c6 ∧ ρ 7 = .slice a7 R.length c7 ∧ ρ 8 = .slice a8 R.length c8 ∧ ρ 9 = .slice a9 R.length c9 ∧ ρ 10 = .pointer (some ⟨B10, 0, none⟩) ∧ ρ 11 = .slice a11 E.length c11 ∧ ρ 12 = .slice a12 E.length c12 ∧ ρ 14 = .slice a14 R.length c14 ∧ ρ 15 = .slice a15 R.length c15 ∧ ρ 16 = .int .i64 (sumL (R.take r) : Nat) ∧ ρ 17 = .int .i64 (r : Nat) ∧ wr.heap = wz.heap ∧ Below w'.heap.size w' wr)
    (fun r => R.length - r) (fun ρ wr => ρ 0 = .slice ta T.length tcap ∧ ρ 4 = .slice a4 W.length c4 ∧ ρ 6 = .slice a6 E.length c6 ∧ ρ 10 = .pointer (some ⟨B10, 0, none⟩) ∧ ρ 11 = .slice a11 E.length c11 ∧ ρ 12 = .slice a12 E.length c12 ∧ wr.heap = wz.heap ∧ Below w'.heap.size w' wr) 0 ?_ ?_ ?_
  · exact ⟨Nat.zero_le _, h0, m4, m6, m7, m8, m9, m10, m11, m12, m14, m15, m16, m17, rfl, hbz⟩
  · clear h0 m4 m6 m7 m8 m9 m10 m11 m12 m14 m15 m16 m17 hbz hK
    rintro r ρ wr ⟨hr, g0, g4, g6, g7, g8, g9, g10, g11, g12, g14, g15, g16, g17, hh, hb⟩ K1 hK1
    refine cwp_seq fun K hK => ?_
    refine cwp_sr rfl fun K hK => ?_
    simp only [exL_plain, exL_guard, exL_nil, fx_move, fx_assign, fx_pick, fx_nilCheck, fx_load, fx_fieldAddr, fx_indexAddr, fx_binOp, fx_not, fx_convert, fx_slice, fx_extract, fx_lookup, fx_build, fx_len, fx_store, fx_alloc, fx_box, fx_makeMap, fx_makeSlice, fx_buildSlice, fx_mapUpdate, fx_append, fx_call, ev_tmp, ev_const, updo_some, updo_none, upd_apply, thenQ_normal, optK_some, optE_some, optE_none, ptrK_mk, intK_mk, boolK_mk, strK_mk, sliceK_mk, addrK_mk, tupK_mk, mapK_mk, sndK_mk, mkK_mk, cvK_int, ldN_zero, ldN_two, ldN_four, ldN_five, binK_add, binK_sub, binK_mul, binK_eql, binK_neq, binK_lss, binK_leq, binK_gtr, binK_geq, binK_seql, binK_sneq, binK_sadd, binK_beql, binK_bneq, binK_peql, binK_pneq, binK_leql, binK_lneq, lenK_slice, lenK_string, ex_slice, ex_pointer, inR_i64, inR_i32, gdK_bool, gdK_undef, Ty.all, Nat.reduceEqDiff, Nat.reduceAdd, Nat.reduceMul, if_false, if_true, ↓reduceIte, true_and, and_true, Int.toNat_natCast, Nat.add_zero, Nat.mul_one, Bool.false_eq_true, decide_eq_true_eq, decide_eq_false_iff_not, Option.isNone_some, Option.isNone_none, Option.isSome_some, Option.isSome_none, List.map_toArray, List.map_cons, List.map_nil, stK_eq, stR_int, stR_bool, stR_string, stR_pointer, stR_slice, exD_plain, exD_guard, exD_nil, stepD_true, stepD_false, needOp, pureOp, Bool.false_or, Bool.true_or, Bool.or_false, Bool.or_true, gval_succ, gval_zero, Bd.s22, Bd.s22b, Bd.s31, Bd.s30, Bd.s30b, Bd.s30e, Bd.s42, Bd.s66, Bd.s67, Bd.b49, Bd.b54, Bd.b79, Bd.b82, Bd.b77, Bd.b86, Bd.b74, decide_true, decide_false, reduceCtorEq, ne_eq, not_true_eq_false, not_false_eq_true, true_implies, false_implies, implies_true, cond_true, cond_false, Bool.not_true, Bool.not_false, stR_agg2, stR_agg4, stR_agg5, one_int, one_bool, one_string, one_pointer, one_slice, one_map, retK_mk, cells_agg, rowAt_alloc, setRow_alloc, ow_four, ow_five, List.getElem_toArray, List.getElem_cons_zero, List.getElem_cons_succ, List.size_toArray, List.length_cons, List.length_nil, Nat.reduceLeDiff, g14, g17]
    repeat (refine ⟨by omega, ?_⟩)
    refine hK _ _ ?_
    clear hK K
    refine cwp_cond ?_
    simp only [exL_plain, exL_guard, exL_nil, fx_move, fx_assign, fx_pick, fx_nilCheck, fx_load, fx_fieldAddr, fx_indexAddr, fx_binOp, fx_not, fx_convert, fx_slice, fx_extract, fx_lookup, fx_build, fx_len, fx_store, fx_alloc, fx_box, fx_makeMap, fx_makeSlice, fx_buildSlice, fx_mapUpdate, fx_append, fx_call, ev_tmp, ev_const, updo_some, updo_none, upd_apply, thenQ_normal, optK_some, optE_some, optE_none, ptrK_mk, intK_mk, boolK_mk, strK_mk, sliceK_mk, addrK_mk, tupK_mk, mapK_mk, sndK_mk, mkK_mk, cvK_int, ldN_zero, ldN_two, ldN_four, ldN_five, binK_add, binK_sub, binK_mul, binK_eql, binK_neq, binK_lss, binK_leq, binK_gtr, binK_geq, binK_seql, binK_sneq, binK_sadd, binK_beql, binK_bneq, binK_peql, binK_pneq, binK_leql, binK_lneq, lenK_slice, lenK_string, ex_slice, ex_pointer, inR_i64, inR_i32, gdK_bool, gdK_undef, Ty.all, Nat.reduceEqDiff, Nat.reduceAdd, Nat.reduceMul, if_false, if_true, ↓reduceIte, true_and, and_true, Int.toNat_natCast, Nat.add_zero, Nat.mul_one, Bool.false_eq_true, decide_eq_true_eq, decide_eq_false_iff_not, Option.isNone_some, Option.isNone_none, Option.isSome_some, Option.isSome_none, List.map_toArray, List.map_cons, List.map_nil, stK_eq, stR_int, stR_bool, stR_string, stR_pointer, stR_slice, exD_plain, exD_guard, exD_nil, stepD_true, stepD_false, needOp, pureOp, Bool.false_or, Bool.true_or, Bool.or_false, Bool.or_true, gval_succ, gval_zero, Bd.s22, Bd.s22b, Bd.s31, Bd.s30, Bd.s30b, Bd.s30e, Bd.s42, Bd.s66, Bd.s67, Bd.b49, Bd.b54, Bd.b79, Bd.b82, Bd.b77, Bd.b86, Bd.b74, decide_true, decide_false, reduceCtorEq, ne_eq, not_true_eq_false, not_false_eq_true, true_implies, false_implies, implies_true, cond_true, cond_false, Bool.not_true, Bool.not_false, stR_agg2, stR_agg4, stR_agg5, one_int, one_bool, one_string, one_pointer, one_slice, one_map, retK_mk, cells_agg, rowAt_alloc, setRow_alloc, ow_four, ow_five, List.getElem_toArray, List.getElem_cons_zero, List.getElem_cons_succ, List.size_toArray, List.length_cons, List.length_nil, Nat.reduceLeDiff]
    refine ⟨fun hlt => cwp_skip (hK _ _ ?_), fun hge => cwp_exit (toJ ?_)⟩
    · clear hK K
      have hrR : r < R.length := by omega
      obtain ⟨e1, e2, e3⟩ := prd r hrR
      obtain ⟨b1, b2⟩ := hRs r hrR
      obtain ⟨tb, to, rfl, htc⟩ := ht (by omega)
      obtain ⟨sb, so, rfl, hsc⟩ := hs (by omega)
      obtain ⟨eb, eo, rfl, hec⟩ := he (by omega)
      obtain ⟨ob, oo, rfl, hoc⟩ := hro (by omega)
      obtain ⟨lb, lo, rfl, hlc⟩ := hrl (by omega)
      have t1 := (cell_of_heap hh _).trans (htc r hrR)
      have t2 := (cell_of_heap hh _).trans (hsc r hrR)
      have t3 := (cell_of_heap hh _).trans (hec r hrR)
      have t4 := (cell_of_heap hh _).trans (hoc r hrR)
      have t5 := (cell_of_heap hh _).trans (hlc r hrR)
      rw [gt r hrR, e1] at t1
      rw [gs r hrR, e2] at t2
      rw [ge r hrR, e3] at t3
      rw [go r hrR] at t4
      rw [gl r hrR] at t5
      have b3 : (xat R r).1 < 4096 := by
        have hm := xat_mem hrR
        rw [← hR] at hm
        have := fl_mem_lt 0 _ (List.mem_filter.1 hm).1
        rw [hR] at this
        omega
      refine cwp_forget [0, 4, 6, 7, 8, 9, 10, 11, 12, 14, 15, 16, 17] fun ρ hL => ?_
      have g0X := hL 0 (by simp)
      have g4X := hL 4 (by simp)
      have g6X := hL 6 (by simp)
      have g7X := hL 7 (by simp)
      have g8X := hL 8 (by simp)
      have g9X := hL 9 (by simp)
      have g10X := hL 10 (by simp)
      have g11X := hL 11 (by simp)
      have g12X := hL 12 (by simp)
      have g14X := hL 14 (by simp)
      have g15X := hL 15 (by simp)
      have g16X := hL 16 (by simp)
      have g17X := hL 17 (by simp)
      clear hL
      simp only [upd_apply, Nat.reduceEqDiff, if_false, if_true, ↓reduceIte, g0, g4, g6, g7, g8, g9, g10, g11, g12, g14, g15, g16, g17] at g0X g4X g6X g7X g8X g9X g10X g11X g12X g14X g15X g16X g17X
      have g0 := g0X
      clear g0X
      have g4 := g4X
      clear g4X
      have g6 := g6X
      clear g6X
      have g7 := g7X
      clear g7X
      have g8 := g8X
      clear g8X
      have g9 := g9X
      clear g9X
      have g10 := g10X
      clear g10X
      have g11 := g11X
      clear g11X
      have g12 := g12X
      clear g12X
      have g14 := g14X
      clear g14X
      have g15 := g15X
      clear g15X
      have g16 := g16X
      clear g16X
      have g17 := g17X
      clear g17X
      refine cwp_seq fun K2 hK2 => ?_
      refine cwp_block ?_
      refine cwp_seq fun K3 hK3 => ?_
      refine cwp_sd Ty.mixed (by kernel_rfl) (fun _ _ _ h => h) fun K9 hK9 => ?_
      refine exD_abs fun ops H => ?_
      have v10 : ∀ ρ, gval ops ρ 10 = ρ 96 := fun ρ => (H ρ 10).trans rfl
      have v19 : ∀ ρ, gval ops ρ 19 = ρ 105 := fun ρ => (H ρ 19).trans rfl
      clear H
      refine exD_cut 9 fun K hK => ?_
      simp only [List.take_succ_cons, List.take_zero, exL_plain, exL_nil, fx_move, fx_assign, fx_pick, fx_nilCheck, fx_load, fx_fieldAddr, fx_indexAddr, fx_binOp, fx_not, fx_convert, fx_slice, fx_extract, fx_lookup, fx_build, fx_len, fx_store, fx_alloc, fx_box, fx_makeMap, fx_makeSlice, fx_buildSlice, fx_mapUpdate, fx_append, fx_call, ev_tmp, ev_const, updo_some, updo_none, upd_apply, thenQ_normal, optK_some, optE_some, optE_none, ptrK_mk, intK_mk, boolK_mk, strK_mk, sliceK_mk, addrK_mk, tupK_mk, mapK_mk, sndK_mk, mkK_mk, cvK_int, ldN_zero, ldN_two, ldN_four, ldN_five, binK_add, binK_sub, binK_mul, binK_eql, binK_neq, binK_lss, binK_leq, binK_gtr, binK_geq, binK_seql, binK_sneq, binK_sadd, binK_beql, binK_bneq, binK_peql, binK_pneq, binK_leql, binK_lneq, lenK_slice, lenK_string, ex_slice, ex_pointer, inR_i64, inR_i32, gdK_bool, gdK_undef, Ty.all, Nat.reduceEqDiff, Nat.reduceAdd, Nat.reduceMul, if_false, if_true, ↓reduceIte, true_and, and_true, Int.toNat_natCast, Nat.add_zero, Nat.mul_one, Bool.false_eq_true, decide_eq_true_eq, decide_eq_false_iff_not, Option.isNone_some, Option.isNone_none, Option.isSome_some, Option.isSome_none, List.map_toArray, List.map_cons, List.map_nil, stK_eq, stR_int, stR_bool, stR_string, stR_pointer, stR_slice, exD_plain, exD_nil, stepD_true, stepD_false, needOp, pureOp, Bool.false_or, Bool.true_or, Bool.or_false, Bool.or_true, gval_succ, gval_zero, Bd.s22, Bd.s22b, Bd.s31, Bd.s30, Bd.s30b, Bd.s30e, Bd.s42, Bd.s66, Bd.s67, Bd.b49, Bd.b54, Bd.b79, Bd.b82, Bd.b77, Bd.b86, Bd.b74, decide_true, decide_false, reduceCtorEq, ne_eq, not_true_eq_false, not_false_eq_true, true_implies, false_implies, implies_true, cond_true, cond_false, Bool.not_true, Bool.not_false, stR_agg2, stR_agg4, stR_agg5, one_int, one_bool, one_string, one_pointer, one_slice, one_map, retK_mk, cells_agg, rowAt_alloc, setRow_alloc, ow_four, ow_five, List.getElem_toArray, List.getElem_cons_zero, List.getElem_cons_succ, List.size_toArray, List.length_cons, List.length_nil, Nat.reduceLeDiff, exD_gT, exD_gTs, exD_gTu, exD_gF, exD_gFs, exD_gFu, exL_gT, exL_gTs, exL_gTu, exL_gF, exL_gFs, exL_gFu, g7, g17, g14, t1, t4]
      repeat (refine ⟨by omega, ?_⟩)
      refine hK _ _ ?_
      clear hK K
      simp only [List.drop_succ_cons, List.drop_zero]
      refine exD_forget [0, 4, 6, 7, 8, 9, 10, 11, 12, 14, 15, 16, 17, 90, 94] fun ρ hL => ?_
      have g0X := hL 0 (by simp)
      have g4X := hL 4 (by simp)
      have g6X := hL 6 (by simp)
      have g7X := hL 7 (by simp)
      have g8X := hL 8 (by simp)
      have g9X := hL 9 (by simp)
      have g10X := hL 10 (by simp)
      have g11X := hL 11 (by simp)
      have g12X := hL 12 (by simp)
      have g14X := hL 14 (by simp)
      have g15X := hL 15 (by simp)
      have g16X := hL 16 (by simp)
      have g17X := hL 17 (by simp)
      have g90X := hL 90 (by simp)
      have g94X := hL 94 (by simp)
      clear hL
      simp only [upd_apply, Nat.reduceEqDiff, if_false, if_true, ↓reduceIte, g0, g4, g6, g7, g8, g9, g10, g11, g12, g14, g15, g16, g17] at g0X g4X g6X g7X g8X g9X g10X g11X g12X g14X g15X g16X g17X g90X g94X
      have g0 := g0X
      clear g0X
      have g4 := g4X
      clear g4X
      have g6 := g6X
      clear g6X
      have g7 := g7X
      clear g7X
      have g8 := g8X
      clear g8X
      have g9 := g9X
      clear g9X
      have g10 := g10X
      clear g10X
      have g11 := g11X
      clear g11X
      have g12 := g12X
      clear g12X
      have g14 := g14X
      clear g14X
      have g15 := g15X
      clear g15X
      have g16 := g16X
      clear g16X
      have g17 := g17X
      clear g17X
      have g90 := g90X
      clear g90X
      have g94 := g94X
      clear g94X
      refine exD_cut 2 fun K hK => ?_
      simp only [List.take_succ_cons, List.take_zero, exL_plain, exL_nil, fx_move, fx_assign, fx_pick, fx_nilCheck, fx_load, fx_fieldAddr, fx_indexAddr, fx_binOp, fx_not, fx_convert, fx_slice, fx_extract, fx_lookup, fx_build, fx_len, fx_store, fx_alloc, fx_box, fx_makeMap, fx_makeSlice, fx_buildSlice, fx_mapUpdate, fx_append, fx_call, ev_tmp, ev_const, updo_some, updo_none, upd_apply, thenQ_normal, optK_some, optE_some, optE_none, ptrK_mk, intK_mk, boolK_mk, strK_mk, sliceK_mk, addrK_mk, tupK_mk, mapK_mk, sndK_mk, mkK_mk, cvK_int, ldN_zero, ldN_two, ldN_four, ldN_five, binK_add, binK_sub, binK_mul, binK_eql, binK_neq, binK_lss, binK_leq, binK_gtr, binK_geq, binK_seql, binK_sneq, binK_sadd, binK_beql, binK_bneq, binK_peql, binK_pneq, binK_leql, binK_lneq, lenK_slice, lenK_string, ex_slice, ex_pointer, inR_i64, inR_i32, gdK_bool, gdK_undef, Ty.all, Nat.reduceEqDiff, Nat.reduceAdd, Nat.reduceMul, if_false, if_true, ↓reduceIte, true_and, and_true, Int.toNat_natCast, Nat.add_zero, Nat.mul_one, Bool.false_eq_true, decide_eq_true_eq, decide_eq_false_iff_not, Option.isNone_some, Option.isNone_none, Option.isSome_some, Option.isSome_none, List.map_toArray, List.map_cons, List.map_nil, stK_eq, stR_int, stR_bool, stR_string, stR_pointer, stR_slice, exD_plain, exD_nil, stepD_true, stepD_false, needOp, pureOp, Bool.false_or, Bool.true_or, Bool.or_false, Bool.or_true, gval_succ, gval_zero, Bd.s22, Bd.s22b, Bd.s31, Bd.s30, Bd.s30b, Bd.s30e, Bd.s42, Bd.s66, Bd.s67, Bd.b49, Bd.b54, Bd.b79, Bd.b82, Bd.b77, Bd.b86, Bd.b74, decide_true, decide_false, reduceCtorEq, ne_eq, not_true_eq_false, not_false_eq_true, true_implies, false_implies, implies_true, cond_true, cond_false, Bool.not_true, Bool.not_false, stR_agg2, stR_agg4, stR_agg5, one_int, one_bool, one_string, one_pointer, one_slice, one_map, retK_mk, cells_agg, rowAt_alloc, setRow_alloc, ow_four, ow_five, List.getElem_toArray, List.getElem_cons_zero, List.getElem_cons_succ, List.size_toArray, List.length_cons, List.length_nil, Nat.reduceLeDiff, exD_gT, exD_gTs, exD_gTu, exD_gF, exD_gFs, exD_gFu, exL_gT, exL_gTs, exL_gTu, exL_gF, exL_gFs, exL_gFu, g90, g94]
      repeat (refine ⟨by omega, ?_⟩)
      refine hK _ _ ?_
      clear hK K
      simp only [List.drop_succ_cons, List.drop_zero]
      refine exD_forget [0, 4, 6, 7, 8, 9, 10, 11, 12, 14, 15, 16, 17, 96] fun ρ hL => ?_
      have g0X := hL 0 (by simp)
      have g4X := hL 4 (by simp)
      have g6X := hL 6 (by simp)
      have g7X := hL 7 (by simp)
      have g8X := hL 8 (by simp)
      have g9X := hL 9 (by simp)
      have g10X := hL 10 (by simp)
      have g11X := hL 11 (by simp)
      have g12X := hL 12 (by simp)
      have g14X := hL 14 (by simp)
      have g15X := hL 15 (by simp)
      have g16X := hL 16 (by simp)
      have g17X := hL 17 (by simp)
      have g96X := hL 96 (by simp)
      clear hL
      simp only [upd_apply, Nat.reduceEqDiff, if_false, if_true, ↓reduceIte, g0, g4, g6, g7, g8, g9, g10, g11, g12, g14, g15, g16, g17] at g0X g4X g6X g7X g8X g9X g10X g11X g12X g14X g15X g16X g17X g96X
      have g0 := g0X
      clear g0X
      have g4 := g4X
      clear g4X
      have g6 := g6X
      clear g6X
      have g7 := g7X
      clear g7X
      have g8 := g8X
      clear g8X
      have g9 := g9X
      clear g9X
      have g10 := g10X
      clear g10X
      have g11 := g11X
      clear g11X
      have g12 := g12X
      clear g12X
      have g14 := g14X
      clear g14X
      have g15 := g15X
      clear g15X
      have g16 := g16X
      clear g16X
      have g17 := g17X
      clear g17X
      have g96 := g96X
      clear g96X
      refine exD_cut 9 fun K hK => ?_
      simp only [List.take_succ_cons, List.take_zero, exL_plain, exL_nil, fx_move, fx_assign, fx_pick, fx_nilCheck, fx_load, fx_fieldAddr, fx_indexAddr, fx_binOp, fx_not, fx_convert, fx_slice, fx_extract, fx_lookup, fx_build, fx_len, fx_store, fx_alloc, fx_box, fx_makeMap, fx_makeSlice, fx_buildSlice, fx_mapUpdate, fx_append, fx_call, ev_tmp, ev_const, updo_some, updo_none, upd_apply, thenQ_normal, optK_some, optE_some, optE_none, ptrK_mk, intK_mk, boolK_mk, strK_mk, sliceK_mk, addrK_mk, tupK_mk, mapK_mk, sndK_mk, mkK_mk, cvK_int, ldN_zero, ldN_two, ldN_four, ldN_five, binK_add, binK_sub, binK_mul, binK_eql, binK_neq, binK_lss, binK_leq, binK_gtr, binK_geq, binK_seql, binK_sneq, binK_sadd, binK_beql, binK_bneq, binK_peql, binK_pneq, binK_leql, binK_lneq, lenK_slice, lenK_string, ex_slice, ex_pointer, inR_i64, inR_i32, gdK_bool, gdK_undef, Ty.all, Nat.reduceEqDiff, Nat.reduceAdd, Nat.reduceMul, if_false, if_true, ↓reduceIte, true_and, and_true, Int.toNat_natCast, Nat.add_zero, Nat.mul_one, Bool.false_eq_true, decide_eq_true_eq, decide_eq_false_iff_not, Option.isNone_some, Option.isNone_none, Option.isSome_some, Option.isSome_none, List.map_toArray, List.map_cons, List.map_nil, stK_eq, stR_int, stR_bool, stR_string, stR_pointer, stR_slice, exD_plain, exD_nil, stepD_true, stepD_false, needOp, pureOp, Bool.false_or, Bool.true_or, Bool.or_false, Bool.or_true, gval_succ, gval_zero, Bd.s22, Bd.s22b, Bd.s31, Bd.s30, Bd.s30b, Bd.s30e, Bd.s42, Bd.s66, Bd.s67, Bd.b49, Bd.b54, Bd.b79, Bd.b82, Bd.b77, Bd.b86, Bd.b74, decide_true, decide_false, reduceCtorEq, ne_eq, not_true_eq_false, not_false_eq_true, true_implies, false_implies, implies_true, cond_true, cond_false, Bool.not_true, Bool.not_false, stR_agg2, stR_agg4, stR_agg5, one_int, one_bool, one_string, one_pointer, one_slice, one_map, retK_mk, cells_agg, rowAt_alloc, setRow_alloc, ow_four, ow_five, List.getElem_toArray, List.getElem_cons_zero, List.getElem_cons_succ, List.size_toArray, List.length_cons, List.length_nil, Nat.reduceLeDiff, exD_gT, exD_gTs, exD_gTu, exD_gF, exD_gFs, exD_gFu, exL_gT, exL_gTs, exL_gTu, exL_gF, exL_gFs, exL_gFu, v10, v19, g96, g8, g17, g16, t2]
      repeat (refine ⟨by omega, ?_⟩)
      refine hK _ _ ?_
      clear hK K
      simp only [List.drop_succ_cons, List.drop_zero]
      refine exD_forget [0, 4, 6, 7, 8, 9, 10, 11, 12, 14, 15, 16, 17, 105] fun ρ hL => ?_
      have g0X := hL 0 (by simp)
      have g4X := hL 4 (by simp)
      have g6X := hL 6 (by simp)
      have g7X := hL 7 (by simp)
      have g8X := hL 8 (by simp)
      have g9X := hL 9 (by simp)
      have g10X := hL 10 (by simp)
      have g11X := hL 11 (by simp)
      have g12X := hL 12 (by simp)
      have g14X := hL 14 (by simp)
      have g15X := hL 15 (by simp)
      have g16X := hL 16 (by simp)
      have g17X := hL 17 (by simp)
      have g105X := hL 105 (by simp)
      clear hL
      simp only [upd_apply, Nat.reduceEqDiff, if_false, if_true, ↓reduceIte, g0, g4, g6, g7, g8, g9, g10, g11, g12, g14, g15, g16, g17] at g0X g4X g6X g7X g8X g9X g10X g11X g12X g14X g15X g16X g17X g105X
      have g0 := g0X
      clear g0X
      have g4 := g4X
      clear g4X
      have g6 := g6X
      clear g6X
      have g7 := g7X
      clear g7X
      have g8 := g8X
      clear g8X
      have g9 := g9X
      clear g9X
      have g10 := g10X
      clear g10X
      have g11 := g11X
      clear g11X
      have g12 := g12X
      clear g12X
      have g14 := g14X
      clear g14X
      have g15 := g15X
      clear g15X
      have g16 := g16X
      clear g16X
      have g17 := g17X
      clear g17X
      have g105 := g105X
      clear g105X
      refine exD_cut 5 fun K hK => ?_
      simp only [List.take_succ_cons, List.take_zero, exL_plain, exL_nil, fx_move, fx_assign, fx_pick, fx_nilCheck, fx_load, fx_fieldAddr, fx_indexAddr, fx_binOp, fx_not, fx_convert, fx_slice, fx_extract, fx_lookup, fx_build, fx_len, fx_store, fx_alloc, fx_box, fx_makeMap, fx_makeSlice, fx_buildSlice, fx_mapUpdate, fx_append, fx_call, ev_tmp, ev_const, updo_some, updo_none, upd_apply, thenQ_normal, optK_some, optE_some, optE_none, ptrK_mk, intK_mk, boolK_mk, strK_mk, sliceK_mk, addrK_mk, tupK_mk, mapK_mk, sndK_mk, mkK_mk, cvK_int, ldN_zero, ldN_two, ldN_four, ldN_five, binK_add, binK_sub, binK_mul, binK_eql, binK_neq, binK_lss, binK_leq, binK_gtr, binK_geq, binK_seql, binK_sneq, binK_sadd, binK_beql, binK_bneq, binK_peql, binK_pneq, binK_leql, binK_lneq, lenK_slice, lenK_string, ex_slice, ex_pointer, inR_i64, inR_i32, gdK_bool, gdK_undef, Ty.all, Nat.reduceEqDiff, Nat.reduceAdd, Nat.reduceMul, if_false, if_true, ↓reduceIte, true_and, and_true, Int.toNat_natCast, Nat.add_zero, Nat.mul_one, Bool.false_eq_true, decide_eq_true_eq, decide_eq_false_iff_not, Option.isNone_some, Option.isNone_none, Option.isSome_some, Option.isSome_none, List.map_toArray, List.map_cons, List.map_nil, stK_eq, stR_int, stR_bool, stR_string, stR_pointer, stR_slice, exD_plain, exD_nil, stepD_true, stepD_false, needOp, pureOp, Bool.false_or, Bool.true_or, Bool.or_false, Bool.or_true, gval_succ, gval_zero, Bd.s22, Bd.s22b, Bd.s31, Bd.s30, Bd.s30b, Bd.s30e, Bd.s42, Bd.s66, Bd.s67, Bd.b49, Bd.b54, Bd.b79, Bd.b82, Bd.b77, Bd.b86, Bd.b74, decide_true, decide_false, reduceCtorEq, ne_eq, not_true_eq_false, not_false_eq_true, true_implies, false_implies, implies_true, cond_true, cond_false, Bool.not_true, Bool.not_false, stR_agg2, stR_agg4, stR_agg5, one_int, one_bool, one_string, one_pointer, one_slice, one_map, retK_mk, cells_agg, rowAt_alloc, setRow_alloc, ow_four, ow_five, List.getElem_toArray, List.getElem_cons_zero, List.getElem_cons_succ, List.size_toArray, List.length_cons, List.length_nil, Nat.reduceLeDiff, exD_gT, exD_gTs, exD_gTu, exD_gF, exD_gFs, exD_gFu, exL_gT, exL_gTs, exL_gTu, exL_gF, exL_gFs, exL_gFu, v10, v19, g105, g9, g17, t3]
      repeat (refine ⟨by omega, ?_⟩)
      refine hK _ _ ?_
      clear hK K
      simp only [List.drop_succ_cons, List.drop_zero]
      refine exD_forget [0, 4, 6, 7, 8, 9, 10, 11, 12, 14, 15, 16, 17, 105, 110] fun ρ hL => ?_
      have g0X := hL 0 (by simp)
      have g4X := hL 4 (by simp)
      have g6X := hL 6 (by simp)
      have g7X := hL 7 (by simp)
      have g8X := hL 8 (by simp)
      have g9X := hL 9 (by simp)
      have g10X := hL 10 (by simp)
      have g11X := hL 11 (by simp)
      have g12X := hL 12 (by simp)
      have g14X := hL 14 (by simp)
      have g15X := hL 15 (by simp)
      have g16X := hL 16 (by simp)
      have g17X := hL 17 (by simp)
      have g105X := hL 105 (by simp)
      have g110X := hL 110 (by simp)
      clear hL
      simp only [upd_apply, Nat.reduceEqDiff, if_false, if_true, ↓reduceIte, g0, g4, g6, g7, g8, g9, g10, g11, g12, g14, g15, g16, g17, g105] at g0X g4X g6X g7X g8X g9X g10X g11X g12X g14X g15X g16X g17X g105X g110X
      have g0 := g0X
      clear g0X
      have g4 := g4X
      clear g4X
      have g6 := g6X
      clear g6X
      have g7 := g7X
      clear g7X
      have g8 := g8X
      clear g8X
      have g9 := g9X
      clear g9X
      have g10 := g10X
      clear g10X
      have g11 := g11X
      clear g11X
      have g12 := g12X
      clear g12X
      have g14 := g14X
      clear g14X
      have g15 := g15X
      clear g15X
      have g16 := g16X
      clear g16X
      have g17 := g17X
      clear g17X
      have g105 := g105X
      clear g105X
      have g110 := g110X
      clear g110X
      simp only [exL_plain, exL_nil, fx_move, fx_assign, fx_pick, fx_nilCheck, fx_load, fx_fieldAddr, fx_indexAddr, fx_binOp, fx_not, fx_convert, fx_slice, fx_extract, fx_lookup, fx_build, fx_len, fx_store, fx_alloc, fx_box, fx_makeMap, fx_makeSlice, fx_buildSlice, fx_mapUpdate, fx_append, fx_call, ev_tmp, ev_const, updo_some, updo_none, upd_apply, thenQ_normal, optK_some, optE_some, optE_none, ptrK_mk, intK_mk, boolK_mk, strK_mk, sliceK_mk, addrK_mk, tupK_mk, mapK_mk, sndK_mk, mkK_mk, cvK_int, ldN_zero, ldN_two, ldN_four, ldN_five, binK_add, binK_sub, binK_mul, binK_eql, binK_neq, binK_lss, binK_leq, binK_gtr, binK_geq, binK_seql, binK_sneq, binK_sadd, binK_beql, binK_bneq, binK_peql, binK_pneq, binK_leql, binK_lneq, lenK_slice, lenK_string, ex_slice, ex_pointer, inR_i64, inR_i32, gdK_bool, gdK_undef, Ty.all, Nat.reduceEqDiff, Nat.reduceAdd, Nat.reduceMul, if_false, if_true, ↓reduceIte, true_and, and_true, Int.toNat_natCast, Nat.add_zero, Nat.mul_one, Bool.false_eq_true, decide_eq_true_eq, decide_eq_false_iff_not, Option.isNone_some, Option.isNone_none, Option.isSome_some, Option.isSome_none, List.map_toArray, List.map_cons, List.map_nil, stK_eq, stR_int, stR_bool, stR_string, stR_pointer, stR_slice, exD_plain, exD_nil, stepD_true, stepD_false, needOp, pureOp, Bool.false_or, Bool.true_or, Bool.or_false, Bool.or_true, gval_succ, gval_zero, Bd.s22, Bd.s22b, Bd.s31, Bd.s30, Bd.s30b, Bd.s30e, Bd.s42, Bd.s66, Bd.s67, Bd.b49, Bd.b54, Bd.b79, Bd.b82, Bd.b77, Bd.b86, Bd.b74, decide_true, decide_false, reduceCtorEq, ne_eq, not_true_eq_false, not_false_eq_true, true_implies, false_implies, implies_true, cond_true, cond_false, Bool.not_true, Bool.not_false, stR_agg2, stR_agg4, stR_agg5, one_int, one_bool, one_string, one_pointer, one_slice, one_map, retK_mk, cells_agg, rowAt_alloc, setRow_alloc, ow_four, ow_five, List.getElem_toArray, List.getElem_cons_zero, List.getElem_cons_succ, List.size_toArray, List.length_cons, List.length_nil, Nat.reduceLeDiff, exD_gT, exD_gTs, exD_gTu, exD_gF, exD_gFs, exD_gFu, exL_gT, exL_gTs, exL_gTu, exL_gF, exL_gFs, exL_gFu, v10, v19, g105, g110, g15, g16, g17, t5]
      repeat (refine ⟨by omega, ?_⟩)
      refine hK9 _ _ ?_
      clear hK9
      refine cwp_cond ?_
      simp only [exL_plain, exL_guard, exL_nil, fx_move, fx_assign, fx_pick, fx_nilCheck, fx_load, fx_fieldAddr, fx_indexAddr, fx_binOp, fx_not, fx_convert, fx_slice, fx_extract, fx_lookup, fx_build, fx_len, fx_store, fx_alloc, fx_box, fx_makeMap, fx_makeSlice, fx_buildSlice, fx_mapUpdate, fx_append, fx_call, ev_tmp, ev_const, updo_some, updo_none, upd_apply, thenQ_normal, optK_some, optE_some, optE_none, ptrK_mk, intK_mk, boolK_mk, strK_mk, sliceK_mk, addrK_mk, tupK_mk, mapK_mk, sndK_mk, mkK_mk, cvK_int, ldN_zero, ldN_two, ldN_four, ldN_five, binK_add, binK_sub, binK_mul, binK_eql, binK_neq, binK_lss, binK_leq, binK_gtr, binK_geq, binK_seql, binK_sneq, binK_sadd, binK_beql, binK_bneq, binK_peql, binK_pneq, binK_leql, binK_lneq, lenK_slice, lenK_string, ex_slice, ex_pointer, inR_i64, inR_i32, gdK_bool, gdK_undef, Ty.all, Nat.reduceEqDiff, Nat.reduceAdd, Nat.reduceMul, if_false, if_true, ↓reduceIte, true_and, and_true, Int.toNat_natCast, Nat.add_zero, Nat.mul_one, Bool.false_eq_true, decide_eq_true_eq, decide_eq_false_iff_not, Option.isNone_some, Option.isNone_none, Option.isSome_some, Option.isSome_none, List.map_toArray, List.map_cons, List.map_nil, stK_eq, stR_int, stR_bool, stR_string, stR_pointer, stR_slice, exD_plain, exD_guard, exD_nil, stepD_true, stepD_false, needOp, pureOp, Bool.false_or, Bool.true_or, Bool.or_false, Bool.or_true, gval_succ, gval_zero, Bd.s22, Bd.s22b, Bd.s31, Bd.s30, Bd.s30b, Bd.s30e, Bd.s42, Bd.s66, Bd.s67, Bd.b49, Bd.b54, Bd.b79, Bd.b82, Bd.b77, Bd.b86, Bd.b74, decide_true, decide_false, reduceCtorEq, ne_eq, not_true_eq_false, not_false_eq_true, true_implies, false_implies, implies_true, cond_true, cond_false, Bool.not_true, Bool.not_false, stR_agg2, stR_agg4, stR_agg5, one_int, one_bool, one_string, one_pointer, one_slice, one_map, retK_mk, cells_agg, rowAt_alloc, setRow_alloc, ow_four, ow_five, List.getElem_toArray, List.getElem_cons_zero, List.getElem_cons_succ, List.size_toArray, List.length_cons, List.length_nil, Nat.reduceLeDiff]
      refine cwp_skip (hK3 _ _ ?_)
      clear hK3
      have hh : wr.drew.heap = wz.heap := hh
      have hb := hb.drew
      have t5 : wr.drew.cell? _ = _ := t5
      generalize wr.drew = wr at *
      refine cwp_forget [0, 4, 6, 7, 8, 9, 10, 11, 12, 14, 15, 16, 17] fun ρ hL => ?_
      have g0X := hL 0 (by simp)
      have g4X := hL 4 (by simp)
      have g6X := hL 6 (by simp)
      have g7X := hL 7 (by simp)
      have g8X := hL 8 (by simp)
      have g9X := hL 9 (by simp)
      have g10X := hL 10 (by simp)
      have g11X := hL 11 (by simp)
      have g12X := hL 12 (by simp)
      have g14X := hL 14 (by simp)
      have g15X := hL 15 (by simp)
      have g16X := hL 16 (by simp)
      have g17X := hL 17 (by simp)
      clear hL
      simp only [upd_apply, Nat.reduceEqDiff, if_false, if_true, ↓reduceIte, g0, g4, g6, g7, g8, g9, g10, g11, g12, g14, g15, g16, g17] at g0X g4X g6X g7X g8X g9X g10X g11X g12X g14X g15X g16X g17X
      have g0 := g0X
      clear g0X
      have g4 := g4X
      clear g4X
      have g6 := g6X
      clear g6X
      have g7 := g7X
      clear g7X
      have g8 := g8X
      clear g8X
      have g9 := g9X
      clear g9X
      have g10 := g10X
      clear g10X
      have g11 := g11X
      clear g11X
      have g12 := g12X
      clear g12X
      have g14 := g14X
      clear g14X
      have g15 := g15X
      clear g15X
      have g16 := g16X
      clear g16X
      have g17 := g17X
      clear g17X
      refine cwp_region rfl ?_
      simp only [exL_plain, exL_guard, exL_nil, fx_move, fx_assign, fx_pick, fx_nilCheck, fx_load, fx_fieldAddr, fx_indexAddr, fx_binOp, fx_not, fx_convert, fx_slice, fx_extract, fx_lookup, fx_build, fx_len, fx_store, fx_alloc, fx_box, fx_makeMap, fx_makeSlice, fx_buildSlice, fx_mapUpdate, fx_append, fx_call, ev_tmp, ev_const, updo_some, updo_none, upd_apply, thenQ_normal, optK_some, optE_some, optE_none, ptrK_mk, intK_mk, boolK_mk, strK_mk, sliceK_mk, addrK_mk, tupK_mk, mapK_mk, sndK_mk, mkK_mk, cvK_int, ldN_zero, ldN_two, ldN_four, ldN_five, binK_add, binK_sub, binK_mul, binK_eql, binK_neq, binK_lss, binK_leq, binK_gtr, binK_geq, binK_seql, binK_sneq, binK_sadd, binK_beql, binK_bneq, binK_peql, binK_pneq, binK_leql, binK_lneq, lenK_slice, lenK_string, ex_slice, ex_pointer, inR_i64, inR_i32, gdK_bool, gdK_undef, Ty.all, Nat.reduceEqDiff, Nat.reduceAdd, Nat.reduceMul, if_false, if_true, ↓reduceIte, true_and, and_true, Int.toNat_natCast, Nat.add_zero, Nat.mul_one, Bool.false_eq_true, decide_eq_true_eq, decide_eq_false_iff_not, Option.isNone_some, Option.isNone_none, Option.isSome_some, Option.isSome_none, List.map_toArray, List.map_cons, List.map_nil, stK_eq, stR_int, stR_bool, stR_string, stR_pointer, stR_slice, exD_plain, exD_guard, exD_nil, stepD_true, stepD_false, needOp, pureOp, Bool.false_or, Bool.true_or, Bool.or_false, Bool.or_true, gval_succ, gval_zero, Bd.s22, Bd.s22b, Bd.s31, Bd.s30, Bd.s30b, Bd.s30e, Bd.s42, Bd.s66, Bd.s67, Bd.b49, Bd.b54, Bd.b79, Bd.b82, Bd.b77, Bd.b86, Bd.b74, decide_true, decide_false, reduceCtorEq, ne_eq, not_true_eq_false, not_false_eq_true, true_implies, false_implies, implies_true, cond_true, cond_false, Bool.not_true, Bool.not_false, stR_agg2, stR_agg4, stR_agg5, one_int, one_bool, one_string, one_pointer, one_slice, one_map, retK_mk, cells_agg, rowAt_alloc, setRow_alloc, ow_four, ow_five, List.getElem_toArray, List.getElem_cons_zero, List.getElem_cons_succ, List.size_toArray, List.length_cons, List.length_nil, Nat.reduceLeDiff, g15, g16, g17, t5]
      repeat (refine ⟨by omega, ?_⟩)
      simp only [blkQ_normal, thenQ_normal]
      refine hK2 _ _ ?_
      refine cwp_forget [0, 4, 6, 7, 8, 9, 10, 11, 12, 14, 15, 16, 17] fun ρ hL => ?_
      have g0X := hL 0 (by simp)
      have g4X := hL 4 (by simp)
      have g6X := hL 6 (by simp)
      have g7X := hL 7 (by simp)
      have g8X := hL 8 (by simp)
      have g9X := hL 9 (by simp)
      have g10X := hL 10 (by simp)
      have g11X := hL 11 (by simp)
      have g12X := hL 12 (by simp)
      have g14X := hL 14 (by simp)
      have g15X := hL 15 (by simp)
      have g16X := hL 16 (by simp)
      have g17X := hL 17 (by simp)
      clear hL
      simp only [upd_apply, Nat.reduceEqDiff, if_false, if_true, ↓reduceIte, g0, g4, g6, g7, g8, g9, g10, g11, g12, g14, g15, g17] at g0X g4X g6X g7X g8X g9X g10X g11X g12X g14X g15X g16X g17X
      have g0 := g0X
      clear g0X
      have g4 := g4X
      clear g4X
      have g6 := g6X
      clear g6X
      have g7 := g7X
      clear g7X
      have g8 := g8X
      clear g8X
      have g9 := g9X
      clear g9X
      have g10 := g10X
      clear g10X
      have g11 := g11X
      clear g11X
      have g12 := g12X
      clear g12X
      have g14 := g14X
      clear g14X
      have g15 := g15X
      clear g15X
      have g16 := g16X
      clear g16X
      have g17 := g17X
      clear g17X
      refine cwp_region rfl ?_
      simp only [exL_plain, exL_guard, exL_nil, fx_move, fx_assign, fx_pick, fx_nilCheck, fx_load, fx_fieldAddr, fx_indexAddr, fx_binOp, fx_not, fx_convert, fx_slice, fx_extract, fx_lookup, fx_build, fx_len, fx_store, fx_alloc, fx_box, fx_makeMap, fx_makeSlice, fx_buildSlice, fx_mapUpdate, fx_append, fx_call, ev_tmp, ev_const, updo_some, updo_none, upd_apply, thenQ_normal, optK_some, optE_some, optE_none, ptrK_mk, intK_mk, boolK_mk, strK_mk, sliceK_mk, addrK_mk, tupK_mk, mapK_mk, sndK_mk, mkK_mk, cvK_int, ldN_zero, ldN_two, ldN_four, ldN_five, binK_add, binK_sub, binK_mul, binK_eql, binK_neq, binK_lss, binK_leq, binK_gtr, binK_geq, binK_seql, binK_sneq, binK_sadd, binK_beql, binK_bneq, binK_peql, binK_pneq, binK_leql, binK_lneq, lenK_slice, lenK_string, ex_slice, ex_pointer, inR_i64, inR_i32, gdK_bool, gdK_undef, Ty.all, Nat.reduceEqDiff, Nat.reduceAdd, Nat.reduceMul, if_false, if_true, ↓reduceIte, true_and, and_true, Int.toNat_natCast, Nat.add_zero, Nat.mul_one, Bool.false_eq_true, decide_eq_true_eq, decide_eq_false_iff_not, Option.isNone_some, Option.isNone_none, Option.isSome_some, Option.isSome_none, List.map_toArray, List.map_cons, List.map_nil, stK_eq, stR_int, stR_bool, stR_string, stR_pointer, stR_slice, exD_plain, exD_guard, exD_nil, stepD_true, stepD_false, needOp, pureOp, Bool.false_or, Bool.true_or, Bool.or_false, Bool.or_true, gval_succ, gval_zero, Bd.s22, Bd.s22b, Bd.s31, Bd.s30, Bd.s30b, Bd.s30e, Bd.s42, Bd.s66, Bd.s67, Bd.b49, Bd.b54, Bd.b79, Bd.b82, Bd.b77, Bd.b86, Bd.b74, decide_true, decide_false, reduceCtorEq, ne_eq, not_true_eq_false, not_false_eq_true, true_implies, false_implies, implies_true, cond_true, cond_false, Bool.not_true, Bool.not_false, stR_agg2, stR_agg4, stR_agg5, one_int, one_bool, one_string, one_pointer, one_slice, one_map, retK_mk, cells_agg, rowAt_alloc, setRow_alloc, ow_four, ow_five, List.getElem_toArray, List.getElem_cons_zero, List.getElem_cons_succ, List.size_toArray, List.length_cons, List.length_nil, Nat.reduceLeDiff, g17]
      repeat (refine ⟨by omega, ?_⟩)
      refine hK1 _ _ (r + 1) ⟨hrR, ?_, ?_, ?_, ?_, ?_, ?_, ?_, ?_, ?_, ?_, ?_, ?_, ?_, hh, hb⟩ (by omega)
      · simp only [exL_plain, exL_guard, exL_nil, fx_move, fx_assign, fx_pick, fx_nilCheck, fx_load, fx_fieldAddr, fx_indexAddr, fx_binOp, fx_not, fx_convert, fx_slice, fx_extract, fx_lookup, fx_build, fx_len, fx_store, fx_alloc, fx_box, fx_makeMap, fx_makeSlice, fx_buildSlice, fx_mapUpdate, fx_append, fx_call, ev_tmp, ev_const, updo_some, updo_none, upd_apply, thenQ_normal, optK_some, optE_some, optE_none, ptrK_mk, intK_mk, boolK_mk, strK_mk, sliceK_mk, addrK_mk, tupK_mk, mapK_mk, sndK_mk, mkK_mk, cvK_int, ldN_zero, ldN_two, ldN_four, ldN_five, binK_add, binK_sub, binK_mul, binK_eql, binK_neq, binK_lss, binK_leq, binK_gtr, binK_geq, binK_seql, binK_sneq, binK_sadd, binK_beql, binK_bneq, binK_peql, binK_pneq, binK_leql, binK_lneq, lenK_slice, lenK_string, ex_slice, ex_pointer, inR_i64, inR_i32, gdK_bool, gdK_undef, Ty.all, Nat.reduceEqDiff, Nat.reduceAdd, Nat.reduceMul, if_false, if_true, ↓reduceIte, true_and, and_true, Int.toNat_natCast, Nat.add_zero, Nat.mul_one, Bool.false_eq_true, decide_eq_true_eq, decide_eq_false_iff_not, Option.isNone_some, Option.isNone_none, Option.isSome_some, Option.isSome_none, List.map_toArray, List.map_cons, List.map_nil, stK_eq, stR_int, stR_bool, stR_string, stR_pointer, stR_slice, exD_plain, exD_guard, exD_nil, stepD_true, stepD_false, needOp, pureOp, Bool.false_or, Bool.true_or, Bool.or_false, Bool.or_true, gval_succ, gval_zero, Bd.s22, Bd.s22b, Bd.s31, Bd.s30, Bd.s30b, Bd.s30e, Bd.s42, Bd.s66, Bd.s67, Bd.b49, Bd.b54, Bd.b79, Bd.b82, Bd.b77, Bd.b86, Bd.b74, decide_true, decide_false, reduceCtorEq, ne_eq, not_true_eq_false, not_false_eq_true, true_implies, false_implies, implies_true, cond_true, cond_false, Bool.not_true, Bool.not_false, stR_agg2, stR_agg4, stR_agg5, one_int, one_bool, one_string, one_pointer, one_slice, one_map, retK_mk, cells_agg, rowAt_alloc, setRow_alloc, ow_four, ow_five, List.getElem_toArray, List.getElem_cons_zero, List.getElem_cons_succ, List.size_toArray, List.length_cons, List.length_nil, Nat.reduceLeDiff, g0]
      · simp only [exL_plain, exL_guard, exL_nil, fx_move, fx_assign, fx_pick, fx_nilCheck, fx_load, fx_fieldAddr, fx_indexAddr, fx_binOp, fx_not, fx_convert, fx_slice, fx_extract, fx_lookup, fx_build, fx_len, fx_store, fx_alloc, fx_box, fx_makeMap, fx_makeSlice, fx_buildSlice, fx_mapUpdate, fx_append, fx_call, ev_tmp, ev_const, updo_some, updo_none, upd_apply, thenQ_normal, optK_some, optE_some, optE_none, ptrK_mk, intK_mk, boolK_mk, strK_mk, sliceK_mk, addrK_mk, tupK_mk, mapK_mk, sndK_mk, mkK_mk, cvK_int, ldN_zero, ldN_two, ldN_four, ldN_five, binK_add, binK_sub, binK_mul, binK_eql, binK_neq, binK_lss, binK_leq, binK_gtr, binK_geq, binK_seql, binK_sneq, binK_sadd, binK_beql, binK_bneq, binK_peql, binK_pneq, binK_leql, binK_lneq, lenK_slice, lenK_string, ex_slice, ex_pointer, inR_i64, inR_i32, gdK_bool, gdK_undef, Ty.all, Nat.reduceEqDiff, Nat.reduceAdd, Nat.reduceMul, if_false, if_true, ↓reduceIte, true_and, and_true, Int.toNat_natCast, Nat.add_zero, Nat.mul_one, Bool.false_eq_true, decide_eq_true_eq, decide_eq_false_iff_not, Option.isNone_some, Option.isNone_none, Option.isSome_some, Option.isSome_none, List.map_toArray, List.map_cons, List.map_nil, stK_eq, stR_int, stR_bool, stR_string, stR_pointer, stR_slice, exD_plain, exD_guard, exD_nil, stepD_true, stepD_false, needOp, pureOp, Bool.false_or, Bool.true_or, Bool.or_false, Bool.or_true, gval_succ, gval_zero, Bd.s22, Bd.s22b, Bd.s31, Bd.s30, Bd.s30b, Bd.s30e, Bd.s42, Bd.s66, Bd.s67, Bd.b49, Bd.b54, Bd.b79, Bd.b82, Bd.b77, Bd.b86, Bd.b74, decide_true, decide_false, reduceCtorEq, ne_eq, not_true_eq_false, not_false_eq_true, true_implies, false_implies, implies_true, cond_true, cond_false, Bool.not_true, Bool.not_false, stR_agg2, stR_agg4, stR_agg5, one_int, one_bool, one_string, one_pointer, one_slice, one_map, retK_mk, cells_agg, rowAt_alloc, setRow_alloc, ow_four, ow_five, List.getElem_toArray, List.getElem_cons_zero, List.getElem_cons_succ, List.size_toArray, List.length_cons, List.length_nil, Nat.reduceLeDiff, g4]
      · simp only [exL_plain, exL_guard, exL_nil, fx_move, fx_assign, fx_pick, fx_nilCheck, fx_load, fx_fieldAddr, fx_indexAddr, fx_binOp, fx_not, fx_convert, fx_slice, fx_extract, fx_lookup, fx_build, fx_len, fx_store, fx_alloc, fx_box, fx_makeMap, fx_makeSlice, fx_buildSlice, fx_mapUpdate, fx_append, fx_call, ev_tmp, ev_const, updo_some, updo_none, upd_apply, thenQ_normal, optK_some, optE_some, optE_none, ptrK_mk, intK_mk, boolK_mk, strK_mk, sliceK_mk, addrK_mk, tupK_mk, mapK_mk, sndK_mk, mkK_mk, cvK_int, ldN_zero, ldN_two, ldN_four, ldN_five, binK_add, binK_sub, binK_mul, binK_eql, binK_neq, binK_lss, binK_leq, binK_gtr, binK_geq, binK_seql, binK_sneq, binK_sadd, binK_beql, binK_bneq, binK_peql, binK_pneq, binK_leql, binK_lneq, lenK_slice, lenK_string, ex_slice, ex_pointer, inR_i64, inR_i32, gdK_bool, gdK_undef, Ty.all, Nat.reduceEqDiff, Nat.reduceAdd, Nat.reduceMul, if_false, if_true, ↓reduceIte, true_and, and_true, Int.toNat_natCast, Nat.add_zero, Nat.mul_one, Bool.false_eq_true, decide_eq_true_eq, decide_eq_false_iff_not, Option.isNone_some, Option.isNone_none, Option.isSome_some, Option.isSome_none, List.map_toArray, List.map_cons, List.map_nil, stK_eq, stR_int, stR_bool, stR_string, stR_pointer, stR_slice, exD_plain, exD_guard, exD_nil, stepD_true, stepD_false, needOp, pureOp, Bool.false_or, Bool.true_or, Bool.or_false, Bool.or_true, gval_succ, gval_zero, Bd.s22, Bd.s22b, Bd.s31, Bd.s30, Bd.s30b, Bd.s30e, Bd.s42, Bd.s66, Bd.s67, Bd.b49, Bd.b54, Bd.b79, Bd.b82, Bd.b77, Bd.b86, Bd.b74, decide_true, decide_false, reduceCtorEq, ne_eq, not_true_eq_false, not_false_eq_true, true_implies, false_implies, implies_true, cond_true, cond_false, Bool.not_true, Bool.not_false, stR_agg2, stR_agg4, stR_agg5, one_int, one_bool, one_string, one_pointer, one_slice, one_map, retK_mk, cells_agg, rowAt_alloc, setRow_alloc, ow_four, ow_five, List.getElem_toArray, List.getElem_cons_zero, List.getElem_cons_succ, List.size_toArray, List.length_cons, List.length_nil, Nat.reduceLeDiff, g6]
      · simp only [exL_plain, exL_guard, exL_nil, fx_move, fx_assign, fx_pick, fx_nilCheck, fx_load, fx_fieldAddr, fx_indexAddr, fx_binOp, fx_not, fx_convert, fx_slice, fx_extract, fx_lookup, fx_build, fx_len, fx_store, fx_alloc, fx_box, fx_makeMap, fx_makeSlice, fx_buildSlice, fx_mapUpdate, fx_append, fx_call, ev_tmp, ev_const, updo_some, updo_none, upd_apply, thenQ_normal, optK_some, optE_some, optE_none, ptrK_mk, intK_mk, boolK_mk, strK_mk, sliceK_mk, addrK_mk, tupK_mk, mapK_mk, sndK_mk, mkK_mk, cvK_int, ldN_zero, ldN_two, ldN_four, ldN_five, binK_add, binK_sub, binK_mul, binK_eql, binK_neq, binK_lss, binK_leq, binK_gtr, binK_geq, binK_seql, binK_sneq, binK_sadd, binK_beql, binK_bneq, binK_peql, binK_pneq, binK_leql, binK_lneq, lenK_slice, lenK_string, ex_slice, ex_pointer, inR_i64, inR_i32, gdK_bool, gdK_undef, Ty.all, Nat.reduceEqDiff, Nat.reduceAdd, Nat.reduceMul, if_false, if_true, ↓reduceIte, true_and, and_true, Int.toNat_natCast, Nat.add_zero, Nat.mul_one, Bool.false_eq_true, decide_eq_true_eq, decide_eq_false_iff_not, Option.isNone_some, Option.isNone_none, Option.isSome_some, Option.isSome_none, List.map_toArray, List.map_cons, List.map_nil, stK_eq, stR_int, stR_bool, stR_string, stR_pointer, stR_slice, exD_plain, exD_guard, exD_nil, stepD_true, stepD_false, needOp, pureOp, Bool.false_or, Bool.true_or, Bool.or_false, Bool.or_true, gval_succ, gval_zero, Bd.s22, Bd.s22b, Bd.s31, Bd.s30, Bd.s30b, Bd.s30e, Bd.s42, Bd.s66, Bd.s67, Bd.b49, Bd.b54, Bd.b79, Bd.b82, Bd.b77, Bd.b86, Bd.b74, decide_true, decide_false, reduceCtorEq, ne_eq, not_true_eq_false, not_false_eq_true, true_implies, false_implies, implies_true, cond_true, cond_false, Bool.not_true, Bool.not_false, stR_agg2, stR_agg4, stR_agg5, one_int, one_bool, one_string, one_pointer, one_slice, one_map, retK_mk, cells_agg, rowAt_alloc, setRow_alloc, ow_four, ow_five, List.getElem_toArray, List.getElem_cons_zero, List.getElem_cons_succ, List.size_toArray, List.length_cons, List.length_nil, Nat.reduceLeDiff, g7]
      · simp only [exL_plain, exL_guard, exL_nil, fx_move, fx_assign, fx_pick, fx_nilCheck, fx_load, fx_fieldAddr, fx_indexAddr, fx_binOp, fx_not, fx_convert, fx_slice, fx_extract, fx_lookup, fx_build, fx_len, fx_store, fx_alloc, fx_box, fx_makeMap, fx_makeSlice, fx_buildSlice, fx_mapUpdate, fx_append, fx_call, ev_tmp, ev_const, updo_some, updo_none, upd_apply, thenQ_normal, optK_some, optE_some, optE_none, ptrK_mk, intK_mk, boolK_mk, strK_mk, sliceK_mk, addrK_mk, tupK_mk, mapK_mk, sndK_mk, mkK_mk, cvK_int, ldN_zero, ldN_two, ldN_four, ldN_five, binK_add, binK_sub, binK_mul, binK_eql, binK_neq, binK_lss, binK_leq, binK_gtr, binK_geq, binK_seql, binK_sneq, binK_sadd, binK_beql, binK_bneq, binK_peql, binK_pneq, binK_leql, binK_lneq, lenK_slice, lenK_string, ex_slice, ex_pointer, inR_i64, inR_i32, gdK_bool, gdK_undef, Ty.all, Nat.reduceEqDiff, Nat.reduceAdd, Nat.reduceMul, if_false, if_true, ↓reduceIte, true_and, and_true, Int.toNat_natCast, Nat.add_zero, Nat.mul_one, Bool.false_eq_true, decide_eq_true_eq, decide_eq_false_iff_not, Option.isNone_some, Option.isNone_none, Option.isSome_some, Option.isSome_none, List.map_toArray, List.map_cons, List.map_nil, stK_eq, stR_int, stR_bool, stR_string, stR_pointer, stR_slice, exD_plain, exD_guard, exD_nil, stepD_true, stepD_false, needOp, pureOp, Bool.false_or, Bool.true_or, Bool.or_false, Bool.or_true, gval_succ, gval_zero, Bd.s22, Bd.s22b, Bd.s31, Bd.s30, Bd.s30b, Bd.s30e, Bd.s42, Bd.s66, Bd.s67, Bd.b49, Bd.b54, Bd.b79, Bd.b82, Bd.b77, Bd.b86, Bd.b74, decide_true, decide_false, reduceCtorEq, ne_eq, not_true_eq_false, not_false_eq_true, true_implies, false_implies, implies_true, cond_true, cond_false, Bool.not_true, Bool.not_false, stR_agg2, stR_agg4, stR_agg5, one_int, one_bool, one_string, one_pointer, one_slice, one_map, retK_mk, cells_agg, rowAt_alloc, setRow_alloc, ow_four, ow_five, List.getElem_toArray, List.getElem_cons_zero, List.getElem_cons_succ, List.size_toArray, List.length_cons, List.length_nil, Nat.reduceLeDiff, g8]
      · simp only [exL_plain, exL_guard, exL_nil, fx_move, fx_assign, fx_pick, fx_nilCheck, fx_load, fx_fieldAddr, fx_indexAddr, fx_binOp, fx_not, fx_convert, fx_slice, fx_extract, fx_lookup, fx_build, fx_len, fx_store, fx_alloc, fx_box, fx_makeMap, fx_makeSlice, fx_buildSlice, fx_mapUpdate, fx_append, fx_call, ev_tmp, ev_const, updo_some, updo_none, upd_apply, thenQ_normal, optK_some, optE_some, optE_none, ptrK_mk, intK_mk, boolK_mk, strK_mk, sliceK_mk, addrK_mk, tupK_mk, mapK_mk, sndK_mk, mkK_mk, cvK_int, ldN_zero, ldN_two, ldN_four, ldN_five, binK_add, binK_sub, binK_mul, binK_eql, binK_neq, binK_lss, binK_leq, binK_gtr, binK_geq, binK_seql, binK_sneq, binK_sadd, binK_beql, binK_bneq, binK_peql, binK_pneq, binK_leql, binK_lneq, lenK_slice, lenK_string, ex_slice, ex_pointer, inR_i64, inR_i32, gdK_bool, gdK_undef, Ty.all, Nat.reduceEqDiff, Nat.reduceAdd, Nat.reduceMul, if_false, if_true, ↓reduceIte, true_and, and_true, Int.toNat_natCast, Nat.add_zero, Nat.mul_one, Bool.false_eq_true, decide_eq_true_eq, decide_eq_false_iff_not, Option.isNone_some, Option.isNone_none, Option.isSome_some, Option.isSome_none, List.map_toArray, List.map_cons, List.map_nil, stK_eq, stR_int, stR_bool, stR_string, stR_pointer, stR_slice, exD_plain, exD_guard, exD_nil, stepD_true, stepD_false, needOp, pureOp, Bool.false_or, Bool.true_or, Bool.or_false, Bool.or_true, gval_succ, gval_zero, Bd.s22, Bd.s22b, Bd.s31, Bd.s30, Bd.s30b, Bd.s30e, Bd.s42, Bd.s66, Bd.s67, Bd.b49, Bd.b54, Bd.b79, Bd.b82, Bd.b77, Bd.b86, Bd.b74, decide_true, decide_false, reduceCtorEq, ne_eq, not_true_eq_false, not_false_eq_true, true_implies, false_implies, implies_true, cond_true, cond_false, Bool.not_true, Bool.not_false, stR_agg2, stR_agg4, stR_agg5, one_int, one_bool, one_string, one_pointer, one_slice, one_map, retK_mk, cells_agg, rowAt_alloc, setRow_alloc, ow_four, ow_five, List.getElem_toArray, List.getElem_cons_zero, List.getElem_cons_succ, List.size_toArray, List.length_cons, List.length_nil, Nat.reduceLeDiff, g9]
      · simp only [exL_plain, exL_guard, exL_nil, fx_move, fx_assign, fx_pick, fx_nilCheck, fx_load, fx_fieldAddr, fx_indexAddr, fx_binOp, fx_not, fx_convert, fx_slice, fx_extract, fx_lookup, fx_build, fx_len, fx_store, fx_alloc, fx_box, fx_makeMap, fx_makeSlice, fx_buildSlice, fx_mapUpdate, fx_append, fx_call, ev_tmp, ev_const, updo_some, updo_none, upd_apply, thenQ_normal, optK_some, optE_some, optE_none, ptrK_mk, intK_mk, boolK_mk, strK_mk, sliceK_mk, addrK_mk, tupK_mk, mapK_mk, sndK_mk, mkK_mk, cvK_int, ldN_zero, ldN_two, ldN_four, ldN_five, binK_add, binK_sub, binK_mul, binK_eql, binK_neq, binK_lss, binK_leq, binK_gtr, binK_geq, binK_seql, binK_sneq, binK_sadd, binK_beql, binK_bneq, binK_peql, binK_pneq, binK_leql, binK_lneq, lenK_slice, lenK_string, ex_slice, ex_pointer, inR_i64, inR_i32, gdK_bool, gdK_undef, Ty.all, Nat.reduceEqDiff, Nat.reduceAdd, Nat.reduceMul, if_false, if_true, ↓reduceIte, true_and, and_true, Int.toNat_natCast, Nat.add_zero, Nat.mul_one, Bool.false_eq_true, decide_eq_true_eq, decide_eq_false_iff_not, Option.isNone_some, Option.isNone_none, Option.isSome_some, Option.isSome_none, List.map_toArray, List.map_cons, List.map_nil, stK_eq, stR_int, stR_bool, stR_string, stR_pointer, stR_slice, exD_plain, exD_guard, exD_nil, stepD_true, stepD_false, needOp, pureOp, Bool.false_or, Bool.true_or, Bool.or_false, Bool.or_true, gval_succ, gval_zero, Bd.s22, Bd.s22b, Bd.s31, Bd.s30, Bd.s30b, Bd.s30e, Bd.s42, Bd.s66, Bd.s67, Bd.b49, Bd.b54, Bd.b79, Bd.b82, Bd.b77, Bd.b86, Bd.b74, decide_true, decide_false, reduceCtorEq, ne_eq, not_true_eq_false, not_false_eq_true, true_implies, false_implies, implies_true, cond_true, cond_false, Bool.not_true, Bool.not_false, stR_agg2, stR_agg4, stR_agg5, one_int, one_bool, one_string, one_pointer, one_slice, one_map, retK_mk, cells_agg, rowAt_alloc, setRow_alloc, ow_four, ow_five, List.getElem_toArray, List.getElem_cons_zero, List.getElem_cons_succ, List.size_toArray, List.length_cons, List.length_nil, Nat.reduceLeDiff, g10]
      · simp only [exL_plain, exL_guard, exL_nil, fx_move, fx_assign, fx_pick, fx_nilCheck, fx_load, fx_fieldAddr, fx_indexAddr, fx_binOp, fx_not, fx_convert, fx_slice, fx_extract, fx_lookup, fx_build, fx_len, fx_store, fx_alloc, fx_box, fx_makeMap, fx_makeSlice, fx_buildSlice, fx_mapUpdate, fx_append, fx_call, ev_tmp, ev_const, updo_some, updo_none, upd_apply, thenQ_normal, optK_some, optE_some, optE_none, ptrK_mk, intK_mk, boolK_mk, strK_mk, sliceK_mk, addrK_mk, tupK_mk, mapK_mk, sndK_mk, mkK_mk, cvK_int, ldN_zero, ldN_two, ldN_four, ldN_five, binK_add, binK_sub, binK_mul, binK_eql, binK_neq, binK_lss, binK_leq, binK_gtr, binK_geq, binK_seql, binK_sneq, binK_sadd, binK_beql, binK_bneq, binK_peql, binK_pneq, binK_leql, binK_lneq, lenK_slice, lenK_string, ex_slice, ex_pointer, inR_i64, inR_i32, gdK_bool, gdK_undef, Ty.all, Nat.reduceEqDiff, Nat.reduceAdd, Nat.reduceMul, if_false, if_true, ↓reduceIte, true_and, and_true, Int.toNat_natCast, Nat.add_zero, Nat.mul_one, Bool.false_eq_true, decide_eq_true_eq, decide_eq_false_iff_not, Option.isNone_some, Option.isNone_none, Option.isSome_some, Option.isSome_none, List.map_toArray, List.map_cons, List.map_nil, stK_eq, stR_int, stR_bool, stR_string, stR_pointer, stR_slice, exD_plain, exD_guard, exD_nil, stepD_true, stepD_false, needOp, pureOp, Bool.false_or, Bool.true_or, Bool.or_false, Bool.or_true, gval_succ, gval_zero, Bd.s22, Bd.s22b, Bd.s31, Bd.s30, Bd.s30b, Bd.s30e, Bd.s42, Bd.s66, Bd.s67, Bd.b49, Bd.b54, Bd.b79, Bd.b82, Bd.b77, Bd.b86, Bd.b74, decide_true, decide_false, reduceCtorEq, ne_eq, not_true_eq_false, not_false_eq_true, true_implies, false_implies, implies_true, cond_true, cond_false, Bool.not_true, Bool.not_false, stR_agg2, stR_agg4, stR_agg5, one_int, one_bool, one_string, one_pointer, one_slice, one_map, retK_mk, cells_agg, rowAt_alloc, setRow_alloc, ow_four, ow_five, List.getElem_toArray, List.getElem_cons_zero, List.getElem_cons_succ, List.size_toArray, List.length_cons, List.length_nil, Nat.reduceLeDiff, g11]
      · simp only [exL_plain, exL_guard, exL_nil, fx_move, fx_assign, fx_pick, fx_nilCheck, fx_load, fx_fieldAddr, fx_indexAddr, fx_binOp, fx_not, fx_convert, fx_slice, fx_extract, fx_lookup, fx_build, fx_len, fx_store, fx_alloc, fx_box, fx_makeMap, fx_makeSlice, fx_buildSlice, fx_mapUpdate, fx_append, fx_call, ev_tmp, ev_const, updo_some, updo_none, upd_apply, thenQ_normal, optK_some, optE_some, optE_none, ptrK_mk, intK_mk, boolK_mk, strK_mk, sliceK_mk, addrK_mk, tupK_mk, mapK_mk, sndK_mk, mkK_mk, cvK_int, ldN_zero, ldN_two, ldN_four, ldN_five, binK_add, binK_sub, binK_mul, binK_eql, binK_neq, binK_lss, binK_leq, binK_gtr, binK_geq, binK_seql, binK_sneq, binK_sadd, binK_beql, binK_bneq, binK_peql, binK_pneq, binK_leql, binK_lneq, lenK_slice, lenK_string, ex_slice, ex_pointer, inR_i64, inR_i32, gdK_bool, gdK_undef, Ty.all, Nat.reduceEqDiff, Nat.reduceAdd, Nat.reduceMul, if_false, if_true, ↓reduceIte, true_and, and_true, Int.toNat_natCast, Nat.add_zero, Nat.mul_one, Bool.false_eq_true, decide_eq_true_eq, decide_eq_false_iff_not, Option.isNone_some, Option.isNone_none, Option.isSome_some, Option.isSome_none, List.map_toArray, List.map_cons, List.map_nil, stK_eq, stR_int, stR_bool, stR_string, stR_pointer, stR_slice, exD_plain, exD_guard, exD_nil, stepD_true, stepD_false, needOp, pureOp, Bool.false_or, Bool.true_or, Bool.or_false, Bool.or_true, gval_succ, gval_zero, Bd.s22, Bd.s22b, Bd.s31, Bd.s30, Bd.s30b, Bd.s30e, Bd.s42, Bd.s66, Bd.s67, Bd.b49, Bd.b54, Bd.b79, Bd.b82, Bd.b77, Bd.b86, Bd.b74, decide_true, decide_false, reduceCtorEq, ne_eq, not_true_eq_false, not_false_eq_true, true_implies, false_implies, implies_true, cond_true, cond_false, Bool.not_true, Bool.not_false, stR_agg2, stR_agg4, stR_agg5, one_int, one_bool, one_string, one_pointer, one_slice, one_map, retK_mk, cells_agg, rowAt_alloc, setRow_alloc, ow_four, ow_five, List.getElem_toArray, List.getElem_cons_zero, List.getElem_cons_succ, List.size_toArray, List.length_cons, List.length_nil, Nat.reduceLeDiff, g12]
      · simp only [exL_plain, exL_guard, exL_nil, fx_move, fx_assign, fx_pick, fx_nilCheck, fx_load, fx_fieldAddr, fx_indexAddr, fx_binOp, fx_not, fx_convert, fx_slice, fx_extract, fx_lookup, fx_build, fx_len, fx_store, fx_alloc, fx_box, fx_makeMap, fx_makeSlice, fx_buildSlice, fx_mapUpdate, fx_append, fx_call, ev_tmp, ev_const, updo_some, updo_none, upd_apply, thenQ_normal, optK_some, optE_some, optE_none, ptrK_mk, intK_mk, boolK_mk, strK_mk, sliceK_mk, addrK_mk, tupK_mk, mapK_mk, sndK_mk, mkK_mk, cvK_int, ldN_zero, ldN_two, ldN_four, ldN_five, binK_add, binK_sub, binK_mul, binK_eql, binK_neq, binK_lss, binK_leq, binK_gtr, binK_geq, binK_seql, binK_sneq, binK_sadd, binK_beql, binK_bneq, binK_peql, binK_pneq, binK_leql, binK_lneq, lenK_slice, lenK_string, ex_slice, ex_pointer, inR_i64, inR_i32, gdK_bool, gdK_undef, Ty.all, Nat.reduceEqDiff, Nat.reduceAdd, Nat.reduceMul, if_false, if_true, ↓reduceIte, true_and, and_true, Int.toNat_natCast, Nat.add_zero, Nat.mul_one, Bool.false_eq_true, decide_eq_true_eq, decide_eq_false_iff_not, Option.isNone_some, Option.isNone_none, Option.isSome_some, Option.isSome_none, List.map_toArray, List.map_cons, List.map_nil, stK_eq, stR_int, stR_bool, stR_string, stR_pointer, stR_slice, exD_plain, exD_guard, exD_nil, stepD_true, stepD_false, needOp, pureOp, Bool.false_or, Bool.true_or, Bool.or_false, Bool.or_true, gval_succ, gval_zero, Bd.s22, Bd.s22b, Bd.s31, Bd.s30, Bd.s30b, Bd.s30e, Bd.s42, Bd.s66, Bd.s67, Bd.b49, Bd.b54, Bd.b79, Bd.b82, Bd.b77, Bd.b86, Bd.b74, decide_true, decide_false, reduceCtorEq, ne_eq, not_true_eq_false, not_false_eq_true, true_implies, false_implies, implies_true, cond_true, cond_false, Bool.not_true, Bool.not_false, stR_agg2, stR_agg4, stR_agg5, one_int, one_bool, one_string, one_pointer, one_slice, one_map, retK_mk, cells_agg, rowAt_alloc, setRow_alloc, ow_four, ow_five, List.getElem_toArray, List.getElem_cons_zero, List.getElem_cons_succ, List.size_toArray, List.length_cons, List.length_nil, Nat.reduceLeDiff, g14]
      · simp only [exL_plain, exL_guard, exL_nil, fx_move, fx_assign, fx_pick, fx_nilCheck, fx_load, fx_fieldAddr, fx_indexAddr, fx_binOp, fx_not, fx_convert, fx_slice, fx_extract, fx_lookup, fx_build, fx_len, fx_store, fx_alloc, fx_box, fx_makeMap, fx_makeSlice, fx_buildSlice, fx_mapUpdate, fx_append, fx_call, ev_tmp, ev_const, updo_some, updo_none, upd_apply, thenQ_normal, optK_some, optE_some, optE_none, ptrK_mk, intK_mk, boolK_mk, strK_mk, sliceK_mk, addrK_mk, tupK_mk, mapK_mk, sndK_mk, mkK_mk, cvK_int, ldN_zero, ldN_two, ldN_four, ldN_five, binK_add, binK_sub, binK_mul, binK_eql, binK_neq, binK_lss, binK_leq, binK_gtr, binK_geq, binK_seql, binK_sneq, binK_sadd, binK_beql, binK_bneq, binK_peql, binK_pneq, binK_leql, binK_lneq, lenK_slice, lenK_string, ex_slice, ex_pointer, inR_i64, inR_i32, gdK_bool, gdK_undef, Ty.all, Nat.reduceEqDiff, Nat.reduceAdd, Nat.reduceMul, if_false, if_true, ↓reduceIte, true_and, and_true, Int.toNat_natCast, Nat.add_zero, Nat.mul_one, Bool.false_eq_true, decide_eq_true_eq, decide_eq_false_iff_not, Option.isNone_some, Option.isNone_none, Option.isSome_some, Option.isSome_none, List.map_toArray, List.map_cons, List.map_nil, stK_eq, stR_int, stR_bool, stR_string, stR_pointer, stR_slice, exD_plain, exD_guard, exD_nil, stepD_true, stepD_false, needOp, pureOp, Bool.false_or, Bool.true_or, Bool.or_false, Bool.or_true, gval_succ, gval_zero, Bd.s22, Bd.s22b, Bd.s31, Bd.s30, Bd.s30b, Bd.s30e, Bd.s42, Bd.s66, Bd.s67, Bd.b49, Bd.b54, Bd.b79, Bd.b82, Bd.b77, Bd.b86, Bd.b74, decide_true, decide_false, reduceCtorEq, ne_eq, not_true_eq_false, not_false_eq_true, true_implies, false_implies, implies_true, cond_true, cond_false, Bool.not_true, Bool.not_false, stR_agg2, stR_agg4, stR_agg5, one_int, one_bool, one_string, one_pointer, one_slice, one_map, retK_mk, cells_agg, rowAt_alloc, setRow_alloc, ow_four, ow_five, List.getElem_toArray, List.getElem_cons_zero, List.getElem_cons_succ, List.size_toArray, List.length_cons, List.length_nil, Nat.reduceLeDiff, g15]
      · simp only [exL_plain, exL_guard, exL_nil, fx_move, fx_assign, fx_pick, fx_nilCheck, fx_load, fx_fieldAddr, fx_indexAddr, fx_binOp, fx_not, fx_convert, fx_slice, fx_extract, fx_lookup, fx_build, fx_len, fx_store, fx_alloc, fx_box, fx_makeMap, fx_makeSlice, fx_buildSlice, fx_mapUpdate, fx_append, fx_call, ev_tmp, ev_const, updo_some, updo_none, upd_apply, thenQ_normal, optK_some, optE_some, optE_none, ptrK_mk, intK_mk, boolK_mk, strK_mk, sliceK_mk, addrK_mk, tupK_mk, mapK_mk, sndK_mk, mkK_mk, cvK_int, ldN_zero, ldN_two, ldN_four, ldN_five, binK_add, binK_sub, binK_mul, binK_eql, binK_neq, binK_lss, binK_leq, binK_gtr, binK_geq, binK_seql, binK_sneq, binK_sadd, binK_beql, binK_bneq, binK_peql, binK_pneq, binK_leql, binK_lneq, lenK_slice, lenK_string, ex_slice, ex_pointer, inR_i64, inR_i32, gdK_bool, gdK_undef, Ty.all, Nat.reduceEqDiff, Nat.reduceAdd, Nat.reduceMul, if_false, if_true, ↓reduceIte, true_and, and_true, Int.toNat_natCast, Nat.add_zero, Nat.mul_one, Bool.false_eq_true, decide_eq_true_eq, decide_eq_false_iff_not, Option.isNone_some, Option.isNone_none, Option.isSome_some, Option.isSome_none, List.map_toArray, List.map_cons, List.map_nil, stK_eq, stR_int, stR_bool, stR_string, stR_pointer, stR_slice, exD_plain, exD_guard, exD_nil, stepD_true, stepD_false, needOp, pureOp, Bool.false_or, Bool.true_or, Bool.or_false, Bool.or_true, gval_succ, gval_zero, Bd.s22, Bd.s22b, Bd.s31, Bd.s30, Bd.s30b, Bd.s30e, Bd.s42, Bd.s66, Bd.s67, Bd.b49, Bd.b54, Bd.b79, Bd.b82, Bd.b77, Bd.b86, Bd.b74, decide_true, decide_false, reduceCtorEq, ne_eq, not_true_eq_false, not_false_eq_true, true_implies, false_implies, implies_true, cond_true, cond_false, Bool.not_true, Bool.not_false, stR_agg2, stR_agg4, stR_agg5, one_int, one_bool, one_string, one_pointer, one_slice, one_map, retK_mk, cells_agg, rowAt_alloc, setRow_alloc, ow_four, ow_five, List.getElem_toArray, List.getElem_cons_zero, List.getElem_cons_succ, List.size_toArray, List.length_cons, List.length_nil, Nat.reduceLeDiff, g16]
        rw [b2]
        simp
      · simp only [exL_plain, exL_guard, exL_nil, fx_move, fx_assign, fx_pick, fx_nilCheck, fx_load, fx_fieldAddr, fx_indexAddr, fx_binOp, fx_not, fx_convert, fx_slice, fx_extract, fx_lookup, fx_build, fx_len, fx_store, fx_alloc, fx_box, fx_makeMap, fx_makeSlice, fx_buildSlice, fx_mapUpdate, fx_append, fx_call, ev_tmp, ev_const, updo_some, updo_none, upd_apply, thenQ_normal, optK_some, optE_some, optE_none, ptrK_mk, intK_mk, boolK_mk, strK_mk, sliceK_mk, addrK_mk, tupK_mk, mapK_mk, sndK_mk, mkK_mk, cvK_int, ldN_zero, ldN_two, ldN_four, ldN_five, binK_add, binK_sub, binK_mul, binK_eql, binK_neq, binK_lss, binK_leq, binK_gtr, binK_geq, binK_seql, binK_sneq, binK_sadd, binK_beql, binK_bneq, binK_peql, binK_pneq, binK_leql, binK_lneq, lenK_slice, lenK_string, ex_slice, ex_pointer, inR_i64, inR_i32, gdK_bool, gdK_undef, Ty.all, Nat.reduceEqDiff, Nat.reduceAdd, Nat.reduceMul, if_false, if_true, ↓reduceIte, true_and, and_true, Int.toNat_natCast, Nat.add_zero, Nat.mul_one, Bool.false_eq_true, decide_eq_true_eq, decide_eq_false_iff_not, Option.isNone_some, Option.isNone_none, Option.isSome_some, Option.isSome_none, List.map_toArray, List.map_cons, List.map_nil, stK_eq, stR_int, stR_bool, stR_string, stR_pointer, stR_slice, exD_plain, exD_guard, exD_nil, stepD_true, stepD_false, needOp, pureOp, Bool.false_or, Bool.true_or, Bool.or_false, Bool.or_true, gval_succ, gval_zero, Bd.s22, Bd.s22b, Bd.s31, Bd.s30, Bd.s30b, Bd.s30e, Bd.s42, Bd.s66, Bd.s67, Bd.b49, Bd.b54, Bd.b79, Bd.b82, Bd.b77, Bd.b86, Bd.b74, decide_true, decide_false, reduceCtorEq, ne_eq, not_true_eq_false, not_false_eq_true, true_implies, false_implies, implies_true, cond_true, cond_false, Bool.not_true, Bool.not_false, stR_agg2, stR_agg4, stR_agg5, one_int, one_bool, one_string, one_pointer, one_slice, one_map, retK_mk, cells_agg, rowAt_alloc, setRow_alloc, ow_four, ow_five, List.getElem_toArray, List.getElem_cons_zero, List.getElem_cons_succ, List.size_toArray, List.length_cons, List.length_nil, Nat.reduceLeDiff]
        rfl
    · refine ⟨?_, ?_, ?_, ?_, ?_, ?_, hh, hb⟩
      · simp only [exL_plain, exL_guard, exL_nil, fx_move, fx_assign, fx_pick, fx_nilCheck, fx_load, fx_fieldAddr, fx_indexAddr, fx_binOp, fx_not, fx_convert, fx_slice, fx_extract, fx_lookup, fx_build, fx_len, fx_store, fx_alloc, fx_box, fx_makeMap, fx_makeSlice, fx_buildSlice, fx_mapUpdate, fx_append, fx_call, ev_tmp, ev_const, updo_some, updo_none, upd_apply, thenQ_normal, optK_some, optE_some, optE_none, ptrK_mk, intK_mk, boolK_mk, strK_mk, sliceK_mk, addrK_mk, tupK_mk, mapK_mk, sndK_mk, mkK_mk, cvK_int, ldN_zero, ldN_two, ldN_four, ldN_five, binK_add, binK_sub, binK_mul, binK_eql, binK_neq, binK_lss, binK_leq, binK_gtr, binK_geq, binK_seql, binK_sneq, binK_sadd, binK_beql, binK_bneq, binK_peql, binK_pneq, binK_leql, binK_lneq, lenK_slice, lenK_string, ex_slice, ex_pointer, inR_i64, inR_i32, gdK_bool, gdK_undef, Ty.all, Nat.reduceEqDiff, Nat.reduceAdd, Nat.reduceMul, if_false, if_true, ↓reduceIte, true_and, and_true, Int.toNat_natCast, Nat.add_zero, Nat.mul_one, Bool.false_eq_true, decide_eq_true_eq, decide_eq_false_iff_not, Option.isNone_some, Option.isNone_none, Option.isSome_some, Option.isSome_none, List.map_toArray, List.map_cons, List.map_nil, stK_eq, stR_int, stR_bool, stR_string, stR_pointer, stR_slice, exD_plain, exD_guard, exD_nil, stepD_true, stepD_false, needOp, pureOp, Bool.false_or, Bool.true_or, Bool.or_false, Bool.or_true, gval_succ, gval_zero, Bd.s22, Bd.s22b, Bd.s31, Bd.s30, Bd.s30b, Bd.s30e, Bd.s42, Bd.s66, Bd.s67, Bd.b49, Bd.b54, Bd.b79, Bd.b82, Bd.b77, Bd.b86, Bd.b74, decide_true, decide_false, reduceCtorEq, ne_eq, not_true_eq_false, not_false_eq_true, true_implies, false_implies, implies_true, cond_true, cond_false, Bool.not_true, Bool.not_false, stR_agg2, stR_agg4, stR_agg5, one_int, one_bool, one_string, one_pointer, one_slice, one_map, retK_mk, cells_agg, rowAt_alloc, setRow_alloc, ow_four, ow_five, List.getElem_toArray, List.getElem_cons_zero, List.getElem_cons_succ, List.size_toArray, List.length_cons, List.length_nil, Nat.reduceLeDiff, g0]
      · simp only [exL_plain, exL_guard, exL_nil, fx_move, fx_assign, fx_pick, fx_nilCheck, fx_load, fx_fieldAddr, fx_indexAddr, fx_binOp, fx_not, fx_convert, fx_slice, fx_extract, fx_lookup, fx_build, fx_len, fx_store, fx_alloc, fx_box, fx_makeMap, fx_makeSlice, fx_buildSlice, fx_mapUpdate, fx_append, fx_call, ev_tmp, ev_const, updo_some, updo_none, upd_apply, thenQ_normal, optK_some, optE_some, optE_none, ptrK_mk, intK_mk, boolK_mk, strK_mk, sliceK_mk, addrK_mk, tupK_mk, mapK_mk, sndK_mk, mkK_mk, cvK_int, ldN_zero, ldN_two, ldN_four, ldN_five, binK_add, binK_sub, binK_mul, binK_eql, binK_neq, binK_lss, binK_leq, binK_gtr, binK_geq, binK_seql, binK_sneq, binK_sadd, binK_beql, binK_bneq, binK_peql, binK_pneq, binK_leql, binK_lneq, lenK_slice, lenK_string, ex_slice, ex_pointer, inR_i64, inR_i32, gdK_bool, gdK_undef, Ty.all, Nat.reduceEqDiff, Nat.reduceAdd, Nat.reduceMul, if_false, if_true, ↓reduceIte, true_and, and_true, Int.toNat_natCast, Nat.add_zero, Nat.mul_one, Bool.false_eq_true, decide_eq_true_eq, decide_eq_false_iff_not, Option.isNone_some, Option.isNone_none, Option.isSome_some, Option.isSome_none, List.map_toArray, List.map_cons, List.map_nil, stK_eq, stR_int, stR_bool, stR_string, stR_pointer, stR_slice, exD_plain, exD_guard, exD_nil, stepD_true, stepD_false, needOp, pureOp, Bool.false_or, Bool.true_or, Bool.or_false, Bool.or_true, gval_succ, gval_zero, Bd.s22, Bd.s22b, Bd.s31, Bd.s30, Bd.s30b, Bd.s30e, Bd.s42, Bd.s66, Bd.s67, Bd.b49, Bd.b54, Bd.b79, Bd.b82, Bd.b77, Bd.b86, Bd.b74, decide_true, decide_false, reduceCtorEq, ne_eq, not_true_eq_false, not_false_eq_true, true_implies, false_implies, implies_true, cond_true, cond_false, Bool.not_true, Bool.not_false, stR_agg2, stR_agg4, stR_agg5, one_int, one_bool, one_string, one_pointer, one_slice, one_map, retK_mk, cells_agg, rowAt_alloc, setRow_alloc, ow_four, ow_five, List.getElem_toArray, List.getElem_cons_zero, List.getElem_cons_succ, List.size_toArray, List.length_cons, List.length_nil, Nat.reduceLeDiff, g4]
      · simp only [exL_plain, exL_guard, exL_nil, fx_move, fx_assign, fx_pick, fx_nilCheck, fx_load, fx_fieldAddr, fx_indexAddr, fx_binOp, fx_not, fx_convert, fx_slice, fx_extract, fx_lookup, fx_build, fx_len, fx_store, fx_alloc, fx_box, fx_makeMap, fx_makeSlice, fx_buildSlice, fx_mapUpdate, fx_append, fx_call, ev_tmp, ev_const, updo_some, updo_none, upd_apply, thenQ_normal, optK_some, optE_some, optE_none, ptrK_mk, intK_mk, boolK_mk, strK_mk, sliceK_mk, addrK_mk, tupK_mk, mapK_mk, sndK_mk, mkK_mk, cvK_int, ldN_zero, ldN_two, ldN_four, ldN_five, binK_add, binK_sub, binK_mul, binK_eql, binK_neq, binK_lss, binK_leq, binK_gtr, binK_geq, binK_seql, binK_sneq, binK_sadd, binK_beql, binK_bneq, binK_peql, binK_pneq, binK_leql, binK_lneq, lenK_slice, lenK_string, ex_slice, ex_pointer, inR_i64, inR_i32, gdK_bool, gdK_undef, Ty.all, Nat.reduceEqDiff, Nat.reduceAdd, Nat.reduceMul, if_false, if_true, ↓reduceIte, true_and, and_true, Int.toNat_natCast, Nat.add_zero, Nat.mul_one, Bool.false_eq_true, decide_eq_true_eq, decide_eq_false_iff_not, Option.isNone_some, Option.isNone_none, Option.isSome_some, Option.isSome_none, List.map_toArray, List.map_cons, List.map_nil, stK_eq, stR_int, stR_bool, stR_string, stR_pointer, stR_slice, exD_plain, exD_guard, exD_nil, stepD_true, stepD_false, needOp, pureOp, Bool.false_or, Bool.true_or, Bool.or_false, Bool.or_true, gval_succ, gval_zero, Bd.s22, Bd.s22b, Bd.s31, Bd.s30, Bd.s30b, Bd.s30e, Bd.s42, Bd.s66, Bd.s67, Bd.b49, Bd.b54, Bd.b79, Bd.b82, Bd.b77, Bd.b86, Bd.b74, decide_true, decide_false, reduceCtorEq, ne_eq, not_true_eq_false, not_false_eq_true, true_implies, false_implies, implies_true, cond_true, cond_false, Bool.not_true, Bool.not_false, stR_agg2, stR_agg4, stR_agg5, one_int, one_bool, one_string, one_pointer, one_slice, one_map, retK_mk, cells_agg, rowAt_alloc, setRow_alloc, ow_four, ow_five, List.getElem_toArray, List.getElem_cons_zero, List.getElem_cons_succ, List.size_toArray, List.length_cons, List.length_nil, Nat.reduceLeDiff, g6]
      · simp only [exL_plain, exL_guard, exL_nil, fx_move, fx_assign, fx_pick, fx_nilCheck, fx_load, fx_fieldAddr, fx_indexAddr, fx_binOp, fx_not, fx_convert, fx_slice, fx_extract, fx_lookup, fx_build, fx_len, fx_store, fx_alloc, fx_box, fx_makeMap, fx_makeSlice, fx_buildSlice, fx_mapUpdate, fx_append, fx_call, ev_tmp, ev_const, updo_some, updo_none, upd_apply, thenQ_normal, optK_some, optE_some, optE_none, ptrK_mk, intK_mk, boolK_mk, strK_mk, sliceK_mk, addrK_mk, tupK_mk, mapK_mk, sndK_mk, mkK_mk, cvK_int, ldN_zero, ldN_two, ldN_four, ldN_five, binK_add, binK_sub, binK_mul, binK_eql, binK_neq, binK_lss, binK_leq, binK_gtr, binK_geq, binK_seql, binK_sneq, binK_sadd, binK_beql, binK_bneq, binK_peql, binK_pneq, binK_leql, binK_lneq, lenK_slice, lenK_string, ex_slice, ex_pointer, inR_i64, inR_i32, gdK_bool, gdK_undef, Ty.all, Nat.reduceEqDiff, Nat.reduceAdd, Nat.reduceMul, if_false, if_true, ↓reduceIte, true_and, and_true, Int.toNat_natCast, Nat.add_zero, Nat.mul_one, Bool.false_eq_true, decide_eq_true_eq, decide_eq_false_iff_not, Option.isNone_some, Option.isNone_none, Option.isSome_some, Option.isSome_none, List.map_toArray, List.map_cons, List.map_nil, stK_eq, stR_int, stR_bool, stR_string, stR_pointer, stR_slice, exD_plain, exD_guard, exD_nil, stepD_true, stepD_false, needOp, pureOp, Bool.false_or, Bool.true_or, Bool.or_false, Bool.or_true, gval_succ, gval_zero, Bd.s22, Bd.s22b, Bd.s31, Bd.s30, Bd.s30b, Bd.s30e, Bd.s42, Bd.s66, Bd.s67, Bd.b49, Bd.b54, Bd.b79, Bd.b82, Bd.b77, Bd.b86, Bd.b74, decide_true, decide_false, reduceCtorEq, ne_eq, not_true_eq_false, not_false_eq_true, true_implies, false_implies, implies_true, cond_true, cond_false, Bool.not_true, Bool.not_false, stR_agg2, stR_agg4, stR_agg5, one_int, one_bool, one_string, one_pointer, one_slice, one_map, retK_mk, cells_agg, rowAt_alloc, setRow_alloc, ow_four, ow_five, List.getElem_toArray, List.getElem_cons_zero, List.getElem_cons_succ, List.size_toArray, List.length_cons, List.length_nil, Nat.reduceLeDiff, g10]
      · simp only [exL_plain, exL_guard, exL_nil, fx_move, fx_assign, fx_pick, fx_nilCheck, fx_load, fx_fieldAddr, fx_indexAddr, fx_binOp, fx_not, fx_convert, fx_slice, fx_extract, fx_lookup, fx_build, fx_len, fx_store, fx_alloc, fx_box, fx_makeMap, fx_makeSlice, fx_buildSlice, fx_mapUpdate, fx_append, fx_call, ev_tmp, ev_const, updo_some, updo_none, upd_apply, thenQ_normal, optK_some, optE_some, optE_none, ptrK_mk, intK_mk, boolK_mk, strK_mk, sliceK_mk, addrK_mk, tupK_mk, mapK_mk, sndK_mk, mkK_mk, cvK_int, ldN_zero, ldN_two, ldN_four, ldN_five, binK_add, binK_sub, binK_mul, binK_eql, binK_neq, binK_lss, binK_leq, binK_gtr, binK_geq, binK_seql, binK_sneq, binK_sadd, binK_beql, binK_bneq, binK_peql, binK_pneq, binK_leql, binK_lneq, lenK_slice, lenK_string, ex_slice, ex_pointer, inR_i64, inR_i32, gdK_bool, gdK_undef, Ty.all, Nat.reduceEqDiff, Nat.reduceAdd, Nat.reduceMul, if_false, if_true, ↓reduceIte, true_and, and_true, Int.toNat_natCast, Nat.add_zero, Nat.mul_one, Bool.false_eq_true, decide_eq_true_eq, decide_eq_false_iff_not, Option.isNone_some, Option.isNone_none, Option.isSome_some, Option.isSome_none, List.map_toArray, List.map_cons, List.map_nil, stK_eq, stR_int, stR_bool, stR_string, stR_pointer, stR_slice, exD_plain, exD_guard, exD_nil, stepD_true, stepD_false, needOp, pureOp, Bool.false_or, Bool.true_or, Bool.or_false, Bool.or_true, gval_succ, gval_zero, Bd.s22, Bd.s22b, Bd.s31, Bd.s30, Bd.s30b, Bd.s30e, Bd.s42, Bd.s66, Bd.s67, Bd.b49, Bd.b54, Bd.b79, Bd.b82, Bd.b77, Bd.b86, Bd.b74, decide_true, decide_false, reduceCtorEq, ne_eq, not_true_eq_false, not_false_eq_true, true_implies, false_implies, implies_true, cond_true, cond_false, Bool.not_true, Bool.not_false, stR_agg2, stR_agg4, stR_agg5, one_int, one_bool, one_string, one_pointer, one_slice, one_map, retK_mk, cells_agg, rowAt_alloc, setRow_alloc, ow_four, ow_five, List.getElem_toArray, List.getElem_cons_zero, List.getElem_cons_succ, List.size_toArray, List.length_cons, List.length_nil, Nat.reduceLeDiff, g11]
      · simp only [exL_plain, exL_guard, exL_nil, fx_move, fx_assign, fx_pick, fx_nilCheck, fx_load, fx_fieldAddr, fx_indexAddr, fx_binOp, fx_not, fx_convert, fx_slice, fx_extract, fx_lookup, fx_build, fx_len, fx_store, fx_alloc, fx_box, fx_makeMap, fx_makeSlice, fx_buildSlice, fx_mapUpdate, fx_append, fx_call, ev_tmp, ev_const, updo_some, updo_none, upd_apply, thenQ_normal, optK_some, optE_some, optE_none, ptrK_mk, intK_mk, boolK_mk, strK_mk, sliceK_mk, addrK_mk, tupK_mk, mapK_mk, sndK_mk, mkK_mk, cvK_int, ldN_zero, ldN_two, ldN_four, ldN_five, binK_add, binK_sub, binK_mul, binK_eql, binK_neq, binK_lss, binK_leq, binK_gtr, binK_geq, binK_seql, binK_sneq, binK_sadd, binK_beql, binK_bneq, binK_peql, binK_pneq, binK_leql, binK_lneq, lenK_slice, lenK_string, ex_slice, ex_pointer, inR_i64, inR_i32, gdK_bool, gdK_undef, Ty.all, Nat.reduceEqDiff, Nat.reduceAdd, Nat.reduceMul, if_false, if_true, ↓reduceIte, true_and, and_true, Int.toNat_natCast, Nat.add_zero, Nat.mul_one, Bool.false_eq_true, decide_eq_true_eq, decide_eq_false_iff_not, Option.isNone_some, Option.isNone_none, Option.isSome_some, Option.isSome_none, List.map_toArray, List.map_cons, List.map_nil, stK_eq, stR_int, stR_bool, stR_string, stR_pointer, stR_slice, exD_plain, exD_guard, exD_nil, stepD_true, stepD_false, needOp, pureOp, Bool.false_or, Bool.true_or, Bool.or_false, Bool.or_true, gval_succ, gval_zero, Bd.s22, Bd.s22b, Bd.s31, Bd.s30, Bd.s30b, Bd.s30e, Bd.s42, Bd.s66, Bd.s67, Bd.b49, Bd.b54, Bd.b79, Bd.b82, Bd.b77, Bd.b86, Bd.b74, decide_true, decide_false, reduceCtorEq, ne_eq, not_true_eq_false, not_false_eq_true, true_implies, false_implies, implies_true, cond_true, cond_false, Bool.not_true, Bool.not_false, stR_agg2, stR_agg4, stR_agg5, one_int, one_bool, one_string, one_pointer, one_slice, one_map, retK_mk, cells_agg, rowAt_alloc, setRow_alloc, ow_four, ow_five, List.getElem_toArray, List.getElem_cons_zero, List.getElem_cons_succ, List.size_toArray, List.length_cons, List.length_nil, Nat.reduceLeDiff, g12]
  · clear h0 m4 m6 m7 m8 m9 m10 m11 m12 m14 m15 m16 m17 hbz ht hs he hro hrl gt gs ge go gl prd hRs
    rintro ρ wr ⟨h0, m4, m6, m10, m11, m12, hh0, hbz⟩
    refine hK _ _ ?_
    clear hK K
    have hL' : ∀ p, p < E.length → ∃ b o, a6 = some ⟨b, o, none⟩ ∧ ∀ i, i < E.length → wz.cell? ⟨b, o + i, none⟩ = some (.int .i32 (L.getD i 0)) := fun p hp => hL (by omega)
    refine cwp_seq fun K hK => ?_
    refine cwp_sr rfl fun K hK => ?_
    simp only [exL_plain, exL_guard, exL_nil, fx_move, fx_assign, fx_pick, fx_nilCheck, fx_load, fx_fieldAddr, fx_indexAddr, fx_binOp, fx_not, fx_convert, fx_slice, fx_extract, fx_lookup, fx_build, fx_len, fx_store, fx_alloc, fx_box, fx_makeMap, fx_makeSlice, fx_buildSlice, fx_mapUpdate, fx_append, fx_call, ev_tmp, ev_const, updo_some, updo_none, upd_apply, thenQ_normal, optK_some, optE_some, optE_none, ptrK_mk, intK_mk, boolK_mk, strK_mk, sliceK_mk, addrK_mk, tupK_mk, mapK_mk, sndK_mk, mkK_mk, cvK_int, ldN_zero, ldN_two, ldN_four, ldN_five, binK_add, binK_sub, binK_mul, binK_eql, binK_neq, binK_lss, binK_leq, binK_gtr, binK_geq, binK_seql, binK_sneq, binK_sadd, binK_beql, binK_bneq, binK_peql, binK_pneq, binK_leql, binK_lneq, lenK_slice, lenK_string, ex_slice, ex_pointer, inR_i64, inR_i32, gdK_bool, gdK_undef, Ty.all, Nat.reduceEqDiff, Nat.reduceAdd, Nat.reduceMul, if_false, if_true, ↓reduceIte, true_and, and_true, Int.toNat_natCast, Nat.add_zero, Nat.mul_one, Bool.false_eq_true, decide_eq_true_eq, decide_eq_false_iff_not, Option.isNone_some, Option.isNone_none, Option.isSome_some, Option.isSome_none, List.map_toArray, List.map_cons, List.map_nil, stK_eq, stR_int, stR_bool, stR_string, stR_pointer, stR_slice, exD_plain, exD_guard, exD_nil, stepD_true, stepD_false, needOp, pureOp, Bool.false_or, Bool.true_or, Bool.or_false, Bool.or_true, gval_succ, gval_zero, Bd.s22, Bd.s22b, Bd.s31, Bd.s30, Bd.s30b, Bd.s30e, Bd.s42, Bd.s66, Bd.s67, Bd.b49, Bd.b54, Bd.b79, Bd.b82, Bd.b77, Bd.b86, Bd.b74, decide_true, decide_false, reduceCtorEq, ne_eq, not_true_eq_false, not_false_eq_true, true_implies, false_implies, implies_true, cond_true, cond_false, Bool.not_true, Bool.not_false, stR_agg2, stR_agg4, stR_agg5, one_int, one_bool, one_string, one_pointer, one_slice, one_map, retK_mk, cells_agg, rowAt_alloc, setRow_alloc, ow_four, ow_five, List.getElem_toArray, List.getElem_cons_zero, List.getElem_cons_succ, List.size_toArray, List.length_cons, List.length_nil, Nat.reduceLeDiff]
    repeat (refine ⟨by omega, ?_⟩)
    refine hK _ _ ?_
    clear hK K
    refine cwp_forget [0, 4, 6, 10, 11, 12, 18] fun ρ hL => ?_
    have h0X := hL 0 (by simp)
    have m4X := hL 4 (by simp)
    have m6X := hL 6 (by simp)
    have m10X := hL 10 (by simp)
    have m11X := hL 11 (by simp)
    have m12X := hL 12 (by simp)
    have m18X := hL 18 (by simp)
    clear hL
    simp only [upd_apply, Nat.reduceEqDiff, if_false, if_true, ↓reduceIte, h0, m4, m6, m10, m11, m12] at h0X m4X m6X m10X m11X m12X m18X
    have h0 := h0X
    clear h0X
    have m4 := m4X
    clear m4X
    have m6 := m6X
    clear m6X
    have m10 := m10X
    clear m10X
    have m11 := m11X
    clear m11X
    have m12 := m12X
    clear m12X
    have m18 := m18X
    clear m18X
    refine cwp_for (fun p ρ wr => p ≤ E.length ∧ ρ 0 = .slice ta T.length tcap ∧ ρ 4 = .slice a4 W.length c4 ∧ ρ 6 = .slice a6 E.length c6 ∧ ρ 10 = .pointer (some ⟨B10, 0, none⟩) ∧ ρ 11 = .slice a11 E.length c11 ∧ ρ 12 = .slice a12 E.length c12 ∧ ρ 18 = .int .i64 (p : Nat) ∧ wr.heap = wz.heap ∧ Below w'.heap.size w' wr)
      (fun p => E.length - p) (fun ρ wr => ρ 6 = .slice a6 E.length c6 ∧ ρ 11 = .slice a11 E.length c11 ∧ ρ 12 = .slice a12 E.length c12 ∧ wr.heap = wz.heap ∧ Below w'.heap.size w' wr) 0 ?_ ?_ ?_
    · exact ⟨Nat.zero_le _, h0, m4, m6, m10, m11, m12, m18, hh0, hbz⟩
    · clear h0 m4 m6 m10 m11 m12 m18 hbz hK hh0 hL'
      rintro p ρ wr ⟨hp, g0, g4, g6, g10, g11, g12, g18, hh, hb⟩ K1 hK1
      refine cwp_seq fun K hK => ?_
      refine cwp_sr rfl fun K hK => ?_
      simp only [exL_plain, exL_guard, exL_nil, fx_move, fx_assign, fx_pick, fx_nilCheck, fx_load, fx_fieldAddr, fx_indexAddr, fx_binOp, fx_not, fx_convert, fx_slice, fx_extract, fx_lookup, fx_build, fx_len, fx_store, fx_alloc, fx_box, fx_makeMap, fx_makeSlice, fx_buildSlice, fx_mapUpdate, fx_append, fx_call, ev_tmp, ev_const, updo_some, updo_none, upd_apply, thenQ_normal, optK_some, optE_some, optE_none, ptrK_mk, intK_mk, boolK_mk, strK_mk, sliceK_mk, addrK_mk, tupK_mk, mapK_mk, sndK_mk, mkK_mk, cvK_int, ldN_zero, ldN_two, ldN_four, ldN_five, binK_add, binK_sub, binK_mul, binK_eql, binK_neq, binK_lss, binK_leq, binK_gtr, binK_geq, binK_seql, binK_sneq, binK_sadd, binK_beql, binK_bneq, binK_peql, binK_pneq, binK_leql, binK_lneq, lenK_slice, lenK_string, ex_slice, ex_pointer, inR_i64, inR_i32, gdK_bool, gdK_undef, Ty.all, Nat.reduceEqDiff, Nat.reduceAdd, Nat.reduceMul, if_false, if_true, ↓reduceIte, true_and, and_true, Int.toNat_natCast, Nat.add_zero, Nat.mul_one, Bool.false_eq_true, decide_eq_true_eq, decide_eq_false_iff_not, Option.isNone_some, Option.isNone_none, Option.isSome_some, Option.isSome_none, List.map_toArray, List.map_cons, List.map_nil, stK_eq, stR_int, stR_bool, stR_string, stR_pointer, stR_slice, exD_plain, exD_guard, exD_nil, stepD_true, stepD_false, needOp, pureOp, Bool.false_or, Bool.true_or, Bool.or_false, Bool.or_true, gval_succ, gval_zero, Bd.s22, Bd.s22b, Bd.s31, Bd.s30, Bd.s30b, Bd.s30e, Bd.s42, Bd.s66, Bd.s67, Bd.b49, Bd.b54, Bd.b79, Bd.b82, Bd.b77, Bd.b86, Bd.b74, decide_true, decide_false, reduceCtorEq, ne_eq, not_true_eq_false, not_false_eq_true, true_implies, false_implies, implies_true, cond_true, cond_false, Bool.not_true, Bool.not_false, stR_agg2, stR_agg4, stR_agg5, one_int, one_bool, one_string, one_pointer, one_slice, one_map, retK_mk, cells_agg, rowAt_alloc, setRow_alloc, ow_four, ow_five, List.getElem_toArray, List.getElem_cons_zero, List.getElem_cons_succ, List.size_toArray, List.length_cons, List.length_nil, Nat.reduceLeDiff, g6, g18]
      repeat (refine ⟨by omega, ?_⟩)
      refine hK _ _ ?_
      clear hK K
      refine cwp_cond ?_
      simp only [exL_plain, exL_guard, exL_nil, fx_move, fx_assign, fx_pick, fx_nilCheck, fx_load, fx_fieldAddr, fx_indexAddr, fx_binOp, fx_not, fx_convert, fx_slice, fx_extract, fx_lookup, fx_build, fx_len, fx_store, fx_alloc, fx_box, fx_makeMap, fx_makeSlice, fx_buildSlice, fx_mapUpdate, fx_append, fx_call, ev_tmp, ev_const, updo_some, updo_none, upd_apply, thenQ_normal, optK_some, optE_some, optE_none, ptrK_mk, intK_mk, boolK_mk, strK_mk, sliceK_mk, addrK_mk, tupK_mk, mapK_mk, sndK_mk, mkK_mk, cvK_int, ldN_zero, ldN_two, ldN_four, ldN_five, binK_add, binK_sub, binK_mul, binK_eql, binK_neq, binK_lss, binK_leq, binK_gtr, binK_geq, binK_seql, binK_sneq, binK_sadd, binK_beql, binK_bneq, binK_peql, binK_pneq, binK_leql, binK_lneq, lenK_slice, lenK_string, ex_slice, ex_pointer, inR_i64, inR_i32, gdK_bool, gdK_undef, Ty.all, Nat.reduceEqDiff, Nat.reduceAdd, Nat.reduceMul, if_false, if_true, ↓reduceIte, true_and, and_true, Int.toNat_natCast, Nat.add_zero, Nat.mul_one, Bool.false_eq_true, decide_eq_true_eq, decide_eq_false_iff_not, Option.isNone_some, Option.isNone_none, Option.isSome_some, Option.isSome_none, List.map_toArray, List.map_cons, List.map_nil, stK_eq, stR_int, stR_bool, stR_string, stR_pointer, stR_slice, exD_plain, exD_guard, exD_nil, stepD_true, stepD_false, needOp, pureOp, Bool.false_or, Bool.true_or, Bool.or_false, Bool.or_true, gval_succ, gval_zero, Bd.s22, Bd.s22b, Bd.s31, Bd.s30, Bd.s30b, Bd.s30e, Bd.s42, Bd.s66, Bd.s67, Bd.b49, Bd.b54, Bd.b79, Bd.b82, Bd.b77, Bd.b86, Bd.b74, decide_true, decide_false, reduceCtorEq, ne_eq, not_true_eq_false, not_false_eq_true, true_implies, false_implies, implies_true, cond_true, cond_false, Bool.not_true, Bool.not_false, stR_agg2, stR_agg4, stR_agg5, one_int, one_bool, one_string, one_pointer, one_slice, one_map, retK_mk, cells_agg, rowAt_alloc, setRow_alloc, ow_four, ow_five, List.getElem_toArray, List.getElem_cons_zero, List.getElem_cons_succ, List.size_toArray, List.length_cons, List.length_nil, Nat.reduceLeDiff]
      refine ⟨fun hlt => cwp_skip (hK _ _ ?_), fun hge => cwp_exit (toJ ?_)⟩
      · clear hK K
        have hpE : p < E.length := by omega
        obtain ⟨e1, e2, e3⟩ := pnu p hpE
        obtain ⟨lb, lo, rfl, hLc⟩ := hL (by omega)
        obtain ⟨wb, wo, rfl, hWc⟩ := hW (by omega)
        obtain ⟨kb, ko, rfl, hkc⟩ := hk (by omega)
        obtain ⟨xb, xo, rfl, hxc⟩ := hx (by omega)
        have t1 := (cell_of_heap hh _).trans (hLc p hpE)
        have t2 := (cell_of_heap hh _).trans (hWc (L.getD p 0).toNat (by omega))
        have t3 := (cell_of_heap hh _).trans (hkc p hpE)
        have t4 := (cell_of_heap hh _).trans (hxc p hpE)
        rw [e3] at t2
        rw [gk p hpE] at t3
        rw [gx p hpE] at t4
        have w1 := wOf_lt T (E.getD p en0).2.1 (E.getD p en0).2.2
        have w2 := wOf_ge (fl T) (E.getD p en0).2.1 (E.getD p en0).2.2
        have e1' : ¬ L.getD p 0 < 0 := by omega
        have e2' : ¬ (W.length : Int) ≤ L.getD p 0 := by omega
        refine cwp_forget [0, 4, 6, 10, 11, 12, 18] fun ρ hL => ?_
        have g0X := hL 0 (by simp)
        have g4X := hL 4 (by simp)
        have g6X := hL 6 (by simp)
        have g10X := hL 10 (by simp)
        have g11X := hL 11 (by simp)
        have g12X := hL 12 (by simp)
        have g18X := hL 18 (by simp)
        clear hL
        simp only [upd_apply, Nat.reduceEqDiff, if_false, if_true, ↓reduceIte, g0, g4, g6, g10, g11, g12, g18] at g0X g4X g6X g10X g11X g12X g18X
        have g0 := g0X
        clear g0X
        have g4 := g4X
        clear g4X
        have g6 := g6X
        clear g6X
        have g10 := g10X
        clear g10X
        have g11 := g11X
        clear g11X
        have g12 := g12X
        clear g12X
        have g18 := g18X
        clear g18X
        refine cwp_seq fun K2 hK2 => ?_
        refine cwp_block ?_
        refine cwp_seq fun K3 hK3 => ?_
        refine cwp_sr rfl fun K9 hK9 => ?_
        refine exL_abs fun ops H => ?_
        have v5 : ∀ ρ, gval ops ρ 5 = ρ 136 := fun ρ => (H ρ 5).trans rfl
        clear H
        refine exL_cut 6 fun K hK => ?_
        simp only [List.take_succ_cons, List.take_zero, exL_plain, exL_nil, fx_move, fx_assign, fx_pick, fx_nilCheck, fx_load, fx_fieldAddr, fx_indexAddr, fx_binOp, fx_not, fx_convert, fx_slice, fx_extract, fx_lookup, fx_build, fx_len, fx_store, fx_alloc, fx_box, fx_makeMap, fx_makeSlice, fx_buildSlice, fx_mapUpdate, fx_append, fx_call, ev_tmp, ev_const, updo_some, updo_none, upd_apply, thenQ_normal, optK_some, optE_some, optE_none, ptrK_mk, intK_mk, boolK_mk, strK_mk, sliceK_mk, addrK_mk, tupK_mk, mapK_mk, sndK_mk, mkK_mk, cvK_int, ldN_zero, ldN_two, ldN_four, ldN_five, binK_add, binK_sub, binK_mul, binK_eql, binK_neq, binK_lss, binK_leq, binK_gtr, binK_geq, binK_seql, binK_sneq, binK_sadd, binK_beql, binK_bneq, binK_peql, binK_pneq, binK_leql, binK_lneq, lenK_slice, lenK_string, ex_slice, ex_pointer, inR_i64, inR_i32, gdK_bool, gdK_undef, Ty.all, Nat.reduceEqDiff, Nat.reduceAdd, Nat.reduceMul, if_false, if_true, ↓reduceIte, true_and, and_true, Int.toNat_natCast, Nat.add_zero, Nat.mul_one, Bool.false_eq_true, decide_eq_true_eq, decide_eq_false_iff_not, Option.isNone_some, Option.isNone_none, Option.isSome_some, Option.isSome_none, List.map_toArray, List.map_cons, List.map_nil, stK_eq, stR_int, stR_bool, stR_string, stR_pointer, stR_slice, exD_plain, exD_nil, stepD_true, stepD_false, needOp, pureOp, Bool.false_or, Bool.true_or, Bool.or_false, Bool.or_true, gval_succ, gval_zero, Bd.s22, Bd.s22b, Bd.s31, Bd.s30, Bd.s30b, Bd.s30e, Bd.s42, Bd.s66, Bd.s67, Bd.b49, Bd.b54, Bd.b79, Bd.b82, Bd.b77, Bd.b86, Bd.b74, decide_true, decide_false, reduceCtorEq, ne_eq, not_true_eq_false, not_false_eq_true, true_implies, false_implies, implies_true, cond_true, cond_false, Bool.not_true, Bool.not_false, stR_agg2, stR_agg4, stR_agg5, one_int, one_bool, one_string, one_pointer, one_slice, one_map, retK_mk, cells_agg, rowAt_alloc, setRow_alloc, ow_four, ow_five, List.getElem_toArray, List.getElem_cons_zero, List.getElem_cons_succ, List.size_toArray, List.length_cons, List.length_nil, Nat.reduceLeDiff, exD_gT, exD_gTs, exD_gTu, exD_gF, exD_gFs, exD_gFu, exL_gT, exL_gTs, exL_gTu, exL_gF, exL_gFs, exL_gFu, g6, g18, t1, e1']
        repeat (refine ⟨by omega, ?_⟩)
        refine hK _ _ ?_
        clear hK K
        simp only [List.drop_succ_cons, List.drop_zero]
        refine exL_forget [0, 4, 6, 10, 11, 12, 18, 136] fun ρ hL => ?_
        have g0X := hL 0 (by simp)
        have g4X := hL 4 (by simp)
        have g6X := hL 6 (by simp)
        have g10X := hL 10 (by simp)
        have g11X := hL 11 (by simp)
        have g12X := hL 12 (by simp)
        have g18X := hL 18 (by simp)
        have g136X := hL 136 (by simp)
        clear hL
        simp only [upd_apply, Nat.reduceEqDiff, if_false, if_true, ↓reduceIte, g0, g4, g6, g10, g11, g12, g18] at g0X g4X g6X g10X g11X g12X g18X g136X
        have g0 := g0X
        clear g0X
        have g4 := g4X
        clear g4X
        have g6 := g6X
        clear g6X
        have g10 := g10X
        clear g10X
        have g11 := g11X
        clear g11X
        have g12 := g12X
        clear g12X
        have g18 := g18X
        clear g18X
        have g136 := g136X
        clear g136X
        simp only [exL_plain, exL_nil, fx_move, fx_assign, fx_pick, fx_nilCheck, fx_load, fx_fieldAddr, fx_indexAddr, fx_binOp, fx_not, fx_convert, fx_slice, fx_extract, fx_lookup, fx_build, fx_len, fx_store, fx_alloc, fx_box, fx_makeMap, fx_makeSlice, fx_buildSlice, fx_mapUpdate, fx_append, fx_call, ev_tmp, ev_const, updo_some, updo_none, upd_apply, thenQ_normal, optK_some, optE_some, optE_none, ptrK_mk, intK_mk, boolK_mk, strK_mk, sliceK_mk, addrK_mk, tupK_mk, mapK_mk, sndK_mk, mkK_mk, cvK_int, ldN_zero, ldN_two, ldN_four, ldN_five, binK_add, binK_sub, binK_mul, binK_eql, binK_neq, binK_lss, binK_leq, binK_gtr, binK_geq, binK_seql, binK_sneq, binK_sadd, binK_beql, binK_bneq, binK_peql, binK_pneq, binK_leql, binK_lneq, lenK_slice, lenK_string, ex_slice, ex_pointer, inR_i64, inR_i32, gdK_bool, gdK_undef, Ty.all, Nat.reduceEqDiff, Nat.reduceAdd, Nat.reduceMul, if_false, if_true, ↓reduceIte, true_and, and_true, Int.toNat_natCast, Nat.add_zero, Nat.mul_one, Bool.false_eq_true, decide_eq_true_eq, decide_eq_false_iff_not, Option.isNone_some, Option.isNone_none, Option.isSome_some, Option.isSome_none, List.map_toArray, List.map_cons, List.map_nil, stK_eq, stR_int, stR_bool, stR_string, stR_pointer, stR_slice, exD_plain, exD_nil, stepD_true, stepD_false, needOp, pureOp, Bool.false_or, Bool.true_or, Bool.or_false, Bool.or_true, gval_succ, gval_zero, Bd.s22, Bd.s22b, Bd.s31, Bd.s30, Bd.s30b, Bd.s30e, Bd.s42, Bd.s66, Bd.s67, Bd.b49, Bd.b54, Bd.b79, Bd.b82, Bd.b77, Bd.b86, Bd.b74, decide_true, decide_false, reduceCtorEq, ne_eq, not_true_eq_false, not_false_eq_true, true_implies, false_implies, implies_true, cond_true, cond_false, Bool.not_true, Bool.not_false, stR_agg2, stR_agg4, stR_agg5, one_int, one_bool, one_string, one_pointer, one_slice, one_map, retK_mk, cells_agg, rowAt_alloc, setRow_alloc, ow_four, ow_five, List.getElem_toArray, List.getElem_cons_zero, List.getElem_cons_succ, List.size_toArray, List.length_cons, List.length_nil, Nat.reduceLeDiff, exD_gT, exD_gTs, exD_gTu, exD_gF, exD_gFs, exD_gFu, exL_gT, exL_gTs, exL_gTu, exL_gF, exL_gFs, exL_gFu, v5, g136, g6, g18, g4, t1, e2']
        repeat (refine ⟨by omega, ?_⟩)
        refine hK9 _ _ ?_
        clear hK9 v5
        refine cwp_cond ?_
        simp only [exL_plain, exL_guard, exL_nil, fx_move, fx_assign, fx_pick, fx_nilCheck, fx_load, fx_fieldAddr, fx_indexAddr, fx_binOp, fx_not, fx_convert, fx_slice, fx_extract, fx_lookup, fx_build, fx_len, fx_store, fx_alloc, fx_box, fx_makeMap, fx_makeSlice, fx_buildSlice, fx_mapUpdate, fx_append, fx_call, ev_tmp, ev_const, updo_some, updo_none, upd_apply, thenQ_normal, optK_some, optE_some, optE_none, ptrK_mk, intK_mk, boolK_mk, strK_mk, sliceK_mk, addrK_mk, tupK_mk, mapK_mk, sndK_mk, mkK_mk, cvK_int, ldN_zero, ldN_two, ldN_four, ldN_five, binK_add, binK_sub, binK_mul, binK_eql, binK_neq, binK_lss, binK_leq, binK_gtr, binK_geq, binK_seql, binK_sneq, binK_sadd, binK_beql, binK_bneq, binK_peql, binK_pneq, binK_leql, binK_lneq, lenK_slice, lenK_string, ex_slice, ex_pointer, inR_i64, inR_i32, gdK_bool, gdK_undef, Ty.all, Nat.reduceEqDiff, Nat.reduceAdd, Nat.reduceMul, if_false, if_true, ↓reduceIte, true_and, and_true, Int.toNat_natCast, Nat.add_zero, Nat.mul_one, Bool.false_eq_true, decide_eq_true_eq, decide_eq_false_iff_not, Option.isNone_some, Option.isNone_none, Option.isSome_some, Option.isSome_none, List.map_toArray, List.map_cons, List.map_nil, stK_eq, stR_int, stR_bool, stR_string, stR_pointer, stR_slice, exD_plain, exD_guard, exD_nil, stepD_true, stepD_false, needOp, pureOp, Bool.false_or, Bool.true_or, Bool.or_false, Bool.or_true, gval_succ, gval_zero, Bd.s22, Bd.s22b, Bd.s31, Bd.s30, Bd.s30b, Bd.s30e, Bd.s42, Bd.s66, Bd.s67, Bd.b49, Bd.b54, Bd.b79, Bd.b82, Bd.b77, Bd.b86, Bd.b74, decide_true, decide_false, reduceCtorEq, ne_eq, not_true_eq_false, not_false_eq_true, true_implies, false_implies, implies_true, cond_true, cond_false, Bool.not_true, Bool.not_false, stR_agg2, stR_agg4, stR_agg5, one_int, one_bool, one_string, one_pointer, one_slice, one_map, retK_mk, cells_agg, rowAt_alloc, setRow_alloc, ow_four, ow_five, List.getElem_toArray, List.getElem_cons_zero, List.getElem_cons_succ, List.size_toArray, List.length_cons, List.length_nil, Nat.reduceLeDiff]
        refine cwp_skip (hK3 _ _ ?_)
        clear hK3
        refine cwp_forget [0, 4, 6, 10, 11, 12, 18] fun ρ hL => ?_
        have g0X := hL 0 (by simp)
        have g4X := hL 4 (by simp)
        have g6X := hL 6 (by simp)
        have g10X := hL 10 (by simp)
        have g11X := hL 11 (by simp)
        have g12X := hL 12 (by simp)
        have g18X := hL 18 (by simp)
        clear hL
        simp only [upd_apply, Nat.reduceEqDiff, if_false, if_true, ↓reduceIte, g0, g4, g6, g10, g11, g12, g18] at g0X g4X g6X g10X g11X g12X g18X
        have g0 := g0X
        clear g0X
        have g4 := g4X
        clear g4X
        have g6 := g6X
        clear g6X
        have g10 := g10X
        clear g10X
        have g11 := g11X
        clear g11X
        have g12 := g12X
        clear g12X
        have g18 := g18X
        clear g18X
        refine cwp_sd Ty.mixed (by kernel_rfl) (fun _ _ _ h => h) fun K9 hK9 => ?_
        refine exD_cut 8 fun K hK => ?_
        simp only [List.take_succ_cons, List.take_zero, exL_plain, exL_guard, exL_nil, fx_move, fx_assign, fx_pick, fx_nilCheck, fx_load, fx_fieldAddr, fx_indexAddr, fx_binOp, fx_not, fx_convert, fx_slice, fx_extract, fx_lookup, fx_build, fx_len, fx_store, fx_alloc, fx_box, fx_makeMap, fx_makeSlice, fx_buildSlice, fx_mapUpdate, fx_append, fx_call, ev_tmp, ev_const, updo_some, updo_none, upd_apply, thenQ_normal, optK_some, optE_some, optE_none, ptrK_mk, intK_mk, boolK_mk, strK_mk, sliceK_mk, addrK_mk, tupK_mk, mapK_mk, sndK_mk, mkK_mk, cvK_int, ldN_zero, ldN_two, ldN_four, ldN_five, binK_add, binK_sub, binK_mul, binK_eql, binK_neq, binK_lss, binK_leq, binK_gtr, binK_geq, binK_seql, binK_sneq, binK_sadd, binK_beql, binK_bneq, binK_peql, binK_pneq, binK_leql, binK_lneq, lenK_slice, lenK_string, ex_slice, ex_pointer, inR_i64, inR_i32, gdK_bool, gdK_undef, Ty.all, Nat.reduceEqDiff, Nat.reduceAdd, Nat.reduceMul, if_false, if_true, ↓reduceIte, true_and, and_true, Int.toNat_natCast, Nat.add_zero, Nat.mul_one, Bool.false_eq_true, decide_eq_true_eq, decide_eq_false_iff_not, Option.isNone_some, Option.isNone_none, Option.isSome_some, Option.isSome_none, List.map_toArray, List.map_cons, List.map_nil, stK_eq, stR_int, stR_bool, stR_string, stR_pointer, stR_slice, exD_plain, exD_guard, exD_nil, stepD_true, stepD_false, needOp, pureOp, Bool.false_or, Bool.true_or, Bool.or_false, Bool.or_true, gval_succ, gval_zero, Bd.s22, Bd.s22b, Bd.s31, Bd.s30, Bd.s30b, Bd.s30e, Bd.s42, Bd.s66, Bd.s67, Bd.b49, Bd.b54, Bd.b79, Bd.b82, Bd.b77, Bd.b86, Bd.b74, decide_true, decide_false, reduceCtorEq, ne_eq, not_true_eq_false, not_false_eq_true, true_implies, false_implies, implies_true, cond_true, cond_false, Bool.not_true, Bool.not_false, stR_agg2, stR_agg4, stR_agg5, one_int, one_bool, one_string, one_pointer, one_slice, one_map, retK_mk, cells_agg, rowAt_alloc, setRow_alloc, ow_four, ow_five, List.getElem_toArray, List.getElem_cons_zero, List.getElem_cons_succ, List.size_toArray, List.length_cons, List.length_nil, Nat.reduceLeDiff, g4, g6, g18, t1, t2]
        repeat (refine ⟨by omega, ?_⟩)
        refine hK _ _ ?_
        clear hK K
        simp only [List.drop_succ_cons, List.drop_zero]
        refine exD_forget [0, 4, 6, 10, 11, 12, 18, 153] fun ρ hL => ?_
        have g0X := hL 0 (by simp)
        have g4X := hL 4 (by simp)
        have g6X := hL 6 (by simp)
        have g10X := hL 10 (by simp)
        have g11X := hL 11 (by simp)
        have g12X := hL 12 (by simp)
        have g18X := hL 18 (by simp)
        have g153X := hL 153 (by simp)
        clear hL
        simp only [upd_apply, Nat.reduceEqDiff, if_false, if_true, ↓reduceIte, g0, g4, g6, g10, g11, g12, g18] at g0X g4X g6X g10X g11X g12X g18X g153X
        have g0 := g0X
        clear g0X
        have g4 := g4X
        clear g4X
        have g6 := g6X
        clear g6X
        have g10 := g10X
        clear g10X
        have g11 := g11X
        clear g11X
        have g12 := g12X
        clear g12X
        have g18 := g18X
        clear g18X
        have g153 := g153X
        clear g153X
        refine exD_cut 9 fun K hK => ?_
        simp only [List.take_succ_cons, List.take_zero, exL_plain, exL_guard, exL_nil, fx_move, fx_assign, fx_pick, fx_nilCheck, fx_load, fx_fieldAddr, fx_indexAddr, fx_binOp, fx_not, fx_convert, fx_slice, fx_extract, fx_lookup, fx_build, fx_len, fx_store, fx_alloc, fx_box, fx_makeMap, fx_makeSlice, fx_buildSlice, fx_mapUpdate, fx_append, fx_call, ev_tmp, ev_const, updo_some, updo_none, upd_apply, thenQ_normal, optK_some, optE_some, optE_none, ptrK_mk, intK_mk, boolK_mk, strK_mk, sliceK_mk, addrK_mk, tupK_mk, mapK_mk, sndK_mk, mkK_mk, cvK_int, ldN_zero, ldN_two, ldN_four, ldN_five, binK_add, binK_sub, binK_mul, binK_eql, binK_neq, binK_lss, binK_leq, binK_gtr, binK_geq, binK_seql, binK_sneq, binK_sadd, binK_beql, binK_bneq, binK_peql, binK_pneq, binK_leql, binK_lneq, lenK_slice, lenK_string, ex_slice, ex_pointer, inR_i64, inR_i32, gdK_bool, gdK_undef, Ty.all, Nat.reduceEqDiff, Nat.reduceAdd, Nat.reduceMul, if_false, if_true, ↓reduceIte, true_and, and_true, Int.toNat_natCast, Nat.add_zero, Nat.mul_one, Bool.false_eq_true, decide_eq_true_eq, decide_eq_false_iff_not, Option.isNone_some, Option.isNone_none, Option.isSome_some, Option.isSome_none, List.map_toArray, List.map_cons, List.map_nil, stK_eq, stR_int, stR_bool, stR_string, stR_pointer, stR_slice, exD_plain, exD_guard, exD_nil, stepD_true, stepD_false, needOp, pureOp, Bool.false_or, Bool.true_or, Bool.or_false, Bool.or_true, gval_succ, gval_zero, Bd.s22, Bd.s22b, Bd.s31, Bd.s30, Bd.s30b, Bd.s30e, Bd.s42, Bd.s66, Bd.s67, Bd.b49, Bd.b54, Bd.b79, Bd.b82, Bd.b77, Bd.b86, Bd.b74, decide_true, decide_false, reduceCtorEq, ne_eq, not_true_eq_false, not_false_eq_true, true_implies, false_implies, implies_true, cond_true, cond_false, Bool.not_true, Bool.not_false, stR_agg2, stR_agg4, stR_agg5, one_int, one_bool, one_string, one_pointer, one_slice, one_map, retK_mk, cells_agg, rowAt_alloc, setRow_alloc, ow_four, ow_five, List.getElem_toArray, List.getElem_cons_zero, List.getElem_cons_succ, List.size_toArray, List.length_cons, List.length_nil, Nat.reduceLeDiff, g0, g11, g12, g18, t3, t4]
        repeat (refine ⟨by omega, ?_⟩)
        refine hK _ _ ?_
        clear hK K
        simp only [List.drop_succ_cons, List.drop_zero]
        refine exD_forget [0, 4, 6, 10, 11, 12, 18, 153, 154, 158, 162] fun ρ hL => ?_
        have g0X := hL 0 (by simp)
        have g4X := hL 4 (by simp)
        have g6X := hL 6 (by simp)
        have g10X := hL 10 (by simp)
        have g11X := hL 11 (by simp)
        have g12X := hL 12 (by simp)
        have g18X := hL 18 (by simp)
        have g153X := hL 153 (by simp)
        have g154X := hL 154 (by simp)
        have g158X := hL 158 (by simp)
        have g162X := hL 162 (by simp)
        clear hL
        simp only [upd_apply, Nat.reduceEqDiff, if_false, if_true, ↓reduceIte, g0, g4, g6, g10, g11, g12, g18, g153] at g0X g4X g6X g10X g11X g12X g18X g153X g154X g158X g162X
        have g0 := g0X
        clear g0X
        have g4 := g4X
        clear g4X
        have g6 := g6X
        clear g6X
        have g10 := g10X
        clear g10X
        have g11 := g11X
        clear g11X
        have g12 := g12X
        clear g12X
        have g18 := g18X
        clear g18X
        have g153 := g153X
        clear g153X
        have g154 := g154X
        clear g154X
        have g158 := g158X
        clear g158X
        have g162 := g162X
        clear g162X
        simp only [exL_plain, exL_guard, exL_nil, fx_move, fx_assign, fx_pick, fx_nilCheck, fx_load, fx_fieldAddr, fx_indexAddr, fx_binOp, fx_not, fx_convert, fx_slice, fx_extract, fx_lookup, fx_build, fx_len, fx_store, fx_alloc, fx_box, fx_makeMap, fx_makeSlice, fx_buildSlice, fx_mapUpdate, fx_append, fx_call, ev_tmp, ev_const, updo_some, updo_none, upd_apply, thenQ_normal, optK_some, optE_some, optE_none, ptrK_mk, intK_mk, boolK_mk, strK_mk, sliceK_mk, addrK_mk, tupK_mk, mapK_mk, sndK_mk, mkK_mk, cvK_int, ldN_zero, ldN_two, ldN_four, ldN_five, binK_add, binK_sub, binK_mul, binK_eql, binK_neq, binK_lss, binK_leq, binK_gtr, binK_geq, binK_seql, binK_sneq, binK_sadd, binK_beql, binK_bneq, binK_peql, binK_pneq, binK_leql, binK_lneq, lenK_slice, lenK_string, ex_slice, ex_pointer, inR_i64, inR_i32, gdK_bool, gdK_undef, Ty.all, Nat.reduceEqDiff, Nat.reduceAdd, Nat.reduceMul, if_false, if_true, ↓reduceIte, true_and, and_true, Int.toNat_natCast, Nat.add_zero, Nat.mul_one, Bool.false_eq_true, decide_eq_true_eq, decide_eq_false_iff_not, Option.isNone_some, Option.isNone_none, Option.isSome_some, Option.isSome_none, List.map_toArray, List.map_cons, List.map_nil, stK_eq, stR_int, stR_bool, stR_string, stR_pointer, stR_slice, exD_plain, exD_guard, exD_nil, stepD_true, stepD_false, needOp, pureOp, Bool.false_or, Bool.true_or, Bool.or_false, Bool.or_true, gval_succ, gval_zero, Bd.s22, Bd.s22b, Bd.s31, Bd.s30, Bd.s30b, Bd.s30e, Bd.s42, Bd.s66, Bd.s67, Bd.b49, Bd.b54, Bd.b79, Bd.b82, Bd.b77, Bd.b86, Bd.b74, decide_true, decide_false, reduceCtorEq, ne_eq, not_true_eq_false, not_false_eq_true, true_implies, false_implies, implies_true, cond_true, cond_false, Bool.not_true, Bool.not_false, stR_agg2, stR_agg4, stR_agg5, one_int, one_bool, one_string, one_pointer, one_slice, one_map, retK_mk, cells_agg, rowAt_alloc, setRow_alloc, ow_four, ow_five, List.getElem_toArray, List.getElem_cons_zero, List.getElem_cons_succ, List.size_toArray, List.length_cons, List.length_nil, Nat.reduceLeDiff, g154, g10, g158, g162]
        refine (writerOf_calls (TxsAt.heap hT (show wr.drew.heap = wz.heap from hh)) (hV.heap (show wr.drew.heap = wz.heap from hh)) hft).mono ?_
        rintro e w9 ⟨rfl, hh9, hb9⟩
        simp only [exL_plain, exL_guard, exL_nil, fx_move, fx_assign, fx_pick, fx_nilCheck, fx_load, fx_fieldAddr, fx_indexAddr, fx_binOp, fx_not, fx_convert, fx_slice, fx_extract, fx_lookup, fx_build, fx_len, fx_store, fx_alloc, fx_box, fx_makeMap, fx_makeSlice, fx_buildSlice, fx_mapUpdate, fx_append, fx_call, ev_tmp, ev_const, updo_some, updo_none, upd_apply, thenQ_normal, optK_some, optE_some, optE_none, ptrK_mk, intK_mk, boolK_mk, strK_mk, sliceK_mk, addrK_mk, tupK_mk, mapK_mk, sndK_mk, mkK_mk, cvK_int, ldN_zero, ldN_two, ldN_four, ldN_five, binK_add, binK_sub, binK_mul, binK_eql, binK_neq, binK_lss, binK_leq, binK_gtr, binK_geq, binK_seql, binK_sneq, binK_sadd, binK_beql, binK_bneq, binK_peql, binK_pneq, binK_leql, binK_lneq, lenK_slice, lenK_string, ex_slice, ex_pointer, inR_i64, inR_i32, gdK_bool, gdK_undef, Ty.all, Nat.reduceEqDiff, Nat.reduceAdd, Nat.reduceMul, if_false, if_true, ↓reduceIte, true_and, and_true, Int.toNat_natCast, Nat.add_zero, Nat.mul_one, Bool.false_eq_true, decide_eq_true_eq, decide_eq_false_iff_not, Option.isNone_some, Option.isNone_none, Option.isSome_some, Option.isSome_none, List.map_toArray, List.map_cons, List.map_nil, stK_eq, stR_int, stR_bool, stR_string, stR_pointer, stR_slice, exD_plain, exD_guard, exD_nil, stepD_true, stepD_false, needOp, pureOp, Bool.false_or, Bool.true_or, Bool.or_false, Bool.or_true, gval_succ, gval_zero, Bd.s22, Bd.s22b, Bd.s31, Bd.s30, Bd.s30b, Bd.s30e, Bd.s42, Bd.s66, Bd.s67, Bd.b49, Bd.b54, Bd.b79, Bd.b82, Bd.b77, Bd.b86, Bd.b74, decide_true, decide_false, reduceCtorEq, ne_eq, not_true_eq_false, not_false_eq_true, true_implies, false_implies, implies_true, cond_true, cond_false, Bool.not_true, Bool.not_false, stR_agg2, stR_agg4, stR_agg5, one_int, one_bool, one_string, one_pointer, one_slice, one_map, retK_mk, cells_agg, rowAt_alloc, setRow_alloc, ow_four, ow_five, List.getElem_toArray, List.getElem_cons_zero, List.getElem_cons_succ, List.size_toArray, List.length_cons, List.length_nil, Nat.reduceLeDiff, g153]
        refine ⟨fun k hk => by rw [hh9]; rfl, ?_⟩
        refine hK9 _ _ ?_
        clear hK9
        refine cwp_cond ?_
        simp only [exL_plain, exL_guard, exL_nil, fx_move, fx_assign, fx_pick, fx_nilCheck, fx_load, fx_fieldAddr, fx_indexAddr, fx_binOp, fx_not, fx_convert, fx_slice, fx_extract, fx_lookup, fx_build, fx_len, fx_store, fx_alloc, fx_box, fx_makeMap, fx_makeSlice, fx_buildSlice, fx_mapUpdate, fx_append, fx_call, ev_tmp, ev_const, updo_some, updo_none, upd_apply, thenQ_normal, optK_some, optE_some, optE_none, ptrK_mk, intK_mk, boolK_mk, strK_mk, sliceK_mk, addrK_mk, tupK_mk, mapK_mk, sndK_mk, mkK_mk, cvK_int, ldN_zero, ldN_two, ldN_four, ldN_five, binK_add, binK_sub, binK_mul, binK_eql, binK_neq, binK_lss, binK_leq, binK_gtr, binK_geq, binK_seql, binK_sneq, binK_sadd, binK_beql, binK_bneq, binK_peql, binK_pneq, binK_leql, binK_lneq, lenK_slice, lenK_string, ex_slice, ex_pointer, inR_i64, inR_i32, gdK_bool, gdK_undef, Ty.all, Nat.reduceEqDiff, Nat.reduceAdd, Nat.reduceMul, if_false, if_true, ↓reduceIte, true_and, and_true, Int.toNat_natCast, Nat.add_zero, Nat.mul_one, Bool.false_eq_true, decide_eq_true_eq, decide_eq_false_iff_not, Option.isNone_some, Option.isNone_none, Option.isSome_some, Option.isSome_none, List.map_toArray, List.map_cons, List.map_nil, stK_eq, stR_int, stR_bool, stR_string, stR_pointer, stR_slice, exD_plain, exD_guard, exD_nil, stepD_true, stepD_false, needOp, pureOp, Bool.false_or, Bool.true_or, Bool.or_false, Bool.or_true, gval_succ, gval_zero, Bd.s22, Bd.s22b, Bd.s31, Bd.s30, Bd.s30b, Bd.s30e, Bd.s42, Bd.s66, Bd.s67, Bd.b49, Bd.b54, Bd.b79, Bd.b82, Bd.b77, Bd.b86, Bd.b74, decide_true, decide_false, reduceCtorEq, ne_eq, not_true_eq_false, not_false_eq_true, true_implies, false_implies, implies_true, cond_true, cond_false, Bool.not_true, Bool.not_false, stR_agg2, stR_agg4, stR_agg5, one_int, one_bool, one_string, one_pointer, one_slice, one_map, retK_mk, cells_agg, rowAt_alloc, setRow_alloc, ow_four, ow_five, List.getElem_toArray, List.getElem_cons_zero, List.getElem_cons_succ, List.size_toArray, List.length_cons, List.length_nil, Nat.reduceLeDiff]
        refine cwp_skip ?_
        simp only [blkQ_normal, thenQ_normal]
        refine hK2 _ _ ?_
        have hh : w9.heap = wz.heap := hh9.trans hh
        have hb := hb.drew.trans (hb9.mono hb.size)
        refine cwp_forget [0, 4, 6, 10, 11, 12, 18] fun ρ hL => ?_
        have g0X := hL 0 (by simp)
        have g4X := hL 4 (by simp)
        have g6X := hL 6 (by simp)
        have g10X := hL 10 (by simp)
        have g11X := hL 11 (by simp)
        have g12X := hL 12 (by simp)
        have g18X := hL 18 (by simp)
        clear hL
        simp only [upd_apply, Nat.reduceEqDiff, if_false, if_true, ↓reduceIte, g0, g4, g6, g10, g11, g12, g18] at g0X g4X g6X g10X g11X g12X g18X
        have g0 := g0X
        clear g0X
        have g4 := g4X
        clear g4X
        have g6 := g6X
        clear g6X
        have g10 := g10X
        clear g10X
        have g11 := g11X
        clear g11X
        have g12 := g12X
        clear g12X
        have g18 := g18X
        clear g18X
        refine cwp_region rfl ?_
        simp only [exL_plain, exL_guard, exL_nil, fx_move, fx_assign, fx_pick, fx_nilCheck, fx_load, fx_fieldAddr, fx_indexAddr, fx_binOp, fx_not, fx_convert, fx_slice, fx_extract, fx_lookup, fx_build, fx_len, fx_store, fx_alloc, fx_box, fx_makeMap, fx_makeSlice, fx_buildSlice, fx_mapUpdate, fx_append, fx_call, ev_tmp, ev_const, updo_some, updo_none, upd_apply, thenQ_normal, optK_some, optE_some, optE_none, ptrK_mk, intK_mk, boolK_mk, strK_mk, sliceK_mk, addrK_mk, tupK_mk, mapK_mk, sndK_mk, mkK_mk, cvK_int, ldN_zero, ldN_two, ldN_four, ldN_five, binK_add, binK_sub, binK_mul, binK_eql, binK_neq, binK_lss, binK_leq, binK_gtr, binK_geq, binK_seql, binK_sneq, binK_sadd, binK_beql, binK_bneq, binK_peql, binK_pneq, binK_leql, binK_lneq, lenK_slice, lenK_string, ex_slice, ex_pointer, inR_i64, inR_i32, gdK_bool, gdK_undef, Ty.all, Nat.reduceEqDiff, Nat.reduceAdd, Nat.reduceMul, if_false, if_true, ↓reduceIte, true_and, and_true, Int.toNat_natCast, Nat.add_zero, Nat.mul_one, Bool.false_eq_true, decide_eq_true_eq, decide_eq_false_iff_not, Option.isNone_some, Option.isNone_none, Option.isSome_some, Option.isSome_none, List.map_toArray, List.map_cons, List.map_nil, stK_eq, stR_int, stR_bool, stR_string, stR_pointer, stR_slice, exD_plain, exD_guard, exD_nil, stepD_true, stepD_false, needOp, pureOp, Bool.false_or, Bool.true_or, Bool.or_false, Bool.or_true, gval_succ, gval_zero, Bd.s22, Bd.s22b, Bd.s31, Bd.s30, Bd.s30b, Bd.s30e, Bd.s42, Bd.s66, Bd.s67, Bd.b49, Bd.b54, Bd.b79, Bd.b82, Bd.b77, Bd.b86, Bd.b74, decide_true, decide_false, reduceCtorEq, ne_eq, not_true_eq_false, not_false_eq_true, true_implies, false_implies, implies_true, cond_true, cond_false, Bool.not_true, Bool.not_false, stR_agg2, stR_agg4, stR_agg5, one_int, one_bool, one_string, one_pointer, one_slice, one_map, retK_mk, cells_agg, rowAt_alloc, setRow_alloc, ow_four, ow_five, List.getElem_toArray, List.getElem_cons_zero, List.getElem_cons_succ, List.size_toArray, List.length_cons, List.length_nil, Nat.reduceLeDiff, g18]
        repeat (refine ⟨by omega, ?_⟩)
        refine hK1 _ _ (p + 1) ⟨hpE, ?_, ?_, ?_, ?_, ?_, ?_, ?_, hh, hb⟩ (by omega)
        · simp only [exL_plain, exL_guard, exL_nil, fx_move, fx_assign, fx_pick, fx_nilCheck, fx_load, fx_fieldAddr, fx_indexAddr, fx_binOp, fx_not, fx_convert, fx_slice, fx_extract, fx_lookup, fx_build, fx_len, fx_store, fx_alloc, fx_box, fx_makeMap, fx_makeSlice, fx_buildSlice, fx_mapUpdate, fx_append, fx_call, ev_tmp, ev_const, updo_some, updo_none, upd_apply, thenQ_normal, optK_some, optE_some, optE_none, ptrK_mk, intK_mk, boolK_mk, strK_mk, sliceK_mk, addrK_mk, tupK_mk, mapK_mk, sndK_mk, mkK_mk, cvK_int, ldN_zero, ldN_two, ldN_four, ldN_five, binK_add, binK_sub, binK_mul, binK_eql, binK_neq, binK_lss, binK_leq, binK_gtr, binK_geq, binK_seql, binK_sneq, binK_sadd, binK_beql, binK_bneq, binK_peql, binK_pneq, binK_leql, binK_lneq, lenK_slice, lenK_string, ex_slice, ex_pointer, inR_i64, inR_i32, gdK_bool, gdK_undef, Ty.all, Nat.reduceEqDiff, Nat.reduceAdd, Nat.reduceMul, if_false, if_true, ↓reduceIte, true_and, and_true, Int.toNat_natCast, Nat.add_zero, Nat.mul_one, Bool.false_eq_true, decide_eq_true_eq, decide_eq_false_iff_not, Option.isNone_some, Option.isNone_none, Option.isSome_some, Option.isSome_none, List.map_toArray, List.map_cons, List.map_nil, stK_eq, stR_int, stR_bool, stR_string, stR_pointer, stR_slice, exD_plain, exD_guard, exD_nil, stepD_true, stepD_false, needOp, pureOp, Bool.false_or, Bool.true_or, Bool.or_false, Bool.or_true, gval_succ, gval_zero, Bd.s22, Bd.s22b, Bd.s31, Bd.s30, Bd.s30b, Bd.s30e, Bd.s42, Bd.s66, Bd.s67, Bd.b49, Bd.b54, Bd.b79, Bd.b82, Bd.b77, Bd.b86, Bd.b74, decide_true, decide_false, reduceCtorEq, ne_eq, not_true_eq_false, not_false_eq_true, true_implies, false_implies, implies_true, cond_true, cond_false, Bool.not_true, Bool.not_false, stR_agg2, stR_agg4, stR_agg5, one_int, one_bool, one_string, one_pointer, one_slice, one_map, retK_mk, cells_agg, rowAt_alloc, setRow_alloc, ow_four, ow_five, List.getElem_toArray, List.getElem_cons_zero, List.getElem_cons_succ, List.size_toArray, List.length_cons, List.length_nil, Nat.reduceLeDiff, g0]
        · simp only [exL_plain, exL_guard, exL_nil, fx_move, fx_assign, fx_pick, fx_nilCheck, fx_load, fx_fieldAddr, fx_indexAddr, fx_binOp, fx_not, fx_convert, fx_slice, fx_extract, fx_lookup, fx_build, fx_len, fx_store, fx_alloc, fx_box, fx_makeMap, fx_makeSlice, fx_buildSlice, fx_mapUpdate, fx_append, fx_call, ev_tmp, ev_const, updo_some, updo_none, upd_apply, thenQ_normal, optK_some, optE_some, optE_none, ptrK_mk, intK_mk, boolK_mk, strK_mk, sliceK_mk, addrK_mk, tupK_mk, mapK_mk, sndK_mk, mkK_mk, cvK_int, ldN_zero, ldN_two, ldN_four, ldN_five, binK_add, binK_sub, binK_mul, binK_eql, binK_neq, binK_lss, binK_leq, binK_gtr, binK_geq, binK_seql, binK_sneq, binK_sadd, binK_beql, binK_bneq, binK_peql, binK_pneq, binK_leql, binK_lneq, lenK_slice, lenK_string, ex_slice, ex_pointer, inR_i64, inR_i32, gdK_bool, gdK_undef, Ty.all, Nat.reduceEqDiff, Nat.reduceAdd, Nat.reduceMul, if_false, if_true, ↓reduceIte, true_and, and_true, Int.toNat_natCast, Nat.add_zero, Nat.mul_one, Bool.false_eq_true, decide_eq_true_eq, decide_eq_false_iff_not, Option.isNone_some, Option.isNone_none, Option.isSome_some, Option.isSome_none, List.map_toArray, List.map_cons, List.map_nil, stK_eq, stR_int, stR_bool, stR_string, stR_pointer, stR_slice, exD_plain, exD_guard, exD_nil, stepD_true, stepD_false, needOp, pureOp, Bool.false_or, Bool.true_or, Bool.or_false, Bool.or_true, gval_succ, gval_zero, Bd.s22, Bd.s22b, Bd.s31, Bd.s30, Bd.s30b, Bd.s30e, Bd.s42, Bd.s66, Bd.s67, Bd.b49, Bd.b54, Bd.b79, Bd.b82, Bd.b77, Bd.b86, Bd.b74, decide_true, decide_false, reduceCtorEq, ne_eq, not_true_eq_false, not_false_eq_true, true_implies, false_implies, implies_true, cond_true, cond_false, Bool.not_true, Bool.not_false, stR_agg2, stR_agg4, stR_agg5, one_int, one_bool, one_string, one_pointer, one_slice, one_map, retK_mk, cells_agg, rowAt_alloc, setRow_alloc, ow_four, ow_five, List.getElem_toArray, List.getElem_cons_zero, List.getElem_cons_succ, List.size_toArray, List.length_cons, List.length_nil, Nat.reduceLeDiff, g4]
        · simp only [exL_plain, exL_guard, exL_nil, fx_move, fx_assign, fx_pick, fx_nilCheck, fx_load, fx_fieldAddr, fx_indexAddr, fx_binOp, fx_not, fx_convert, fx_slice, fx_extract, fx_lookup, fx_build, fx_len, fx_store, fx_alloc, fx_box, fx_makeMap, fx_makeSlice, fx_buildSlice, fx_mapUpdate, fx_append, fx_call, ev_tmp, ev_const, updo_some, updo_none, upd_apply, thenQ_normal, optK_some, optE_some, optE_none, ptrK_mk, intK_mk, boolK_mk, strK_mk, sliceK_mk, addrK_mk, tupK_mk, mapK_mk, sndK_mk, mkK_mk, cvK_int, ldN_zero, ldN_two, ldN_four, ldN_five, binK_add, binK_sub, binK_mul, binK_eql, binK_neq, binK_lss, binK_leq, binK_gtr, binK_geq, binK_seql, binK_sneq, binK_sadd, binK_beql, binK_bneq, binK_peql, binK_pneq, binK_leql, binK_lneq, lenK_slice, lenK_string, ex_slice, ex_pointer, inR_i64, inR_i32, gdK_bool, gdK_undef, Ty.all, Nat.reduceEqDiff, Nat.reduceAdd, Nat.reduceMul, if_false, if_true, ↓reduceIte, true_and, and_true, Int.toNat_natCast, Nat.add_zero, Nat.mul_one, Bool.false_eq_true, decide_eq_true_eq, decide_eq_false_iff_not, Option.isNone_some, Option.isNone_none, Option.isSome_some, Option.isSome_none, List.map_toArray, List.map_cons, List.map_nil, stK_eq, stR_int, stR_bool, stR_string, stR_pointer, stR_slice, exD_plain, exD_guard, exD_nil, stepD_true, stepD_false, needOp, pureOp, Bool.false_or, Bool.true_or, Bool.or_false, Bool.or_true, gval_succ, gval_zero, Bd.s22, Bd.s22b, Bd.s31, Bd.s30, Bd.s30b, Bd.s30e, Bd.s42, Bd.s66, Bd.s67, Bd.b49, Bd.b54, Bd.b79, Bd.b82, Bd.b77, Bd.b86, Bd.b74, decide_true, decide_false, reduceCtorEq, ne_eq, not_true_eq_false, not_false_eq_true, true_implies, false_implies, implies_true, cond_true, cond_false, Bool.not_true, Bool.not_false, stR_agg2, stR_agg4, stR_agg5, one_int, one_bool, one_string, one_pointer, one_slice, one_map, retK_mk, cells_agg, rowAt_alloc, setRow_alloc, ow_four, ow_five, List.getElem_toArray, List.getElem_cons_zero, List.getElem_cons_succ, List.size_toArray, List.length_cons, List.length_nil, Nat.reduceLeDiff, g6]
        · simp only [exL_plain, exL_guard, exL_nil, fx_move, fx_assign, fx_pick, fx_nilCheck, fx_load, fx_fieldAddr, fx_indexAddr, fx_binOp, fx_not, fx_convert, fx_slice, fx_extract, fx_lookup, fx_build, fx_len, fx_store, fx_alloc, fx_box, fx_makeMap, fx_makeSlice, fx_buildSlice, fx_mapUpdate, fx_append, fx_call, ev_tmp, ev_const, updo_some, updo_none, upd_apply, thenQ_normal, optK_some, optE_some, optE_none, ptrK_mk, intK_mk, boolK_mk, strK_mk, sliceK_mk, addrK_mk, tupK_mk, mapK_mk, sndK_mk, mkK_mk, cvK_int, ldN_zero, ldN_two, ldN_four, ldN_five, binK_add, binK_sub, binK_mul, binK_eql, binK_neq, binK_lss, binK_leq, binK_gtr, binK_geq, binK_seql, binK_sneq, binK_sadd, binK_beql, binK_bneq, binK_peql, binK_pneq, binK_leql, binK_lneq, lenK_slice, lenK_string, ex_slice, ex_pointer, inR_i64, inR_i32, gdK_bool, gdK_undef, Ty.all, Nat.reduceEqDiff, Nat.reduceAdd, Nat.reduceMul, if_false, if_true, ↓reduceIte, true_and, and_true, Int.toNat_natCast, Nat.add_zero, Nat.mul_one, Bool.false_eq_true, decide_eq_true_eq, decide_eq_false_iff_not, Option.isNone_some, Option.isNone_none, Option.isSome_some, Option.isSome_none, List.map_toArray, List.map_cons, List.map_nil, stK_eq, stR_int, stR_bool, stR_string, stR_pointer, stR_slice, exD_plain, exD_guard, exD_nil, stepD_true, stepD_false, needOp, pureOp, Bool.false_or, Bool.true_or, Bool.or_false, Bool.or_true, gval_succ, gval_zero, Bd.s22, Bd.s22b, Bd.s31, Bd.s30, Bd.s30b, Bd.s30e, Bd.s42, Bd.s66, Bd.s67, Bd.b49, Bd.b54, Bd.b79, Bd.b82, Bd.b77, Bd.b86, Bd.b74, decide_true, decide_false, reduceCtorEq, ne_eq, not_true_eq_false, not_false_eq_true, true_implies, false_implies, implies_true, cond_true, cond_false, Bool.not_true, Bool.not_false, stR_agg2, stR_agg4, stR_agg5, one_int, one_bool, one_string, one_pointer, one_slice, one_map, retK_mk, cells_agg, rowAt_alloc, setRow_alloc, ow_four, ow_five, List.getElem_toArray, List.getElem_cons_zero, List.getElem_cons_succ, List.size_toArray, List.length_cons, List.length_nil, Nat.reduceLeDiff, g10]
        · simp only [exL_plain, exL_guard, exL_nil, fx_move, fx_assign, fx_pick, fx_nilCheck, fx_load, fx_fieldAddr, fx_indexAddr, fx_binOp, fx_not, fx_convert, fx_slice, fx_extract, fx_lookup, fx_build, fx_len, fx_store, fx_alloc, fx_box, fx_makeMap, fx_makeSlice, fx_buildSlice, fx_mapUpdate, fx_append, fx_call, ev_tmp, ev_const, updo_some, updo_none, upd_apply, thenQ_normal, optK_some, optE_some, optE_none, ptrK_mk, intK_mk, boolK_mk, strK_mk, sliceK_mk, addrK_mk, tupK_mk, mapK_mk, sndK_mk, mkK_mk, cvK_int, ldN_zero, ldN_two, ldN_four, ldN_five, binK_add, binK_sub, binK_mul, binK_eql, binK_neq, binK_lss, binK_leq, binK_gtr, binK_geq, binK_seql, binK_sneq, binK_sadd, binK_beql, binK_bneq, binK_peql, binK_pneq, binK_leql, binK_lneq, lenK_slice, lenK_string, ex_slice, ex_pointer, inR_i64, inR_i32, gdK_bool, gdK_undef, Ty.all, Nat.reduceEqDiff, Nat.reduceAdd, Nat.reduceMul, if_false, if_true, ↓reduceIte, true_and, and_true, Int.toNat_natCast, Nat.add_zero, Nat.mul_one, Bool.false_eq_true, decide_eq_true_eq, decide_eq_false_iff_not, Option.isNone_some, Option.isNone_none, Option.isSome_some, Option.isSome_none, List.map_toArray, List.map_cons, List.map_nil, stK_eq, stR_int, stR_bool, stR_string, stR_pointer, stR_slice, exD_plain, exD_guard, exD_nil, stepD_true, stepD_false, needOp, pureOp, Bool.false_or, Bool.true_or, Bool.or_false, Bool.or_true, gval_succ, gval_zero, Bd.s22, Bd.s22b, Bd.s31, Bd.s30, Bd.s30b, Bd.s30e, Bd.s42, Bd.s66, Bd.s67, Bd.b49, Bd.b54, Bd.b79, Bd.b82, Bd.b77, Bd.b86, Bd.b74, decide_true, decide_false, reduceCtorEq, ne_eq, not_true_eq_false, not_false_eq_true, true_implies, false_implies, implies_true, cond_true, cond_false, Bool.not_true, Bool.not_false, stR_agg2, stR_agg4, stR_agg5, one_int, one_bool, one_string, one_pointer, one_slice, one_map, retK_mk, cells_agg, rowAt_alloc, setRow_alloc, ow_four, ow_five, List.getElem_toArray, List.getElem_cons_zero, List.getElem_cons_succ, List.size_toArray, List.length_cons, List.length_nil, Nat.reduceLeDiff, g11]
        · simp only [exL_plain, exL_guard, exL_nil, fx_move, fx_assign, fx_pick, fx_nilCheck, fx_load, fx_fieldAddr, fx_indexAddr, fx_binOp, fx_not, fx_convert, fx_slice, fx_extract, fx_lookup, fx_build, fx_len, fx_store, fx_alloc, fx_box, fx_makeMap, fx_makeSlice, fx_buildSlice, fx_mapUpdate, fx_append, fx_call, ev_tmp, ev_const, updo_some, updo_none, upd_apply, thenQ_normal, optK_some, optE_some, optE_none, ptrK_mk, intK_mk, boolK_mk, strK_mk, sliceK_mk, addrK_mk, tupK_mk, mapK_mk, sndK_mk, mkK_mk, cvK_int, ldN_zero, ldN_two, ldN_four, ldN_five, binK_add, binK_sub, binK_mul, binK_eql, binK_neq, binK_lss, binK_leq, binK_gtr, binK_geq, binK_seql, binK_sneq, binK_sadd, binK_beql, binK_bneq, binK_peql, binK_pneq, binK_leql, binK_lneq, lenK_slice, lenK_string, ex_slice, ex_pointer, inR_i64, inR_i32, gdK_bool, gdK_undef, Ty.all, Nat.reduceEqDiff, Nat.reduceAdd, Nat.reduceMul, if_false, if_true, ↓reduceIte, true_and, and_true, Int.toNat_natCast, Nat.add_zero, Nat.mul_one, Bool.false_eq_true, decide_eq_true_eq, decide_eq_false_iff_not, Option.isNone_some, Option.isNone_none, Option.isSome_some, Option.isSome_none, List.map_toArray, List.map_cons, List.map_nil, stK_eq, stR_int, stR_bool, stR_string, stR_pointer, stR_slice, exD_plain, exD_guard, exD_nil, stepD_true, stepD_false, needOp, pureOp, Bool.false_or, Bool.true_or, Bool.or_false, Bool.or_true, gval_succ, gval_zero, Bd.s22, Bd.s22b, Bd.s31, Bd.s30, Bd.s30b, Bd.s30e, Bd.s42, Bd.s66, Bd.s67, Bd.b49, Bd.b54, Bd.b79, Bd.b82, Bd.b77, Bd.b86, Bd.b74, decide_true, decide_false, reduceCtorEq, ne_eq, not_true_eq_false, not_false_eq_true, true_implies, false_implies, implies_true, cond_true, cond_false, Bool.not_true, Bool.not_false, stR_agg2, stR_agg4, stR_agg5, one_int, one_bool, one_string, one_pointer, one_slice, one_map, retK_mk, cells_agg, rowAt_alloc, setRow_alloc, ow_four, ow_five, List.getElem_toArray, List.getElem_cons_zero, List.getElem_cons_succ, List.size_toArray, List.length_cons, List.length_nil, Nat.reduceLeDiff, g12]
        · simp only [exL_plain, exL_guard, exL_nil, fx_move, fx_assign, fx_pick, fx_nilCheck, fx_load, fx_fieldAddr, fx_indexAddr, fx_binOp, fx_not, fx_convert, fx_slice, fx_extract, fx_lookup, fx_build, fx_len, fx_store, fx_alloc, fx_box, fx_makeMap, fx_makeSlice, fx_buildSlice, fx_mapUpdate, fx_append, fx_call, ev_tmp, ev_const, updo_some, updo_none, upd_apply, thenQ_normal, optK_some, optE_some, optE_none, ptrK_mk, intK_mk, boolK_mk, strK_mk, sliceK_mk, addrK_mk, tupK_mk, mapK_mk, sndK_mk, mkK_mk, cvK_int, ldN_zero, ldN_two, ldN_four, ldN_five, binK_add, binK_sub, binK_mul, binK_eql, binK_neq, binK_lss, binK_leq, binK_gtr, binK_geq, binK_seql, binK_sneq, binK_sadd, binK_beql, binK_bneq, binK_peql, binK_pneq, binK_leql, binK_lneq, lenK_slice, lenK_string, ex_slice, ex_pointer, inR_i64, inR_i32, gdK_bool, gdK_undef, Ty.all, Nat.reduceEqDiff, Nat.reduceAdd, Nat.reduceMul, if_false, if_true, ↓reduceIte, true_and, and_true, Int.toNat_natCast, Nat.add_zero, Nat.mul_one, Bool.false_eq_true, decide_eq_true_eq, decide_eq_false_iff_not, Option.isNone_some, Option.isNone_none, Option.isSome_some, Option.isSome_none, List.map_toArray, List.map_cons, List.map_nil, stK_eq, stR_int, stR_bool, stR_string, stR_pointer, stR_slice, exD_plain, exD_guard, exD_nil, stepD_true, stepD_false, needOp, pureOp, Bool.false_or, Bool.true_or, Bool.or_false, Bool.or_true, gval_succ, gval_zero, Bd.s22, Bd.s22b, Bd.s31, Bd.s30, Bd.s30b, Bd.s30e, Bd.s42, Bd.s66, Bd.s67, Bd.b49, Bd.b54, Bd.b79, Bd.b82, Bd.b77, Bd.b86, Bd.b74, decide_true, decide_false, reduceCtorEq, ne_eq, not_true_eq_false, not_false_eq_true, true_implies, false_implies, implies_true, cond_true, cond_false, Bool.not_true, Bool.not_false, stR_agg2, stR_agg4, stR_agg5, one_int, one_bool, one_string, one_pointer, one_slice, one_map, retK_mk, cells_agg, rowAt_alloc, setRow_alloc, ow_four, ow_five, List.getElem_toArray, List.getElem_cons_zero, List.getElem_cons_succ, List.size_toArray, List.length_cons, List.length_nil, Nat.reduceLeDiff]
          rfl
      · refine ⟨?_, ?_, ?_, hh, hb⟩
        · simp only [exL_plain, exL_guard, exL_nil, fx_move, fx_assign, fx_pick, fx_nilCheck, fx_load, fx_fieldAddr, fx_indexAddr, fx_binOp, fx_not, fx_convert, fx_slice, fx_extract, fx_lookup, fx_build, fx_len, fx_store, fx_alloc, fx_box, fx_makeMap, fx_makeSlice, fx_buildSlice, fx_mapUpdate, fx_append, fx_call, ev_tmp, ev_const, updo_some, updo_none, upd_apply, thenQ_normal, optK_some, optE_some, optE_none, ptrK_mk, intK_mk, boolK_mk, strK_mk, sliceK_mk, addrK_mk, tupK_mk, mapK_mk, sndK_mk, mkK_mk, cvK_int, ldN_zero, ldN_two, ldN_four, ldN_five, binK_add, binK_sub, binK_mul, binK_eql, binK_neq, binK_lss, binK_leq, binK_gtr, binK_geq, binK_seql, binK_sneq, binK_sadd, binK_beql, binK_bneq, binK_peql, binK_pneq, binK_leql, binK_lneq, lenK_slice, lenK_string, ex_slice, ex_pointer, inR_i64, inR_i32, gdK_bool, gdK_undef, Ty.all, Nat.reduceEqDiff, Nat.reduceAdd, Nat.reduceMul, if_false, if_true, ↓reduceIte, true_and, and_true, Int.toNat_natCast, Nat.add_zero, Nat.mul_one, Bool.false_eq_true, decide_eq_true_eq, decide_eq_false_iff_not, Option.isNone_some, Option.isNone_none, Option.isSome_some, Option.isSome_none, List.map_toArray, List.map_cons, List.map_nil, stK_eq, stR_int, stR_bool, stR_string, stR_pointer, stR_slice, exD_plain, exD_guard, exD_nil, stepD_true, stepD_false, needOp, pureOp, Bool.false_or, Bool.true_or, Bool.or_false, Bool.or_true, gval_succ, gval_zero, Bd.s22, Bd.s22b, Bd.s31, Bd.s30, Bd.s30b, Bd.s30e, Bd.s42, Bd.s66, Bd.s67, Bd.b49, Bd.b54, Bd.b79, Bd.b82, Bd.b77, Bd.b86, Bd.b74, decide_true, decide_false, reduceCtorEq, ne_eq, not_true_eq_false, not_false_eq_true, true_implies, false_implies, implies_true, cond_true, cond_false, Bool.not_true, Bool.not_false, stR_agg2, stR_agg4, stR_agg5, one_int, one_bool, one_string, one_pointer, one_slice, one_map, retK_mk, cells_agg, rowAt_alloc, setRow_alloc, ow_four, ow_five, List.getElem_toArray, List.getElem_cons_zero, List.getElem_cons_succ, List.size_toArray, List.length_cons, List.length_nil, Nat.reduceLeDiff, g6]
        · simp only [exL_plain, exL_guard, exL_nil, fx_move, fx_assign, fx_pick, fx_nilCheck, fx_load, fx_fieldAddr, fx_indexAddr, fx_binOp, fx_not, fx_convert, fx_slice, fx_extract, fx_lookup, fx_build, fx_len, fx_store, fx_alloc, fx_box, fx_makeMap, fx_makeSlice, fx_buildSlice, fx_mapUpdate, fx_append, fx_call, ev_tmp, ev_const, updo_some, updo_none, upd_apply, thenQ_normal, optK_some, optE_some, optE_none, ptrK_mk, intK_mk, boolK_mk, strK_mk, sliceK_mk, addrK_mk, tupK_mk, mapK_mk, sndK_mk, mkK_mk, cvK_int, ldN_zero, ldN_two, ldN_four, ldN_five, binK_add, binK_sub, binK_mul, binK_eql, binK_neq, binK_lss, binK_leq, binK_gtr, binK_geq, binK_seql, binK_sneq, binK_sadd, binK_beql, binK_bneq, binK_peql, binK_pneq, binK_leql, binK_lneq, lenK_slice, lenK_string, ex_slice, ex_pointer, inR_i64, inR_i32, gdK_bool, gdK_undef, Ty.all, Nat.reduceEqDiff, Nat.reduceAdd, Nat.reduceMul, if_false, if_true, ↓reduceIte, true_and, and_true, Int.toNat_natCast, Nat.add_zero, Nat.mul_one, Bool.false_eq_true, decide_eq_true_eq, decide_eq_false_iff_not, Option.isNone_some, Option.isNone_none, Option.isSome_some, Option.isSome_none, List.map_toArray, List.map_cons, List.map_nil, stK_eq, stR_int, stR_bool, stR_string, stR_pointer, stR_slice, exD_plain, exD_guard, exD_nil, stepD_true, stepD_false, needOp, pureOp, Bool.false_or, Bool.true_or, Bool.or_false, Bool.or_true, gval_succ, gval_zero, Bd.s22, Bd.s22b, Bd.s31, Bd.s30, Bd.s30b, Bd.s30e, Bd.s42, Bd.s66, Bd.s67, Bd.b49, Bd.b54, Bd.b79, Bd.b82, Bd.b77, Bd.b86, Bd.b74, decide_true, decide_false, reduceCtorEq, ne_eq, not_true_eq_false, not_false_eq_true, true_implies, false_implies, implies_true, cond_true, cond_false, Bool.not_true, Bool.not_false, stR_agg2, stR_agg4, stR_agg5, one_int, one_bool, one_string, one_pointer, one_slice, one_map, retK_mk, cells_agg, rowAt_alloc, setRow_alloc, ow_four, ow_five, List.getElem_toArray, List.getElem_cons_zero, List.getElem_cons_succ, List.size_toArray, List.length_cons, List.length_nil, Nat.reduceLeDiff, g11]
        · simp only [exL_plain, exL_guard, exL_nil, fx_move, fx_assign, fx_pick, fx_nilCheck, fx_load, fx_fieldAddr, fx_indexAddr, fx_binOp, fx_not, fx_convert, fx_slice, fx_extract, fx_lookup, fx_build, fx_len, fx_store, fx_alloc, fx_box, fx_makeMap, fx_makeSlice, fx_buildSlice, fx_mapUpdate, fx_append, fx_call, ev_tmp, ev_const, updo_some, updo_none, upd_apply, thenQ_normal, optK_some, optE_some, optE_none, ptrK_mk, intK_mk, boolK_mk, strK_mk, sliceK_mk, addrK_mk, tupK_mk, mapK_mk, sndK_mk, mkK_mk, cvK_int, ldN_zero, ldN_two, ldN_four, ldN_five, binK_add, binK_sub, binK_mul, binK_eql, binK_neq, binK_lss, binK_leq, binK_gtr, binK_geq, binK_seql, binK_sneq, binK_sadd, binK_beql, binK_bneq, binK_peql, binK_pneq, binK_leql, binK_lneq, lenK_slice, lenK_string, ex_slice, ex_pointer, inR_i64, inR_i32, gdK_bool, gdK_undef, Ty.all, Nat.reduceEqDiff, Nat.reduceAdd, Nat.reduceMul, if_false, if_true, ↓reduceIte, true_and, and_true, Int.toNat_natCast, Nat.add_zero, Nat.mul_one, Bool.false_eq_true, decide_eq_true_eq, decide_eq_false_iff_not, Option.isNone_some, Option.isNone_none, Option.isSome_some, Option.isSome_none, List.map_toArray, List.map_cons, List.map_nil, stK_eq, stR_int, stR_bool, stR_string, stR_pointer, stR_slice, exD_plain, exD_guard, exD_nil, stepD_true, stepD_false, needOp, pureOp, Bool.false_or, Bool.true_or, Bool.or_false, Bool.or_true, gval_succ, gval_zero, Bd.s22, Bd.s22b, Bd.s31, Bd.s30, Bd.s30b, Bd.s30e, Bd.s42, Bd.s66, Bd.s67, Bd.b49, Bd.b54, Bd.b79, Bd.b82, Bd.b77, Bd.b86, Bd.b74, decide_true, decide_false, reduceCtorEq, ne_eq, not_true_eq_false, not_false_eq_true, true_implies, false_implies, implies_true, cond_true, cond_false, Bool.not_true, Bool.not_false, stR_agg2, stR_agg4, stR_agg5, one_int, one_bool, one_string, one_pointer, one_slice, one_map, retK_mk, cells_agg, rowAt_alloc, setRow_alloc, ow_four, ow_five, List.getElem_toArray, List.getElem_cons_zero, List.getElem_cons_succ, List.size_toArray, List.length_cons, List.length_nil, Nat.reduceLeDiff, g12]
    · clear h0 m4 m6 m10 m11 m12 m18 hbz hh0
      rintro ρ wr ⟨m6, m11, m12, hh0, hbz⟩
      refine hK _ _ ?_
      clear hK K
      refine cwp_seq fun K hK => ?_
      refine cwp_sr rfl fun K hK => ?_
      simp only [exL_plain, exL_guard, exL_nil, fx_move, fx_assign, fx_pick, fx_nilCheck, fx_load, fx_fieldAddr, fx_indexAddr, fx_binOp, fx_not, fx_convert, fx_slice, fx_extract, fx_lookup, fx_build, fx_len, fx_store, fx_alloc, fx_box, fx_makeMap, fx_makeSlice, fx_buildSlice, fx_mapUpdate, fx_append, fx_call, ev_tmp, ev_const, updo_some, updo_none, upd_apply, thenQ_normal, optK_some, optE_some, optE_none, ptrK_mk, intK_mk, boolK_mk, strK_mk, sliceK_mk, addrK_mk, tupK_mk, mapK_mk, sndK_mk, mkK_mk, cvK_int, ldN_zero, ldN_two, ldN_four, ldN_five, binK_add, binK_sub, binK_mul, binK_eql, binK_neq, binK_lss, binK_leq, binK_gtr, binK_geq, binK_seql, binK_sneq, binK_sadd, binK_beql, binK_bneq, binK_peql, binK_pneq, binK_leql, binK_lneq, lenK_slice, lenK_string, ex_slice, ex_pointer, inR_i64, inR_i32, gdK_bool, gdK_undef, Ty.all, Nat.reduceEqDiff, Nat.reduceAdd, Nat.reduceMul, if_false, if_true, ↓reduceIte, true_and, and_true, Int.toNat_natCast, Nat.add_zero, Nat.mul_one, Bool.false_eq_true, decide_eq_true_eq, decide_eq_false_iff_not, Option.isNone_some, Option.isNone_none, Option.isSome_some, Option.isSome_none, List.map_toArray, List.map_cons, List.map_nil, stK_eq, stR_int, stR_bool, stR_string, stR_pointer, stR_slice, exD_plain, exD_guard, exD_nil, stepD_true, stepD_false, needOp, pureOp, Bool.false_or, Bool.true_or, Bool.or_false, Bool.or_true, gval_succ, gval_zero, Bd.s22, Bd.s22b, Bd.s31, Bd.s30, Bd.s30b, Bd.s30e, Bd.s42, Bd.s66, Bd.s67, Bd.b49, Bd.b54, Bd.b79, Bd.b82, Bd.b77, Bd.b86, Bd.b74, decide_true, decide_false, reduceCtorEq, ne_eq, not_true_eq_false, not_false_eq_true, true_implies, false_implies, implies_true, cond_true, cond_false, Bool.not_true, Bool.not_false, stR_agg2, stR_agg4, stR_agg5, one_int, one_bool, one_string, one_pointer, one_slice, one_map, retK_mk, cells_agg, rowAt_alloc, setRow_alloc, ow_four, ow_five, List.getElem_toArray, List.getElem_cons_zero, List.getElem_cons_succ, List.size_toArray, List.length_cons, List.length_nil, Nat.reduceLeDiff]
      repeat (refine ⟨by omega, ?_⟩)
      refine hK _ _ ?_
      clear hK K
      refine cwp_forget [6, 11, 12, 19] fun ρ hL => ?_
      have m6X := hL 6 (by simp)
      have m11X := hL 11 (by simp)
      have m12X := hL 12 (by simp)
      have m19X := hL 19 (by simp)
      clear hL
      simp only [upd_apply, Nat.reduceEqDiff, if_false, if_true, ↓reduceIte, m6, m11, m12] at m6X m11X m12X m19X
      have m6 := m6X
      clear m6X
      have m11 := m11X
      clear m11X
      have m12 := m12X
      clear m12X
      have m19 := m19X
      clear m19X
      refine cwp_for (fun p ρ wr => p ≤ E.length ∧ ρ 6 = .slice a6 E.length c6 ∧ ρ 11 = .slice a11 E.length c11 ∧ ρ 12 = .slice a12 E.length c12 ∧ ρ 19 = .int .i64 (p : Nat) ∧ wr.heap = wz.heap ∧ Below w'.heap.size w' wr)
        (fun p => E.length - p) (fun ρ wr => Below w'.heap.size w' wr) 0 ?_ ?_ ?_
      · exact ⟨Nat.zero_le _, m6, m11, m12, m19, hh0, hbz⟩
      · clear m6 m11 m12 m19 hbz hK hh0
        rintro p ρ wr ⟨hp, g6, g11, g12, g19, hh, hb⟩ K1 hK1
        refine cwp_seq fun K hK => ?_
        refine cwp_sr rfl fun K hK => ?_
        simp only [exL_plain, exL_guard, exL_nil, fx_move, fx_assign, fx_pick, fx_nilCheck, fx_load, fx_fieldAddr, fx_indexAddr, fx_binOp, fx_not, fx_convert, fx_slice, fx_extract, fx_lookup, fx_build, fx_len, fx_store, fx_alloc, fx_box, fx_makeMap, fx_makeSlice, fx_buildSlice, fx_mapUpdate, fx_append, fx_call, ev_tmp, ev_const, updo_some, updo_none, upd_apply, thenQ_normal, optK_some, optE_some, optE_none, ptrK_mk, intK_mk, boolK_mk, strK_mk, sliceK_mk, addrK_mk, tupK_mk, mapK_mk, sndK_mk, mkK_mk, cvK_int, ldN_zero, ldN_two, ldN_four, ldN_five, binK_add, binK_sub, binK_mul, binK_eql, binK_neq, binK_lss, binK_leq, binK_gtr, binK_geq, binK_seql, binK_sneq, binK_sadd, binK_beql, binK_bneq, binK_peql, binK_pneq, binK_leql, binK_lneq, lenK_slice, lenK_string, ex_slice, ex_pointer, inR_i64, inR_i32, gdK_bool, gdK_undef, Ty.all, Nat.reduceEqDiff, Nat.reduceAdd, Nat.reduceMul, if_false, if_true, ↓reduceIte, true_and, and_true, Int.toNat_natCast, Nat.add_zero, Nat.mul_one, Bool.false_eq_true, decide_eq_true_eq, decide_eq_false_iff_not, Option.isNone_some, Option.isNone_none, Option.isSome_some, Option.isSome_none, List.map_toArray, List.map_cons, List.map_nil, stK_eq, stR_int, stR_bool, stR_string, stR_pointer, stR_slice, exD_plain, exD_guard, exD_nil, stepD_true, stepD_false, needOp, pureOp, Bool.false_or, Bool.true_or, Bool.or_false, Bool.or_true, gval_succ, gval_zero, Bd.s22, Bd.s22b, Bd.s31, Bd.s30, Bd.s30b, Bd.s30e, Bd.s42, Bd.s66, Bd.s67, Bd.b49, Bd.b54, Bd.b79, Bd.b82, Bd.b77, Bd.b86, Bd.b74, decide_true, decide_false, reduceCtorEq, ne_eq, not_true_eq_false, not_false_eq_true, true_implies, false_implies, implies_true, cond_true, cond_false, Bool.not_true, Bool.not_false, stR_agg2, stR_agg4, stR_agg5, one_int, one_bool, one_string, one_pointer, one_slice, one_map, retK_mk, cells_agg, rowAt_alloc, setRow_alloc, ow_four, ow_five, List.getElem_toArray, List.getElem_cons_zero, List.getElem_cons_succ, List.size_toArray, List.length_cons, List.length_nil, Nat.reduceLeDiff, g6, g19]
        repeat (refine ⟨by omega, ?_⟩)
        refine hK _ _ ?_
        clear hK K
        refine cwp_cond ?_
        simp only [exL_plain, exL_guard, exL_nil, fx_move, fx_assign, fx_pick, fx_nilCheck, fx_load, fx_fieldAddr, fx_indexAddr, fx_binOp, fx_not, fx_convert, fx_slice, fx_extract, fx_lookup, fx_build, fx_len, fx_store, fx_alloc, fx_box, fx_makeMap, fx_makeSlice, fx_buildSlice, fx_mapUpdate, fx_append, fx_call, ev_tmp, ev_const, updo_some, updo_none, upd_apply, thenQ_normal, optK_some, optE_some, optE_none, ptrK_mk, intK_mk, boolK_mk, strK_mk, sliceK_mk, addrK_mk, tupK_mk, mapK_mk, sndK_mk, mkK_mk, cvK_int, ldN_zero, ldN_two, ldN_four, ldN_five, binK_add, binK_sub, binK_mul, binK_eql, binK_neq, binK_lss, binK_leq, binK_gtr, binK_geq, binK_seql, binK_sneq, binK_sadd, binK_beql, binK_bneq, binK_peql, binK_pneq, binK_leql, binK_lneq, lenK_slice, lenK_string, ex_slice, ex_pointer, inR_i64, inR_i32, gdK_bool, gdK_undef, Ty.all, Nat.reduceEqDiff, Nat.reduceAdd, Nat.reduceMul, if_false, if_true, ↓reduceIte, true_and, and_true, Int.toNat_natCast, Nat.add_zero, Nat.mul_one, Bool.false_eq_true, decide_eq_true_eq, decide_eq_false_iff_not, Option.isNone_some, Option.isNone_none, Option.isSome_some, Option.isSome_none, List.map_toArray, List.map_cons, List.map_nil, stK_eq, stR_int, stR_bool, stR_string, stR_pointer, stR_slice, exD_plain, exD_guard, exD_nil, stepD_true, stepD_false, needOp, pureOp, Bool.false_or, Bool.true_or, Bool.or_false, Bool.or_true, gval_succ, gval_zero, Bd.s22, Bd.s22b, Bd.s31, Bd.s30, Bd.s30b, Bd.s30e, Bd.s42, Bd.s66, Bd.s67, Bd.b49, Bd.b54, Bd.b79, Bd.b82, Bd.b77, Bd.b86, Bd.b74, decide_true, decide_false, reduceCtorEq, ne_eq, not_true_eq_false, not_false_eq_true, true_implies, false_implies, implies_true, cond_true, cond_false, Bool.not_true, Bool.not_false, stR_agg2, stR_agg4, stR_agg5, one_int, one_bool, one_string, one_pointer, one_slice, one_map, retK_mk, cells_agg, rowAt_alloc, setRow_alloc, ow_four, ow_five, List.getElem_toArray, List.getElem_cons_zero, List.getElem_cons_succ, List.size_toArray, List.length_cons, List.length_nil, Nat.reduceLeDiff]
        refine ⟨fun hlt => cwp_skip (hK _ _ ?_), fun hge => cwp_exit (toJ ?_)⟩
        · clear hK K
          have hpE : p < E.length := by omega
          obtain ⟨lb, lo, rfl, hLc⟩ := hL (by omega)
          obtain ⟨kb, ko, rfl, hkc⟩ := hk (by omega)
          obtain ⟨xb, xo, rfl, hxc⟩ := hx (by omega)
          refine cwp_forget [6, 11, 12, 19] fun ρ hL => ?_
          have g6X := hL 6 (by simp)
          have g11X := hL 11 (by simp)
          have g12X := hL 12 (by simp)
          have g19X := hL 19 (by simp)
          clear hL
          simp only [upd_apply, Nat.reduceEqDiff, if_false, if_true, ↓reduceIte, g6, g11, g12, g19] at g6X g11X g12X g19X
          have g6 := g6X
          clear g6X
          have g11 := g11X
          clear g11X
          have g12 := g12X
          clear g12X
          have g19 := g19X
          clear g19X
          refine cwp_seq fun K2 hK2 => ?_
          refine cwp_block ?_
          refine cwp_sr rfl fun K hK => ?_
          simp only [exL_plain, exL_guard, exL_nil, fx_move, fx_assign, fx_pick, fx_nilCheck, fx_load, fx_fieldAddr, fx_indexAddr, fx_binOp, fx_not, fx_convert, fx_slice, fx_extract, fx_lookup, fx_build, fx_len, fx_store, fx_alloc, fx_box, fx_makeMap, fx_makeSlice, fx_buildSlice, fx_mapUpdate, fx_append, fx_call, ev_tmp, ev_const, updo_some, updo_none, upd_apply, thenQ_normal, optK_some, optE_some, optE_none, ptrK_mk, intK_mk, boolK_mk, strK_mk, sliceK_mk, addrK_mk, tupK_mk, mapK_mk, sndK_mk, mkK_mk, cvK_int, ldN_zero, ldN_two, ldN_four, ldN_five, binK_add, binK_sub, binK_mul, binK_eql, binK_neq, binK_lss, binK_leq, binK_gtr, binK_geq, binK_seql, binK_sneq, binK_sadd, binK_beql, binK_bneq, binK_peql, binK_pneq, binK_leql, binK_lneq, lenK_slice, lenK_string, ex_slice, ex_pointer, inR_i64, inR_i32, gdK_bool, gdK_undef, Ty.all, Nat.reduceEqDiff, Nat.reduceAdd, Nat.reduceMul, if_false, if_true, ↓reduceIte, true_and, and_true, Int.toNat_natCast, Nat.add_zero, Nat.mul_one, Bool.false_eq_true, decide_eq_true_eq, decide_eq_false_iff_not, Option.isNone_some, Option.isNone_none, Option.isSome_some, Option.isSome_none, List.map_toArray, List.map_cons, List.map_nil, stK_eq, stR_int, stR_bool, stR_string, stR_pointer, stR_slice, exD_plain, exD_guard, exD_nil, stepD_true, stepD_false, needOp, pureOp, Bool.false_or, Bool.true_or, Bool.or_false, Bool.or_true, gval_succ, gval_zero, Bd.s22, Bd.s22b, Bd.s31, Bd.s30, Bd.s30b, Bd.s30e, Bd.s42, Bd.s66, Bd.s67, Bd.b49, Bd.b54, Bd.b79, Bd.b82, Bd.b77, Bd.b86, Bd.b74, decide_true, decide_false, reduceCtorEq, ne_eq, not_true_eq_false, not_false_eq_true, true_implies, false_implies, implies_true, cond_true, cond_false, Bool.not_true, Bool.not_false, stR_agg2, stR_agg4, stR_agg5, one_int, one_bool, one_string, one_pointer, one_slice, one_map, retK_mk, cells_agg, rowAt_alloc, setRow_alloc, ow_four, ow_five, List.getElem_toArray, List.getElem_cons_zero, List.getElem_cons_succ, List.size_toArray, List.length_cons, List.length_nil, Nat.reduceLeDiff, g19]
          repeat (refine ⟨by omega, ?_⟩)
          refine hK _ _ ?_
          clear hK K
          refine cwp_forget [6, 11, 12, 19, 20] fun ρ hL => ?_
          have g6X := hL 6 (by simp)
          have g11X := hL 11 (by simp)
          have g12X := hL 12 (by simp)
          have g19X := hL 19 (by simp)
          have g20X := hL 20 (by simp)
          clear hL
          simp only [upd_apply, Nat.reduceEqDiff, if_false, if_true, ↓reduceIte, g6, g11, g12, g19] at g6X g11X g12X g19X g20X
          have g6 := g6X
          clear g6X
          have g11 := g11X
          clear g11X
          have g12 := g12X
          clear g12X
          have g19 := g19X
          clear g19X
          have g20 := g20X
          clear g20X
          have g20 : ρ 20 = .int .i64 ((p + 1 : Nat) : Int) := by rw [g20]; rfl
          refine cwp_for (fun q ρ wr => p < q ∧ q ≤ E.length ∧ ρ 6 = .slice (some ⟨lb, lo, none⟩) E.length c6 ∧ ρ 11 = .slice (some ⟨kb, ko, none⟩) E.length c11 ∧ ρ 12 = .slice (some ⟨xb, xo, none⟩) E.length c12 ∧ ρ 19 = .int .i64 (p : Nat) ∧ ρ 20 = .int .i64 (q : Nat) ∧ wr.heap = wz.heap ∧ Below w'.heap.size w' wr)
            (fun q => E.length - q) (fun ρ wr => ρ 6 = .slice (some ⟨lb, lo, none⟩) E.length c6 ∧ ρ 11 = .slice (some ⟨kb, ko, none⟩) E.length c11 ∧ ρ 12 = .slice (some ⟨xb, xo, none⟩) E.length c12 ∧ ρ 19 = .int .i64 (p : Nat) ∧ wr.heap = wz.heap ∧ Below w'.heap.size w' wr) (p + 1) ?_ ?_ ?_
          · exact ⟨by omega, hpE, g6, g11, g12, g19, g20, hh, hb⟩
          · clear g6 g11 g12 g19 g20 hh hb hK2 hK1
            rintro q ρ wr ⟨hpq, hq, g6, g11, g12, g19, g20, hh, hb⟩ K3 hK3
            refine cwp_seq fun K hK => ?_
            refine cwp_sr rfl fun K hK => ?_
            simp only [exL_plain, exL_guard, exL_nil, fx_move, fx_assign, fx_pick, fx_nilCheck, fx_load, fx_fieldAddr, fx_indexAddr, fx_binOp, fx_not, fx_convert, fx_slice, fx_extract, fx_lookup, fx_build, fx_len, fx_store, fx_alloc, fx_box, fx_makeMap, fx_makeSlice, fx_buildSlice, fx_mapUpdate, fx_append, fx_call, ev_tmp, ev_const, updo_some, updo_none, upd_apply, thenQ_normal, optK_some, optE_some, optE_none, ptrK_mk, intK_mk, boolK_mk, strK_mk, sliceK_mk, addrK_mk, tupK_mk, mapK_mk, sndK_mk, mkK_mk, cvK_int, ldN_zero, ldN_two, ldN_four, ldN_five, binK_add, binK_sub, binK_mul, binK_eql, binK_neq, binK_lss, binK_leq, binK_gtr, binK_geq, binK_seql, binK_sneq, binK_sadd, binK_beql, binK_bneq, binK_peql, binK_pneq, binK_leql, binK_lneq, lenK_slice, lenK_string, ex_slice, ex_pointer, inR_i64, inR_i32, gdK_bool, gdK_undef, Ty.all, Nat.reduceEqDiff, Nat.reduceAdd, Nat.reduceMul, if_false, if_true, ↓reduceIte, true_and, and_true, Int.toNat_natCast, Nat.add_zero, Nat.mul_one, Bool.false_eq_true, decide_eq_true_eq, decide_eq_false_iff_not, Option.isNone_some, Option.isNone_none, Option.isSome_some, Option.isSome_none, List.map_toArray, List.map_cons, List.map_nil, stK_eq, stR_int, stR_bool, stR_string, stR_pointer, stR_slice, exD_plain, exD_guard, exD_nil, stepD_true, stepD_false, needOp, pureOp, Bool.false_or, Bool.true_or, Bool.or_false, Bool.or_true, gval_succ, gval_zero, Bd.s22, Bd.s22b, Bd.s31, Bd.s30, Bd.s30b, Bd.s30e, Bd.s42, Bd.s66, Bd.s67, Bd.b49, Bd.b54, Bd.b79, Bd.b82, Bd.b77, Bd.b86, Bd.b74, decide_true, decide_false, reduceCtorEq, ne_eq, not_true_eq_false, not_false_eq_true, true_implies, false_implies, implies_true, cond_true, cond_false, Bool.not_true, Bool.not_false, stR_agg2, stR_agg4, stR_agg5, one_int, one_bool, one_string, one_pointer, one_slice, one_map, retK_mk, cells_agg, rowAt_alloc, setRow_alloc, ow_four, ow_five, List.getElem_toArray, List.getElem_cons_zero, List.getElem_cons_succ, List.size_toArray, List.length_cons, List.length_nil, Nat.reduceLeDiff, g6, g20]
            repeat (refine ⟨by omega, ?_⟩)
            refine hK _ _ ?_
            clear hK K
            refine cwp_cond ?_
            simp only [exL_plain, exL_guard, exL_nil, fx_move, fx_assign, fx_pick, fx_nilCheck, fx_load, fx_fieldAddr, fx_indexAddr, fx_binOp, fx_not, fx_convert, fx_slice, fx_extract, fx_lookup, fx_build, fx_len, fx_store, fx_alloc, fx_box, fx_makeMap, fx_makeSlice, fx_buildSlice, fx_mapUpdate, fx_append, fx_call, ev_tmp, ev_const, updo_some, updo_none, upd_apply, thenQ_normal, optK_some, optE_some, optE_none, ptrK_mk, intK_mk, boolK_mk, strK_mk, sliceK_mk, addrK_mk, tupK_mk, mapK_mk, sndK_mk, mkK_mk, cvK_int, ldN_zero, ldN_two, ldN_four, ldN_five, binK_add, binK_sub, binK_mul, binK_eql, binK_neq, binK_lss, binK_leq, binK_gtr, binK_geq, binK_seql, binK_sneq, binK_sadd, binK_beql, binK_bneq, binK_peql, binK_pneq, binK_leql, binK_lneq, lenK_slice, lenK_string, ex_slice, ex_pointer, inR_i64, inR_i32, gdK_bool, gdK_undef, Ty.all, Nat.reduceEqDiff, Nat.reduceAdd, Nat.reduceMul, if_false, if_true, ↓reduceIte, true_and, and_true, Int.toNat_natCast, Nat.add_zero, Nat.mul_one, Bool.false_eq_true, decide_eq_true_eq, decide_eq_false_iff_not, Option.isNone_some, Option.isNone_none, Option.isSome_some, Option.isSome_none, List.map_toArray, List.map_cons, List.map_nil, stK_eq, stR_int, stR_bool, stR_string, stR_pointer, stR_slice, exD_plain, exD_guard, exD_nil, stepD_true, stepD_false, needOp, pureOp, Bool.false_or, Bool.true_or, Bool.or_false, Bool.or_true, gval_succ, gval_zero, Bd.s22, Bd.s22b, Bd.s31, Bd.s30, Bd.s30b, Bd.s30e, Bd.s42, Bd.s66, Bd.s67, Bd.b49, Bd.b54, Bd.b79, Bd.b82, Bd.b77, Bd.b86, Bd.b74, decide_true, decide_false, reduceCtorEq, ne_eq, not_true_eq_false, not_false_eq_true, true_implies, false_implies, implies_true, cond_true, cond_false, Bool.not_true, Bool.not_false, stR_agg2, stR_agg4, stR_agg5, one_int, one_bool, one_string, one_pointer, one_slice, one_map, retK_mk, cells_agg, rowAt_alloc, setRow_alloc, ow_four, ow_five, List.getElem_toArray, List.getElem_cons_zero, List.getElem_cons_succ, List.size_toArray, List.length_cons, List.length_nil, Nat.reduceLeDiff]
            refine ⟨fun hlt => cwp_skip (hK _ _ ?_), fun hge => cwp_exit (toJ ?_)⟩
            · clear hK K
              have hqE : q < E.length := by omega
              have hps := psa p q hpE hqE
              have t1 := (cell_of_heap hh _).trans (hkc p hpE)
              have t2 := (cell_of_heap hh _).trans (hkc q hqE)
              have t3 := (cell_of_heap hh _).trans (hxc p hpE)
              have t4 := (cell_of_heap hh _).trans (hxc q hqE)
              have t5 := (cell_of_heap hh _).trans (hLc p hpE)
              have t6 := (cell_of_heap hh _).trans (hLc q hqE)
              rw [gk p hpE] at t1
              rw [gk q hqE] at t2
              rw [gx p hpE] at t3
              rw [gx q hqE] at t4
              generalize L.getD p 0 = Lp at *
              generalize L.getD q 0 = Lq at *
              generalize E.getD p en0 = Ep at *
              generalize E.getD q en0 = Eq at *
              refine cwp_forget [6, 11, 12, 19, 20] fun ρ hL => ?_
              have g6X := hL 6 (by simp)
              have g11X := hL 11 (by simp)
              have g12X := hL 12 (by simp)
              have g19X := hL 19 (by simp)
              have g20X := hL 20 (by simp)
              clear hL
              simp only [upd_apply, Nat.reduceEqDiff, if_false, if_true, ↓reduceIte, g6, g11, g12, g19, g20] at g6X g11X g12X g19X g20X
              have g6 := g6X
              clear g6X
              have g11 := g11X
              clear g11X
              have g12 := g12X
              clear g12X
              have g19 := g19X
              clear g19X
              have g20 := g20X
              clear g20X
              refine cwp_seq fun K4 hK4 => ?_
              refine cwp_block ?_
              refine cwp_sd Ty.mixed (by kernel_rfl) (fun _ _ _ h => h) fun K9 hK9 => ?_
              have hK5 : ∀ ρ, ρ 6 = .slice (some ⟨lb, lo, none⟩) E.length c6 → ρ 11 = .slice (some ⟨kb, ko, none⟩) E.length c11 → ρ 12 = .slice (some ⟨xb, xo, none⟩) E.length c12 → ρ 19 = .int .i64 (p : Nat) → ρ 20 = .int .i64 (q : Nat) → ρ 21 = .bool (decide (Lp = Lq)) → K9 ρ wr.drew := by
                clear g6 g11 g12 g19 g20
                intro ρ g6 g11 g12 g19 g20 g21
                refine hK9 _ _ ?_
                clear hK9
                have hh : wr.drew.heap = wz.heap := hh
                have hb := hb.drew
                have t5 : wr.drew.cell? _ = _ := t5
                have t6 : wr.drew.cell? _ = _ := t6
                generalize wr.drew = wr at *
                refine cwp_sd Ty.mixed (by kernel_rfl) (fun _ _ _ h => h) fun K9 hK9 => ?_
                refine exD_cut 8 fun K hK => ?_
                simp only [List.take_succ_cons, List.take_zero, exL_plain, exL_guard, exL_nil, fx_move, fx_assign, fx_pick, fx_nilCheck, fx_load, fx_fieldAddr, fx_indexAddr, fx_binOp, fx_not, fx_convert, fx_slice, fx_extract, fx_lookup, fx_build, fx_len, fx_store, fx_alloc, fx_box, fx_makeMap, fx_makeSlice, fx_buildSlice, fx_mapUpdate, fx_append, fx_call, ev_tmp, ev_const, updo_some, updo_none, upd_apply, thenQ_normal, optK_some, optE_some, optE_none, ptrK_mk, intK_mk, boolK_mk, strK_mk, sliceK_mk, addrK_mk, tupK_mk, mapK_mk, sndK_mk, mkK_mk, cvK_int, ldN_zero, ldN_two, ldN_four, ldN_five, binK_add, binK_sub, binK_mul, binK_eql, binK_neq, binK_lss, binK_leq, binK_gtr, binK_geq, binK_seql, binK_sneq, binK_sadd, binK_beql, binK_bneq, binK_peql, binK_pneq, binK_leql, binK_lneq, lenK_slice, lenK_string, ex_slice, ex_pointer, inR_i64, inR_i32, gdK_bool, gdK_undef, Ty.all, Nat.reduceEqDiff, Nat.reduceAdd, Nat.reduceMul, if_false, if_true, ↓reduceIte, true_and, and_true, Int.toNat_natCast, Nat.add_zero, Nat.mul_one, Bool.false_eq_true, decide_eq_true_eq, decide_eq_false_iff_not, Option.isNone_some, Option.isNone_none, Option.isSome_some, Option.isSome_none, List.map_toArray, List.map_cons, List.map_nil, stK_eq, stR_int, stR_bool, stR_string, stR_pointer, stR_slice, exD_plain, exD_guard, exD_nil, stepD_true, stepD_false, needOp, pureOp, Bool.false_or, Bool.true_or, Bool.or_false, Bool.or_true, gval_succ, gval_zero, Bd.s22, Bd.s22b, Bd.s31, Bd.s30, Bd.s30b, Bd.s30e, Bd.s42, Bd.s66, Bd.s67, Bd.b49, Bd.b54, Bd.b79, Bd.b82, Bd.b77, Bd.b86, Bd.b74, decide_true, decide_false, reduceCtorEq, ne_eq, not_true_eq_false, not_false_eq_true, true_implies, false_implies, implies_true, cond_true, cond_false, Bool.not_true, Bool.not_false, stR_agg2, stR_agg4, stR_agg5, one_int, one_bool, one_string, one_pointer, one_slice, one_map, retK_mk, cells_agg, rowAt_alloc, setRow_alloc, ow_four, ow_five, List.getElem_toArray, List.getElem_cons_zero, List.getElem_cons_succ, List.size_toArray, List.length_cons, List.length_nil, Nat.reduceLeDiff, g6, g19, g20, t5, t6]
                repeat (refine ⟨by omega, ?_⟩)
                refine hK _ _ ?_
                clear hK K
                simp only [List.drop_succ_cons, List.drop_zero]
                refine exD_forget [6, 11, 12, 19, 20, 21, 202, 206] fun ρ hL => ?_
                have g6X := hL 6 (by simp)
                have g11X := hL 11 (by simp)
                have g12X := hL 12 (by simp)
                have g19X := hL 19 (by simp)
                have g20X := hL 20 (by simp)
                have g21X := hL 21 (by simp)
                have g202X := hL 202 (by simp)
                have g206X := hL 206 (by simp)
                clear hL
                simp only [upd_apply, Nat.reduceEqDiff, if_false, if_true, ↓reduceIte, g6, g11, g12, g19, g20, g21] at g6X g11X g12X g19X g20X g21X g202X g206X
                have g6 := g6X
                clear g6X
                have g11 := g11X
                clear g11X
                have g12 := g12X
                clear g12X
                have g19 := g19X
                clear g19X
                have g20 := g20X
                clear g20X
                have g21 := g21X
                clear g21X
                have g202 := g202X
                clear g202X
                have g206 := g206X
                clear g206X
                simp only [exL_plain, exL_guard, exL_nil, fx_move, fx_assign, fx_pick, fx_nilCheck, fx_load, fx_fieldAddr, fx_indexAddr, fx_binOp, fx_not, fx_convert, fx_slice, fx_extract, fx_lookup, fx_build, fx_len, fx_store, fx_alloc, fx_box, fx_makeMap, fx_makeSlice, fx_buildSlice, fx_mapUpdate, fx_append, fx_call, ev_tmp, ev_const, updo_some, updo_none, upd_apply, thenQ_normal, optK_some, optE_some, optE_none, ptrK_mk, intK_mk, boolK_mk, strK_mk, sliceK_mk, addrK_mk, tupK_mk, mapK_mk, sndK_mk, mkK_mk, cvK_int, ldN_zero, ldN_two, ldN_four, ldN_five, binK_add, binK_sub, binK_mul, binK_eql, binK_neq, binK_lss, binK_leq, binK_gtr, binK_geq, binK_seql, binK_sneq, binK_sadd, binK_beql, binK_bneq, binK_peql, binK_pneq, binK_leql, binK_lneq, lenK_slice, lenK_string, ex_slice, ex_pointer, inR_i64, inR_i32, gdK_bool, gdK_undef, Ty.all, Nat.reduceEqDiff, Nat.reduceAdd, Nat.reduceMul, if_false, if_true, ↓reduceIte, true_and, and_true, Int.toNat_natCast, Nat.add_zero, Nat.mul_one, Bool.false_eq_true, decide_eq_true_eq, decide_eq_false_iff_not, Option.isNone_some, Option.isNone_none, Option.isSome_some, Option.isSome_none, List.map_toArray, List.map_cons, List.map_nil, stK_eq, stR_int, stR_bool, stR_string, stR_pointer, stR_slice, exD_plain, exD_guard, exD_nil, stepD_true, stepD_false, needOp, pureOp, Bool.false_or, Bool.true_or, Bool.or_false, Bool.or_true, gval_succ, gval_zero, Bd.s22, Bd.s22b, Bd.s31, Bd.s30, Bd.s30b, Bd.s30e, Bd.s42, Bd.s66, Bd.s67, Bd.b49, Bd.b54, Bd.b79, Bd.b82, Bd.b77, Bd.b86, Bd.b74, decide_true, decide_false, reduceCtorEq, ne_eq, not_true_eq_false, not_false_eq_true, true_implies, false_implies, implies_true, cond_true, cond_false, Bool.not_true, Bool.not_false, stR_agg2, stR_agg4, stR_agg5, one_int, one_bool, one_string, one_pointer, one_slice, one_map, retK_mk, cells_agg, rowAt_alloc, setRow_alloc, ow_four, ow_five, List.getElem_toArray, List.getElem_cons_zero, List.getElem_cons_succ, List.size_toArray, List.length_cons, List.length_nil, Nat.reduceLeDiff, g202, g206, g21]
                refine hK9 _ _ ?_
                refine cwp_cond ?_
                simp only [exL_plain, exL_guard, exL_nil, fx_move, fx_assign, fx_pick, fx_nilCheck, fx_load, fx_fieldAddr, fx_indexAddr, fx_binOp, fx_not, fx_convert, fx_slice, fx_extract, fx_lookup, fx_build, fx_len, fx_store, fx_alloc, fx_box, fx_makeMap, fx_makeSlice, fx_buildSlice, fx_mapUpdate, fx_append, fx_call, ev_tmp, ev_const, updo_some, updo_none, upd_apply, thenQ_normal, optK_some, optE_some, optE_none, ptrK_mk, intK_mk, boolK_mk, strK_mk, sliceK_mk, addrK_mk, tupK_mk, mapK_mk, sndK_mk, mkK_mk, cvK_int, ldN_zero, ldN_two, ldN_four, ldN_five, binK_add, binK_sub, binK_mul, binK_eql, binK_neq, binK_lss, binK_leq, binK_gtr, binK_geq, binK_seql, binK_sneq, binK_sadd, binK_beql, binK_bneq, binK_peql, binK_pneq, binK_leql, binK_lneq, lenK_slice, lenK_string, ex_slice, ex_pointer, inR_i64, inR_i32, gdK_bool, gdK_undef, Ty.all, Nat.reduceEqDiff, Nat.reduceAdd, Nat.reduceMul, if_false, if_true, ↓reduceIte, true_and, and_true, Int.toNat_natCast, Nat.add_zero, Nat.mul_one, Bool.false_eq_true, decide_eq_true_eq, decide_eq_false_iff_not, Option.isNone_some, Option.isNone_none, Option.isSome_some, Option.isSome_none, List.map_toArray, List.map_cons, List.map_nil, stK_eq, stR_int, stR_bool, stR_string, stR_pointer, stR_slice, exD_plain, exD_guard, exD_nil, stepD_true, stepD_false, needOp, pureOp, Bool.false_or, Bool.true_or, Bool.or_false, Bool.or_true, gval_succ, gval_zero, Bd.s22, Bd.s22b, Bd.s31, Bd.s30, Bd.s30b, Bd.s30e, Bd.s42, Bd.s66, Bd.s67, Bd.b49, Bd.b54, Bd.b79, Bd.b82, Bd.b77, Bd.b86, Bd.b74, decide_true, decide_false, reduceCtorEq, ne_eq, not_true_eq_false, not_false_eq_true, true_implies, false_implies, implies_true, cond_true, cond_false, Bool.not_true, Bool.not_false, stR_agg2, stR_agg4, stR_agg5, one_int, one_bool, one_string, one_pointer, one_slice, one_map, retK_mk, cells_agg, rowAt_alloc, setRow_alloc, ow_four, ow_five, List.getElem_toArray, List.getElem_cons_zero, List.getElem_cons_succ, List.size_toArray, List.length_cons, List.length_nil, Nat.reduceLeDiff]
                refine cwp_skip ?_
                simp only [blkQ_normal, thenQ_normal]
                refine hK4 _ _ ?_
                refine cwp_forget [6, 11, 12, 19, 20] fun ρ hL => ?_
                have g6X := hL 6 (by simp)
                have g11X := hL 11 (by simp)
                have g12X := hL 12 (by simp)
                have g19X := hL 19 (by simp)
                have g20X := hL 20 (by simp)
                clear hL
                simp only [upd_apply, Nat.reduceEqDiff, if_false, if_true, ↓reduceIte, g6, g11, g12, g19, g20] at g6X g11X g12X g19X g20X
                have g6 := g6X
                clear g6X
                have g11 := g11X
                clear g11X
                have g12 := g12X
                clear g12X
                have g19 := g19X
                clear g19X
                have g20 := g20X
                clear g20X
                refine cwp_region rfl ?_
                simp only [exL_plain, exL_guard, exL_nil, fx_move, fx_assign, fx_pick, fx_nilCheck, fx_load, fx_fieldAddr, fx_indexAddr, fx_binOp, fx_not, fx_convert, fx_slice, fx_extract, fx_lookup, fx_build, fx_len, fx_store, fx_alloc, fx_box, fx_makeMap, fx_makeSlice, fx_buildSlice, fx_mapUpdate, fx_append, fx_call, ev_tmp, ev_const, updo_some, updo_none, upd_apply, thenQ_normal, optK_some, optE_some, optE_none, ptrK_mk, intK_mk, boolK_mk, strK_mk, sliceK_mk, addrK_mk, tupK_mk, mapK_mk, sndK_mk, mkK_mk, cvK_int, ldN_zero, ldN_two, ldN_four, ldN_five, binK_add, binK_sub, binK_mul, binK_eql, binK_neq, binK_lss, binK_leq, binK_gtr, binK_geq, binK_seql, binK_sneq, binK_sadd, binK_beql, binK_bneq, binK_peql, binK_pneq, binK_leql, binK_lneq, lenK_slice, lenK_string, ex_slice, ex_pointer, inR_i64, inR_i32, gdK_bool, gdK_undef, Ty.all, Nat.reduceEqDiff, Nat.reduceAdd, Nat.reduceMul, if_false, if_true, ↓reduceIte, true_and, and_true, Int.toNat_natCast, Nat.add_zero, Nat.mul_one, Bool.false_eq_true, decide_eq_true_eq, decide_eq_false_iff_not, Option.isNone_some, Option.isNone_none, Option.isSome_some, Option.isSome_none, List.map_toArray, List.map_cons, List.map_nil, stK_eq, stR_int, stR_bool, stR_string, stR_pointer, stR_slice, exD_plain, exD_guard, exD_nil, stepD_true, stepD_false, needOp, pureOp, Bool.false_or, Bool.true_or, Bool.or_false, Bool.or_true, gval_succ, gval_zero, Bd.s22, Bd.s22b, Bd.s31, Bd.s30, Bd.s30b, Bd.s30e, Bd.s42, Bd.s66, Bd.s67, Bd.b49, Bd.b54, Bd.b79, Bd.b82, Bd.b77, Bd.b86, Bd.b74, decide_true, decide_false, reduceCtorEq, ne_eq, not_true_eq_false, not_false_eq_true, true_implies, false_implies, implies_true, cond_true, cond_false, Bool.not_true, Bool.not_false, stR_agg2, stR_agg4, stR_agg5, one_int, one_bool, one_string, one_pointer, one_slice, one_map, retK_mk, cells_agg, rowAt_alloc, setRow_alloc, ow_four, ow_five, List.getElem_toArray, List.getElem_cons_zero, List.getElem_cons_succ, List.size_toArray, List.length_cons, List.length_nil, Nat.reduceLeDiff, g20]
                repeat (refine ⟨by omega, ?_⟩)
                refine hK3 _ _ (q + 1) ⟨by omega, by omega, ?_, ?_, ?_, ?_, ?_, hh, hb.drew⟩ (by omega)
                · simp only [exL_plain, exL_guard, exL_nil, fx_move, fx_assign, fx_pick, fx_nilCheck, fx_load, fx_fieldAddr, fx_indexAddr, fx_binOp, fx_not, fx_convert, fx_slice, fx_extract, fx_lookup, fx_build, fx_len, fx_store, fx_alloc, fx_box, fx_makeMap, fx_makeSlice, fx_buildSlice, fx_mapUpdate, fx_append, fx_call, ev_tmp, ev_const, updo_some, updo_none, upd_apply, thenQ_normal, optK_some, optE_some, optE_none, ptrK_mk, intK_mk, boolK_mk, strK_mk, sliceK_mk, addrK_mk, tupK_mk, mapK_mk, sndK_mk, mkK_mk, cvK_int, ldN_zero, ldN_two, ldN_four, ldN_five, binK_add, binK_sub, binK_mul, binK_eql, binK_neq, binK_lss, binK_leq, binK_gtr, binK_geq, binK_seql, binK_sneq, binK_sadd, binK_beql, binK_bneq, binK_peql, binK_pneq, binK_leql, binK_lneq, lenK_slice, lenK_string, ex_slice, ex_pointer, inR_i64, inR_i32, gdK_bool, gdK_undef, Ty.all, Nat.reduceEqDiff, Nat.reduceAdd, Nat.reduceMul, if_false, if_true, ↓reduceIte, true_and, and_true, Int.toNat_natCast, Nat.add_zero, Nat.mul_one, Bool.false_eq_true, decide_eq_true_eq, decide_eq_false_iff_not, Option.isNone_some, Option.isNone_none, Option.isSome_some, Option.isSome_none, List.map_toArray, List.map_cons, List.map_nil, stK_eq, stR_int, stR_bool, stR_string, stR_pointer, stR_slice, exD_plain, exD_guard, exD_nil, stepD_true, stepD_false, needOp, pureOp, Bool.false_or, Bool.true_or, Bool.or_false, Bool.or_true, gval_succ, gval_zero, Bd.s22, Bd.s22b, Bd.s31, Bd.s30, Bd.s30b, Bd.s30e, Bd.s42, Bd.s66, Bd.s67, Bd.b49, Bd.b54, Bd.b79, Bd.b82, Bd.b77, Bd.b86, Bd.b74, decide_true, decide_false, reduceCtorEq, ne_eq, not_true_eq_false, not_false_eq_true, true_implies, false_implies, implies_true, cond_true, cond_false, Bool.not_true, Bool.not_false, stR_agg2, stR_agg4, stR_agg5, one_int, one_bool, one_string, one_pointer, one_slice, one_map, retK_mk, cells_agg, rowAt_alloc, setRow_alloc, ow_four, ow_five, List.getElem_toArray, List.getElem_cons_zero, List.getElem_cons_succ, List.size_toArray, List.length_cons, List.length_nil, Nat.reduceLeDiff, g6]
                · simp only [exL_plain, exL_guard, exL_nil, fx_move, fx_assign, fx_pick, fx_nilCheck, fx_load, fx_fieldAddr, fx_indexAddr, fx_binOp, fx_not, fx_convert, fx_slice, fx_extract, fx_lookup, fx_build, fx_len, fx_store, fx_alloc, fx_box, fx_makeMap, fx_makeSlice, fx_buildSlice, fx_mapUpdate, fx_append, fx_call, ev_tmp, ev_const, updo_some, updo_none, upd_apply, thenQ_normal, optK_some, optE_some, optE_none, ptrK_mk, intK_mk, boolK_mk, strK_mk, sliceK_mk, addrK_mk, tupK_mk, mapK_mk, sndK_mk, mkK_mk, cvK_int, ldN_zero, ldN_two, ldN_four, ldN_five, binK_add, binK_sub, binK_mul, binK_eql, binK_neq, binK_lss, binK_leq, binK_gtr, binK_geq, binK_seql, binK_sneq, binK_sadd, binK_beql, binK_bneq, binK_peql, binK_pneq, binK_leql, binK_lneq, lenK_slice, lenK_string, ex_slice, ex_pointer, inR_i64, inR_i32, gdK_bool, gdK_undef, Ty.all, Nat.reduceEqDiff, Nat.reduceAdd, Nat.reduceMul, if_false, if_true, ↓reduceIte, true_and, and_true, Int.toNat_natCast, Nat.add_zero, Nat.mul_one, Bool.false_eq_true, decide_eq_true_eq, decide_eq_false_iff_not, Option.isNone_some, Option.isNone_none, Option.isSome_some, Option.isSome_none, List.map_toArray, List.map_cons, List.map_nil, stK_eq, stR_int, stR_bool, stR_string, stR_pointer, stR_slice, exD_plain, exD_guard, exD_nil, stepD_true, stepD_false, needOp, pureOp, Bool.false_or, Bool.true_or, Bool.or_false, Bool.or_true, gval_succ, gval_zero, Bd.s22, Bd.s22b, Bd.s31, Bd.s30, Bd.s30b, Bd.s30e, Bd.s42, Bd.s66, Bd.s67, Bd.b49, Bd.b54, Bd.b79, Bd.b82, Bd.b77, Bd.b86, Bd.b74, decide_true, decide_false, reduceCtorEq, ne_eq, not_true_eq_false, not_false_eq_true, true_implies, false_implies, implies_true, cond_true, cond_false, Bool.not_true, Bool.not_false, stR_agg2, stR_agg4, stR_agg5, one_int, one_bool, one_string, one_pointer, one_slice, one_map, retK_mk, cells_agg, rowAt_alloc, setRow_alloc, ow_four, ow_five, List.getElem_toArray, List.getElem_cons_zero, List.getElem_cons_succ, List.size_toArray, List.length_cons, List.length_nil, Nat.reduceLeDiff, g11]
                · simp only [exL_plain, exL_guard, exL_nil, fx_move, fx_assign, fx_pick, fx_nilCheck, fx_load, fx_fieldAddr, fx_indexAddr, fx_binOp, fx_not, fx_convert, fx_slice, fx_extract, fx_lookup, fx_build, fx_len, fx_store, fx_alloc, fx_box, fx_makeMap, fx_makeSlice, fx_buildSlice, fx_mapUpdate, fx_append, fx_call, ev_tmp, ev_const, updo_some, updo_none, upd_apply, thenQ_normal, optK_some, optE_some, optE_none, ptrK_mk, intK_mk, boolK_mk, strK_mk, sliceK_mk, addrK_mk, tupK_mk, mapK_mk, sndK_mk, mkK_mk, cvK_int, ldN_zero, ldN_two, ldN_four, ldN_five, binK_add, binK_sub, binK_mul, binK_eql, binK_neq, binK_lss, binK_leq, binK_gtr, binK_geq, binK_seql, binK_sneq, binK_sadd, binK_beql, binK_bneq, binK_peql, binK_pneq, binK_leql, binK_lneq, lenK_slice, lenK_string, ex_slice, ex_pointer, inR_i64, inR_i32, gdK_bool, gdK_undef, Ty.all, Nat.reduceEqDiff, Nat.reduceAdd, Nat.reduceMul, if_false, if_true, ↓reduceIte, true_and, and_true, Int.toNat_natCast, Nat.add_zero, Nat.mul_one, Bool.false_eq_true, decide_eq_true_eq, decide_eq_false_iff_not, Option.isNone_some, Option.isNone_none, Option.isSome_some, Option.isSome_none, List.map_toArray, List.map_cons, List.map_nil, stK_eq, stR_int, stR_bool, stR_string, stR_pointer, stR_slice, exD_plain, exD_guard, exD_nil, stepD_true, stepD_false, needOp, pureOp, Bool.false_or, Bool.true_or, Bool.or_false, Bool.or_true, gval_succ, gval_zero, Bd.s22, Bd.s22b, Bd.s31, Bd.s30, Bd.s30b, Bd.s30e, Bd.s42, Bd.s66, Bd.s67, Bd.b49, Bd.b54, Bd.b79, Bd.b82, Bd.b77, Bd.b86, Bd.b74, decide_true, decide_false, reduceCtorEq, ne_eq, not_true_eq_false, not_false_eq_true, true_implies, false_implies, implies_true, cond_true, cond_false, Bool.not_true, Bool.not_false, stR_agg2, stR_agg4, stR_agg5, one_int, one_bool, one_string, one_pointer, one_slice, one_map, retK_mk, cells_agg, rowAt_alloc, setRow_alloc, ow_four, ow_five, List.getElem_toArray, List.getElem_cons_zero, List.getElem_cons_succ, List.size_toArray, List.length_cons, List.length_nil, Nat.reduceLeDiff, g12]
                · simp only [exL_plain, exL_guard, exL_nil, fx_move, fx_assign, fx_pick, fx_nilCheck, fx_load, fx_fieldAddr, fx_indexAddr, fx_binOp, fx_not, fx_convert, fx_slice, fx_extract, fx_lookup, fx_build, fx_len, fx_store, fx_alloc, fx_box, fx_makeMap, fx_makeSlice, fx_buildSlice, fx_mapUpdate, fx_append, fx_call, ev_tmp, ev_const, updo_some, updo_none, upd_apply, thenQ_normal, optK_some, optE_some, optE_none, ptrK_mk, intK_mk, boolK_mk, strK_mk, sliceK_mk, addrK_mk, tupK_mk, mapK_mk, sndK_mk, mkK_mk, cvK_int, ldN_zero, ldN_two, ldN_four, ldN_five, binK_add, binK_sub, binK_mul, binK_eql, binK_neq, binK_lss, binK_leq, binK_gtr, binK_geq, binK_seql, binK_sneq, binK_sadd, binK_beql, binK_bneq, binK_peql, binK_pneq, binK_leql, binK_lneq, lenK_slice, lenK_string, ex_slice, ex_pointer, inR_i64, inR_i32, gdK_bool, gdK_undef, Ty.all, Nat.reduceEqDiff, Nat.reduceAdd, Nat.reduceMul, if_false, if_true, ↓reduceIte, true_and, and_true, Int.toNat_natCast, Nat.add_zero, Nat.mul_one, Bool.false_eq_true, decide_eq_true_eq, decide_eq_false_iff_not, Option.isNone_some, Option.isNone_none, Option.isSome_some, Option.isSome_none, List.map_toArray, List.map_cons, List.map_nil, stK_eq, stR_int, stR_bool, stR_string, stR_pointer, stR_slice, exD_plain, exD_guard, exD_nil, stepD_true, stepD_false, needOp, pureOp, Bool.false_or, Bool.true_or, Bool.or_false, Bool.or_true, gval_succ, gval_zero, Bd.s22, Bd.s22b, Bd.s31, Bd.s30, Bd.s30b, Bd.s30e, Bd.s42, Bd.s66, Bd.s67, Bd.b49, Bd.b54, Bd.b79, Bd.b82, Bd.b77, Bd.b86, Bd.b74, decide_true, decide_false, reduceCtorEq, ne_eq, not_true_eq_false, not_false_eq_true, true_implies, false_implies, implies_true, cond_true, cond_false, Bool.not_true, Bool.not_false, stR_agg2, stR_agg4, stR_agg5, one_int, one_bool, one_string, one_pointer, one_slice, one_map, retK_mk, cells_agg, rowAt_alloc, setRow_alloc, ow_four, ow_five, List.getElem_toArray, List.getElem_cons_zero, List.getElem_cons_succ, List.size_toArray, List.length_cons, List.length_nil, Nat.reduceLeDiff, g19]
                · simp only [exL_plain, exL_guard, exL_nil, fx_move, fx_assign, fx_pick, fx_nilCheck, fx_load, fx_fieldAddr, fx_indexAddr, fx_binOp, fx_not, fx_convert, fx_slice, fx_extract, fx_lookup, fx_build, fx_len, fx_store, fx_alloc, fx_box, fx_makeMap, fx_makeSlice, fx_buildSlice, fx_mapUpdate, fx_append, fx_call, ev_tmp, ev_const, updo_some, updo_none, upd_apply, thenQ_normal, optK_some, optE_some, optE_none, ptrK_mk, intK_mk, boolK_mk, strK_mk, sliceK_mk, addrK_mk, tupK_mk, mapK_mk, sndK_mk, mkK_mk, cvK_int, ldN_zero, ldN_two, ldN_four, ldN_five, binK_add, binK_sub, binK_mul, binK_eql, binK_neq, binK_lss, binK_leq, binK_gtr, binK_geq, binK_seql, binK_sneq, binK_sadd, binK_beql, binK_bneq, binK_peql, binK_pneq, binK_leql, binK_lneq, lenK_slice, lenK_string, ex_slice, ex_pointer, inR_i64, inR_i32, gdK_bool, gdK_undef, Ty.all, Nat.reduceEqDiff, Nat.reduceAdd, Nat.reduceMul, if_false, if_true, ↓reduceIte, true_and, and_true, Int.toNat_natCast, Nat.add_zero, Nat.mul_one, Bool.false_eq_true, decide_eq_true_eq, decide_eq_false_iff_not, Option.isNone_some, Option.isNone_none, Option.isSome_some, Option.isSome_none, List.map_toArray, List.map_cons, List.map_nil, stK_eq, stR_int, stR_bool, stR_string, stR_pointer, stR_slice, exD_plain, exD_guard, exD_nil, stepD_true, stepD_false, needOp, pureOp, Bool.false_or, Bool.true_or, Bool.or_false, Bool.or_true, gval_succ, gval_zero, Bd.s22, Bd.s22b, Bd.s31, Bd.s30, Bd.s30b, Bd.s30e, Bd.s42, Bd.s66, Bd.s67, Bd.b49, Bd.b54, Bd.b79, Bd.b82, Bd.b77, Bd.b86, Bd.b74, decide_true, decide_false, reduceCtorEq, ne_eq, not_true_eq_false, not_false_eq_true, true_implies, false_implies, implies_true, cond_true, cond_false, Bool.not_true, Bool.not_false, stR_agg2, stR_agg4, stR_agg5, one_int, one_bool, one_string, one_pointer, one_slice, one_map, retK_mk, cells_agg, rowAt_alloc, setRow_alloc, ow_four, ow_five, List.getElem_toArray, List.getElem_cons_zero, List.getElem_cons_succ, List.size_toArray, List.length_cons, List.length_nil, Nat.reduceLeDiff]
                  rfl
              clear hK9 hK4 hK3
              refine exD_abs fun ops H => ?_
              have v9 : ∀ ρ, gval ops ρ 9 = ρ 188 := fun ρ => (H ρ 9).trans rfl
              clear H
              refine exD_cut 8 fun K hK => ?_
              simp only [List.take_succ_cons, List.take_zero, exL_plain, exL_nil, fx_move, fx_assign, fx_pick, fx_nilCheck, fx_load, fx_fieldAddr, fx_indexAddr, fx_binOp, fx_not, fx_convert, fx_slice, fx_extract, fx_lookup, fx_build, fx_len, fx_store, fx_alloc, fx_box, fx_makeMap, fx_makeSlice, fx_buildSlice, fx_mapUpdate, fx_append, fx_call, ev_tmp, ev_const, updo_some, updo_none, upd_apply, thenQ_normal, optK_some, optE_some, optE_none, ptrK_mk, intK_mk, boolK_mk, strK_mk, sliceK_mk, addrK_mk, tupK_mk, mapK_mk, sndK_mk, mkK_mk, cvK_int, ldN_zero, ldN_two, ldN_four, ldN_five, binK_add, binK_sub, binK_mul, binK_eql, binK_neq, binK_lss, binK_leq, binK_gtr, binK_geq, binK_seql, binK_sneq, binK_sadd, binK_beql, binK_bneq, binK_peql, binK_pneq, binK_leql, binK_lneq, lenK_slice, lenK_string, ex_slice, ex_pointer, inR_i64, inR_i32, gdK_bool, gdK_undef, Ty.all, Nat.reduceEqDiff, Nat.reduceAdd, Nat.reduceMul, if_false, if_true, ↓reduceIte, true_and, and_true, Int.toNat_natCast, Nat.add_zero, Nat.mul_one, Bool.false_eq_true, decide_eq_true_eq, decide_eq_false_iff_not, Option.isNone_some, Option.isNone_none, Option.isSome_some, Option.isSome_none, List.map_toArray, List.map_cons, List.map_nil, stK_eq, stR_int, stR_bool, stR_string, stR_pointer, stR_slice, exD_plain, exD_nil, stepD_true, stepD_false, needOp, pureOp, Bool.false_or, Bool.true_or, Bool.or_false, Bool.or_true, gval_succ, gval_zero, Bd.s22, Bd.s22b, Bd.s31, Bd.s30, Bd.s30b, Bd.s30e, Bd.s42, Bd.s66, Bd.s67, Bd.b49, Bd.b54, Bd.b79, Bd.b82, Bd.b77, Bd.b86, Bd.b74, decide_true, decide_false, reduceCtorEq, ne_eq, not_true_eq_false, not_false_eq_true, true_implies, false_implies, implies_true, cond_true, cond_false, Bool.not_true, Bool.not_false, stR_agg2, stR_agg4, stR_agg5, one_int, one_bool, one_string, one_pointer, one_slice, one_map, retK_mk, cells_agg, rowAt_alloc, setRow_alloc, ow_four, ow_five, List.getElem_toArray, List.getElem_cons_zero, List.getElem_cons_succ, List.size_toArray, List.length_cons, List.length_nil, Nat.reduceLeDiff, exD_gT, exD_gTs, exD_gTu, exD_gF, exD_gFs, exD_gFu, exL_gT, exL_gTs, exL_gTu, exL_gF, exL_gFs, exL_gFu, g11, g19, g20, t1, t2]
              repeat (refine ⟨by omega, ?_⟩)
              refine hK _ _ ?_
              clear hK K
              simp only [List.drop_succ_cons, List.drop_zero]
              refine exD_forget [6, 11, 12, 19, 20, 182, 186] fun ρ hL => ?_
              have g6X := hL 6 (by simp)
              have g11X := hL 11 (by simp)
              have g12X := hL 12 (by simp)
              have g19X := hL 19 (by simp)
              have g20X := hL 20 (by simp)
              have g182X := hL 182 (by simp)
              have g186X := hL 186 (by simp)
              clear hL
              simp only [upd_apply, Nat.reduceEqDiff, if_false, if_true, ↓reduceIte, g6, g11, g12, g19, g20] at g6X g11X g12X g19X g20X g182X g186X
              have g6 := g6X
              clear g6X
              have g11 := g11X
              clear g11X
              have g12 := g12X
              clear g12X
              have g19 := g19X
              clear g19X
              have g20 := g20X
              clear g20X
              have g182 := g182X
              clear g182X
              have g186 := g186X
              clear g186X
              by_cases hk1 : Ep.2.1 = Eq.2.1
              · refine exD_cut 2 fun K hK => ?_
                simp only [List.take_succ_cons, List.take_zero, exL_plain, exL_nil, fx_move, fx_assign, fx_pick, fx_nilCheck, fx_load, fx_fieldAddr, fx_indexAddr, fx_binOp, fx_not, fx_convert, fx_slice, fx_extract, fx_lookup, fx_build, fx_len, fx_store, fx_alloc, fx_box, fx_makeMap, fx_makeSlice, fx_buildSlice, fx_mapUpdate, fx_append, fx_call, ev_tmp, ev_const, updo_some, updo_none, upd_apply, thenQ_normal, optK_some, optE_some, optE_none, ptrK_mk, intK_mk, boolK_mk, strK_mk, sliceK_mk, addrK_mk, tupK_mk, mapK_mk, sndK_mk, mkK_mk, cvK_int, ldN_zero, ldN_two, ldN_four, ldN_five, binK_add, binK_sub, binK_mul, binK_eql, binK_neq, binK_lss, binK_leq, binK_gtr, binK_geq, binK_seql, binK_sneq, binK_sadd, binK_beql, binK_bneq, binK_peql, binK_pneq, binK_leql, binK_lneq, lenK_slice, lenK_string, ex_slice, ex_pointer, inR_i64, inR_i32, gdK_bool, gdK_undef, Ty.all, Nat.reduceEqDiff, Nat.reduceAdd, Nat.reduceMul, if_false, if_true, ↓reduceIte, true_and, and_true, Int.toNat_natCast, Nat.add_zero, Nat.mul_one, Bool.false_eq_true, decide_eq_true_eq, decide_eq_false_iff_not, Option.isNone_some, Option.isNone_none, Option.isSome_some, Option.isSome_none, List.map_toArray, List.map_cons, List.map_nil, stK_eq, stR_int, stR_bool, stR_string, stR_pointer, stR_slice, exD_plain, exD_nil, stepD_true, stepD_false, needOp, pureOp, Bool.false_or, Bool.true_or, Bool.or_false, Bool.or_true, gval_succ, gval_zero, Bd.s22, Bd.s22b, Bd.s31, Bd.s30, Bd.s30b, Bd.s30e, Bd.s42, Bd.s66, Bd.s67, Bd.b49, Bd.b54, Bd.b79, Bd.b82, Bd.b77, Bd.b86, Bd.b74, decide_true, decide_false, reduceCtorEq, ne_eq, not_true_eq_false, not_false_eq_true, true_implies, false_implies, implies_true, cond_true, cond_false, Bool.not_true, Bool.not_false, stR_agg2, stR_agg4, stR_agg5, one_int, one_bool, one_string, one_pointer, one_slice, one_map, retK_mk, cells_agg, rowAt_alloc, setRow_alloc, ow_four, ow_five, List.getElem_toArray, List.getElem_cons_zero, List.getElem_cons_succ, List.size_toArray, List.length_cons, List.length_nil, Nat.reduceLeDiff, exD_gT, exD_gTs, exD_gTu, exD_gF, exD_gFs, exD_gFu, exL_gT, exL_gTs, exL_gTu, exL_gF, exL_gFs, exL_gFu, g182, g186, hk1]
                repeat (refine ⟨by omega, ?_⟩)
                refine hK _ _ ?_
                clear hK K
                simp only [List.drop_succ_cons, List.drop_zero]
                refine exD_forget [6, 11, 12, 19, 20, 188] fun ρ hL => ?_
                have g6X := hL 6 (by simp)
                have g11X := hL 11 (by simp)
                have g12X := hL 12 (by simp)
                have g19X := hL 19 (by simp)
                have g20X := hL 20 (by simp)
                have g188X := hL 188 (by simp)
                clear hL
                simp only [upd_apply, Nat.reduceEqDiff, if_false, if_true, ↓reduceIte, g6, g11, g12, g19, g20] at g6X g11X g12X g19X g20X g188X
                have g6 := g6X
                clear g6X
                have g11 := g11X
                clear g11X
                have g12 := g12X
                clear g12X
                have g19 := g19X
                clear g19X
                have g20 := g20X
                clear g20X
                have g188 := g188X
                clear g188X
                refine exD_cut 8 fun K hK => ?_
                simp only [List.take_succ_cons, List.take_zero, exL_plain, exL_nil, fx_move, fx_assign, fx_pick, fx_nilCheck, fx_load, fx_fieldAddr, fx_indexAddr, fx_binOp, fx_not, fx_convert, fx_slice, fx_extract, fx_lookup, fx_build, fx_len, fx_store, fx_alloc, fx_box, fx_makeMap, fx_makeSlice, fx_buildSlice, fx_mapUpdate, fx_append, fx_call, ev_tmp, ev_const, updo_some, updo_none, upd_apply, thenQ_normal, optK_some, optE_some, optE_none, ptrK_mk, intK_mk, boolK_mk, strK_mk, sliceK_mk, addrK_mk, tupK_mk, mapK_mk, sndK_mk, mkK_mk, cvK_int, ldN_zero, ldN_two, ldN_four, ldN_five, binK_add, binK_sub, binK_mul, binK_eql, binK_neq, binK_lss, binK_leq, binK_gtr, binK_geq, binK_seql, binK_sneq, binK_sadd, binK_beql, binK_bneq, binK_peql, binK_pneq, binK_leql, binK_lneq, lenK_slice, lenK_string, ex_slice, ex_pointer, inR_i64, inR_i32, gdK_bool, gdK_undef, Ty.all, Nat.reduceEqDiff, Nat.reduceAdd, Nat.reduceMul, if_false, if_true, ↓reduceIte, true_and, and_true, Int.toNat_natCast, Nat.add_zero, Nat.mul_one, Bool.false_eq_true, decide_eq_true_eq, decide_eq_false_iff_not, Option.isNone_some, Option.isNone_none, Option.isSome_some, Option.isSome_none, List.map_toArray, List.map_cons, List.map_nil, stK_eq, stR_int, stR_bool, stR_string, stR_pointer, stR_slice, exD_plain, exD_nil, stepD_true, stepD_false, needOp, pureOp, Bool.false_or, Bool.true_or, Bool.or_false, Bool.or_true, gval_succ, gval_zero, Bd.s22, Bd.s22b, Bd.s31, Bd.s30, Bd.s30b, Bd.s30e, Bd.s42, Bd.s66, Bd.s67, Bd.b49, Bd.b54, Bd.b79, Bd.b82, Bd.b77, Bd.b86, Bd.b74, decide_true, decide_false, reduceCtorEq, ne_eq, not_true_eq_false, not_false_eq_true, true_implies, false_implies, implies_true, cond_true, cond_false, Bool.not_true, Bool.not_false, stR_agg2, stR_agg4, stR_agg5, one_int, one_bool, one_string, one_pointer, one_slice, one_map, retK_mk, cells_agg, rowAt_alloc, setRow_alloc, ow_four, ow_five, List.getElem_toArray, List.getElem_cons_zero, List.getElem_cons_succ, List.size_toArray, List.length_cons, List.length_nil, Nat.reduceLeDiff, exD_gT, exD_gTs, exD_gTu, exD_gF, exD_gFs, exD_gFu, exL_gT, exL_gTs, exL_gTu, exL_gF, exL_gFs, exL_gFu, v9, g188, g12, g19, g20, t3, t4]
                repeat (refine ⟨by omega, ?_⟩)
                refine hK _ _ ?_
                clear hK K
                simp only [List.drop_succ_cons, List.drop_zero]
                refine exD_forget [6, 11, 12, 19, 20, 188, 192, 196] fun ρ hL => ?_
                have g6X := hL 6 (by simp)
                have g11X := hL 11 (by simp)
                have g12X := hL 12 (by simp)
                have g19X := hL 19 (by simp)
                have g20X := hL 20 (by simp)
                have g188X := hL 188 (by simp)
                have g192X := hL 192 (by simp)
                have g196X := hL 196 (by simp)
                clear hL
                simp only [upd_apply, Nat.reduceEqDiff, if_false, if_true, ↓reduceIte, g6, g11, g12, g19, g20, g188] at g6X g11X g12X g19X g20X g188X g192X g196X
                have g6 := g6X
                clear g6X
                have g11 := g11X
                clear g11X
                have g12 := g12X
                clear g12X
                have g19 := g19X
                clear g19X
                have g20 := g20X
                clear g20X
                have g188 := g188X
                clear g188X
                have g192 := g192X
                clear g192X
                have g196 := g196X
                clear g196X
                by_cases hx1 : Ep.2.2 = Eq.2.2
                · have hd : decide (Lp = Lq) = true := by rw [decide_eq_true_eq]; exact hps.2 ⟨hk1, hx1⟩
                  rw [hd] at hK5
                  simp only [exL_plain, exL_nil, fx_move, fx_assign, fx_pick, fx_nilCheck, fx_load, fx_fieldAddr, fx_indexAddr, fx_binOp, fx_not, fx_convert, fx_slice, fx_extract, fx_lookup, fx_build, fx_len, fx_store, fx_alloc, fx_box, fx_makeMap, fx_makeSlice, fx_buildSlice, fx_mapUpdate, fx_append, fx_call, ev_tmp, ev_const, updo_some, updo_none, upd_apply, thenQ_normal, optK_some, optE_some, optE_none, ptrK_mk, intK_mk, boolK_mk, strK_mk, sliceK_mk, addrK_mk, tupK_mk, mapK_mk, sndK_mk, mkK_mk, cvK_int, ldN_zero, ldN_two, ldN_four, ldN_five, binK_add, binK_sub, binK_mul, binK_eql, binK_neq, binK_lss, binK_leq, binK_gtr, binK_geq, binK_seql, binK_sneq, binK_sadd, binK_beql, binK_bneq, binK_peql, binK_pneq, binK_leql, binK_lneq, lenK_slice, lenK_string, ex_slice, ex_pointer, inR_i64, inR_i32, gdK_bool, gdK_undef, Ty.all, Nat.reduceEqDiff, Nat.reduceAdd, Nat.reduceMul, if_false, if_true, ↓reduceIte, true_and, and_true, Int.toNat_natCast, Nat.add_zero, Nat.mul_one, Bool.false_eq_true, decide_eq_true_eq, decide_eq_false_iff_not, Option.isNone_some, Option.isNone_none, Option.isSome_some, Option.isSome_none, List.map_toArray, List.map_cons, List.map_nil, stK_eq, stR_int, stR_bool, stR_string, stR_pointer, stR_slice, exD_plain, exD_nil, stepD_true, stepD_false, needOp, pureOp, Bool.false_or, Bool.true_or, Bool.or_false, Bool.or_true, gval_succ, gval_zero, Bd.s22, Bd.s22b, Bd.s31, Bd.s30, Bd.s30b, Bd.s30e, Bd.s42, Bd.s66, Bd.s67, Bd.b49, Bd.b54, Bd.b79, Bd.b82, Bd.b77, Bd.b86, Bd.b74, decide_true, decide_false, reduceCtorEq, ne_eq, not_true_eq_false, not_false_eq_true, true_implies, false_implies, implies_true, cond_true, cond_false, Bool.not_true, Bool.not_false, stR_agg2, stR_agg4, stR_agg5, one_int, one_bool, one_string, one_pointer, one_slice, one_map, retK_mk, cells_agg, rowAt_alloc, setRow_alloc, ow_four, ow_five, List.getElem_toArray, List.getElem_cons_zero, List.getElem_cons_succ, List.size_toArray, List.length_cons, List.length_nil, Nat.reduceLeDiff, exD_gT, exD_gTs, exD_gTu, exD_gF, exD_gFs, exD_gFu, exL_gT, exL_gTs, exL_gTu, exL_gF, exL_gFs, exL_gFu, v9, g188, g192, g196, hx1]
                  refine hK5 _ ?_ ?_ ?_ ?_ ?_ ?_
                  · simp only [exL_plain, exL_guard, exL_nil, fx_move, fx_assign, fx_pick, fx_nilCheck, fx_load, fx_fieldAddr, fx_indexAddr, fx_binOp, fx_not, fx_convert, fx_slice, fx_extract, fx_lookup, fx_build, fx_len, fx_store, fx_alloc, fx_box, fx_makeMap, fx_makeSlice, fx_buildSlice, fx_mapUpdate, fx_append, fx_call, ev_tmp, ev_const, updo_some, updo_none, upd_apply, thenQ_normal, optK_some, optE_some, optE_none, ptrK_mk, intK_mk, boolK_mk, strK_mk, sliceK_mk, addrK_mk, tupK_mk, mapK_mk, sndK_mk, mkK_mk, cvK_int, ldN_zero, ldN_two, ldN_four, ldN_five, binK_add, binK_sub, binK_mul, binK_eql, binK_neq, binK_lss, binK_leq, binK_gtr, binK_geq, binK_seql, binK_sneq, binK_sadd, binK_beql, binK_bneq, binK_peql, binK_pneq, binK_leql, binK_lneq, lenK_slice, lenK_string, ex_slice, ex_pointer, inR_i64, inR_i32, gdK_bool, gdK_undef, Ty.all, Nat.reduceEqDiff, Nat.reduceAdd, Nat.reduceMul, if_false, if_true, ↓reduceIte, true_and, and_true, Int.toNat_natCast, Nat.add_zero, Nat.mul_one, Bool.false_eq_true, decide_eq_true_eq, decide_eq_false_iff_not, Option.isNone_some, Option.isNone_none, Option.isSome_some, Option.isSome_none, List.map_toArray, List.map_cons, List.map_nil, stK_eq, stR_int, stR_bool, stR_string, stR_pointer, stR_slice, exD_plain, exD_guard, exD_nil, stepD_true, stepD_false, needOp, pureOp, Bool.false_or, Bool.true_or, Bool.or_false, Bool.or_true, gval_succ, gval_zero, Bd.s22, Bd.s22b, Bd.s31, Bd.s30, Bd.s30b, Bd.s30e, Bd.s42, Bd.s66, Bd.s67, Bd.b49, Bd.b54, Bd.b79, Bd.b82, Bd.b77, Bd.b86, Bd.b74, decide_true, decide_false, reduceCtorEq, ne_eq, not_true_eq_false, not_false_eq_true, true_implies, false_implies, implies_true, cond_true, cond_false, Bool.not_true, Bool.not_false, stR_agg2, stR_agg4, stR_agg5, one_int, one_bool, one_string, one_pointer, one_slice, one_map, retK_mk, cells_agg, rowAt_alloc, setRow_alloc, ow_four, ow_five, List.getElem_toArray, List.getElem_cons_zero, List.getElem_cons_succ, List.size_toArray, List.length_cons, List.length_nil, Nat.reduceLeDiff, g6]
                  · simp only [exL_plain, exL_guard, exL_nil, fx_move, fx_assign, fx_pick, fx_nilCheck, fx_load, fx_fieldAddr, fx_indexAddr, fx_binOp, fx_not, fx_convert, fx_slice, fx_extract, fx_lookup, fx_build, fx_len, fx_store, fx_alloc, fx_box, fx_makeMap, fx_makeSlice, fx_buildSlice, fx_mapUpdate, fx_append, fx_call, ev_tmp, ev_const, updo_some, updo_none, upd_apply, thenQ_normal, optK_some, optE_some, optE_none, ptrK_mk, intK_mk, boolK_mk, strK_mk, sliceK_mk, addrK_mk, tupK_mk, mapK_mk, sndK_mk, mkK_mk, cvK_int, ldN_zero, ldN_two, ldN_four, ldN_five, binK_add, binK_sub, binK_mul, binK_eql, binK_neq, binK_lss, binK_leq, binK_gtr, binK_geq, binK_seql, binK_sneq, binK_sadd, binK_beql, binK_bneq, binK_peql, binK_pneq, binK_leql, binK_lneq, lenK_slice, lenK_string, ex_slice, ex_pointer, inR_i64, inR_i32, gdK_bool, gdK_undef, Ty.all, Nat.reduceEqDiff, Nat.reduceAdd, Nat.reduceMul, if_false, if_true, ↓reduceIte, true_and, and_true, Int.toNat_natCast, Nat.add_zero, Nat.mul_one, Bool.false_eq_true, decide_eq_true_eq, decide_eq_false_iff_not, Option.isNone_some, Option.isNone_none, Option.isSome_some, Option.isSome_none, List.map_toArray, List.map_cons, List.map_nil, stK_eq, stR_int, stR_bool, stR_string, stR_pointer, stR_slice, exD_plain, exD_guard, exD_nil, stepD_true, stepD_false, needOp, pureOp, Bool.false_or, Bool.true_or, Bool.or_false, Bool.or_true, gval_succ, gval_zero, Bd.s22, Bd.s22b, Bd.s31, Bd.s30, Bd.s30b, Bd.s30e, Bd.s42, Bd.s66, Bd.s67, Bd.b49, Bd.b54, Bd.b79, Bd.b82, Bd.b77, Bd.b86, Bd.b74, decide_true, decide_false, reduceCtorEq, ne_eq, not_true_eq_false, not_false_eq_true, true_implies, false_implies, implies_true, cond_true, cond_false, Bool.not_true, Bool.not_false, stR_agg2, stR_agg4, stR_agg5, one_int, one_bool, one_string, one_pointer, one_slice, one_map, retK_mk, cells_agg, rowAt_alloc, setRow_alloc, ow_four, ow_five, List.getElem_toArray, List.getElem_cons_zero, List.getElem_cons_succ, List.size_toArray, List.length_cons, List.length_nil, Nat.reduceLeDiff, g11]
                  · simp only [exL_plain, exL_guard, exL_nil, fx_move, fx_assign, fx_pick, fx_nilCheck, fx_load, fx_fieldAddr, fx_indexAddr, fx_binOp, fx_not, fx_convert, fx_slice, fx_extract, fx_lookup, fx_build, fx_len, fx_store, fx_alloc, fx_box, fx_makeMap, fx_makeSlice, fx_buildSlice, fx_mapUpdate, fx_append, fx_call, ev_tmp, ev_const, updo_some, updo_none, upd_apply, thenQ_normal, optK_some, optE_some, optE_none, ptrK_mk, intK_mk, boolK_mk, strK_mk, sliceK_mk, addrK_mk, tupK_mk, mapK_mk, sndK_mk, mkK_mk, cvK_int, ldN_zero, ldN_two, ldN_four, ldN_five, binK_add, binK_sub, binK_mul, binK_eql, binK_neq, binK_lss, binK_leq, binK_gtr, binK_geq, binK_seql, binK_sneq, binK_sadd, binK_beql, binK_bneq, binK_peql, binK_pneq, binK_leql, binK_lneq, lenK_slice, lenK_string, ex_slice, ex_pointer, inR_i64, inR_i32, gdK_bool, gdK_undef, Ty.all, Nat.reduceEqDiff, Nat.reduceAdd, Nat.reduceMul, if_false, if_true, ↓reduceIte, true_and, and_true, Int.toNat_natCast, Nat.add_zero, Nat.mul_one, Bool.false_eq_true, decide_eq_true_eq, decide_eq_false_iff_not, Option.isNone_some, Option.isNone_none, Option.isSome_some, Option.isSome_none, List.map_toArray, List.map_cons, List.map_nil, stK_eq, stR_int, stR_bool, stR_string, stR_pointer, stR_slice, exD_plain, exD_guard, exD_nil, stepD_true, stepD_false, needOp, pureOp, Bool.false_or, Bool.true_or, Bool.or_false, Bool.or_true, gval_succ, gval_zero, Bd.s22, Bd.s22b, Bd.s31, Bd.s30, Bd.s30b, Bd.s30e, Bd.s42, Bd.s66, Bd.s67, Bd.b49, Bd.b54, Bd.b79, Bd.b82, Bd.b77, Bd.b86, Bd.b74, decide_true, decide_false, reduceCtorEq, ne_eq, not_true_eq_false, not_false_eq_true, true_implies, false_implies, implies_true, cond_true, cond_false, Bool.not_true, Bool.not_false, stR_agg2, stR_agg4, stR_agg5, one_int, one_bool, one_string, one_pointer, one_slice, one_map, retK_mk, cells_agg, rowAt_alloc, setRow_alloc, ow_four, ow_five, List.getElem_toArray, List.getElem_cons_zero, List.getElem_cons_succ, List.size_toArray, List.length_cons, List.length_nil, Nat.reduceLeDiff, g12]
                  · simp only [exL_plain, exL_guard, exL_nil, fx_move, fx_assign, fx_pick, fx_nilCheck, fx_load, fx_fieldAddr, fx_indexAddr, fx_binOp, fx_not, fx_convert, fx_slice, fx_extract, fx_lookup, fx_build, fx_len, fx_store, fx_alloc, fx_box, fx_makeMap, fx_makeSlice, fx_buildSlice, fx_mapUpdate, fx_append, fx_call, ev_tmp, ev_const, updo_some, updo_none, upd_apply, thenQ_normal, optK_some, optE_some, optE_none, ptrK_mk, intK_mk, boolK_mk, strK_mk, sliceK_mk, addrK_mk, tupK_mk, mapK_mk, sndK_mk, mkK_mk, cvK_int, ldN_zero, ldN_two, ldN_four, ldN_five, binK_add, binK_sub, binK_mul, binK_eql, binK_neq, binK_lss, binK_leq, binK_gtr, binK_geq, binK_seql, binK_sneq, binK_sadd, binK_beql, binK_bneq, binK_peql, binK_pneq, binK_leql, binK_lneq, lenK_slice, lenK_string, ex_slice, ex_pointer, inR_i64, inR_i32, gdK_bool, gdK_undef, Ty.all, Nat.reduceEqDiff, Nat.reduceAdd, Nat.reduceMul, if_false, if_true, ↓reduceIte, true_and, and_true, Int.toNat_natCast, Nat.add_zero, Nat.mul_one, Bool.false_eq_true, decide_eq_true_eq, decide_eq_false_iff_not, Option.isNone_some, Option.isNone_none, Option.isSome_some, Option.isSome_none, List.map_toArray, List.map_cons, List.map_nil, stK_eq, stR_int, stR_bool, stR_string, stR_pointer, stR_slice, exD_plain, exD_guard, exD_nil, stepD_true, stepD_false, needOp, pureOp, Bool.false_or, Bool.true_or, Bool.or_false, Bool.or_true, gval_succ, gval_zero, Bd.s22, Bd.s22b, Bd.s31, Bd.s30, Bd.s30b, Bd.s30e, Bd.s42, Bd.s66, Bd.s67, Bd.b49, Bd.b54, Bd.b79, Bd.b82, Bd.b77, Bd.b86, Bd.b74, decide_true, decide_false, reduceCtorEq, ne_eq, not_true_eq_false, not_false_eq_true, true_implies, false_implies, implies_true, cond_true, cond_false, Bool.not_true, Bool.not_false, stR_agg2, stR_agg4, stR_agg5, one_int, one_bool, one_string, one_pointer, one_slice, one_map, retK_mk, cells_agg, rowAt_alloc, setRow_alloc, ow_four, ow_five, List.getElem_toArray, List.getElem_cons_zero, List.getElem_cons_succ, List.size_toArray, List.length_cons, List.length_nil, Nat.reduceLeDiff, g19]
                  · simp only [exL_plain, exL_guard, exL_nil, fx_move, fx_assign, fx_pick, fx_nilCheck, fx_load, fx_fieldAddr, fx_indexAddr, fx_binOp, fx_not, fx_convert, fx_slice, fx_extract, fx_lookup, fx_build, fx_len, fx_store, fx_alloc, fx_box, fx_makeMap, fx_makeSlice, fx_buildSlice, fx_mapUpdate, fx_append, fx_call, ev_tmp, ev_const, updo_some, updo_none, upd_apply, thenQ_normal, optK_some, optE_some, optE_none, ptrK_mk, intK_mk, boolK_mk, strK_mk, sliceK_mk, addrK_mk, tupK_mk, mapK_mk, sndK_mk, mkK_mk, cvK_int, ldN_zero, ldN_two, ldN_four, ldN_five, binK_add, binK_sub, binK_mul, binK_eql, binK_neq, binK_lss, binK_leq, binK_gtr, binK_geq, binK_seql, binK_sneq, binK_sadd, binK_beql, binK_bneq, binK_peql, binK_pneq, binK_leql, binK_lneq, lenK_slice, lenK_string, ex_slice, ex_pointer, inR_i64, inR_i32, gdK_bool, gdK_undef, Ty.all, Nat.reduceEqDiff, Nat.reduceAdd, Nat.reduceMul, if_false, if_true, ↓reduceIte, true_and, and_true, Int.toNat_natCast, Nat.add_zero, Nat.mul_one, Bool.false_eq_true, decide_eq_true_eq, decide_eq_false_iff_not, Option.isNone_some, Option.isNone_none, Option.isSome_some, Option.isSome_none, List.map_toArray, List.map_cons, List.map_nil, stK_eq, stR_int, stR_bool, stR_string, stR_pointer, stR_slice, exD_plain, exD_guard, exD_nil, stepD_true, stepD_false, needOp, pureOp, Bool.false_or, Bool.true_or, Bool.or_false, Bool.or_true, gval_succ, gval_zero, Bd.s22, Bd.s22b, Bd.s31, Bd.s30, Bd.s30b, Bd.s30e, Bd.s42, Bd.s66, Bd.s67, Bd.b49, Bd.b54, Bd.b79, Bd.b82, Bd.b77, Bd.b86, Bd.b74, decide_true, decide_false, reduceCtorEq, ne_eq, not_true_eq_false, not_false_eq_true, true_implies, false_implies, implies_true, cond_true, cond_false, Bool.not_true, Bool.not_false, stR_agg2, stR_agg4, stR_agg5, one_int, one_bool, one_string, one_pointer, one_slice, one_map, retK_mk, cells_agg, rowAt_alloc, setRow_alloc, ow_four, ow_five, List.getElem_toArray, List.getElem_cons_zero, List.getElem_cons_succ, List.size_toArray, List.length_cons, List.length_nil, Nat.reduceLeDiff, g20]
                  · simp only [exL_plain, exL_guard, exL_nil, fx_move, fx_assign, fx_pick, fx_nilCheck, fx_load, fx_fieldAddr, fx_indexAddr, fx_binOp, fx_not, fx_convert, fx_slice, fx_extract, fx_lookup, fx_build, fx_len, fx_store, fx_alloc, fx_box, fx_makeMap, fx_makeSlice, fx_buildSlice, fx_mapUpdate, fx_append, fx_call, ev_tmp, ev_const, updo_some, updo_none, upd_apply, thenQ_normal, optK_some, optE_some, optE_none, ptrK_mk, intK_mk, boolK_mk, strK_mk, sliceK_mk, addrK_mk, tupK_mk, mapK_mk, sndK_mk, mkK_mk, cvK_int, ldN_zero, ldN_two, ldN_four, ldN_five, binK_add, binK_sub, binK_mul, binK_eql, binK_neq, binK_lss, binK_leq, binK_gtr, binK_geq, binK_seql, binK_sneq, binK_sadd, binK_beql, binK_bneq, binK_peql, binK_pneq, binK_leql, binK_lneq, lenK_slice, lenK_string, ex_slice, ex_pointer, inR_i64, inR_i32, gdK_bool, gdK_undef, Ty.all, Nat.reduceEqDiff, Nat.reduceAdd, Nat.reduceMul, if_false, if_true, ↓reduceIte, true_and, and_true, Int.toNat_natCast, Nat.add_zero, Nat.mul_one, Bool.false_eq_true, decide_eq_true_eq, decide_eq_false_iff_not, Option.isNone_some, Option.isNone_none, Option.isSome_some, Option.isSome_none, List.map_toArray, List.map_cons, List.map_nil, stK_eq, stR_int, stR_bool, stR_string, stR_pointer, stR_slice, exD_plain, exD_guard, exD_nil, stepD_true, stepD_false, needOp, pureOp, Bool.false_or, Bool.true_or, Bool.or_false, Bool.or_true, gval_succ, gval_zero, Bd.s22, Bd.s22b, Bd.s31, Bd.s30, Bd.s30b, Bd.s30e, Bd.s42, Bd.s66, Bd.s67, Bd.b49, Bd.b54, Bd.b79, Bd.b82, Bd.b77, Bd.b86, Bd.b74, decide_true, decide_false, reduceCtorEq, ne_eq, not_true_eq_false, not_false_eq_true, true_implies, false_implies, implies_true, cond_true, cond_false, Bool.not_true, Bool.not_false, stR_agg2, stR_agg4, stR_agg5, one_int, one_bool, one_string, one_pointer, one_slice, one_map, retK_mk, cells_agg, rowAt_alloc, setRow_alloc, ow_four, ow_five, List.getElem_toArray, List.getElem_cons_zero, List.getElem_cons_succ, List.size_toArray, List.length_cons, List.length_nil, Nat.reduceLeDiff]
                · have hd : decide (Lp = Lq) = false := by rw [decide_eq_false_iff_not]; exact fun h => hx1 (hps.1 h).2
                  rw [hd] at hK5
                  simp only [exL_plain, exL_nil, fx_move, fx_assign, fx_pick, fx_nilCheck, fx_load, fx_fieldAddr, fx_indexAddr, fx_binOp, fx_not, fx_convert, fx_slice, fx_extract, fx_lookup, fx_build, fx_len, fx_store, fx_alloc, fx_box, fx_makeMap, fx_makeSlice, fx_buildSlice, fx_mapUpdate, fx_append, fx_call, ev_tmp, ev_const, updo_some, updo_none, upd_apply, thenQ_normal, optK_some, optE_some, optE_none, ptrK_mk, intK_mk, boolK_mk, strK_mk, sliceK_mk, addrK_mk, tupK_mk, mapK_mk, sndK_mk, mkK_mk, cvK_int, ldN_zero, ldN_two, ldN_four, ldN_five, binK_add, binK_sub, binK_mul, binK_eql, binK_neq, binK_lss, binK_leq, binK_gtr, binK_geq, binK_seql, binK_sneq, binK_sadd, binK_beql, binK_bneq, binK_peql, binK_pneq, binK_leql, binK_lneq, lenK_slice, lenK_string, ex_slice, ex_pointer, inR_i64, inR_i32, gdK_bool, gdK_undef, Ty.all, Nat.reduceEqDiff, Nat.reduceAdd, Nat.reduceMul, if_false, if_true, ↓reduceIte, true_and, and_true, Int.toNat_natCast, Nat.add_zero, Nat.mul_one, Bool.false_eq_true, decide_eq_true_eq, decide_eq_false_iff_not, Option.isNone_some, Option.isNone_none, Option.isSome_some, Option.isSome_none, List.map_toArray, List.map_cons, List.map_nil, stK_eq, stR_int, stR_bool, stR_string, stR_pointer, stR_slice, exD_plain, exD_nil, stepD_true, stepD_false, needOp, pureOp, Bool.false_or, Bool.true_or, Bool.or_false, Bool.or_true, gval_succ, gval_zero, Bd.s22, Bd.s22b, Bd.s31, Bd.s30, Bd.s30b, Bd.s30e, Bd.s42, Bd.s66, Bd.s67, Bd.b49, Bd.b54, Bd.b79, Bd.b82, Bd.b77, Bd.b86, Bd.b74, decide_true, decide_false, reduceCtorEq, ne_eq, not_true_eq_false, not_false_eq_true, true_implies, false_implies, implies_true, cond_true, cond_false, Bool.not_true, Bool.not_false, stR_agg2, stR_agg4, stR_agg5, one_int, one_bool, one_string, one_pointer, one_slice, one_map, retK_mk, cells_agg, rowAt_alloc, setRow_alloc, ow_four, ow_five, List.getElem_toArray, List.getElem_cons_zero, List.getElem_cons_succ, List.size_toArray, List.length_cons, List.length_nil, Nat.reduceLeDiff, exD_gT, exD_gTs, exD_gTu, exD_gF, exD_gFs, exD_gFu, exL_gT, exL_gTs, exL_gTu, exL_gF, exL_gFs, exL_gFu, v9, g188, g192, g196, hx1]
                  refine hK5 _ ?_ ?_ ?_ ?_ ?_ ?_
                  · simp only [exL_plain, exL_guard, exL_nil, fx_move, fx_assign, fx_pick, fx_nilCheck, fx_load, fx_fieldAddr, fx_indexAddr, fx_binOp, fx_not, fx_convert, fx_slice, fx_extract, fx_lookup, fx_build, fx_len, fx_store, fx_alloc, fx_box, fx_makeMap, fx_makeSlice, fx_buildSlice, fx_mapUpdate, fx_append, fx_call, ev_tmp, ev_const, updo_some, updo_none, upd_apply, thenQ_normal, optK_some, optE_some, optE_none, ptrK_mk, intK_mk, boolK_mk, strK_mk, sliceK_mk, addrK_mk, tupK_mk, mapK_mk, sndK_mk, mkK_mk, cvK_int, ldN_zero, ldN_two, ldN_four, ldN_five, binK_add, binK_sub, binK_mul, binK_eql, binK_neq, binK_lss, binK_leq, binK_gtr, binK_geq, binK_seql, binK_sneq, binK_sadd, binK_beql, binK_bneq, binK_peql, binK_pneq, binK_leql, binK_lneq, lenK_slice, lenK_string, ex_slice, ex_pointer, inR_i64, inR_i32, gdK_bool, gdK_undef, Ty.all, Nat.reduceEqDiff, Nat.reduceAdd, Nat.reduceMul, if_false, if_true, ↓reduceIte, true_and, and_true, Int.toNat_natCast, Nat.add_zero, Nat.mul_one, Bool.false_eq_true, decide_eq_true_eq, decide_eq_false_iff_not, Option.isNone_some, Option.isNone_none, Option.isSome_some, Option.isSome_none, List.map_toArray, List.map_cons, List.map_nil, stK_eq, stR_int, stR_bool, stR_string, stR_pointer, stR_slice, exD_plain, exD_guard, exD_nil, stepD_true, stepD_false, needOp, pureOp, Bool.false_or, Bool.true_or, Bool.or_false, Bool.or_true, gval_succ, gval_zero, Bd.s22, Bd.s22b, Bd.s31, Bd.s30, Bd.s30b, Bd.s30e, Bd.s42, Bd.s66, Bd.s67, Bd.b49, Bd.b54, Bd.b79, Bd.b82, Bd.b77, Bd.b86, Bd.b74, decide_true, decide_false, reduceCtorEq, ne_eq, not_true_eq_false, not_false_eq_true, true_implies, false_implies, implies_true, cond_true, cond_false, Bool.not_true, Bool.not_false, stR_agg2, stR_agg4, stR_agg5, one_int, one_bool, one_string, one_pointer, one_slice, one_map, retK_mk, cells_agg, rowAt_alloc, setRow_alloc, ow_four, ow_five, List.getElem_toArray, List.getElem_cons_zero, List.getElem_cons_succ, List.size_toArray, List.length_cons, List.length_nil, Nat.reduceLeDiff, g6]
                  · simp only [exL_plain, exL_guard, exL_nil, fx_move, fx_assign, fx_pick, fx_nilCheck, fx_load, fx_fieldAddr, fx_indexAddr, fx_binOp, fx_not, fx_convert, fx_slice, fx_extract, fx_lookup, fx_build, fx_len, fx_store, fx_alloc, fx_box, fx_makeMap, fx_makeSlice, fx_buildSlice, fx_mapUpdate, fx_append, fx_call, ev_tmp, ev_const, updo_some, updo_none, upd_apply, thenQ_normal, optK_some, optE_some, optE_none, ptrK_mk, intK_mk, boolK_mk, strK_mk, sliceK_mk, addrK_mk, tupK_mk, mapK_mk, sndK_mk, mkK_mk, cvK_int, ldN_zero, ldN_two, ldN_four, ldN_five, binK_add, binK_sub, binK_mul, binK_eql, binK_neq, binK_lss, binK_leq, binK_gtr, binK_geq, binK_seql, binK_sneq, binK_sadd, binK_beql, binK_bneq, binK_peql, binK_pneq, binK_leql, binK_lneq, lenK_slice, lenK_string, ex_slice, ex_pointer, inR_i64, inR_i32, gdK_bool, gdK_undef, Ty.all, Nat.reduceEqDiff, Nat.reduceAdd, Nat.reduceMul, if_false, if_true, ↓reduceIte, true_and, and_true, Int.toNat_natCast, Nat.add_zero, Nat.mul_one, Bool.false_eq_true, decide_eq_true_eq, decide_eq_false_iff_not, Option.isNone_some, Option.isNone_none, Option.isSome_some, Option.isSome_none, List.map_toArray, List.map_cons, List.map_nil, stK_eq, stR_int, stR_bool, stR_string, stR_pointer, stR_slice, exD_plain, exD_guard, exD_nil, stepD_true, stepD_false, needOp, pureOp, Bool.false_or, Bool.true_or, Bool.or_false, Bool.or_true, gval_succ, gval_zero, Bd.s22, Bd.s22b, Bd.s31, Bd.s30, Bd.s30b, Bd.s30e, Bd.s42, Bd.s66, Bd.s67, Bd.b49, Bd.b54, Bd.b79, Bd.b82, Bd.b77, Bd.b86, Bd.b74, decide_true, decide_false, reduceCtorEq, ne_eq, not_true_eq_false, not_false_eq_true, true_implies, false_implies, implies_true, cond_true, cond_false, Bool.not_true, Bool.not_false, stR_agg2, stR_agg4, stR_agg5, one_int, one_bool, one_string, one_pointer, one_slice, one_map, retK_mk, cells_agg, rowAt_alloc, setRow_alloc, ow_four, ow_five, List.getElem_toArray, List.getElem_cons_zero, List.getElem_cons_succ, List.size_toArray, List.length_cons, List.length_nil, Nat.reduceLeDiff, g11]
                  · simp only [exL_plain, exL_guard, exL_nil, fx_move, fx_assign, fx_pick, fx_nilCheck, fx_load, fx_fieldAddr, fx_indexAddr, fx_binOp, fx_not, fx_convert, fx_slice, fx_extract, fx_lookup, fx_build, fx_len, fx_store, fx_alloc, fx_box, fx_makeMap, fx_makeSlice, fx_buildSlice, fx_mapUpdate, fx_append, fx_call, ev_tmp, ev_const, updo_some, updo_none, upd_apply, thenQ_normal, optK_some, optE_some, optE_none, ptrK_mk, intK_mk, boolK_mk, strK_mk, sliceK_mk, addrK_mk, tupK_mk, mapK_mk, sndK_mk, mkK_mk, cvK_int, ldN_zero, ldN_two, ldN_four, ldN_five, binK_add, binK_sub, binK_mul, binK_eql, binK_neq, binK_lss, binK_leq, binK_gtr, binK_geq, binK_seql, binK_sneq, binK_sadd, binK_beql, binK_bneq, binK_peql, binK_pneq, binK_leql, binK_lneq, lenK_slice, lenK_string, ex_slice, ex_pointer, inR_i64, inR_i32, gdK_bool, gdK_undef, Ty.all, Nat.reduceEqDiff, Nat.reduceAdd, Nat.reduceMul, if_false, if_true, ↓reduceIte, true_and, and_true, Int.toNat_natCast, Nat.add_zero, Nat.mul_one, Bool.false_eq_true, decide_eq_true_eq, decide_eq_false_iff_not, Option.isNone_some, Option.isNone_none, Option.isSome_some, Option.isSome_none, List.map_toArray, List.map_cons, List.map_nil, stK_eq, stR_int, stR_bool, stR_string, stR_pointer, stR_slice, exD_plain, exD_guard, exD_nil, stepD_true, stepD_false, needOp, pureOp, Bool.false_or, Bool.true_or, Bool.or_false, Bool.or_true, gval_succ, gval_zero, Bd.s22, Bd.s22b, Bd.s31, Bd.s30, Bd.s30b, Bd.s30e, Bd.s42, Bd.s66, Bd.s67, Bd.b49, Bd.b54, Bd.b79, Bd.b82, Bd.b77, Bd.b86, Bd.b74, decide_true, decide_false, reduceCtorEq, ne_eq, not_true_eq_false, not_false_eq_true, true_implies, false_implies, implies_true, cond_true, cond_false, Bool.not_true, Bool.not_false, stR_agg2, stR_agg4, stR_agg5, one_int, one_bool, one_string, one_pointer, one_slice, one_map, retK_mk, cells_agg, rowAt_alloc, setRow_alloc, ow_four, ow_five, List.getElem_toArray, List.getElem_cons_zero, List.getElem_cons_succ, List.size_toArray, List.length_cons, List.length_nil, Nat.reduceLeDiff, g12]
                  · simp only [exL_plain, exL_guard, exL_nil, fx_move, fx_assign, fx_pick, fx_nilCheck, fx_load, fx_fieldAddr, fx_indexAddr, fx_binOp, fx_not, fx_convert, fx_slice, fx_extract, fx_lookup, fx_build, fx_len, fx_store, fx_alloc, fx_box, fx_makeMap, fx_makeSlice, fx_buildSlice, fx_mapUpdate, fx_append, fx_call, ev_tmp, ev_const, updo_some, updo_none, upd_apply, thenQ_normal, optK_some, optE_some, optE_none, ptrK_mk, intK_mk, boolK_mk, strK_mk, sliceK_mk, addrK_mk, tupK_mk, mapK_mk, sndK_mk, mkK_mk, cvK_int, ldN_zero, ldN_two, ldN_four, ldN_five, binK_add, binK_sub, binK_mul, binK_eql, binK_neq, binK_lss, binK_leq, binK_gtr, binK_geq, binK_seql, binK_sneq, binK_sadd, binK_beql, binK_bneq, binK_peql, binK_pneq, binK_leql, binK_lneq, lenK_slice, lenK_string, ex_slice, ex_pointer, inR_i64, inR_i32, gdK_bool, gdK_undef, Ty.all, Nat.reduceEqDiff, Nat.reduceAdd, Nat.reduceMul, if_false, if_true, ↓reduceIte, true_and, and_true, Int.toNat_natCast, Nat.add_zero, Nat.mul_one, Bool.false_eq_true, decide_eq_true_eq, decide_eq_false_iff_not, Option.isNone_some, Option.isNone_none, Option.isSome_some, Option.isSome_none, List.map_toArray, List.map_cons, List.map_nil, stK_eq, stR_int, stR_bool, stR_string, stR_pointer, stR_slice, exD_plain, exD_guard, exD_nil, stepD_true, stepD_false, needOp, pureOp, Bool.false_or, Bool.true_or, Bool.or_false, Bool.or_true, gval_succ, gval_zero, Bd.s22, Bd.s22b, Bd.s31, Bd.s30, Bd.s30b, Bd.s30e, Bd.s42, Bd.s66, Bd.s67, Bd.b49, Bd.b54, Bd.b79, Bd.b82, Bd.b77, Bd.b86, Bd.b74, decide_true, decide_false, reduceCtorEq, ne_eq, not_true_eq_false, not_false_eq_true, true_implies, false_implies, implies_true, cond_true, cond_false, Bool.not_true, Bool.not_false, stR_agg2, stR_agg4, stR_agg5, one_int, one_bool, one_string, one_pointer, one_slice, one_map, retK_mk, cells_agg, rowAt_alloc, setRow_alloc, ow_four, ow_five, List.getElem_toArray, List.getElem_cons_zero, List.getElem_cons_succ, List.size_toArray, List.length_cons, List.length_nil, Nat.reduceLeDiff, g19]
                  · simp only [exL_plain, exL_guard, exL_nil, fx_move, fx_assign, fx_pick, fx_nilCheck, fx_load, fx_fieldAddr, fx_indexAddr, fx_binOp, fx_not, fx_convert, fx_slice, fx_extract, fx_lookup, fx_build, fx_len, fx_store, fx_alloc, fx_box, fx_makeMap, fx_makeSlice, fx_buildSlice, fx_mapUpdate, fx_append, fx_call, ev_tmp, ev_const, updo_some, updo_none, upd_apply, thenQ_normal, optK_some, optE_some, optE_none, ptrK_mk, intK_mk, boolK_mk, strK_mk, sliceK_mk, addrK_mk, tupK_mk, mapK_mk, sndK_mk, mkK_mk, cvK_int, ldN_zero, ldN_two, ldN_four, ldN_five, binK_add, binK_sub, binK_mul, binK_eql, binK_neq, binK_lss, binK_leq, binK_gtr, binK_geq, binK_seql, binK_sneq, binK_sadd, binK_beql, binK_bneq, binK_peql, binK_pneq, binK_leql, binK_lneq, lenK_slice, lenK_string, ex_slice, ex_pointer, inR_i64, inR_i32, gdK_bool, gdK_undef, Ty.all, Nat.reduceEqDiff, Nat.reduceAdd, Nat.reduceMul, if_false, if_true, ↓reduceIte, true_and, and_true, Int.toNat_natCast, Nat.add_zero, Nat.mul_one, Bool.false_eq_true, decide_eq_true_eq, decide_eq_false_iff_not, Option.isNone_some, Option.isNone_none, Option.isSome_some, Option.isSome_none, List.map_toArray, List.map_cons, List.map_nil, stK_eq, stR_int, stR_bool, stR_string, stR_pointer, stR_slice, exD_plain, exD_guard, exD_nil, stepD_true, stepD_false, needOp, pureOp, Bool.false_or, Bool.true_or, Bool.or_false, Bool.or_true, gval_succ, gval_zero, Bd.s22, Bd.s22b, Bd.s31, Bd.s30, Bd.s30b, Bd.s30e, Bd.s42, Bd.s66, Bd.s67, Bd.b49, Bd.b54, Bd.b79, Bd.b82, Bd.b77, Bd.b86, Bd.b74, decide_true, decide_false, reduceCtorEq, ne_eq, not_true_eq_false, not_false_eq_true, true_implies, false_implies, implies_true, cond_true, cond_false, Bool.not_true, Bool.not_false, stR_agg2, stR_agg4, stR_agg5, one_int, one_bool, one_string, one_pointer, one_slice, one_map, retK_mk, cells_agg, rowAt_alloc, setRow_alloc, ow_four, ow_five, List.getElem_toArray, List.getElem_cons_zero, List.getElem_cons_succ, List.size_toArray, List.length_cons, List.length_nil, Nat.reduceLeDiff, g20]
                  · simp only [exL_plain, exL_guard, exL_nil, fx_move, fx_assign, fx_pick, fx_nilCheck, fx_load, fx_fieldAddr, fx_indexAddr, fx_binOp, fx_not, fx_convert, fx_slice, fx_extract, fx_lookup, fx_build, fx_len, fx_store, fx_alloc, fx_box, fx_makeMap, fx_makeSlice, fx_buildSlice, fx_mapUpdate, fx_append, fx_call, ev_tmp, ev_const, updo_some, updo_none, upd_apply, thenQ_normal, optK_some, optE_some, optE_none, ptrK_mk, intK_mk, boolK_mk, strK_mk, sliceK_mk, addrK_mk, tupK_mk, mapK_mk, sndK_mk, mkK_mk, cvK_int, ldN_zero, ldN_two, ldN_four, ldN_five, binK_add, binK_sub, binK_mul, binK_eql, binK_neq, binK_lss, binK_leq, binK_gtr, binK_geq, binK_seql, binK_sneq, binK_sadd, binK_beql, binK_bneq, binK_peql, binK_pneq, binK_leql, binK_lneq, lenK_slice, lenK_string, ex_slice, ex_pointer, inR_i64, inR_i32, gdK_bool, gdK_undef, Ty.all, Nat.reduceEqDiff, Nat.reduceAdd, Nat.reduceMul, if_false, if_true, ↓reduceIte, true_and, and_true, Int.toNat_natCast, Nat.add_zero, Nat.mul_one, Bool.false_eq_true, decide_eq_true_eq, decide_eq_false_iff_not, Option.isNone_some, Option.isNone_none, Option.isSome_some, Option.isSome_none, List.map_toArray, List.map_cons, List.map_nil, stK_eq, stR_int, stR_bool, stR_string, stR_pointer, stR_slice, exD_plain, exD_guard, exD_nil, stepD_true, stepD_false, needOp, pureOp, Bool.false_or, Bool.true_or, Bool.or_false, Bool.or_true, gval_succ, gval_zero, Bd.s22, Bd.s22b, Bd.s31, Bd.s30, Bd.s30b, Bd.s30e, Bd.s42, Bd.s66, Bd.s67, Bd.b49, Bd.b54, Bd.b79, Bd.b82, Bd.b77, Bd.b86, Bd.b74, decide_true, decide_false, reduceCtorEq, ne_eq, not_true_eq_false, not_false_eq_true, true_implies, false_implies, implies_true, cond_true, cond_false, Bool.not_true, Bool.not_false, stR_agg2, stR_agg4, stR_agg5, one_int, one_bool, one_string, one_pointer, one_slice, one_map, retK_mk, cells_agg, rowAt_alloc, setRow_alloc, ow_four, ow_five, List.getElem_toArray, List.getElem_cons_zero, List.getElem_cons_succ, List.size_toArray, List.length_cons, List.length_nil, Nat.reduceLeDiff]
              · have hd : decide (Lp = Lq) = false := by rw [decide_eq_false_iff_not]; exact fun h => hk1 (hps.1 h).1
                rw [hd] at hK5
                refine exD_cut 2 fun K hK => ?_
                simp only [List.take_succ_cons, List.take_zero, exL_plain, exL_nil, fx_move, fx_assign, fx_pick, fx_nilCheck, fx_load, fx_fieldAddr, fx_indexAddr, fx_binOp, fx_not, fx_convert, fx_slice, fx_extract, fx_lookup, fx_build, fx_len, fx_store, fx_alloc, fx_box, fx_makeMap, fx_makeSlice, fx_buildSlice, fx_mapUpdate, fx_append, fx_call, ev_tmp, ev_const, updo_some, updo_none, upd_apply, thenQ_normal, optK_some, optE_some, optE_none, ptrK_mk, intK_mk, boolK_mk, strK_mk, sliceK_mk, addrK_mk, tupK_mk, mapK_mk, sndK_mk, mkK_mk, cvK_int, ldN_zero, ldN_two, ldN_four, ldN_five, binK_add, binK_sub, binK_mul, binK_eql, binK_neq, binK_lss, binK_leq, binK_gtr, binK_geq, binK_seql, binK_sneq, binK_sadd, binK_beql, binK_bneq, binK_peql, binK_pneq, binK_leql, binK_lneq, lenK_slice, lenK_string, ex_slice, ex_pointer, inR_i64, inR_i32, gdK_bool, gdK_undef, Ty.all, Nat.reduceEqDiff, Nat.reduceAdd, Nat.reduceMul, if_false, if_true, ↓reduceIte, true_and, and_true, Int.toNat_natCast, Nat.add_zero, Nat.mul_one, Bool.false_eq_true, decide_eq_true_eq, decide_eq_false_iff_not, Option.isNone_some, Option.isNone_none, Option.isSome_some, Option.isSome_none, List.map_toArray, List.map_cons, List.map_nil, stK_eq, stR_int, stR_bool, stR_string, stR_pointer, stR_slice, exD_plain, exD_nil, stepD_true, stepD_false, needOp, pureOp, Bool.false_or, Bool.true_or, Bool.or_false, Bool.or_true, gval_succ, gval_zero, Bd.s22, Bd.s22b, Bd.s31, Bd.s30, Bd.s30b, Bd.s30e, Bd.s42, Bd.s66, Bd.s67, Bd.b49, Bd.b54, Bd.b79, Bd.b82, Bd.b77, Bd.b86, Bd.b74, decide_true, decide_false, reduceCtorEq, ne_eq, not_true_eq_false, not_false_eq_true, true_implies, false_implies, implies_true, cond_true, cond_false, Bool.not_true, Bool.not_false, stR_agg2, stR_agg4, stR_agg5, one_int, one_bool, one_string, one_pointer, one_slice, one_map, retK_mk, cells_agg, rowAt_alloc, setRow_alloc, ow_four, ow_five, List.getElem_toArray, List.getElem_cons_zero, List.getElem_cons_succ, List.size_toArray, List.length_cons, List.length_nil, Nat.reduceLeDiff, exD_gT, exD_gTs, exD_gTu, exD_gF, exD_gFs, exD_gFu, exL_gT, exL_gTs, exL_gTu, exL_gF, exL_gFs, exL_gFu, g182, g186, hk1]
                repeat (refine ⟨by omega, ?_⟩)
                refine hK _ _ ?_
                clear hK K
                simp only [List.drop_succ_cons, List.drop_zero]
                refine exD_forget [6, 11, 12, 19, 20, 188] fun ρ hL => ?_
                have g6X := hL 6 (by simp)
                have g11X := hL 11 (by simp)
                have g12X := hL 12 (by simp)
                have g19X := hL 19 (by simp)
                have g20X := hL 20 (by simp)
                have g188X := hL 188 (by simp)
                clear hL
                simp only [upd_apply, Nat.reduceEqDiff, if_false, if_true, ↓reduceIte, g6, g11, g12, g19, g20] at g6X g11X g12X g19X g20X g188X
                have g6 := g6X
                clear g6X
                have g11 := g11X
                clear g11X
                have g12 := g12X
                clear g12X
                have g19 := g19X
                clear g19X
                have g20 := g20X
                clear g20X
                have g188 := g188X
                clear g188X
                refine exD_cut 8 fun K hK => ?_
                simp only [List.take_succ_cons, List.take_zero, exL_plain, exL_nil, fx_move, fx_assign, fx_pick, fx_nilCheck, fx_load, fx_fieldAddr, fx_indexAddr, fx_binOp, fx_not, fx_convert, fx_slice, fx_extract, fx_lookup, fx_build, fx_len, fx_store, fx_alloc, fx_box, fx_makeMap, fx_makeSlice, fx_buildSlice, fx_mapUpdate, fx_append, fx_call, ev_tmp, ev_const, updo_some, updo_none, upd_apply, thenQ_normal, optK_some, optE_some, optE_none, ptrK_mk, intK_mk, boolK_mk, strK_mk, sliceK_mk, addrK_mk, tupK_mk, mapK_mk, sndK_mk, mkK_mk, cvK_int, ldN_zero, ldN_two, ldN_four, ldN_five, binK_add, binK_sub, binK_mul, binK_eql, binK_neq, binK_lss, binK_leq, binK_gtr, binK_geq, binK_seql, binK_sneq, binK_sadd, binK_beql, binK_bneq, binK_peql, binK_pneq, binK_leql, binK_lneq, lenK_slice, lenK_string, ex_slice, ex_pointer, inR_i64, inR_i32, gdK_bool, gdK_undef, Ty.all, Nat.reduceEqDiff, Nat.reduceAdd, Nat.reduceMul, if_false, if_true, ↓reduceIte, true_and, and_true, Int.toNat_natCast, Nat.add_zero, Nat.mul_one, Bool.false_eq_true, decide_eq_true_eq, decide_eq_false_iff_not, Option.isNone_some, Option.isNone_none, Option.isSome_some, Option.isSome_none, List.map_toArray, List.map_cons, List.map_nil, stK_eq, stR_int, stR_bool, stR_string, stR_pointer, stR_slice, exD_plain, exD_nil, stepD_true, stepD_false, needOp, pureOp, Bool.false_or, Bool.true_or, Bool.or_false, Bool.or_true, gval_succ, gval_zero, Bd.s22, Bd.s22b, Bd.s31, Bd.s30, Bd.s30b, Bd.s30e, Bd.s42, Bd.s66, Bd.s67, Bd.b49, Bd.b54, Bd.b79, Bd.b82, Bd.b77, Bd.b86, Bd.b74, decide_true, decide_false, reduceCtorEq, ne_eq, not_true_eq_false, not_false_eq_true, true_implies, false_implies, implies_true, cond_true, cond_false, Bool.not_true, Bool.not_false, stR_agg2, stR_agg4, stR_agg5, one_int, one_bool, one_string, one_pointer, one_slice, one_map, retK_mk, cells_agg, rowAt_alloc, setRow_alloc, ow_four, ow_five, List.getElem_toArray, List.getElem_cons_zero, List.getElem_cons_succ, List.size_toArray, List.length_cons, List.length_nil, Nat.reduceLeDiff, exD_gT, exD_gTs, exD_gTu, exD_gF, exD_gFs, exD_gFu, exL_gT, exL_gTs, exL_gTu, exL_gF, exL_gFs, exL_gFu, v9, g188]
                repeat (refine ⟨by omega, ?_⟩)
                refine hK _ _ ?_
                clear hK K
                simp only [List.drop_succ_cons, List.drop_zero]
                refine exD_forget [6, 11, 12, 19, 20, 188] fun ρ hL => ?_
                have g6X := hL 6 (by simp)
                have g11X := hL 11 (by simp)
                have g12X := hL 12 (by simp)
                have g19X := hL 19 (by simp)
                have g20X := hL 20 (by simp)
                have g188X := hL 188 (by simp)
                clear hL
                simp only [upd_apply, Nat.reduceEqDiff, if_false, if_true, ↓reduceIte, g6, g11, g12, g19, g20, g188] at g6X g11X g12X g19X g20X g188X
                have g6 := g6X
                clear g6X
                have g11 := g11X
                clear g11X
                have g12 := g12X
                clear g12X
                have g19 := g19X
                clear g19X
                have g20 := g20X
                clear g20X
                have g188 := g188X
                clear g188X
                simp only [exL_plain, exL_nil, fx_move, fx_assign, fx_pick, fx_nilCheck, fx_load, fx_fieldAddr, fx_indexAddr, fx_binOp, fx_not, fx_convert, fx_slice, fx_extract, fx_lookup, fx_build, fx_len, fx_store, fx_alloc, fx_box, fx_makeMap, fx_makeSlice, fx_buildSlice, fx_mapUpdate, fx_append, fx_call, ev_tmp, ev_const, updo_some, updo_none, upd_apply, thenQ_normal, optK_some, optE_some, optE_none, ptrK_mk, intK_mk, boolK_mk, strK_mk, sliceK_mk, addrK_mk, tupK_mk, mapK_mk, sndK_mk, mkK_mk, cvK_int, ldN_zero, ldN_two, ldN_four, ldN_five, binK_add, binK_sub, binK_mul, binK_eql, binK_neq, binK_lss, binK_leq, binK_gtr, binK_geq, binK_seql, binK_sneq, binK_sadd, binK_beql, binK_bneq, binK_peql, binK_pneq, binK_leql, binK_lneq, lenK_slice, lenK_string, ex_slice, ex_pointer, inR_i64, inR_i32, gdK_bool, gdK_undef, Ty.all, Nat.reduceEqDiff, Nat.reduceAdd, Nat.reduceMul, if_false, if_true, ↓reduceIte, true_and, and_true, Int.toNat_natCast, Nat.add_zero, Nat.mul_one, Bool.false_eq_true, decide_eq_true_eq, decide_eq_false_iff_not, Option.isNone_some, Option.isNone_none, Option.isSome_some, Option.isSome_none, List.map_toArray, List.map_cons, List.map_nil, stK_eq, stR_int, stR_bool, stR_string, stR_pointer, stR_slice, exD_plain, exD_nil, stepD_true, stepD_false, needOp, pureOp, Bool.false_or, Bool.true_or, Bool.or_false, Bool.or_true, gval_succ, gval_zero, Bd.s22, Bd.s22b, Bd.s31, Bd.s30, Bd.s30b, Bd.s30e, Bd.s42, Bd.s66, Bd.s67, Bd.b49, Bd.b54, Bd.b79, Bd.b82, Bd.b77, Bd.b86, Bd.b74, decide_true, decide_false, reduceCtorEq, ne_eq, not_true_eq_false, not_false_eq_true, true_implies, false_implies, implies_true, cond_true, cond_false, Bool.not_true, Bool.not_false, stR_agg2, stR_agg4, stR_agg5, one_int, one_bool, one_string, one_pointer, one_slice, one_map, retK_mk, cells_agg, rowAt_alloc, setRow_alloc, ow_four, ow_five, List.getElem_toArray, List.getElem_cons_zero, List.getElem_cons_succ, List.size_toArray, List.length_cons, List.length_nil, Nat.reduceLeDiff, exD_gT, exD_gTs, exD_gTu, exD_gF, exD_gFs, exD_gFu, exL_gT, exL_gTs, exL_gTu, exL_gF, exL_gFs, exL_gFu, v9, g188]
                refine hK5 _ ?_ ?_ ?_ ?_ ?_ ?_
                · simp only [exL_plain, exL_guard, exL_nil, fx_move, fx_assign, fx_pick, fx_nilCheck, fx_load, fx_fieldAddr, fx_indexAddr, fx_binOp, fx_not, fx_convert, fx_slice, fx_extract, fx_lookup, fx_build, fx_len, fx_store, fx_alloc, fx_box, fx_makeMap, fx_makeSlice, fx_buildSlice, fx_mapUpdate, fx_append, fx_call, ev_tmp, ev_const, updo_some, updo_none, upd_apply, thenQ_normal, optK_some, optE_some, optE_none, ptrK_mk, intK_mk, boolK_mk, strK_mk, sliceK_mk, addrK_mk, tupK_mk, mapK_mk, sndK_mk, mkK_mk, cvK_int, ldN_zero, ldN_two, ldN_four, ldN_five, binK_add, binK_sub, binK_mul, binK_eql, binK_neq, binK_lss, binK_leq, binK_gtr, binK_geq, binK_seql, binK_sneq, binK_sadd, binK_beql, binK_bneq, binK_peql, binK_pneq, binK_leql, binK_lneq, lenK_slice, lenK_string, ex_slice, ex_pointer, inR_i64, inR_i32, gdK_bool, gdK_undef, Ty.all, Nat.reduceEqDiff, Nat.reduceAdd, Nat.reduceMul, if_false, if_true, ↓reduceIte, true_and, and_true, Int.toNat_natCast, Nat.add_zero, Nat.mul_one, Bool.false_eq_true, decide_eq_true_eq, decide_eq_false_iff_not, Option.isNone_some, Option.isNone_none, Option.isSome_some, Option.isSome_none, List.map_toArray, List.map_cons, List.map_nil, stK_eq, stR_int, stR_bool, stR_string, stR_pointer, stR_slice, exD_plain, exD_guard, exD_nil, stepD_true, stepD_false, needOp, pureOp, Bool.false_or, Bool.true_or, Bool.or_false, Bool.or_true, gval_succ, gval_zero, Bd.s22, Bd.s22b, Bd.s31, Bd.s30, Bd.s30b, Bd.s30e, Bd.s42, Bd.s66, Bd.s67, Bd.b49, Bd.b54, Bd.b79, Bd.b82, Bd.b77, Bd.b86, Bd.b74, decide_true, decide_false, reduceCtorEq, ne_eq, not_true_eq_false, not_false_eq_true, true_implies, false_implies, implies_true, cond_true, cond_false, Bool.not_true, Bool.not_false, stR_agg2, stR_agg4, stR_agg5, one_int, one_bool, one_string, one_pointer, one_slice, one_map, retK_mk, cells_agg, rowAt_alloc, setRow_alloc, ow_four, ow_five, List.getElem_toArray, List.getElem_cons_zero, List.getElem_cons_succ, List.size_toArray, List.length_cons, List.length_nil, Nat.reduceLeDiff, g6]
                · simp only [exL_plain, exL_guard, exL_nil, fx_move, fx_assign, fx_pick, fx_nilCheck, fx_load, fx_fieldAddr, fx_indexAddr, fx_binOp, fx_not, fx_convert, fx_slice, fx_extract, fx_lookup, fx_build, fx_len, fx_store, fx_alloc, fx_box, fx_makeMap, fx_makeSlice, fx_buildSlice, fx_mapUpdate, fx_append, fx_call, ev_tmp, ev_const, updo_some, updo_none, upd_apply, thenQ_normal, optK_some, optE_some, optE_none, ptrK_mk, intK_mk, boolK_mk, strK_mk, sliceK_mk, addrK_mk, tupK_mk, mapK_mk, sndK_mk, mkK_mk, cvK_int, ldN_zero, ldN_two, ldN_four, ldN_five, binK_add, binK_sub, binK_mul, binK_eql, binK_neq, binK_lss, binK_leq, binK_gtr, binK_geq, binK_seql, binK_sneq, binK_sadd, binK_beql, binK_bneq, binK_peql, binK_pneq, binK_leql, binK_lneq, lenK_slice, lenK_string, ex_slice, ex_pointer, inR_i64, inR_i32, gdK_bool, gdK_undef, Ty.all, Nat.reduceEqDiff, Nat.reduceAdd, Nat.reduceMul, if_false, if_true, ↓reduceIte, true_and, and_true, Int.toNat_natCast, Nat.add_zero, Nat.mul_one, Bool.false_eq_true, decide_eq_true_eq, decide_eq_false_iff_not, Option.isNone_some, Option.isNone_none, Option.isSome_some, Option.isSome_none, List.map_toArray, List.map_cons, List.map_nil, stK_eq, stR_int, stR_bool, stR_string, stR_pointer, stR_slice, exD_plain, exD_guard, exD_nil, stepD_true, stepD_false, needOp, pureOp, Bool.false_or, Bool.true_or, Bool.or_false, Bool.or_true, gval_succ, gval_zero, Bd.s22, Bd.s22b, Bd.s31, Bd.s30, Bd.s30b, Bd.s30e, Bd.s42, Bd.s66, Bd.s67, Bd.b49, Bd.b54, Bd.b79, Bd.b82, Bd.b77, Bd.b86, Bd.b74, decide_true, decide_false, reduceCtorEq, ne_eq, not_true_eq_false, not_false_eq_true, true_implies, false_implies, implies_true, cond_true, cond_false, Bool.not_true, Bool.not_false, stR_agg2, stR_agg4, stR_agg5, one_int, one_bool, one_string, one_pointer, one_slice, one_map, retK_mk, cells_agg, rowAt_alloc, setRow_alloc, ow_four, ow_five, List.getElem_toArray, List.getElem_cons_zero, List.getElem_cons_succ, List.size_toArray, List.length_cons, List.length_nil, Nat.reduceLeDiff, g11]
                · simp only [exL_plain, exL_guard, exL_nil, fx_move, fx_assign, fx_pick, fx_nilCheck, fx_load, fx_fieldAddr, fx_indexAddr, fx_binOp, fx_not, fx_convert, fx_slice, fx_extract, fx_lookup, fx_build, fx_len, fx_store, fx_alloc, fx_box, fx_makeMap, fx_makeSlice, fx_buildSlice, fx_mapUpdate, fx_append, fx_call, ev_tmp, ev_const, updo_some, updo_none, upd_apply, thenQ_normal, optK_some, optE_some, optE_none, ptrK_mk, intK_mk, boolK_mk, strK_mk, sliceK_mk, addrK_mk, tupK_mk, mapK_mk, sndK_mk, mkK_mk, cvK_int, ldN_zero, ldN_two, ldN_four, ldN_five, binK_add, binK_sub, binK_mul, binK_eql, binK_neq, binK_lss, binK_leq, binK_gtr, binK_geq, binK_seql, binK_sneq, binK_sadd, binK_beql, binK_bneq, binK_peql, binK_pneq, binK_leql, binK_lneq, lenK_slice, lenK_string, ex_slice, ex_pointer, inR_i64, inR_i32, gdK_bool, gdK_undef, Ty.all, Nat.reduceEqDiff, Nat.reduceAdd, Nat.reduceMul, if_false, if_true, ↓reduceIte, true_and, and_true, Int.toNat_natCast, Nat.add_zero, Nat.mul_one, Bool.false_eq_true, decide_eq_true_eq, decide_eq_false_iff_not, Option.isNone_some, Option.isNone_none, Option.isSome_some, Option.isSome_none, List.map_toArray, List.map_cons, List.map_nil, stK_eq, stR_int, stR_bool, stR_string, stR_pointer, stR_slice, exD_plain, exD_guard, exD_nil, stepD_true, stepD_false, needOp, pureOp, Bool.false_or, Bool.true_or, Bool.or_false, Bool.or_true, gval_succ, gval_zero, Bd.s22, Bd.s22b, Bd.s31, Bd.s30, Bd.s30b, Bd.s30e, Bd.s42, Bd.s66, Bd.s67, Bd.b49, Bd.b54, Bd.b79, Bd.b82, Bd.b77, Bd.b86, Bd.b74, decide_true, decide_false, reduceCtorEq, ne_eq, not_true_eq_false, not_false_eq_true, true_implies, false_implies, implies_true, cond_true, cond_false, Bool.not_true, Bool.not_false, stR_agg2, stR_agg4, stR_agg5, one_int, one_bool, one_string, one_pointer, one_slice, one_map, retK_mk, cells_agg, rowAt_alloc, setRow_alloc, ow_four, ow_five, List.getElem_toArray, List.getElem_cons_zero, List.getElem_cons_succ, List.size_toArray, List.length_cons, List.length_nil, Nat.reduceLeDiff, g12]
                · simp only [exL_plain, exL_guard, exL_nil, fx_move, fx_assign, fx_pick, fx_nilCheck, fx_load, fx_fieldAddr, fx_indexAddr, fx_binOp, fx_not, fx_convert, fx_slice, fx_extract, fx_lookup, fx_build, fx_len, fx_store, fx_alloc, fx_box, fx_makeMap, fx_makeSlice, fx_buildSlice, fx_mapUpdate, fx_append, fx_call, ev_tmp, ev_const, updo_some, updo_none, upd_apply, thenQ_normal, optK_some, optE_some, optE_none, ptrK_mk, intK_mk, boolK_mk, strK_mk, sliceK_mk, addrK_mk, tupK_mk, mapK_mk, sndK_mk, mkK_mk, cvK_int, ldN_zero, ldN_two, ldN_four, ldN_five, binK_add, binK_sub, binK_mul, binK_eql, binK_neq, binK_lss, binK_leq, binK_gtr, binK_geq, binK_seql, binK_sneq, binK_sadd, binK_beql, binK_bneq, binK_peql, binK_pneq, binK_leql, binK_lneq, lenK_slice, lenK_string, ex_slice, ex_pointer, inR_i64, inR_i32, gdK_bool, gdK_undef, Ty.all, Nat.reduceEqDiff, Nat.reduceAdd, Nat.reduceMul, if_false, if_true, ↓reduceIte, true_and, and_true, Int.toNat_natCast, Nat.add_zero, Nat.mul_one, Bool.false_eq_true, decide_eq_true_eq, decide_eq_false_iff_not, Option.isNone_some, Option.isNone_none, Option.isSome_some, Option.isSome_none, List.map_toArray, List.map_cons, List.map_nil, stK_eq, stR_int, stR_bool, stR_string, stR_pointer, stR_slice, exD_plain, exD_guard, exD_nil, stepD_true, stepD_false, needOp, pureOp, Bool.false_or, Bool.true_or, Bool.or_false, Bool.or_true, gval_succ, gval_zero, Bd.s22, Bd.s22b, Bd.s31, Bd.s30, Bd.s30b, Bd.s30e, Bd.s42, Bd.s66, Bd.s67, Bd.b49, Bd.b54, Bd.b79, Bd.b82, Bd.b77, Bd.b86, Bd.b74, decide_true, decide_false, reduceCtorEq, ne_eq, not_true_eq_false, not_false_eq_true, true_implies, false_implies, implies_true, cond_true, cond_false, Bool.not_true, Bool.not_false, stR_agg2, stR_agg4, stR_agg5, one_int, one_bool, one_string, one_pointer, one_slice, one_map, retK_mk, cells_agg, rowAt_alloc, setRow_alloc, ow_four, ow_five, List.getElem_toArray, List.getElem_cons_zero, List.getElem_cons_succ, List.size_toArray, List.length_cons, List.length_nil, Nat.reduceLeDiff, g19]
                · simp only [exL_plain, exL_guard, exL_nil, fx_move, fx_assign, fx_pick, fx_nilCheck, fx_load, fx_fieldAddr, fx_indexAddr, fx_binOp, fx_not, fx_convert, fx_slice, fx_extract, fx_lookup, fx_build, fx_len, fx_store, fx_alloc, fx_box, fx_makeMap, fx_makeSlice, fx_buildSlice, fx_mapUpdate, fx_append, fx_call, ev_tmp, ev_const, updo_some, updo_none, upd_apply, thenQ_normal, optK_some, optE_some, optE_none, ptrK_mk, intK_mk, boolK_mk, strK_mk, sliceK_mk, addrK_mk, tupK_mk, mapK_mk, sndK_mk, mkK_mk, cvK_int, ldN_zero, ldN_two, ldN_four, ldN_five, binK_add, binK_sub, binK_mul, binK_eql, binK_neq, binK_lss, binK_leq, binK_gtr, binK_geq, binK_seql, binK_sneq, binK_sadd, binK_beql, binK_bneq, binK_peql, binK_pneq, binK_leql, binK_lneq, lenK_slice, lenK_string, ex_slice, ex_pointer, inR_i64, inR_i32, gdK_bool, gdK_undef, Ty.all, Nat.reduceEqDiff, Nat.reduceAdd, Nat.reduceMul, if_false, if_true, ↓reduceIte, true_and, and_true, Int.toNat_natCast, Nat.add_zero, Nat.mul_one, Bool.false_eq_true, decide_eq_true_eq, decide_eq_false_iff_not, Option.isNone_some, Option.isNone_none, Option.isSome_some, Option.isSome_none, List.map_toArray, List.map_cons, List.map_nil, stK_eq, stR_int, stR_bool, stR_string, stR_pointer, stR_slice, exD_plain, exD_guard, exD_nil, stepD_true, stepD_false, needOp, pureOp, Bool.false_or, Bool.true_or, Bool.or_false, Bool.or_true, gval_succ, gval_zero, Bd.s22, Bd.s22b, Bd.s31, Bd.s30, Bd.s30b, Bd.s30e, Bd.s42, Bd.s66, Bd.s67, Bd.b49, Bd.b54, Bd.b79, Bd.b82, Bd.b77, Bd.b86, Bd.b74, decide_true, decide_false, reduceCtorEq, ne_eq, not_true_eq_false, not_false_eq_true, true_implies, false_implies, implies_true, cond_true, cond_false, Bool.not_true, Bool.not_false, stR_agg2, stR_agg4, stR_agg5, one_int, one_bool, one_string, one_pointer, one_slice, one_map, retK_mk, cells_agg, rowAt_alloc, setRow_alloc, ow_four, ow_five, List.getElem_toArray, List.getElem_cons_zero, List.getElem_cons_succ, List.size_toArray, List.length_cons, List.length_nil, Nat.reduceLeDiff, g20]
                · simp only [exL_plain, exL_guard, exL_nil, fx_move, fx_assign, fx_pick, fx_nilCheck, fx_load, fx_fieldAddr, fx_indexAddr, fx_binOp, fx_not, fx_convert, fx_slice, fx_extract, fx_lookup, fx_build, fx_len, fx_store, fx_alloc, fx_box, fx_makeMap, fx_makeSlice, fx_buildSlice, fx_mapUpdate, fx_append, fx_call, ev_tmp, ev_const, updo_some, updo_none, upd_apply, thenQ_normal, optK_some, optE_some, optE_none, ptrK_mk, intK_mk, boolK_mk, strK_mk, sliceK_mk, addrK_mk, tupK_mk, mapK_mk, sndK_mk, mkK_mk, cvK_int, ldN_zero, ldN_two, ldN_four, ldN_five, binK_add, binK_sub, binK_mul, binK_eql, binK_neq, binK_lss, binK_leq, binK_gtr, binK_geq, binK_seql, binK_sneq, binK_sadd, binK_beql, binK_bneq, binK_peql, binK_pneq, binK_leql, binK_lneq, lenK_slice, lenK_string, ex_slice, ex_pointer, inR_i64, inR_i32, gdK_bool, gdK_undef, Ty.all, Nat.reduceEqDiff, Nat.reduceAdd, Nat.reduceMul, if_false, if_true, ↓reduceIte, true_and, and_true, Int.toNat_natCast, Nat.add_zero, Nat.mul_one, Bool.false_eq_true, decide_eq_true_eq, decide_eq_false_iff_not, Option.isNone_some, Option.isNone_none, Option.isSome_some, Option.isSome_none, List.map_toArray, List.map_cons, List.map_nil, stK_eq, stR_int, stR_bool, stR_string, stR_pointer, stR_slice, exD_plain, exD_guard, exD_nil, stepD_true, stepD_false, needOp, pureOp, Bool.false_or, Bool.true_or, Bool.or_false, Bool.or_true, gval_succ, gval_zero, Bd.s22, Bd.s22b, Bd.s31, Bd.s30, Bd.s30b, Bd.s30e, Bd.s42, Bd.s66, Bd.s67, Bd.b49, Bd.b54, Bd.b79, Bd.b82, Bd.b77, Bd.b86, Bd.b74, decide_true, decide_false, reduceCtorEq, ne_eq, not_true_eq_false, not_false_eq_true, true_implies, false_implies, implies_true, cond_true, cond_false, Bool.not_true, Bool.not_false, stR_agg2, stR_agg4, stR_agg5, one_int, one_bool, one_string, one_pointer, one_slice, one_map, retK_mk, cells_agg, rowAt_alloc, setRow_alloc, ow_four, ow_five, List.getElem_toArray, List.getElem_cons_zero, List.getElem_cons_succ, List.size_toArray, List.length_cons, List.length_nil, Nat.reduceLeDiff]
            · refine ⟨?_, ?_, ?_, ?_, hh, hb⟩
              · simp only [exL_plain, exL_guard, exL_nil, fx_move, fx_assign, fx_pick, fx_nilCheck, fx_load, fx_fieldAddr, fx_indexAddr, fx_binOp, fx_not, fx_convert, fx_slice, fx_extract, fx_lookup, fx_build, fx_len, fx_store, fx_alloc, fx_box, fx_makeMap, fx_makeSlice, fx_buildSlice, fx_mapUpdate, fx_append, fx_call, ev_tmp, ev_const, updo_some, updo_none, upd_apply, thenQ_normal, optK_some, optE_some, optE_none, ptrK_mk, intK_mk, boolK_mk, strK_mk, sliceK_mk, addrK_mk, tupK_mk, mapK_mk, sndK_mk, mkK_mk, cvK_int, ldN_zero, ldN_two, ldN_four, ldN_five, binK_add, binK_sub, binK_mul, binK_eql, binK_neq, binK_lss, binK_leq, binK_gtr, binK_geq, binK_seql, binK_sneq, binK_sadd, binK_beql, binK_bneq, binK_peql, binK_pneq, binK_leql, binK_lneq, lenK_slice, lenK_string, ex_slice, ex_pointer, inR_i64, inR_i32, gdK_bool, gdK_undef, Ty.all, Nat.reduceEqDiff, Nat.reduceAdd, Nat.reduceMul, if_false, if_true, ↓reduceIte, true_and, and_true, Int.toNat_natCast, Nat.add_zero, Nat.mul_one, Bool.false_eq_true, decide_eq_true_eq, decide_eq_false_iff_not, Option.isNone_some, Option.isNone_none, Option.isSome_some, Option.isSome_none, List.map_toArray, List.map_cons, List.map_nil, stK_eq, stR_int, stR_bool, stR_string, stR_pointer, stR_slice, exD_plain, exD_guard, exD_nil, stepD_true, stepD_false, needOp, pureOp, Bool.false_or, Bool.true_or, Bool.or_false, Bool.or_true, gval_succ, gval_zero, Bd.s22, Bd.s22b, Bd.s31, Bd.s30, Bd.s30b, Bd.s30e, Bd.s42, Bd.s66, Bd.s67, Bd.b49, Bd.b54, Bd.b79, Bd.b82, Bd.b77, Bd.b86, Bd.b74, decide_true, decide_false, reduceCtorEq, ne_eq, not_true_eq_false, not_false_eq_true, true_implies, false_implies, implies_true, cond_true, cond_false, Bool.not_true, Bool.not_false, stR_agg2, stR_agg4, stR_agg5, one_int, one_bool, one_string, one_pointer, one_slice, one_map, retK_mk, cells_agg, rowAt_alloc, setRow_alloc, ow_four, ow_five, List.getElem_toArray, List.getElem_cons_zero, List.getElem_cons_succ, List.size_toArray, List.length_cons, List.length_nil, Nat.reduceLeDiff, g6]
              · simp only [exL_plain, exL_guard, exL_nil, fx_move, fx_assign, fx_pick, fx_nilCheck, fx_load, fx_fieldAddr, fx_indexAddr, fx_binOp, fx_not, fx_convert, fx_slice, fx_extract, fx_lookup, fx_build, fx_len, fx_store, fx_alloc, fx_box, fx_makeMap, fx_makeSlice, fx_buildSlice, fx_mapUpdate, fx_append, fx_call, ev_tmp, ev_const, updo_some, updo_none, upd_apply, thenQ_normal, optK_some, optE_some, optE_none, ptrK_mk, intK_mk, boolK_mk, strK_mk, sliceK_mk, addrK_mk, tupK_mk, mapK_mk, sndK_mk, mkK_mk, cvK_int, ldN_zero, ldN_two, ldN_four, ldN_five, binK_add, binK_sub, binK_mul, binK_eql, binK_neq, binK_lss, binK_leq, binK_gtr, binK_geq, binK_seql, binK_sneq, binK_sadd, binK_beql, binK_bneq, binK_peql, binK_pneq, binK_leql, binK_lneq, lenK_slice, lenK_string, ex_slice, ex_pointer, inR_i64, inR_i32, gdK_bool, gdK_undef, Ty.all, Nat.reduceEqDiff, Nat.reduceAdd, Nat.reduceMul, if_false, if_true, ↓reduceIte, true_and, and_true, Int.toNat_natCast, Nat.add_zero, Nat.mul_one, Bool.false_eq_true, decide_eq_true_eq, decide_eq_false_iff_not, Option.isNone_some, Option.isNone_none, Option.isSome_some, Option.isSome_none, List.map_toArray, List.map_cons, List.map_nil, stK_eq, stR_int, stR_bool, stR_string, stR_pointer, stR_slice, exD_plain, exD_guard, exD_nil, stepD_true, stepD_false, needOp, pureOp, Bool.false_or, Bool.true_or, Bool.or_false, Bool.or_true, gval_succ, gval_zero, Bd.s22, Bd.s22b, Bd.s31, Bd.s30, Bd.s30b, Bd.s30e, Bd.s42, Bd.s66, Bd.s67, Bd.b49, Bd.b54, Bd.b79, Bd.b82, Bd.b77, Bd.b86, Bd.b74, decide_true, decide_false, reduceCtorEq, ne_eq, not_true_eq_false, not_false_eq_true, true_implies, false_implies, implies_true, cond_true, cond_false, Bool.not_true, Bool.not_false, stR_agg2, stR_agg4, stR_agg5, one_int, one_bool, one_string, one_pointer, one_slice, one_map, retK_mk, cells_agg, rowAt_alloc, setRow_alloc, ow_four, ow_five, List.getElem_toArray, List.getElem_cons_zero, List.getElem_cons_succ, List.size_toArray, List.length_cons, List.length_nil, Nat.reduceLeDiff, g11]
              · simp only [exL_plain, exL_guard, exL_nil, fx_move, fx_assign, fx_pick, fx_nilCheck, fx_load, fx_fieldAddr, fx_indexAddr, fx_binOp, fx_not, fx_convert, fx_slice, fx_extract, fx_lookup, fx_build, fx_len, fx_store, fx_alloc, fx_box, fx_makeMap, fx_makeSlice, fx_buildSlice, fx_mapUpdate, fx_append, fx_call, ev_tmp, ev_const, updo_some, updo_none, upd_apply, thenQ_normal, optK_some, optE_some, optE_none, ptrK_mk, intK_mk, boolK_mk, strK_mk, sliceK_mk, addrK_mk, tupK_mk, mapK_mk, sndK_mk, mkK_mk, cvK_int, ldN_zero, ldN_two, ldN_four, ldN_five, binK_add, binK_sub, binK_mul, binK_eql, binK_neq, binK_lss, binK_leq, binK_gtr, binK_geq, binK_seql, binK_sneq, binK_sadd, binK_beql, binK_bneq, binK_peql, binK_pneq, binK_leql, binK_lneq, lenK_slice, lenK_string, ex_slice, ex_pointer, inR_i64, inR_i32, gdK_bool, gdK_undef, Ty.all, Nat.reduceEqDiff, Nat.reduceAdd, Nat.reduceMul, if_false, if_true, ↓reduceIte, true_and, and_true, Int.toNat_natCast, Nat.add_zero, Nat.mul_one, Bool.false_eq_true, decide_eq_true_eq, decide_eq_false_iff_not, Option.isNone_some, Option.isNone_none, Option.isSome_some, Option.isSome_none, List.map_toArray, List.map_cons, List.map_nil, stK_eq, stR_int, stR_bool, stR_string, stR_pointer, stR_slice, exD_plain, exD_guard, exD_nil, stepD_true, stepD_false, needOp, pureOp, Bool.false_or, Bool.true_or, Bool.or_false, Bool.or_true, gval_succ, gval_zero, Bd.s22, Bd.s22b, Bd.s31, Bd.s30, Bd.s30b, Bd.s30e, Bd.s42, Bd.s66, Bd.s67, Bd.b49, Bd.b54, Bd.b79, Bd.b82, Bd.b77, Bd.b86, Bd.b74, decide_true, decide_false, reduceCtorEq, ne_eq, not_true_eq_false, not_false_eq_true, true_implies, false_implies, implies_true, cond_true, cond_false, Bool.not_true, Bool.not_false, stR_agg2, stR_agg4, stR_agg5, one_int, one_bool, one_string, one_pointer, one_slice, one_map, retK_mk, cells_agg, rowAt_alloc, setRow_alloc, ow_four, ow_five, List.getElem_toArray, List.getElem_cons_zero, List.getElem_cons_succ, List.size_toArray, List.length_cons, List.length_nil, Nat.reduceLeDiff, g12]
              · simp only [exL_plain, exL_guard, exL_nil, fx_move, fx_assign, fx_pick, fx_nilCheck, fx_load, fx_fieldAddr, fx_indexAddr, fx_binOp, fx_not, fx_convert, fx_slice, fx_extract, fx_lookup, fx_build, fx_len, fx_store, fx_alloc, fx_box, fx_makeMap, fx_makeSlice, fx_buildSlice, fx_mapUpdate, fx_append, fx_call, ev_tmp, ev_const, updo_some, updo_none, upd_apply, thenQ_normal, optK_some, optE_some, optE_none, ptrK_mk, intK_mk, boolK_mk, strK_mk, sliceK_mk, addrK_mk, tupK_mk, mapK_mk, sndK_mk, mkK_mk, cvK_int, ldN_zero, ldN_two, ldN_four, ldN_five, binK_add, binK_sub, binK_mul, binK_eql, binK_neq, binK_lss, binK_leq, binK_gtr, binK_geq, binK_seql, binK_sneq, binK_sadd, binK_beql, binK_bneq, binK_peql, binK_pneq, binK_leql, binK_lneq, lenK_slice, lenK_string, ex_slice, ex_pointer, inR_i64, inR_i32, gdK_bool, gdK_undef, Ty.all, Nat.reduceEqDiff, Nat.reduceAdd, Nat.reduceMul, if_false, if_true, ↓reduceIte, true_and, and_true, Int.toNat_natCast, Nat.add_zero, Nat.mul_one, Bool.false_eq_true, decide_eq_true_eq, decide_eq_false_iff_not, Option.isNone_some, Option.isNone_none, Option.isSome_some, Option.isSome_none, List.map_toArray, List.map_cons, List.map_nil, stK_eq, stR_int, stR_bool, stR_string, stR_pointer, stR_slice, exD_plain, exD_guard, exD_nil, stepD_true, stepD_false, needOp, pureOp, Bool.false_or, Bool.true_or, Bool.or_false, Bool.or_true, gval_succ, gval_zero, Bd.s22, Bd.s22b, Bd.s31, Bd.s30, Bd.s30b, Bd.s30e, Bd.s42, Bd.s66, Bd.s67, Bd.b49, Bd.b54, Bd.b79, Bd.b82, Bd.b77, Bd.b86, Bd.b74, decide_true, decide_false, reduceCtorEq, ne_eq, not_true_eq_false, not_false_eq_true, true_implies, false_implies, implies_true, cond_true, cond_false, Bool.not_true, Bool.not_false, stR_agg2, stR_agg4, stR_agg5, one_int, one_bool, one_string, one_pointer, one_slice, one_map, retK_mk, cells_agg, rowAt_alloc, setRow_alloc, ow_four, ow_five, List.getElem_toArray, List.getElem_cons_zero, List.getElem_cons_succ, List.size_toArray, List.length_cons, List.length_nil, Nat.reduceLeDiff, g19]
          · clear g6 g11 g12 g19 g20 hh hb
            rintro ρ wr ⟨g6, g11, g12, g19, hh, hb⟩
            simp only [blkQ_normal, thenQ_normal]
            refine hK2 _ _ ?_
            refine cwp_region rfl ?_
            simp only [exL_plain, exL_guard, exL_nil, fx_move, fx_assign, fx_pick, fx_nilCheck, fx_load, fx_fieldAddr, fx_indexAddr, fx_binOp, fx_not, fx_convert, fx_slice, fx_extract, fx_lookup, fx_build, fx_len, fx_store, fx_alloc, fx_box, fx_makeMap, fx_makeSlice, fx_buildSlice, fx_mapUpdate, fx_append, fx_call, ev_tmp, ev_const, updo_some, updo_none, upd_apply, thenQ_normal, optK_some, optE_some, optE_none, ptrK_mk, intK_mk, boolK_mk, strK_mk, sliceK_mk, addrK_mk, tupK_mk, mapK_mk, sndK_mk, mkK_mk, cvK_int, ldN_zero, ldN_two, ldN_four, ldN_five, binK_add, binK_sub, binK_mul, binK_eql, binK_neq, binK_lss, binK_leq, binK_gtr, binK_geq, binK_seql, binK_sneq, binK_sadd, binK_beql, binK_bneq, binK_peql, binK_pneq, binK_leql, binK_lneq, lenK_slice, lenK_string, ex_slice, ex_pointer, inR_i64, inR_i32, gdK_bool, gdK_undef, Ty.all, Nat.reduceEqDiff, Nat.reduceAdd, Nat.reduceMul, if_false, if_true, ↓reduceIte, true_and, and_true, Int.toNat_natCast, Nat.add_zero, Nat.mul_one, Bool.false_eq_true, decide_eq_true_eq, decide_eq_false_iff_not, Option.isNone_some, Option.isNone_none, Option.isSome_some, Option.isSome_none, List.map_toArray, List.map_cons, List.map_nil, stK_eq, stR_int, stR_bool, stR_string, stR_pointer, stR_slice, exD_plain, exD_guard, exD_nil, stepD_true, stepD_false, needOp, pureOp, Bool.false_or, Bool.true_or, Bool.or_false, Bool.or_true, gval_succ, gval_zero, Bd.s22, Bd.s22b, Bd.s31, Bd.s30, Bd.s30b, Bd.s30e, Bd.s42, Bd.s66, Bd.s67, Bd.b49, Bd.b54, Bd.b79, Bd.b82, Bd.b77, Bd.b86, Bd.b74, decide_true, decide_false, reduceCtorEq, ne_eq, not_true_eq_false, not_false_eq_true, true_implies, false_implies, implies_true, cond_true, cond_false, Bool.not_true, Bool.not_false, stR_agg2, stR_agg4, stR_agg5, one_int, one_bool, one_string, one_pointer, one_slice, one_map, retK_mk, cells_agg, rowAt_alloc, setRow_alloc, ow_four, ow_five, List.getElem_toArray, List.getElem_cons_zero, List.getElem_cons_succ, List.size_toArray, List.length_cons, List.length_nil, Nat.reduceLeDiff, g19]
            repeat (refine ⟨by omega, ?_⟩)
            refine hK1 _ _ (p + 1) ⟨hpE, ?_, ?_, ?_, ?_, hh, hb⟩ (by omega)
            · simp only [exL_plain, exL_guard, exL_nil, fx_move, fx_assign, fx_pick, fx_nilCheck, fx_load, fx_fieldAddr, fx_indexAddr, fx_binOp, fx_not, fx_convert, fx_slice, fx_extract, fx_lookup, fx_build, fx_len, fx_store, fx_alloc, fx_box, fx_makeMap, fx_makeSlice, fx_buildSlice, fx_mapUpdate, fx_append, fx_call, ev_tmp, ev_const, updo_some, updo_none, upd_apply, thenQ_normal, optK_some, optE_some, optE_none, ptrK_mk, intK_mk, boolK_mk, strK_mk, sliceK_mk, addrK_mk, tupK_mk, mapK_mk, sndK_mk, mkK_mk, cvK_int, ldN_zero, ldN_two, ldN_four, ldN_five, binK_add, binK_sub, binK_mul, binK_eql, binK_neq, binK_lss, binK_leq, binK_gtr, binK_geq, binK_seql, binK_sneq, binK_sadd, binK_beql, binK_bneq, binK_peql, binK_pneq, binK_leql, binK_lneq, lenK_slice, lenK_string, ex_slice, ex_pointer, inR_i64, inR_i32, gdK_bool, gdK_undef, Ty.all, Nat.reduceEqDiff, Nat.reduceAdd, Nat.reduceMul, if_false, if_true, ↓reduceIte, true_and, and_true, Int.toNat_natCast, Nat.add_zero, Nat.mul_one, Bool.false_eq_true, decide_eq_true_eq, decide_eq_false_iff_not, Option.isNone_some, Option.isNone_none, Option.isSome_some, Option.isSome_none, List.map_toArray, List.map_cons, List.map_nil, stK_eq, stR_int, stR_bool, stR_string, stR_pointer, stR_slice, exD_plain, exD_guard, exD_nil, stepD_true, stepD_false, needOp, pureOp, Bool.false_or, Bool.true_or, Bool.or_false, Bool.or_true, gval_succ, gval_zero, Bd.s22, Bd.s22b, Bd.s31, Bd.s30, Bd.s30b, Bd.s30e, Bd.s42, Bd.s66, Bd.s67, Bd.b49, Bd.b54, Bd.b79, Bd.b82, Bd.b77, Bd.b86, Bd.b74, decide_true, decide_false, reduceCtorEq, ne_eq, not_true_eq_false, not_false_eq_true, true_implies, false_implies, implies_true, cond_true, cond_false, Bool.not_true, Bool.not_false, stR_agg2, stR_agg4, stR_agg5, one_int, one_bool, one_string, one_pointer, one_slice, one_map, retK_mk, cells_agg, rowAt_alloc, setRow_alloc, ow_four, ow_five, List.getElem_toArray, List.getElem_cons_zero, List.getElem_cons_succ, List.size_toArray, List.length_cons, List.length_nil, Nat.reduceLeDiff, g6]
            · simp only [exL_plain, exL_guard, exL_nil, fx_move, fx_assign, fx_pick, fx_nilCheck, fx_load, fx_fieldAddr, fx_indexAddr, fx_binOp, fx_not, fx_convert, fx_slice, fx_extract, fx_lookup, fx_build, fx_len, fx_store, fx_alloc, fx_box, fx_makeMap, fx_makeSlice, fx_buildSlice, fx_mapUpdate, fx_append, fx_call, ev_tmp, ev_const, updo_some, updo_none, upd_apply, thenQ_normal, optK_some, optE_some, optE_none, ptrK_mk, intK_mk, boolK_mk, strK_mk, sliceK_mk, addrK_mk, tupK_mk, mapK_mk, sndK_mk, mkK_mk, cvK_int, ldN_zero, ldN_two, ldN_four, ldN_five, binK_add, binK_sub, binK_mul, binK_eql, binK_neq, binK_lss, binK_leq, binK_gtr, binK_geq, binK_seql, binK_sneq, binK_sadd, binK_beql, binK_bneq, binK_peql, binK_pneq, binK_leql, binK_lneq, lenK_slice, lenK_string, ex_slice, ex_pointer, inR_i64, inR_i32, gdK_bool, gdK_undef, Ty.all, Nat.reduceEqDiff, Nat.reduceAdd, Nat.reduceMul, if_false, if_true, ↓reduceIte, true_and, and_true, Int.toNat_natCast, Nat.add_zero, Nat.mul_one, Bool.false_eq_true, decide_eq_true_eq, decide_eq_false_iff_not, Option.isNone_some, Option.isNone_none, Option.isSome_some, Option.isSome_none, List.map_toArray, List.map_cons, List.map_nil, stK_eq, stR_int, stR_bool, stR_string, stR_pointer, stR_slice, exD_plain, exD_guard, exD_nil, stepD_true, stepD_false, needOp, pureOp, Bool.false_or, Bool.true_or, Bool.or_false, Bool.or_true, gval_succ, gval_zero, Bd.s22, Bd.s22b, Bd.s31, Bd.s30, Bd.s30b, Bd.s30e, Bd.s42, Bd.s66, Bd.s67, Bd.b49, Bd.b54, Bd.b79, Bd.b82, Bd.b77, Bd.b86, Bd.b74, decide_true, decide_false, reduceCtorEq, ne_eq, not_true_eq_false, not_false_eq_true, true_implies, false_implies, implies_true, cond_true, cond_false, Bool.not_true, Bool.not_false, stR_agg2, stR_agg4, stR_agg5, one_int, one_bool, one_string, one_pointer, one_slice, one_map, retK_mk, cells_agg, rowAt_alloc, setRow_alloc, ow_four, ow_five, List.getElem_toArray, List.getElem_cons_zero, List.getElem_cons_succ, List.size_toArray, List.length_cons, List.length_nil, Nat.reduceLeDiff, g11]
            · simp only [exL_plain, exL_guard, exL_nil, fx_move, fx_assign, fx_pick, fx_nilCheck, fx_load, fx_fieldAddr, fx_indexAddr, fx_binOp, fx_not, fx_convert, fx_slice, fx_extract, fx_lookup, fx_build, fx_len, fx_store, fx_alloc, fx_box, fx_makeMap, fx_makeSlice, fx_buildSlice, fx_mapUpdate, fx_append, fx_call, ev_tmp, ev_const, updo_some, updo_none, upd_apply, thenQ_normal, optK_some, optE_some, optE_none, ptrK_mk, intK_mk, boolK_mk, strK_mk, sliceK_mk, addrK_mk, tupK_mk, mapK_mk, sndK_mk, mkK_mk, cvK_int, ldN_zero, ldN_two, ldN_four, ldN_five, binK_add, binK_sub, binK_mul, binK_eql, binK_neq, binK_lss, binK_leq, binK_gtr, binK_geq, binK_seql, binK_sneq, binK_sadd, binK_beql, binK_bneq, binK_peql, binK_pneq, binK_leql, binK_lneq, lenK_slice, lenK_string, ex_slice, ex_pointer, inR_i64, inR_i32, gdK_bool, gdK_undef, Ty.all, Nat.reduceEqDiff, Nat.reduceAdd, Nat.reduceMul, if_false, if_true, ↓reduceIte, true_and, and_true, Int.toNat_natCast, Nat.add_zero, Nat.mul_one, Bool.false_eq_true, decide_eq_true_eq, decide_eq_false_iff_not, Option.isNone_some, Option.isNone_none, Option.isSome_some, Option.isSome_none, List.map_toArray, List.map_cons, List.map_nil, stK_eq, stR_int, stR_bool, stR_string, stR_pointer, stR_slice, exD_plain, exD_guard, exD_nil, stepD_true, stepD_false, needOp, pureOp, Bool.false_or, Bool.true_or, Bool.or_false, Bool.or_true, gval_succ, gval_zero, Bd.s22, Bd.s22b, Bd.s31, Bd.s30, Bd.s30b, Bd.s30e, Bd.s42, Bd.s66, Bd.s67, Bd.b49, Bd.b54, Bd.b79, Bd.b82, Bd.b77, Bd.b86, Bd.b74, decide_true, decide_false, reduceCtorEq, ne_eq, not_true_eq_false, not_false_eq_true, true_implies, false_implies, implies_true, cond_true, cond_false, Bool.not_true, Bool.not_false, stR_agg2, stR_agg4, stR_agg5, one_int, one_bool, one_string, one_pointer, one_slice, one_map, retK_mk, cells_agg, rowAt_alloc, setRow_alloc, ow_four, ow_five, List.getElem_toArray, List.getElem_cons_zero, List.getElem_cons_succ, List.size_toArray, List.length_cons, List.length_nil, Nat.reduceLeDiff, g12]
            · simp only [exL_plain, exL_guard, exL_nil, fx_move, fx_assign, fx_pick, fx_nilCheck, fx_load, fx_fieldAddr, fx_indexAddr, fx_binOp, fx_not, fx_convert, fx_slice, fx_extract, fx_lookup, fx_build, fx_len, fx_store, fx_alloc, fx_box, fx_makeMap, fx_makeSlice, fx_buildSlice, fx_mapUpdate, fx_append, fx_call, ev_tmp, ev_const, updo_some, updo_none, upd_apply, thenQ_normal, optK_some, optE_some, optE_none, ptrK_mk, intK_mk, boolK_mk, strK_mk, sliceK_mk, addrK_mk, tupK_mk, mapK_mk, sndK_mk, mkK_mk, cvK_int, ldN_zero, ldN_two, ldN_four, ldN_five, binK_add, binK_sub, binK_mul, binK_eql, binK_neq, binK_lss, binK_leq, binK_gtr, binK_geq, binK_seql, binK_sneq, binK_sadd, binK_beql, binK_bneq, binK_peql, binK_pneq, binK_leql, binK_lneq, lenK_slice, lenK_string, ex_slice, ex_pointer, inR_i64, inR_i32, gdK_bool, gdK_undef, Ty.all, Nat.reduceEqDiff, Nat.reduceAdd, Nat.reduceMul, if_false, if_true, ↓reduceIte, true_and, and_true, Int.toNat_natCast, Nat.add_zero, Nat.mul_one, Bool.false_eq_true, decide_eq_true_eq, decide_eq_false_iff_not, Option.isNone_some, Option.isNone_none, Option.isSome_some, Option.isSome_none, List.map_toArray, List.map_cons, List.map_nil, stK_eq, stR_int, stR_bool, stR_string, stR_pointer, stR_slice, exD_plain, exD_guard, exD_nil, stepD_true, stepD_false, needOp, pureOp, Bool.false_or, Bool.true_or, Bool.or_false, Bool.or_true, gval_succ, gval_zero, Bd.s22, Bd.s22b, Bd.s31, Bd.s30, Bd.s30b, Bd.s30e, Bd.s42, Bd.s66, Bd.s67, Bd.b49, Bd.b54, Bd.b79, Bd.b82, Bd.b77, Bd.b86, Bd.b74, decide_true, decide_false, reduceCtorEq, ne_eq, not_true_eq_false, not_false_eq_true, true_implies, false_implies, implies_true, cond_true, cond_false, Bool.not_true, Bool.not_false, stR_agg2, stR_agg4, stR_agg5, one_int, one_bool, one_string, one_pointer, one_slice, one_map, retK_mk, cells_agg, rowAt_alloc, setRow_alloc, ow_four, ow_five, List.getElem_toArray, List.getElem_cons_zero, List.getElem_cons_succ, List.size_toArray, List.length_cons, List.length_nil, Nat.reduceLeDiff]
              rfl
        · exact hb
      · rintro ρ wr hb
        refine hK _ _ ?_
        clear hK K
        refine cwp_sr rfl fun K hK => ?_
        simp only [exL_plain, exL_guard, exL_nil, fx_move, fx_assign, fx_pick, fx_nilCheck, fx_load, fx_fieldAddr, fx_indexAddr, fx_binOp, fx_not, fx_convert, fx_slice, fx_extract, fx_lookup, fx_build, fx_len, fx_store, fx_alloc, fx_box, fx_makeMap, fx_makeSlice, fx_buildSlice, fx_mapUpdate, fx_append, fx_call, ev_tmp, ev_const, updo_some, updo_none, upd_apply, thenQ_normal, optK_some, optE_some, optE_none, ptrK_mk, intK_mk, boolK_mk, strK_mk, sliceK_mk, addrK_mk, tupK_mk, mapK_mk, sndK_mk, mkK_mk, cvK_int, ldN_zero, ldN_two, ldN_four, ldN_five, binK_add, binK_sub, binK_mul, binK_eql, binK_neq, binK_lss, binK_leq, binK_gtr, binK_geq, binK_seql, binK_sneq, binK_sadd, binK_beql, binK_bneq, binK_peql, binK_pneq, binK_leql, binK_lneq, lenK_slice, lenK_string, ex_slice, ex_pointer, inR_i64, inR_i32, gdK_bool, gdK_undef, Ty.all, Nat.reduceEqDiff, Nat.reduceAdd, Nat.reduceMul, if_false, if_true, ↓reduceIte, true_and, and_true, Int.toNat_natCast, Nat.add_zero, Nat.mul_one, Bool.false_eq_true, decide_eq_true_eq, decide_eq_false_iff_not, Option.isNone_some, Option.isNone_none, Option.isSome_some, Option.isSome_none, List.map_toArray, List.map_cons, List.map_nil, stK_eq, stR_int, stR_bool, stR_string, stR_pointer, stR_slice, exD_plain, exD_guard, exD_nil, stepD_true, stepD_false, needOp, pureOp, Bool.false_or, Bool.true_or, Bool.or_false, Bool.or_true, gval_succ, gval_zero, Bd.s22, Bd.s22b, Bd.s31, Bd.s30, Bd.s30b, Bd.s30e, Bd.s42, Bd.s66, Bd.s67, Bd.b49, Bd.b54, Bd.b79, Bd.b82, Bd.b77, Bd.b86, Bd.b74, decide_true, decide_false, reduceCtorEq, ne_eq, not_true_eq_false, not_false_eq_true, true_implies, false_implies, implies_true, cond_true, cond_false, Bool.not_true, Bool.not_false, stR_agg2, stR_agg4, stR_agg5, one_int, one_bool, one_string, one_pointer, one_slice, one_map, retK_mk, cells_agg, rowAt_alloc, setRow_alloc, ow_four, ow_five, List.getElem_toArray, List.getElem_cons_zero, List.getElem_cons_succ, List.size_toArray, List.length_cons, List.length_nil, Nat.reduceLeDiff]
        repeat (refine ⟨by omega, ?_⟩)
        refine hK _ _ ?_
        clear hK K
        refine cwp_ret ?_
        try simp only [thenQ_ret, blkQ_ret, exQ_ret]
        refine endQ_val (t := 2) (v := .bool true) rfl (by simp only [upd_apply, Nat.reduceEqDiff, if_false, if_true, ↓reduceIte]) ?_
        exact ⟨rfl, hb⟩
end Go.Proofs.Qxb6001346a
