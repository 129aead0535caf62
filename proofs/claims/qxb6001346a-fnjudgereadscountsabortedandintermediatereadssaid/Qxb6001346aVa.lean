/-
  opsView in memory; opAt.
-/
import Derived.Test.Qxb6001346aLa
namespace Go.Proofs.Qxb6001346a
open Fw Go.RowKit
set_option linter.unusedSimpArgs false
set_option linter.unusedVariables false

def xat (O : List (Nat × LOp)) (p : Nat) : Nat × LOp := O.getD p (0, op0)
/-- Is place p the first append of its value to its key. -/
def firstB (O : List (Nat × LOp)) (p : Nat) : Bool :=
  (xat O p).2.app && (List.range p).all fun q => !((xat O q).2.app && (decide ((xat O q).2.key = (xat O p).2.key) && decide ((xat O q).2.val = (xat O p).2.val)))
/-- Does its transaction later make another first append to the key. -/
def laterB (O : List (Nat × LOp)) (p : Nat) : Bool :=
  firstB O p && (List.range O.length).any fun q => decide (p < q) && (decide ((xat O q).1 = (xat O p).1) && (firstB O q && decide ((xat O q).2.key = (xat O p).2.key)))

/-- The places: transaction and number within it. -/
def ixFrom : Nat → List LTx → List (Nat × Nat)
  | _, [] => []
  | k, t :: T => (List.range t.ops.length).map (fun j => (k, j)) ++ ixFrom (k + 1) T
def ix (T : List LTx) : List (Nat × Nat) := ixFrom 0 T
theorem ixFrom_append : ∀ (A B : List LTx) (k : Nat), ixFrom k (A ++ B) = ixFrom k A ++ ixFrom (k + A.length) B
  | [], B, k => by simp [ixFrom]
  | t :: A, B, k => by
    simp only [List.cons_append, ixFrom, ixFrom_append A B (k + 1), List.append_assoc, List.length_cons]
    rw [show k + 1 + A.length = k + (A.length + 1) by omega]
/-- The places ahead of operation j of transaction i. -/
def ipre (T : List LTx) (i j : Nat) : List (Nat × Nat) := ix (T.take i) ++ (List.range j).map fun j => (i, j)
theorem ix_take_succ {T : List LTx} {i : Nat} (h : i < T.length) : ix (T.take (i + 1)) = ix (T.take i) ++ (List.range (T.getD i tx0).ops.length).map fun j => (i, j) := by
  have e : T.take (i + 1) = T.take i ++ [T.getD i tx0] := by
    rw [List.take_succ_eq_append_getElem h]
    simp [List.getD_eq_getElem?_getD, h]
  rw [e, ix, ixFrom_append]
  simp only [ixFrom, List.append_nil, ix]
  rw [List.length_take, Nat.zero_add, Nat.min_eq_left (by omega)]
theorem ipre_zero (T : List LTx) : ipre T 0 0 = [] := by simp [ipre, ix, ixFrom]
theorem ipre_step (T : List LTx) (i j : Nat) : ipre T i (j + 1) = ipre T i j ++ [(i, j)] := by simp [ipre, List.range_succ]
theorem ipre_next {T : List LTx} {i : Nat} (h : i < T.length) : ipre T i (T.getD i tx0).ops.length = ipre T (i + 1) 0 := by
  simp [ipre, ix_take_succ h]
theorem ipre_end (T : List LTx) : ipre T T.length 0 = ix T := by simp [ipre]
theorem ix_fl_from : ∀ (T : List LTx) (k : Nat), (ixFrom k T).length = (flFrom k T).length ∧ ∀ p, p < (flFrom k T).length → (xat (flFrom k T) p).1 = ((ixFrom k T).getD p (0, 0)).1 ∧ k ≤ ((ixFrom k T).getD p (0, 0)).1 ∧ ((ixFrom k T).getD p (0, 0)).1 < k + T.length ∧
    ((ixFrom k T).getD p (0, 0)).2 < (T.getD (((ixFrom k T).getD p (0, 0)).1 - k) tx0).ops.length ∧ (T.getD (((ixFrom k T).getD p (0, 0)).1 - k) tx0).ops.getD ((ixFrom k T).getD p (0, 0)).2 op0 = (xat (flFrom k T) p).2
  | [], k => by simp [ixFrom, flFrom]
  | t :: T, k => by
    obtain ⟨h1, h2⟩ := ix_fl_from T (k + 1)
    refine ⟨by simp [ixFrom, flFrom, h1], fun p hp => ?_⟩
    simp only [flFrom, List.length_append, List.length_map] at hp
    by_cases hpl : p < t.ops.length
    · have e1 : (ixFrom k (t :: T)).getD p (0, 0) = (k, p) := by
        simp [ixFrom, List.getD_eq_getElem?_getD, List.getElem?_append_left (show p < ((List.range t.ops.length).map fun j => (k, j)).length by simpa using hpl), hpl]
      have e2 : xat (flFrom k (t :: T)) p = (k, t.ops.getD p op0) := by
        simp [xat, flFrom, List.getD_eq_getElem?_getD, List.getElem?_append_left (show p < (t.ops.map fun p => (k, p)).length by simpa using hpl), hpl]
      rw [e1, e2]
      simp [hpl]
    · have e1 : (ixFrom k (t :: T)).getD p (0, 0) = (ixFrom (k + 1) T).getD (p - t.ops.length) (0, 0) := by
        simp only [ixFrom, List.getD_eq_getElem?_getD]
        rw [List.getElem?_append_right (by simp; omega)]
        simp
      have e2 : xat (flFrom k (t :: T)) p = xat (flFrom (k + 1) T) (p - t.ops.length) := by
        simp only [xat, flFrom, List.getD_eq_getElem?_getD]
        rw [List.getElem?_append_right (by simp; omega)]
        simp
      obtain ⟨g1, g2, g3, g4, g5⟩ := h2 (p - t.ops.length) (by omega)
      rw [e1, e2]
      have e3 : (t :: T).getD (((ixFrom (k + 1) T).getD (p - t.ops.length) (0, 0)).1 - k) tx0 = T.getD (((ixFrom (k + 1) T).getD (p - t.ops.length) (0, 0)).1 - (k + 1)) tx0 := by
        rw [show ((ixFrom (k + 1) T).getD (p - t.ops.length) (0, 0)).1 - k = (((ixFrom (k + 1) T).getD (p - t.ops.length) (0, 0)).1 - (k + 1)) + 1 by omega]
        simp
      rw [e3]
      refine ⟨g1, by omega, by simp only [List.length_cons]; omega, g4, g5⟩
/-- A place, its transaction, its operation. -/
theorem ix_fl (T : List LTx) : (ix T).length = (fl T).length ∧ ∀ p, p < (fl T).length → (xat (fl T) p).1 = ((ix T).getD p (0, 0)).1 ∧ ((ix T).getD p (0, 0)).1 < T.length ∧
    ((ix T).getD p (0, 0)).2 < (T.getD ((ix T).getD p (0, 0)).1 tx0).ops.length ∧ (T.getD ((ix T).getD p (0, 0)).1 tx0).ops.getD ((ix T).getD p (0, 0)).2 op0 = (xat (fl T) p).2 := by
  obtain ⟨h1, h2⟩ := ix_fl_from T 0
  refine ⟨h1, fun p hp => ?_⟩
  obtain ⟨g1, g2, g3, g4, g5⟩ := h2 p hp
  exact ⟨g1, by change ((ixFrom 0 T).getD p (0, 0)).1 < _; omega, g4, g5⟩

def vN (l : List Nat) : List Value := l.map fun n => .int .i64 (n : Nat)
/-- An opsView's first two fields in memory (at block B). -/
def View2 (N : Nat) (w : World) (B : Nat) (T : List LTx) : Prop :=
  ∃ vt vi, w.cell? ⟨B, 0, none⟩ = some vt ∧ w.cell? ⟨B, 1, none⟩ = some vi ∧ ValsAt N w vt (vN ((ix T).map (·.1))) ∧ ValsAt N w vi (vN ((ix T).map (·.2)))

theorem opAt_calls {N Nv : Nat} {w : World} {v : Value} {T : List LTx} {B p : Nat} (h : TxnsAt N w v T) (hV : View2 Nv w B T) (hp : p < (fl T).length) :
    Calls Try.prog 40 #[v, .pointer (some ⟨B, 0, none⟩), .int .i64 (p : Nat)] w (fun e w' => w' = w.drew ∧ ∃ pb po, e = .returned (.pointer (some ⟨pb, po, none⟩)) ∧ OpAt N w pb po (xat (fl T) p).2) := by
  obtain ⟨a, cap, rfl, hT⟩ := h.form
  obtain ⟨vt, vi, b0, b1, ht, hi⟩ := hV
  obtain ⟨hl, hx⟩ := ix_fl T
  obtain ⟨x1, x2, x3, x4⟩ := hx p hp
  have lt : (vN ((ix T).map (·.1))).length = (fl T).length := by simp [vN, hl]
  have li : (vN ((ix T).map (·.2))).length = (fl T).length := by simp [vN, hl]
  obtain ⟨ta, tcap, rfl, htc⟩ := ht.at lt
  obtain ⟨ia, icap, rfl, hic⟩ := hi.at li
  obtain ⟨tb, to, rfl, htcc⟩ := htc (by omega)
  obtain ⟨ib, io, rfl, hicc⟩ := hic (by omega)
  have t1 : w.cell? ⟨tb, to + p, none⟩ = some (.int .i64 (((ix T).getD p (0, 0)).1 : Nat)) := by
    rw [htcc p hp]; simp [vN, List.getD_eq_getElem?_getD, show p < (ix T).length by omega]
  have t2 : w.cell? ⟨ib, io + p, none⟩ = some (.int .i64 (((ix T).getD p (0, 0)).2 : Nat)) := by
    rw [hicc p hp]; simp [vN, List.getD_eq_getElem?_getD, show p < (ix T).length by omega]
  obtain ⟨b, o, rfl, _, ov, c1, hops⟩ := hT _ x2
  obtain ⟨oa, ocap, rfl, hop⟩ := hops.form
  obtain ⟨pb, po, rfl, hpo⟩ := hop _ x3
  rw [x4] at hpo
  generalize ((ix T).getD p (0, 0)).1 = i at *
  generalize ((ix T).getD p (0, 0)).2 = j at *
  refine calls_of_cwp Try.func40 rfl Try.ntmps40 (by simp) ?_
  have h0 : argE #[.slice (some ⟨b, o, none⟩) T.length cap, .pointer (some ⟨B, 0, none⟩), .int .i64 (p : Nat)] 0 = .slice (some ⟨b, o, none⟩) T.length cap := rfl
  have h1 : argE #[.slice (some ⟨b, o, none⟩) T.length cap, .pointer (some ⟨B, 0, none⟩), .int .i64 (p : Nat)] 1 = .pointer (some ⟨B, 0, none⟩) := rfl
  have h2 : argE #[.slice (some ⟨b, o, none⟩) T.length cap, .pointer (some ⟨B, 0, none⟩), .int .i64 (p : Nat)] 2 = .int .i64 (p : Nat) := rfl
  generalize argE #[.slice (some ⟨b, o, none⟩) T.length cap, .pointer (some ⟨B, 0, none⟩), .int .i64 (p : Nat)] = ρ at h0 h1 h2 ⊢
  refine cwp_sr rfl fun K hK => ?_
  simp only [exL_plain, exL_guard, exL_nil, fx_move, fx_assign, fx_pick, fx_nilCheck, fx_load, fx_fieldAddr, fx_indexAddr, fx_binOp, fx_not, fx_convert, fx_slice, fx_extract, fx_lookup, fx_build, fx_len, fx_store, fx_alloc, fx_box, fx_makeMap, fx_makeSlice, fx_buildSlice, fx_mapUpdate, fx_append, fx_call, ev_tmp, ev_const, updo_some, updo_none, upd_apply, thenQ_normal, optK_some, optE_some, optE_none, ptrK_mk, intK_mk, boolK_mk, strK_mk, sliceK_mk, addrK_mk, tupK_mk, mapK_mk, sndK_mk, mkK_mk, cvK_int, ldN_zero, ldN_two, ldN_four, ldN_five, binK_add, binK_sub, binK_mul, binK_eql, binK_neq, binK_lss, binK_leq, binK_gtr, binK_geq, binK_seql, binK_sneq, binK_sadd, binK_beql, binK_bneq, binK_peql, binK_pneq, binK_leql, binK_lneq, lenK_slice, lenK_string, ex_slice, ex_pointer, inR_i64, inR_i32, gdK_bool, gdK_undef, Ty.all, Nat.reduceEqDiff, Nat.reduceAdd, Nat.reduceMul, if_false, if_true, ↓reduceIte, true_and, and_true, Int.toNat_natCast, Nat.add_zero, Nat.mul_one, Bool.false_eq_true, decide_eq_true_eq, decide_eq_false_iff_not, Option.isNone_some, Option.isNone_none, Option.isSome_some, Option.isSome_none, List.map_toArray, List.map_cons, List.map_nil, stK_eq, stR_int, stR_bool, stR_string, stR_pointer, stR_slice, exD_plain, exD_guard, exD_nil, stepD_true, stepD_false, needOp, pureOp, Bool.false_or, Bool.true_or, Bool.or_false, Bool.or_true, gval_succ, gval_zero, Bd.s22, Bd.s22b, Bd.s31, Bd.s30, Bd.s30b, Bd.s30e, Bd.s42, Bd.s66, Bd.s67, Bd.b49, Bd.b54, Bd.b79, Bd.b82, Bd.b77, Bd.b86, Bd.b74, decide_true, decide_false, reduceCtorEq, ne_eq, not_true_eq_false, not_false_eq_true, true_implies, false_implies, implies_true, cond_true, cond_false, Bool.not_true, Bool.not_false, stR_agg2, stR_agg4, stR_agg5, one_int, one_bool, one_string, one_pointer, one_slice, one_map, retK_mk, cells_agg, rowAt_alloc, setRow_alloc, ow_four, ow_five, List.getElem_toArray, List.getElem_cons_zero, List.getElem_cons_succ, List.size_toArray, List.length_cons, List.length_nil, Nat.reduceLeDiff]
  repeat (refine ⟨by omega, ?_⟩)
  refine hK _ _ ?_
  clear hK K
  refine cwp_sd Ty.mixed (by kernel_rfl) (fun _ _ _ h => h) fun Kz hKz => ?_
  refine exD_forget [0, 1, 2] fun ρ hL => ?_
  have h0X := hL 0 (by simp)
  have h1X := hL 1 (by simp)
  have h2X := hL 2 (by simp)
  clear hL
  simp only [upd_apply, Nat.reduceEqDiff, if_false, if_true, ↓reduceIte, h0, h1, h2] at h0X h1X h2X
  have h0 := h0X
  clear h0X
  have h1 := h1X
  clear h1X
  have h2 := h2X
  clear h2X
  refine exD_cut 8 fun K hK => ?_
  simp only [List.take_succ_cons, List.take_zero, exL_plain, exL_guard, exL_nil, fx_move, fx_assign, fx_pick, fx_nilCheck, fx_load, fx_fieldAddr, fx_indexAddr, fx_binOp, fx_not, fx_convert, fx_slice, fx_extract, fx_lookup, fx_build, fx_len, fx_store, fx_alloc, fx_box, fx_makeMap, fx_makeSlice, fx_buildSlice, fx_mapUpdate, fx_append, fx_call, ev_tmp, ev_const, updo_some, updo_none, upd_apply, thenQ_normal, optK_some, optE_some, optE_none, ptrK_mk, intK_mk, boolK_mk, strK_mk, sliceK_mk, addrK_mk, tupK_mk, mapK_mk, sndK_mk, mkK_mk, cvK_int, ldN_zero, ldN_two, ldN_four, ldN_five, binK_add, binK_sub, binK_mul, binK_eql, binK_neq, binK_lss, binK_leq, binK_gtr, binK_geq, binK_seql, binK_sneq, binK_sadd, binK_beql, binK_bneq, binK_peql, binK_pneq, binK_leql, binK_lneq, lenK_slice, lenK_string, ex_slice, ex_pointer, inR_i64, inR_i32, gdK_bool, gdK_undef, Ty.all, Nat.reduceEqDiff, Nat.reduceAdd, Nat.reduceMul, if_false, if_true, ↓reduceIte, true_and, and_true, Int.toNat_natCast, Nat.add_zero, Nat.mul_one, Bool.false_eq_true, decide_eq_true_eq, decide_eq_false_iff_not, Option.isNone_some, Option.isNone_none, Option.isSome_some, Option.isSome_none, List.map_toArray, List.map_cons, List.map_nil, stK_eq, stR_int, stR_bool, stR_string, stR_pointer, stR_slice, exD_plain, exD_guard, exD_nil, stepD_true, stepD_false, needOp, pureOp, Bool.false_or, Bool.true_or, Bool.or_false, Bool.or_true, gval_succ, gval_zero, Bd.s22, Bd.s22b, Bd.s31, Bd.s30, Bd.s30b, Bd.s30e, Bd.s42, Bd.s66, Bd.s67, Bd.b49, Bd.b54, Bd.b79, Bd.b82, Bd.b77, Bd.b86, Bd.b74, decide_true, decide_false, reduceCtorEq, ne_eq, not_true_eq_false, not_false_eq_true, true_implies, false_implies, implies_true, cond_true, cond_false, Bool.not_true, Bool.not_false, stR_agg2, stR_agg4, stR_agg5, one_int, one_bool, one_string, one_pointer, one_slice, one_map, retK_mk, cells_agg, rowAt_alloc, setRow_alloc, ow_four, ow_five, List.getElem_toArray, List.getElem_cons_zero, List.getElem_cons_succ, List.size_toArray, List.length_cons, List.length_nil, Nat.reduceLeDiff, h0, h1, h2, b0, t1, Nat.zero_add]
  repeat (refine ⟨by omega, ?_⟩)
  refine hK _ _ ?_
  clear hK K
  simp only [List.drop_succ_cons, List.drop_zero]
  refine exD_forget [0, 1, 2, 7, 14] fun ρ hL => ?_
  have h0X := hL 0 (by simp)
  have h1X := hL 1 (by simp)
  have h2X := hL 2 (by simp)
  have h7X := hL 7 (by simp)
  have h14X := hL 14 (by simp)
  clear hL
  simp only [upd_apply, Nat.reduceEqDiff, if_false, if_true, ↓reduceIte, h0, h1, h2, h0] at h0X h1X h2X h7X h14X
  have h0 := h0X
  clear h0X
  have h1 := h1X
  clear h1X
  have h2 := h2X
  clear h2X
  have h7 := h7X
  clear h7X
  have h14 := h14X
  clear h14X
  refine exD_cut 7 fun K hK => ?_
  simp only [List.take_succ_cons, List.take_zero, exL_plain, exL_guard, exL_nil, fx_move, fx_assign, fx_pick, fx_nilCheck, fx_load, fx_fieldAddr, fx_indexAddr, fx_binOp, fx_not, fx_convert, fx_slice, fx_extract, fx_lookup, fx_build, fx_len, fx_store, fx_alloc, fx_box, fx_makeMap, fx_makeSlice, fx_buildSlice, fx_mapUpdate, fx_append, fx_call, ev_tmp, ev_const, updo_some, updo_none, upd_apply, thenQ_normal, optK_some, optE_some, optE_none, ptrK_mk, intK_mk, boolK_mk, strK_mk, sliceK_mk, addrK_mk, tupK_mk, mapK_mk, sndK_mk, mkK_mk, cvK_int, ldN_zero, ldN_two, ldN_four, ldN_five, binK_add, binK_sub, binK_mul, binK_eql, binK_neq, binK_lss, binK_leq, binK_gtr, binK_geq, binK_seql, binK_sneq, binK_sadd, binK_beql, binK_bneq, binK_peql, binK_pneq, binK_leql, binK_lneq, lenK_slice, lenK_string, ex_slice, ex_pointer, inR_i64, inR_i32, gdK_bool, gdK_undef, Ty.all, Nat.reduceEqDiff, Nat.reduceAdd, Nat.reduceMul, if_false, if_true, ↓reduceIte, true_and, and_true, Int.toNat_natCast, Nat.add_zero, Nat.mul_one, Bool.false_eq_true, decide_eq_true_eq, decide_eq_false_iff_not, Option.isNone_some, Option.isNone_none, Option.isSome_some, Option.isSome_none, List.map_toArray, List.map_cons, List.map_nil, stK_eq, stR_int, stR_bool, stR_string, stR_pointer, stR_slice, exD_plain, exD_guard, exD_nil, stepD_true, stepD_false, needOp, pureOp, Bool.false_or, Bool.true_or, Bool.or_false, Bool.or_true, gval_succ, gval_zero, Bd.s22, Bd.s22b, Bd.s31, Bd.s30, Bd.s30b, Bd.s30e, Bd.s42, Bd.s66, Bd.s67, Bd.b49, Bd.b54, Bd.b79, Bd.b82, Bd.b77, Bd.b86, Bd.b74, decide_true, decide_false, reduceCtorEq, ne_eq, not_true_eq_false, not_false_eq_true, true_implies, false_implies, implies_true, cond_true, cond_false, Bool.not_true, Bool.not_false, stR_agg2, stR_agg4, stR_agg5, one_int, one_bool, one_string, one_pointer, one_slice, one_map, retK_mk, cells_agg, rowAt_alloc, setRow_alloc, ow_four, ow_five, List.getElem_toArray, List.getElem_cons_zero, List.getElem_cons_succ, List.size_toArray, List.length_cons, List.length_nil, Nat.reduceLeDiff, h0, h1, h2, h7, h14, b1, c1, Nat.zero_add]
  repeat (refine ⟨by omega, ?_⟩)
  refine hK _ _ ?_
  clear hK K
  simp only [List.drop_succ_cons, List.drop_zero]
  refine exD_forget [0, 1, 2, 17, 21] fun ρ hL => ?_
  have h0X := hL 0 (by simp)
  have h1X := hL 1 (by simp)
  have h2X := hL 2 (by simp)
  have h17X := hL 17 (by simp)
  have h21X := hL 21 (by simp)
  clear hL
  simp only [upd_apply, Nat.reduceEqDiff, if_false, if_true, ↓reduceIte, h0, h1, h2] at h0X h1X h2X h17X h21X
  have h0 := h0X
  clear h0X
  have h1 := h1X
  clear h1X
  have h2 := h2X
  clear h2X
  have h17 := h17X
  clear h17X
  have h21 := h21X
  clear h21X
  simp only [exL_plain, exL_guard, exL_nil, fx_move, fx_assign, fx_pick, fx_nilCheck, fx_load, fx_fieldAddr, fx_indexAddr, fx_binOp, fx_not, fx_convert, fx_slice, fx_extract, fx_lookup, fx_build, fx_len, fx_store, fx_alloc, fx_box, fx_makeMap, fx_makeSlice, fx_buildSlice, fx_mapUpdate, fx_append, fx_call, ev_tmp, ev_const, updo_some, updo_none, upd_apply, thenQ_normal, optK_some, optE_some, optE_none, ptrK_mk, intK_mk, boolK_mk, strK_mk, sliceK_mk, addrK_mk, tupK_mk, mapK_mk, sndK_mk, mkK_mk, cvK_int, ldN_zero, ldN_two, ldN_four, ldN_five, binK_add, binK_sub, binK_mul, binK_eql, binK_neq, binK_lss, binK_leq, binK_gtr, binK_geq, binK_seql, binK_sneq, binK_sadd, binK_beql, binK_bneq, binK_peql, binK_pneq, binK_leql, binK_lneq, lenK_slice, lenK_string, ex_slice, ex_pointer, inR_i64, inR_i32, gdK_bool, gdK_undef, Ty.all, Nat.reduceEqDiff, Nat.reduceAdd, Nat.reduceMul, if_false, if_true, ↓reduceIte, true_and, and_true, Int.toNat_natCast, Nat.add_zero, Nat.mul_one, Bool.false_eq_true, decide_eq_true_eq, decide_eq_false_iff_not, Option.isNone_some, Option.isNone_none, Option.isSome_some, Option.isSome_none, List.map_toArray, List.map_cons, List.map_nil, stK_eq, stR_int, stR_bool, stR_string, stR_pointer, stR_slice, exD_plain, exD_guard, exD_nil, stepD_true, stepD_false, needOp, pureOp, Bool.false_or, Bool.true_or, Bool.or_false, Bool.or_true, gval_succ, gval_zero, Bd.s22, Bd.s22b, Bd.s31, Bd.s30, Bd.s30b, Bd.s30e, Bd.s42, Bd.s66, Bd.s67, Bd.b49, Bd.b54, Bd.b79, Bd.b82, Bd.b77, Bd.b86, Bd.b74, decide_true, decide_false, reduceCtorEq, ne_eq, not_true_eq_false, not_false_eq_true, true_implies, false_implies, implies_true, cond_true, cond_false, Bool.not_true, Bool.not_false, stR_agg2, stR_agg4, stR_agg5, one_int, one_bool, one_string, one_pointer, one_slice, one_map, retK_mk, cells_agg, rowAt_alloc, setRow_alloc, ow_four, ow_five, List.getElem_toArray, List.getElem_cons_zero, List.getElem_cons_succ, List.size_toArray, List.length_cons, List.length_nil, Nat.reduceLeDiff, h2, h17, h21, t2]
  repeat (refine ⟨by omega, ?_⟩)
  refine hKz _ _ ?_
  refine cwp_ret ?_
  try simp only [thenQ_ret, blkQ_ret, exQ_ret]
  refine endQ_val (t := 6) (v := .pointer (some ⟨pb, po + j * 4, none⟩)) rfl (by simp only [upd_apply, Nat.reduceEqDiff, if_false, if_true, ↓reduceIte]) ?_
  exact ⟨rfl, pb, po + j * 4, rfl, hpo⟩
end Go.Proofs.Qxb6001346a
