/-
  ZZJudge.
-/
import Derived.Test.Qxb6001346aZc
import Derived.Test.Qxb6001346aJf
namespace Go.Proofs.Qxb6001346a
open Fw Go.RowKit
set_option linter.unusedSimpArgs false
set_option linter.unusedVariables false

theorem comm_len (T : List LTx) (s : List Bool) : (comm T s).length = T.length := by simp [comm]
def lgOf (S : CSt) (r : Rd) : Int := (S.K.getD r.kj ks0).lg
/-- A row of rows. -/
def RowsAt (N : Nat) (w : World) (v : Value) (ls : Nat → List Value) (n : Nat) : Prop := ∃ vs : List Value, vs.length = n ∧ ValsAt N w v vs ∧ ∀ a, a < n → ValsAt N w (vs.getD a undef) (ls a)

theorem fd0_of {a : Option Addr} {n c b : Nat} (x : Nat) (hx : x < 9) : (c0cells a n c b)[8 + (3 * x + 1)]? = some (.int .i64 0) ∧ (c0cells a n c b)[8 + (3 * x + 2)]? = some (.slice none 0 0) := by
  have : x = 0 ∨ x = 1 ∨ x = 2 ∨ x = 3 ∨ x = 4 ∨ x = 5 ∨ x = 6 ∨ x = 7 ∨ x = 8 := by omega
  rcases this with rfl | rfl | rfl | rfl | rfl | rfl | rfl | rfl | rfl <;> exact ⟨rfl, rfl⟩

set_option maxHeartbeats 8000000 in
theorem zzJudge {Nt : Nat} {w : World} {v : Value} {T : List LTx} (hT : HTxnsAt Nt w v T) (hf : fits T) :
    Calls Try.prog 30 #[v] w (fun e w' => ∃ v0 v1 v2 v3 v4, e = .returned (.tuple #[v0, v1, v2, v3, v4]) ∧ Below w.heap.size w w' ∧ ValsAt w.heap.size w' v0 (vB (comm T (colS T).2)) ∧ ValsAt w.heap.size w' v1 (vB ((judS T).1.R.map (·.cl))) ∧
      ValsAt w.heap.size w' v2 (vI ((judS T).1.R.map (lgOf (judS T).1))) ∧ ValsAt w.heap.size w' v3 ((List.range 9).map fun a => .int .i64 ((judS T).2.1 a).1) ∧ RowsAt w.heap.size w' v4 (fun a => ((judS T).2.1 a).2.map fun n => .int .i64 n) 9) := by
  obtain ⟨ta, tcap, rfl, _⟩ := hT.form
  refine calls_of_cwp Try.func30 rfl Try.ntmps30 (by simp) ?_
  have h0 : argE #[.slice ta T.length tcap] 0 = .slice ta T.length tcap := rfl
  generalize argE #[.slice ta T.length tcap] = ρ at h0 ⊢
  refine cwp_sr rfl fun K hK => ?_
  simp only [exL_plain, exL_guard, exL_nil, fx_move, fx_assign, fx_pick, fx_nilCheck, fx_load, fx_fieldAddr, fx_indexAddr, fx_binOp, fx_not, fx_convert, fx_slice, fx_extract, fx_lookup, fx_build, fx_len, fx_store, fx_alloc, fx_box, fx_makeMap, fx_makeSlice, fx_buildSlice, fx_mapUpdate, fx_append, fx_call, ev_tmp, ev_const, updo_some, updo_none, upd_apply, thenQ_normal, optK_some, optE_some, optE_none, ptrK_mk, intK_mk, boolK_mk, strK_mk, sliceK_mk, addrK_mk, tupK_mk, mapK_mk, sndK_mk, mkK_mk, cvK_int, ldN_zero, ldN_two, ldN_four, ldN_five, binK_add, binK_sub, binK_mul, binK_eql, binK_neq, binK_lss, binK_leq, binK_gtr, binK_geq, binK_seql, binK_sneq, binK_sadd, binK_beql, binK_bneq, binK_peql, binK_pneq, binK_leql, binK_lneq, lenK_slice, lenK_string, ex_slice, ex_pointer, inR_i64, inR_i32, gdK_bool, gdK_undef, Ty.all, Nat.reduceEqDiff, Nat.reduceAdd, Nat.reduceMul, if_false, if_true, ↓reduceIte, true_and, and_true, Int.toNat_natCast, Nat.add_zero, Nat.mul_one, Bool.false_eq_true, decide_eq_true_eq, decide_eq_false_iff_not, Option.isNone_some, Option.isNone_none, Option.isSome_some, Option.isSome_none, List.map_toArray, List.map_cons, List.map_nil, stK_eq, stR_int, stR_bool, stR_string, stR_pointer, stR_slice, exD_plain, exD_guard, exD_nil, stepD_true, stepD_false, needOp, pureOp, Bool.false_or, Bool.true_or, Bool.or_false, Bool.or_true, gval_succ, gval_zero, Bd.s22, Bd.s22b, Bd.s31, Bd.s30, Bd.s30b, Bd.s30e, Bd.s42, Bd.s66, Bd.s67, Bd.b49, Bd.b54, Bd.b79, Bd.b82, Bd.b77, Bd.b86, Bd.b74, decide_true, decide_false, reduceCtorEq, ne_eq, not_true_eq_false, not_false_eq_true, true_implies, false_implies, implies_true, cond_true, cond_false, Bool.not_true, Bool.not_false, stR_agg2, stR_agg4, stR_agg5, one_int, one_bool, one_string, one_pointer, one_slice, one_map, retK_mk, cells_agg, rowAt_alloc, setRow_alloc, ow_four, ow_five, List.getElem_toArray, List.getElem_cons_zero, List.getElem_cons_succ, List.size_toArray, List.length_cons, List.length_nil, Nat.reduceLeDiff]
  repeat (refine ⟨by omega, ?_⟩)
  refine hK _ _ ?_
  clear hK K
  refine cwp_sr rfl fun K hK => ?_
  simp only [exL_plain, exL_guard, exL_nil, fx_move, fx_assign, fx_pick, fx_nilCheck, fx_load, fx_fieldAddr, fx_indexAddr, fx_binOp, fx_not, fx_convert, fx_slice, fx_extract, fx_lookup, fx_build, fx_len, fx_store, fx_alloc, fx_box, fx_makeMap, fx_makeSlice, fx_buildSlice, fx_mapUpdate, fx_append, fx_call, ev_tmp, ev_const, updo_some, updo_none, upd_apply, thenQ_normal, optK_some, optE_some, optE_none, ptrK_mk, intK_mk, boolK_mk, strK_mk, sliceK_mk, addrK_mk, tupK_mk, mapK_mk, sndK_mk, mkK_mk, cvK_int, ldN_zero, ldN_two, ldN_four, ldN_five, binK_add, binK_sub, binK_mul, binK_eql, binK_neq, binK_lss, binK_leq, binK_gtr, binK_geq, binK_seql, binK_sneq, binK_sadd, binK_beql, binK_bneq, binK_peql, binK_pneq, binK_leql, binK_lneq, lenK_slice, lenK_string, ex_slice, ex_pointer, inR_i64, inR_i32, gdK_bool, gdK_undef, Ty.all, Nat.reduceEqDiff, Nat.reduceAdd, Nat.reduceMul, if_false, if_true, ↓reduceIte, true_and, and_true, Int.toNat_natCast, Nat.add_zero, Nat.mul_one, Bool.false_eq_true, decide_eq_true_eq, decide_eq_false_iff_not, Option.isNone_some, Option.isNone_none, Option.isSome_some, Option.isSome_none, List.map_toArray, List.map_cons, List.map_nil, stK_eq, stR_int, stR_bool, stR_string, stR_pointer, stR_slice, exD_plain, exD_guard, exD_nil, stepD_true, stepD_false, needOp, pureOp, Bool.false_or, Bool.true_or, Bool.or_false, Bool.or_true, gval_succ, gval_zero, Bd.s22, Bd.s22b, Bd.s31, Bd.s30, Bd.s30b, Bd.s30e, Bd.s42, Bd.s66, Bd.s67, Bd.b49, Bd.b54, Bd.b79, Bd.b82, Bd.b77, Bd.b86, Bd.b74, decide_true, decide_false, reduceCtorEq, ne_eq, not_true_eq_false, not_false_eq_true, true_implies, false_implies, implies_true, cond_true, cond_false, Bool.not_true, Bool.not_false, stR_agg2, stR_agg4, stR_agg5, one_int, one_bool, one_string, one_pointer, one_slice, one_map, retK_mk, cells_agg, rowAt_alloc, setRow_alloc, ow_four, ow_five, List.getElem_toArray, List.getElem_cons_zero, List.getElem_cons_succ, List.size_toArray, List.length_cons, List.length_nil, Nat.reduceLeDiff, h0]
  repeat (refine ⟨by omega, ?_⟩)
  refine hK _ _ ?_
  clear hK K
  obtain ⟨lay, cc, hB, hcn, hM⟩ := initCM (w := w) (a := ta) (n := T.length) (c := tcap)
  have hb : Below w.heap.size w ((w.alloc (.map #[] 0)).alloc (.cells (c0cells ta T.length tcap w.heap.size) 74)) := ((Below.refl _ _).alloc (Nat.le_refl _) _).alloc (by simp) _
  have e1 : (w.alloc (.map #[] 0)).heap.size = w.heap.size + 1 := by simp
  refine cwp_forget [7] fun ρ hL => ?_
  have g7X := hL 7 (by simp)
  clear hL
  simp only [upd_apply, Nat.reduceEqDiff, if_false, if_true, ↓reduceIte] at g7X
  have g7 := g7X
  clear g7X
  rw [e1, ← hB] at g7
  change cwp _ _ _ _ _ ((w.alloc (.map #[] 0)).alloc (.cells (c0cells ta T.length tcap w.heap.size) 74))
  generalize ((w.alloc (.map #[] 0)).alloc (.cells (c0cells ta T.length tcap w.heap.size) 74)) = w1 at *
  refine cwp_sr rfl fun K hK => ?_
  simp only [exL_plain, exL_guard, exL_nil, fx_move, fx_assign, fx_pick, fx_nilCheck, fx_load, fx_fieldAddr, fx_indexAddr, fx_binOp, fx_not, fx_convert, fx_slice, fx_extract, fx_lookup, fx_build, fx_len, fx_store, fx_alloc, fx_box, fx_makeMap, fx_makeSlice, fx_buildSlice, fx_mapUpdate, fx_append, fx_call, ev_tmp, ev_const, updo_some, updo_none, upd_apply, thenQ_normal, optK_some, optE_some, optE_none, ptrK_mk, intK_mk, boolK_mk, strK_mk, sliceK_mk, addrK_mk, tupK_mk, mapK_mk, sndK_mk, mkK_mk, cvK_int, ldN_zero, ldN_two, ldN_four, ldN_five, binK_add, binK_sub, binK_mul, binK_eql, binK_neq, binK_lss, binK_leq, binK_gtr, binK_geq, binK_seql, binK_sneq, binK_sadd, binK_beql, binK_bneq, binK_peql, binK_pneq, binK_leql, binK_lneq, lenK_slice, lenK_string, ex_slice, ex_pointer, inR_i64, inR_i32, gdK_bool, gdK_undef, Ty.all, Nat.reduceEqDiff, Nat.reduceAdd, Nat.reduceMul, if_false, if_true, ↓reduceIte, true_and, and_true, Int.toNat_natCast, Nat.add_zero, Nat.mul_one, Bool.false_eq_true, decide_eq_true_eq, decide_eq_false_iff_not, Option.isNone_some, Option.isNone_none, Option.isSome_some, Option.isSome_none, List.map_toArray, List.map_cons, List.map_nil, stK_eq, stR_int, stR_bool, stR_string, stR_pointer, stR_slice, exD_plain, exD_guard, exD_nil, stepD_true, stepD_false, needOp, pureOp, Bool.false_or, Bool.true_or, Bool.or_false, Bool.or_true, gval_succ, gval_zero, Bd.s22, Bd.s22b, Bd.s31, Bd.s30, Bd.s30b, Bd.s30e, Bd.s42, Bd.s66, Bd.s67, Bd.b49, Bd.b54, Bd.b79, Bd.b82, Bd.b77, Bd.b86, Bd.b74, decide_true, decide_false, reduceCtorEq, ne_eq, not_true_eq_false, not_false_eq_true, true_implies, false_implies, implies_true, cond_true, cond_false, Bool.not_true, Bool.not_false, stR_agg2, stR_agg4, stR_agg5, one_int, one_bool, one_string, one_pointer, one_slice, one_map, retK_mk, cells_agg, rowAt_alloc, setRow_alloc, ow_four, ow_five, List.getElem_toArray, List.getElem_cons_zero, List.getElem_cons_succ, List.size_toArray, List.length_cons, List.length_nil, Nat.reduceLeDiff, g7]
  refine (collect (fd := fun i => (c0cells ta T.length tcap w.heap.size)[8 + i]?) hT hb hf ⟨lay, cc, rfl, _, _, _, _, _, _, _, _, hM⟩).mono ?_
  clear hM hb hcn
  rintro e w2 ⟨rfl, hb, L, c, cv, C, ov, wv, iv, rv, lv, xo, hL0, hM, hcom⟩
  simp only [exL_plain, exL_guard, exL_nil, fx_move, fx_assign, fx_pick, fx_nilCheck, fx_load, fx_fieldAddr, fx_indexAddr, fx_binOp, fx_not, fx_convert, fx_slice, fx_extract, fx_lookup, fx_build, fx_len, fx_store, fx_alloc, fx_box, fx_makeMap, fx_makeSlice, fx_buildSlice, fx_mapUpdate, fx_append, fx_call, ev_tmp, ev_const, updo_some, updo_none, upd_apply, thenQ_normal, optK_some, optE_some, optE_none, ptrK_mk, intK_mk, boolK_mk, strK_mk, sliceK_mk, addrK_mk, tupK_mk, mapK_mk, sndK_mk, mkK_mk, cvK_int, ldN_zero, ldN_two, ldN_four, ldN_five, binK_add, binK_sub, binK_mul, binK_eql, binK_neq, binK_lss, binK_leq, binK_gtr, binK_geq, binK_seql, binK_sneq, binK_sadd, binK_beql, binK_bneq, binK_peql, binK_pneq, binK_leql, binK_lneq, lenK_slice, lenK_string, ex_slice, ex_pointer, inR_i64, inR_i32, gdK_bool, gdK_undef, Ty.all, Nat.reduceEqDiff, Nat.reduceAdd, Nat.reduceMul, if_false, if_true, ↓reduceIte, true_and, and_true, Int.toNat_natCast, Nat.add_zero, Nat.mul_one, Bool.false_eq_true, decide_eq_true_eq, decide_eq_false_iff_not, Option.isNone_some, Option.isNone_none, Option.isSome_some, Option.isSome_none, List.map_toArray, List.map_cons, List.map_nil, stK_eq, stR_int, stR_bool, stR_string, stR_pointer, stR_slice, exD_plain, exD_guard, exD_nil, stepD_true, stepD_false, needOp, pureOp, Bool.false_or, Bool.true_or, Bool.or_false, Bool.or_true, gval_succ, gval_zero, Bd.s22, Bd.s22b, Bd.s31, Bd.s30, Bd.s30b, Bd.s30e, Bd.s42, Bd.s66, Bd.s67, Bd.b49, Bd.b54, Bd.b79, Bd.b82, Bd.b77, Bd.b86, Bd.b74, decide_true, decide_false, reduceCtorEq, ne_eq, not_true_eq_false, not_false_eq_true, true_implies, false_implies, implies_true, cond_true, cond_false, Bool.not_true, Bool.not_false, stR_agg2, stR_agg4, stR_agg5, one_int, one_bool, one_string, one_pointer, one_slice, one_map, retK_mk, cells_agg, rowAt_alloc, setRow_alloc, ow_four, ow_five, List.getElem_toArray, List.getElem_cons_zero, List.getElem_cons_succ, List.size_toArray, List.length_cons, List.length_nil, Nat.reduceLeDiff]
  repeat (refine ⟨by omega, ?_⟩)
  refine hK _ _ ?_
  clear hK K
  rw [← hL0] at g7
  refine cwp_forget [7] fun ρ hL => ?_
  have g7X := hL 7 (by simp)
  clear hL
  simp only [upd_apply, Nat.reduceEqDiff, if_false, if_true, ↓reduceIte, g7] at g7X
  have g7 := g7X
  clear g7X
  obtain ⟨hG, hsl, hKl, hW, hLl, hR, _, hsum⟩ := phR_fits hf (show fl T = fl T ++ [] by simp)
  have hf1 := hf.1
  have hf2 := hf.2.1
  change Good T.length (colS T).1 at hG
  change (colS T).1.W.length ≤ _ at hW
  change (colS T).1.R.length ≤ _ at hR
  change (colS T).1.L.length ≤ _ at hLl
  have hlg := lg_colS T
  -- the blocks that 'found' is to grow are named anew
  have hS' : St w.heap.size w2 L (fun r => if 20 ≤ r ∧ r ≤ 28 then none else c r) := hM.st.weaken (fun r o h => by
    split at h
    · cases h
    · exact h)
  have hM' := hM.move hS' hM.nb (fun r hr => ⟨rfl, by rw [if_neg (by omega)]⟩)
  have hcom' := hcom.congr (lay' := L) (c' := fun r => if 20 ≤ r ∧ r ≤ 28 then none else c r) rfl (by rw [if_neg (by omega)])
  have hFd : Fd L (fun r => if 20 ≤ r ∧ r ≤ 28 then none else c r) (fun i => (c0cells ta T.length tcap w.heap.size)[8 + i]?) (fun _ => (0, [])) := by
    intro a ha
    obtain ⟨h1, h2⟩ := fd0_of (a := ta) (n := T.length) (c := tcap) (b := w.heap.size) a ha
    exact ⟨h1, _, h2, by simp, .inl ⟨rfl, rfl, by dsimp only; rw [if_pos (by omega)]⟩⟩
  have hH : JH T.length ((colS T).1, (fun _ => (0, [])), List.replicate (colS T).1.W.length 0) 0 :=
    ⟨hG, fun k hk => by rw [hlg k hk]; omega, fun a => ⟨by simp, by simp, by simp, by simp⟩, by simp⟩
  have hcl := comm_len T (colS T).2
  rw [← hcl] at hcom'
  refine cwp_sr rfl fun K hK => ?_
  simp only [exL_plain, exL_guard, exL_nil, fx_move, fx_assign, fx_pick, fx_nilCheck, fx_load, fx_fieldAddr, fx_indexAddr, fx_binOp, fx_not, fx_convert, fx_slice, fx_extract, fx_lookup, fx_build, fx_len, fx_store, fx_alloc, fx_box, fx_makeMap, fx_makeSlice, fx_buildSlice, fx_mapUpdate, fx_append, fx_call, ev_tmp, ev_const, updo_some, updo_none, upd_apply, thenQ_normal, optK_some, optE_some, optE_none, ptrK_mk, intK_mk, boolK_mk, strK_mk, sliceK_mk, addrK_mk, tupK_mk, mapK_mk, sndK_mk, mkK_mk, cvK_int, ldN_zero, ldN_two, ldN_four, ldN_five, binK_add, binK_sub, binK_mul, binK_eql, binK_neq, binK_lss, binK_leq, binK_gtr, binK_geq, binK_seql, binK_sneq, binK_sadd, binK_beql, binK_bneq, binK_peql, binK_pneq, binK_leql, binK_lneq, lenK_slice, lenK_string, ex_slice, ex_pointer, inR_i64, inR_i32, gdK_bool, gdK_undef, Ty.all, Nat.reduceEqDiff, Nat.reduceAdd, Nat.reduceMul, if_false, if_true, ↓reduceIte, true_and, and_true, Int.toNat_natCast, Nat.add_zero, Nat.mul_one, Bool.false_eq_true, decide_eq_true_eq, decide_eq_false_iff_not, Option.isNone_some, Option.isNone_none, Option.isSome_some, Option.isSome_none, List.map_toArray, List.map_cons, List.map_nil, stK_eq, stR_int, stR_bool, stR_string, stR_pointer, stR_slice, exD_plain, exD_guard, exD_nil, stepD_true, stepD_false, needOp, pureOp, Bool.false_or, Bool.true_or, Bool.or_false, Bool.or_true, gval_succ, gval_zero, Bd.s22, Bd.s22b, Bd.s31, Bd.s30, Bd.s30b, Bd.s30e, Bd.s42, Bd.s66, Bd.s67, Bd.b49, Bd.b54, Bd.b79, Bd.b82, Bd.b77, Bd.b86, Bd.b74, decide_true, decide_false, reduceCtorEq, ne_eq, not_true_eq_false, not_false_eq_true, true_implies, false_implies, implies_true, cond_true, cond_false, Bool.not_true, Bool.not_false, stR_agg2, stR_agg4, stR_agg5, one_int, one_bool, one_string, one_pointer, one_slice, one_map, retK_mk, cells_agg, rowAt_alloc, setRow_alloc, ow_four, ow_five, List.getElem_toArray, List.getElem_cons_zero, List.getElem_cons_succ, List.size_toArray, List.length_cons, List.length_nil, Nat.reduceLeDiff, g7]
  refine (judge_calls (X0 := ((colS T).1, (fun _ => (0, [])), List.replicate (colS T).1.W.length 0)) hM' hFd hcom' hcl hH rfl (by dsimp only; omega) (by dsimp only; omega) (by dsimp only; omega) (by omega)).mono ?_
  have hall := (hH.all (com := comm T (colS T).2) (colS T).1.R.length (Nat.le_refl _)).2
  clear hM hM' hFd hcom hcom' hS' hH
  rintro e w3 ⟨rfl, hb3, L3, c, fd, C, xo, hL3, hM, hFd, hcom⟩
  simp only [exL_plain, exL_guard, exL_nil, fx_move, fx_assign, fx_pick, fx_nilCheck, fx_load, fx_fieldAddr, fx_indexAddr, fx_binOp, fx_not, fx_convert, fx_slice, fx_extract, fx_lookup, fx_build, fx_len, fx_store, fx_alloc, fx_box, fx_makeMap, fx_makeSlice, fx_buildSlice, fx_mapUpdate, fx_append, fx_call, ev_tmp, ev_const, updo_some, updo_none, upd_apply, thenQ_normal, optK_some, optE_some, optE_none, ptrK_mk, intK_mk, boolK_mk, strK_mk, sliceK_mk, addrK_mk, tupK_mk, mapK_mk, sndK_mk, mkK_mk, cvK_int, ldN_zero, ldN_two, ldN_four, ldN_five, binK_add, binK_sub, binK_mul, binK_eql, binK_neq, binK_lss, binK_leq, binK_gtr, binK_geq, binK_seql, binK_sneq, binK_sadd, binK_beql, binK_bneq, binK_peql, binK_pneq, binK_leql, binK_lneq, lenK_slice, lenK_string, ex_slice, ex_pointer, inR_i64, inR_i32, gdK_bool, gdK_undef, Ty.all, Nat.reduceEqDiff, Nat.reduceAdd, Nat.reduceMul, if_false, if_true, ↓reduceIte, true_and, and_true, Int.toNat_natCast, Nat.add_zero, Nat.mul_one, Bool.false_eq_true, decide_eq_true_eq, decide_eq_false_iff_not, Option.isNone_some, Option.isNone_none, Option.isSome_some, Option.isSome_none, List.map_toArray, List.map_cons, List.map_nil, stK_eq, stR_int, stR_bool, stR_string, stR_pointer, stR_slice, exD_plain, exD_guard, exD_nil, stepD_true, stepD_false, needOp, pureOp, Bool.false_or, Bool.true_or, Bool.or_false, Bool.or_true, gval_succ, gval_zero, Bd.s22, Bd.s22b, Bd.s31, Bd.s30, Bd.s30b, Bd.s30e, Bd.s42, Bd.s66, Bd.s67, Bd.b49, Bd.b54, Bd.b79, Bd.b82, Bd.b77, Bd.b86, Bd.b74, decide_true, decide_false, reduceCtorEq, ne_eq, not_true_eq_false, not_false_eq_true, true_implies, false_implies, implies_true, cond_true, cond_false, Bool.not_true, Bool.not_false, stR_agg2, stR_agg4, stR_agg5, one_int, one_bool, one_string, one_pointer, one_slice, one_map, retK_mk, cells_agg, rowAt_alloc, setRow_alloc, ow_four, ow_five, List.getElem_toArray, List.getElem_cons_zero, List.getElem_cons_succ, List.size_toArray, List.length_cons, List.length_nil, Nat.reduceLeDiff]
  repeat (refine ⟨by omega, ?_⟩)
  refine hK _ _ ?_
  clear hK K
  change CM _ _ _ _ _ _ _ (judS T).1 _ _ _ _ _ _ _ at hM
  change Fd _ _ _ (judS T).2.1 at hFd
  have hRl : (judS T).1.R.length = (colS T).1.R.length := hall.2.2.2.1
  rw [← hRl] at hR
  have hb := hb.trans hb3
  rw [← hL3] at g7
  refine cwp_forget [7] fun ρ hL => ?_
  have g7X := hL 7 (by simp)
  clear hL
  simp only [upd_apply, Nat.reduceEqDiff, if_false, if_true, ↓reduceIte, g7] at g7X
  have g7 := g7X
  clear g7X
  rw [hcl] at hcom
  generalize hSS : (judS T).1 = S at *
  generalize hFF : (judS T).2.1 = F at *
  generalize comm T (colS T).2 = com at *
  clear hb3 hL3 hG hsl hKl hW hLl hlg hall hRl
  obtain ⟨ra, rcap, hrv⟩ := hM.rd.form
  have c6 := (hM.st.cell hM.hc 6).trans hM.cc.2.2.2.2.2.2.2.1
  rw [hrv] at c6
  have hR' : S.R.length ≤ 4096 := by omega
  obtain ⟨L4, c4, S4, a4, d4, o4⟩ := hM.st.new' hM.nb 13 (madeCells (Value.bool false).cells S.R.length) 4
  have M4 := hM.move S4 (by have := hM.nb; simp; omega) (fun r hr => o4 r (by omega))
  have b4 := hb.alloc hM.nb (.cells (madeCells (Value.bool false).cells S.R.length) 4)
  have F4 := hFd.congr (lay' := L4) (c' := c4) (fun r h1 h2 => o4 r (by omega))
  have m4 := hcom.congr (o4 8 (by omega)).1 (o4 8 (by omega)).2
  have x4 := RowV.madeB L4 c4 (r := 13) a4 d4 (show S.R.length ≤ 1000000 by omega)
  refine cwp_sr rfl fun K hK => ?_
  simp only [exL_plain, exL_guard, exL_nil, fx_move, fx_assign, fx_pick, fx_nilCheck, fx_load, fx_fieldAddr, fx_indexAddr, fx_binOp, fx_not, fx_convert, fx_slice, fx_extract, fx_lookup, fx_build, fx_len, fx_store, fx_alloc, fx_box, fx_makeMap, fx_makeSlice, fx_buildSlice, fx_mapUpdate, fx_append, fx_call, ev_tmp, ev_const, updo_some, updo_none, upd_apply, thenQ_normal, optK_some, optE_some, optE_none, ptrK_mk, intK_mk, boolK_mk, strK_mk, sliceK_mk, addrK_mk, tupK_mk, mapK_mk, sndK_mk, mkK_mk, cvK_int, ldN_zero, ldN_two, ldN_four, ldN_five, binK_add, binK_sub, binK_mul, binK_eql, binK_neq, binK_lss, binK_leq, binK_gtr, binK_geq, binK_seql, binK_sneq, binK_sadd, binK_beql, binK_bneq, binK_peql, binK_pneq, binK_leql, binK_lneq, lenK_slice, lenK_string, ex_slice, ex_pointer, inR_i64, inR_i32, gdK_bool, gdK_undef, Ty.all, Nat.reduceEqDiff, Nat.reduceAdd, Nat.reduceMul, if_false, if_true, ↓reduceIte, true_and, and_true, Int.toNat_natCast, Nat.add_zero, Nat.mul_one, Bool.false_eq_true, decide_eq_true_eq, decide_eq_false_iff_not, Option.isNone_some, Option.isNone_none, Option.isSome_some, Option.isSome_none, List.map_toArray, List.map_cons, List.map_nil, stK_eq, stR_int, stR_bool, stR_string, stR_pointer, stR_slice, exD_plain, exD_guard, exD_nil, stepD_true, stepD_false, needOp, pureOp, Bool.false_or, Bool.true_or, Bool.or_false, Bool.or_true, gval_succ, gval_zero, Bd.s22, Bd.s22b, Bd.s31, Bd.s30, Bd.s30b, Bd.s30e, Bd.s42, Bd.s66, Bd.s67, Bd.b49, Bd.b54, Bd.b79, Bd.b82, Bd.b77, Bd.b86, Bd.b74, decide_true, decide_false, reduceCtorEq, ne_eq, not_true_eq_false, not_false_eq_true, true_implies, false_implies, implies_true, cond_true, cond_false, Bool.not_true, Bool.not_false, stR_agg2, stR_agg4, stR_agg5, one_int, one_bool, one_string, one_pointer, one_slice, one_map, retK_mk, cells_agg, rowAt_alloc, setRow_alloc, ow_four, ow_five, List.getElem_toArray, List.getElem_cons_zero, List.getElem_cons_succ, List.size_toArray, List.length_cons, List.length_nil, Nat.reduceLeDiff, g7, c6, Nat.zero_add]
  repeat (refine ⟨by omega, ?_⟩)
  refine hK _ _ ?_
  clear hK K
  refine cwp_forget [7, 3] fun ρ hL => ?_
  have g7X := hL 7 (by simp)
  have g3X := hL 3 (by simp)
  clear hL
  simp only [upd_apply, Nat.reduceEqDiff, if_false, if_true, ↓reduceIte, g7] at g7X g3X
  have g7 := g7X
  clear g7X
  have g3 := g3X
  clear g3X
  have c6 := (M4.st.cell M4.hc 6).trans M4.cc.2.2.2.2.2.2.2.1
  rw [hrv] at c6
  rw [← (o4 0 (by omega)).1] at g7
  generalize w3.alloc (.cells (madeCells (Value.bool false).cells S.R.length) 4) = w4 at *
  obtain ⟨L5, c5, S5, a5, d5, o5⟩ := M4.st.new' M4.nb 14 (madeCells (Value.int .i32 0).cells S.R.length) 21
  have M5 := M4.move S5 (by have := M4.nb; simp; omega) (fun r hr => o5 r (by omega))
  have b5 := b4.alloc M4.nb (.cells (madeCells (Value.int .i32 0).cells S.R.length) 21)
  have F5 := F4.congr (lay' := L5) (c' := c5) (fun r h1 h2 => o5 r (by omega))
  have m5 := m4.congr (o5 8 (by omega)).1 (o5 8 (by omega)).2
  have x5 := x4.congr (o5 13 (by omega)).1 (o5 13 (by omega)).2
  have y5 := RowV.madeI L5 c5 (r := 14) a5 d5 (show S.R.length ≤ 1000000 by omega)
  refine cwp_sr rfl fun K hK => ?_
  simp only [exL_plain, exL_guard, exL_nil, fx_move, fx_assign, fx_pick, fx_nilCheck, fx_load, fx_fieldAddr, fx_indexAddr, fx_binOp, fx_not, fx_convert, fx_slice, fx_extract, fx_lookup, fx_build, fx_len, fx_store, fx_alloc, fx_box, fx_makeMap, fx_makeSlice, fx_buildSlice, fx_mapUpdate, fx_append, fx_call, ev_tmp, ev_const, updo_some, updo_none, upd_apply, thenQ_normal, optK_some, optE_some, optE_none, ptrK_mk, intK_mk, boolK_mk, strK_mk, sliceK_mk, addrK_mk, tupK_mk, mapK_mk, sndK_mk, mkK_mk, cvK_int, ldN_zero, ldN_two, ldN_four, ldN_five, binK_add, binK_sub, binK_mul, binK_eql, binK_neq, binK_lss, binK_leq, binK_gtr, binK_geq, binK_seql, binK_sneq, binK_sadd, binK_beql, binK_bneq, binK_peql, binK_pneq, binK_leql, binK_lneq, lenK_slice, lenK_string, ex_slice, ex_pointer, inR_i64, inR_i32, gdK_bool, gdK_undef, Ty.all, Nat.reduceEqDiff, Nat.reduceAdd, Nat.reduceMul, if_false, if_true, ↓reduceIte, true_and, and_true, Int.toNat_natCast, Nat.add_zero, Nat.mul_one, Bool.false_eq_true, decide_eq_true_eq, decide_eq_false_iff_not, Option.isNone_some, Option.isNone_none, Option.isSome_some, Option.isSome_none, List.map_toArray, List.map_cons, List.map_nil, stK_eq, stR_int, stR_bool, stR_string, stR_pointer, stR_slice, exD_plain, exD_guard, exD_nil, stepD_true, stepD_false, needOp, pureOp, Bool.false_or, Bool.true_or, Bool.or_false, Bool.or_true, gval_succ, gval_zero, Bd.s22, Bd.s22b, Bd.s31, Bd.s30, Bd.s30b, Bd.s30e, Bd.s42, Bd.s66, Bd.s67, Bd.b49, Bd.b54, Bd.b79, Bd.b82, Bd.b77, Bd.b86, Bd.b74, decide_true, decide_false, reduceCtorEq, ne_eq, not_true_eq_false, not_false_eq_true, true_implies, false_implies, implies_true, cond_true, cond_false, Bool.not_true, Bool.not_false, stR_agg2, stR_agg4, stR_agg5, one_int, one_bool, one_string, one_pointer, one_slice, one_map, retK_mk, cells_agg, rowAt_alloc, setRow_alloc, ow_four, ow_five, List.getElem_toArray, List.getElem_cons_zero, List.getElem_cons_succ, List.size_toArray, List.length_cons, List.length_nil, Nat.reduceLeDiff, g7, c6, Nat.zero_add]
  repeat (refine ⟨by omega, ?_⟩)
  refine hK _ _ ?_
  clear hK K
  refine cwp_forget [7, 3, 4] fun ρ hL => ?_
  have g7X := hL 7 (by simp)
  have g3X := hL 3 (by simp)
  have g4X := hL 4 (by simp)
  clear hL
  simp only [upd_apply, Nat.reduceEqDiff, if_false, if_true, ↓reduceIte, g7, g3] at g7X g3X g4X
  have g7 := g7X
  clear g7X
  have g3 := g3X
  clear g3X
  have g4 := g4X
  clear g4X
  have c6 := (M5.st.cell M5.hc 6).trans M5.cc.2.2.2.2.2.2.2.1
  rw [hrv] at c6
  rw [← (o5 0 (by omega)).1] at g7
  rw [← a4, ← (o5 13 (by omega)).1] at g3 x5
  rw [← a5] at g4 y5
  generalize w4.alloc (.cells (madeCells (Value.int .i32 0).cells S.R.length) 21) = w5 at *
  clear S4 S5 M4 hM d4 d5 hcom m4 x4 b4 F4 hFd
  refine cwp_seq fun K hK => ?_
  refine cwp_sr rfl fun K hK => ?_
  simp only [exL_plain, exL_guard, exL_nil, fx_move, fx_assign, fx_pick, fx_nilCheck, fx_load, fx_fieldAddr, fx_indexAddr, fx_binOp, fx_not, fx_convert, fx_slice, fx_extract, fx_lookup, fx_build, fx_len, fx_store, fx_alloc, fx_box, fx_makeMap, fx_makeSlice, fx_buildSlice, fx_mapUpdate, fx_append, fx_call, ev_tmp, ev_const, updo_some, updo_none, upd_apply, thenQ_normal, optK_some, optE_some, optE_none, ptrK_mk, intK_mk, boolK_mk, strK_mk, sliceK_mk, addrK_mk, tupK_mk, mapK_mk, sndK_mk, mkK_mk, cvK_int, ldN_zero, ldN_two, ldN_four, ldN_five, binK_add, binK_sub, binK_mul, binK_eql, binK_neq, binK_lss, binK_leq, binK_gtr, binK_geq, binK_seql, binK_sneq, binK_sadd, binK_beql, binK_bneq, binK_peql, binK_pneq, binK_leql, binK_lneq, lenK_slice, lenK_string, ex_slice, ex_pointer, inR_i64, inR_i32, gdK_bool, gdK_undef, Ty.all, Nat.reduceEqDiff, Nat.reduceAdd, Nat.reduceMul, if_false, if_true, ↓reduceIte, true_and, and_true, Int.toNat_natCast, Nat.add_zero, Nat.mul_one, Bool.false_eq_true, decide_eq_true_eq, decide_eq_false_iff_not, Option.isNone_some, Option.isNone_none, Option.isSome_some, Option.isSome_none, List.map_toArray, List.map_cons, List.map_nil, stK_eq, stR_int, stR_bool, stR_string, stR_pointer, stR_slice, exD_plain, exD_guard, exD_nil, stepD_true, stepD_false, needOp, pureOp, Bool.false_or, Bool.true_or, Bool.or_false, Bool.or_true, gval_succ, gval_zero, Bd.s22, Bd.s22b, Bd.s31, Bd.s30, Bd.s30b, Bd.s30e, Bd.s42, Bd.s66, Bd.s67, Bd.b49, Bd.b54, Bd.b79, Bd.b82, Bd.b77, Bd.b86, Bd.b74, decide_true, decide_false, reduceCtorEq, ne_eq, not_true_eq_false, not_false_eq_true, true_implies, false_implies, implies_true, cond_true, cond_false, Bool.not_true, Bool.not_false, stR_agg2, stR_agg4, stR_agg5, one_int, one_bool, one_string, one_pointer, one_slice, one_map, retK_mk, cells_agg, rowAt_alloc, setRow_alloc, ow_four, ow_five, List.getElem_toArray, List.getElem_cons_zero, List.getElem_cons_succ, List.size_toArray, List.length_cons, List.length_nil, Nat.reduceLeDiff, g7, c6, Nat.zero_add]
  repeat (refine ⟨by omega, ?_⟩)
  refine hK _ _ ?_
  clear hK K
  refine cwp_forget [7, 3, 4, 34, 35] fun ρ hL => ?_
  have g7X := hL 7 (by simp)
  have g3X := hL 3 (by simp)
  have g4X := hL 4 (by simp)
  have g34X := hL 34 (by simp)
  have g35X := hL 35 (by simp)
  clear hL
  simp only [upd_apply, Nat.reduceEqDiff, if_false, if_true, ↓reduceIte, g7, g3, g4] at g7X g3X g4X g34X g35X
  have g7 := g7X
  clear g7X
  have g3 := g3X
  clear g3X
  have g4 := g4X
  clear g4X
  have g34 := g34X
  clear g34X
  have g35 := g35X
  clear g35X
  refine cwp_for (fun i ρ wr => i ≤ S.R.length ∧ ρ 7 = .pointer (some ⟨L5 0, 0, none⟩) ∧ ρ 3 = .slice (some ⟨L5 13, 0, none⟩) S.R.length S.R.length ∧ ρ 4 = .slice (some ⟨L5 14, 0, none⟩) S.R.length S.R.length ∧ ρ 34 = .int .i64 S.R.length ∧ ρ 35 = .int .i64 (i : Nat) ∧
      Below w.heap.size w wr ∧ ∃ (c : Nat → Option AO) (x : List Bool) (y : List Int), CM w.heap.size wr L5 c (.slice ta T.length tcap) cv fd S C ov wv iv rv lv xo ∧ Fd L5 c fd F ∧ RowV L5 c 8 4 1 cv T.length (com.map .bool) ∧ RowV L5 c 13 4 1 (.slice (some ⟨L5 13, 0, none⟩) S.R.length S.R.length) S.R.length (vB x) ∧ RowV L5 c 14 21 1 (.slice (some ⟨L5 14, 0, none⟩) S.R.length S.R.length) S.R.length (vI y) ∧
        (x.length = S.R.length ∧ ∀ k, k < i → x.getD k false = (S.R.getD k rd0).cl) ∧ (y.length = S.R.length ∧ ∀ k, k < i → y.getD k 0 = lgOf S (S.R.getD k rd0)))
    (fun i => S.R.length - i) (fun ρ wr => ρ 7 = .pointer (some ⟨L5 0, 0, none⟩) ∧ ρ 3 = .slice (some ⟨L5 13, 0, none⟩) S.R.length S.R.length ∧ ρ 4 = .slice (some ⟨L5 14, 0, none⟩) S.R.length S.R.length ∧
      Below w.heap.size w wr ∧ ∃ (c : Nat → Option AO), CM w.heap.size wr L5 c (.slice ta T.length tcap) cv fd S C ov wv iv rv lv xo ∧ Fd L5 c fd F ∧ RowV L5 c 8 4 1 cv T.length (com.map .bool) ∧ RowV L5 c 13 4 1 (.slice (some ⟨L5 13, 0, none⟩) S.R.length S.R.length) S.R.length (vB (S.R.map (·.cl))) ∧ RowV L5 c 14 21 1 (.slice (some ⟨L5 14, 0, none⟩) S.R.length S.R.length) S.R.length (vI (S.R.map (lgOf S)))) 0 ?_ ?_ ?_
  · exact ⟨Nat.zero_le _, g7, g3, g4, g34, g35, b5, c5, List.replicate S.R.length false, List.replicate S.R.length 0, M5, F5, m5, x5, y5, ⟨by simp, fun k hk => by omega⟩, ⟨by simp, fun k hk => by omega⟩⟩
  · clear g7 g3 g4 g34 g35 M5 F5 m5 x5 y5 b5 c6
    rintro i ρ wr ⟨hi, g7, g3, g4, g34, g35, hb, c, x, y, hM, hFd, hcom, hx, hy, hxf, hyf⟩ K1 hK1
    refine cwp_sr rfl fun K hK => ?_
    simp only [exL_plain, exL_guard, exL_nil, fx_move, fx_assign, fx_pick, fx_nilCheck, fx_load, fx_fieldAddr, fx_indexAddr, fx_binOp, fx_not, fx_convert, fx_slice, fx_extract, fx_lookup, fx_build, fx_len, fx_store, fx_alloc, fx_box, fx_makeMap, fx_makeSlice, fx_buildSlice, fx_mapUpdate, fx_append, fx_call, ev_tmp, ev_const, updo_some, updo_none, upd_apply, thenQ_normal, optK_some, optE_some, optE_none, ptrK_mk, intK_mk, boolK_mk, strK_mk, sliceK_mk, addrK_mk, tupK_mk, mapK_mk, sndK_mk, mkK_mk, cvK_int, ldN_zero, ldN_two, ldN_four, ldN_five, binK_add, binK_sub, binK_mul, binK_eql, binK_neq, binK_lss, binK_leq, binK_gtr, binK_geq, binK_seql, binK_sneq, binK_sadd, binK_beql, binK_bneq, binK_peql, binK_pneq, binK_leql, binK_lneq, lenK_slice, lenK_string, ex_slice, ex_pointer, inR_i64, inR_i32, gdK_bool, gdK_undef, Ty.all, Nat.reduceEqDiff, Nat.reduceAdd, Nat.reduceMul, if_false, if_true, ↓reduceIte, true_and, and_true, Int.toNat_natCast, Nat.add_zero, Nat.mul_one, Bool.false_eq_true, decide_eq_true_eq, decide_eq_false_iff_not, Option.isNone_some, Option.isNone_none, Option.isSome_some, Option.isSome_none, List.map_toArray, List.map_cons, List.map_nil, stK_eq, stR_int, stR_bool, stR_string, stR_pointer, stR_slice, exD_plain, exD_guard, exD_nil, stepD_true, stepD_false, needOp, pureOp, Bool.false_or, Bool.true_or, Bool.or_false, Bool.or_true, gval_succ, gval_zero, Bd.s22, Bd.s22b, Bd.s31, Bd.s30, Bd.s30b, Bd.s30e, Bd.s42, Bd.s66, Bd.s67, Bd.b49, Bd.b54, Bd.b79, Bd.b82, Bd.b77, Bd.b86, Bd.b74, decide_true, decide_false, reduceCtorEq, ne_eq, not_true_eq_false, not_false_eq_true, true_implies, false_implies, implies_true, cond_true, cond_false, Bool.not_true, Bool.not_false, stR_agg2, stR_agg4, stR_agg5, one_int, one_bool, one_string, one_pointer, one_slice, one_map, retK_mk, cells_agg, rowAt_alloc, setRow_alloc, ow_four, ow_five, List.getElem_toArray, List.getElem_cons_zero, List.getElem_cons_succ, List.size_toArray, List.length_cons, List.length_nil, Nat.reduceLeDiff, g34, g35]
    repeat (refine ⟨by omega, ?_⟩)
    refine hK _ _ ?_
    clear hK K
    refine cwp_seq fun K hK => cwp_cond ?_
    simp only [exL_plain, exL_guard, exL_nil, fx_move, fx_assign, fx_pick, fx_nilCheck, fx_load, fx_fieldAddr, fx_indexAddr, fx_binOp, fx_not, fx_convert, fx_slice, fx_extract, fx_lookup, fx_build, fx_len, fx_store, fx_alloc, fx_box, fx_makeMap, fx_makeSlice, fx_buildSlice, fx_mapUpdate, fx_append, fx_call, ev_tmp, ev_const, updo_some, updo_none, upd_apply, thenQ_normal, optK_some, optE_some, optE_none, ptrK_mk, intK_mk, boolK_mk, strK_mk, sliceK_mk, addrK_mk, tupK_mk, mapK_mk, sndK_mk, mkK_mk, cvK_int, ldN_zero, ldN_two, ldN_four, ldN_five, binK_add, binK_sub, binK_mul, binK_eql, binK_neq, binK_lss, binK_leq, binK_gtr, binK_geq, binK_seql, binK_sneq, binK_sadd, binK_beql, binK_bneq, binK_peql, binK_pneq, binK_leql, binK_lneq, lenK_slice, lenK_string, ex_slice, ex_pointer, inR_i64, inR_i32, gdK_bool, gdK_undef, Ty.all, Nat.reduceEqDiff, Nat.reduceAdd, Nat.reduceMul, if_false, if_true, ↓reduceIte, true_and, and_true, Int.toNat_natCast, Nat.add_zero, Nat.mul_one, Bool.false_eq_true, decide_eq_true_eq, decide_eq_false_iff_not, Option.isNone_some, Option.isNone_none, Option.isSome_some, Option.isSome_none, List.map_toArray, List.map_cons, List.map_nil, stK_eq, stR_int, stR_bool, stR_string, stR_pointer, stR_slice, exD_plain, exD_guard, exD_nil, stepD_true, stepD_false, needOp, pureOp, Bool.false_or, Bool.true_or, Bool.or_false, Bool.or_true, gval_succ, gval_zero, Bd.s22, Bd.s22b, Bd.s31, Bd.s30, Bd.s30b, Bd.s30e, Bd.s42, Bd.s66, Bd.s67, Bd.b49, Bd.b54, Bd.b79, Bd.b82, Bd.b77, Bd.b86, Bd.b74, decide_true, decide_false, reduceCtorEq, ne_eq, not_true_eq_false, not_false_eq_true, true_implies, false_implies, implies_true, cond_true, cond_false, Bool.not_true, Bool.not_false, stR_agg2, stR_agg4, stR_agg5, one_int, one_bool, one_string, one_pointer, one_slice, one_map, retK_mk, cells_agg, rowAt_alloc, setRow_alloc, ow_four, ow_five, List.getElem_toArray, List.getElem_cons_zero, List.getElem_cons_succ, List.size_toArray, List.length_cons, List.length_nil, Nat.reduceLeDiff]
    refine ⟨fun hlt => cwp_skip (hK _ _ ?_), fun hge => cwp_exit (toJ ?_)⟩
    · clear hK K
      have hlt' : i < S.R.length := by omega
      obtain ⟨rc', hrv', hrc⟩ := hM.rd.get5 hM.st hlt'
      have r4 := (hrc 4 (by omega)).trans (flat5 S.R i 4 hlt' (by omega))
      simp only [rdCells, List.getElem?_cons_zero, List.getElem?_cons_succ, Nat.add_zero] at r4
      have c6 := (hM.st.cell hM.hc 6).trans hM.cc.2.2.2.2.2.2.2.1
      rw [hrv'] at c6
      obtain ⟨_, cur1, _, hc1, hcl1, hset1⟩ := hx.set hM.st hlt'
      have row1 := hM.st.row hc1
      obtain ⟨c1, S1, z1, o1⟩ := hM.st.set' hc1 (cur1.setIfInBounds i (.bool (S.R.getD i rd0).cl))
      have b1 := below_setRow hb (hM.st.ge hc1) (cur1.setIfInBounds i (.bool (S.R.getD i rd0).cl))
      have M1 := hM.move S1 b1.size (fun r hr => ⟨rfl, o1 r (by omega)⟩)
      have hcom1 := hcom.congr (lay' := L5) (c' := c1) rfl (o1 8 (by omega))
      have hFd1 := hFd.congr (lay' := L5) (c' := c1) (fun r h1 h2 => ⟨rfl, o1 r (by omega)⟩)
      have hy1 := hy.congr (lay' := L5) (c' := c1) rfl (o1 14 (by omega))
      have hx1 : RowV L5 c1 13 4 1 (.slice (some ⟨L5 13, 0, none⟩) S.R.length S.R.length) S.R.length (vB (x.set i (S.R.getD i rd0).cl)) := by
        rw [vB, List.map_set]
        exact (hset1 (.bool (S.R.getD i rd0).cl)).congr rfl (by rw [z1]; simp [updC])
      obtain ⟨_, _, hrc1⟩ := M1.rd.get5 M1.st hlt'
      have r1 := (hrc1 1 (by omega)).trans (flat5 S.R i 1 hlt' (by omega))
      simp only [rdCells, kptr, List.getElem?_cons_zero, List.getElem?_cons_succ, Nat.add_zero] at r1
      have c61 := (M1.st.cell M1.hc 6).trans M1.cc.2.2.2.2.2.2.2.1
      rw [hrv'] at c61
      obtain ⟨k40, _⟩ := M1.keys.2 (S.R.getD i rd0).kj (M1.rk _ (getD_mem hlt'))
      have m3 := M1.st.cell k40 3
      simp only [ksCells, List.getElem?_toArray, List.getElem?_cons_zero, List.getElem?_cons_succ] at m3
      change _ = some (Value.int .i32 (lgOf S (S.R.getD i rd0))) at m3
      obtain ⟨_, cur2, _, hc2, hcl2, hset2⟩ := hy1.set M1.st hlt'
      have row2 := M1.st.row hc2
      obtain ⟨c2, S2, z2, o2⟩ := M1.st.set' hc2 (cur2.setIfInBounds i (.int .i32 (lgOf S (S.R.getD i rd0))))
      have b2 := below_setRow b1 (M1.st.ge hc2) (cur2.setIfInBounds i (.int .i32 (lgOf S (S.R.getD i rd0))))
      have M2 := M1.move S2 b2.size (fun r hr => ⟨rfl, o2 r (by omega)⟩)
      have hcom2 := hcom1.congr (lay' := L5) (c' := c2) rfl (o2 8 (by omega))
      have hFd2 := hFd1.congr (lay' := L5) (c' := c2) (fun r h1 h2 => ⟨rfl, o2 r (by omega)⟩)
      have hx2 := hx1.congr (lay' := L5) (c' := c2) rfl (o2 13 (by omega))
      have hy2 : RowV L5 c2 14 21 1 (.slice (some ⟨L5 14, 0, none⟩) S.R.length S.R.length) S.R.length (vI (y.set i (lgOf S (S.R.getD i rd0)))) := by
        rw [vI, List.map_set]
        exact (hset2 (.int .i32 (lgOf S (S.R.getD i rd0)))).congr rfl (by rw [z2]; simp [updC])
      refine cwp_seq fun K2 hK2 => ?_
      refine cwp_block ?_
      refine cwp_forget [7, 3, 4, 34, 35] fun ρ hL => ?_
      have g7X := hL 7 (by simp)
      have g3X := hL 3 (by simp)
      have g4X := hL 4 (by simp)
      have g34X := hL 34 (by simp)
      have g35X := hL 35 (by simp)
      clear hL
      simp only [upd_apply, Nat.reduceEqDiff, if_false, if_true, ↓reduceIte, g7, g3, g4, g34, g35] at g7X g3X g4X g34X g35X
      have g7 := g7X
      clear g7X
      have g3 := g3X
      clear g3X
      have g4 := g4X
      clear g4X
      have g34 := g34X
      clear g34X
      have g35 := g35X
      clear g35X
      refine cwp_sr rfl fun K hK => ?_
      simp only [exL_plain, exL_guard, exL_nil, fx_move, fx_assign, fx_pick, fx_nilCheck, fx_load, fx_fieldAddr, fx_indexAddr, fx_binOp, fx_not, fx_convert, fx_slice, fx_extract, fx_lookup, fx_build, fx_len, fx_store, fx_alloc, fx_box, fx_makeMap, fx_makeSlice, fx_buildSlice, fx_mapUpdate, fx_append, fx_call, ev_tmp, ev_const, updo_some, updo_none, upd_apply, thenQ_normal, optK_some, optE_some, optE_none, ptrK_mk, intK_mk, boolK_mk, strK_mk, sliceK_mk, addrK_mk, tupK_mk, mapK_mk, sndK_mk, mkK_mk, cvK_int, ldN_zero, ldN_two, ldN_four, ldN_five, binK_add, binK_sub, binK_mul, binK_eql, binK_neq, binK_lss, binK_leq, binK_gtr, binK_geq, binK_seql, binK_sneq, binK_sadd, binK_beql, binK_bneq, binK_peql, binK_pneq, binK_leql, binK_lneq, lenK_slice, lenK_string, ex_slice, ex_pointer, inR_i64, inR_i32, gdK_bool, gdK_undef, Ty.all, Nat.reduceEqDiff, Nat.reduceAdd, Nat.reduceMul, if_false, if_true, ↓reduceIte, true_and, and_true, Int.toNat_natCast, Nat.add_zero, Nat.mul_one, Bool.false_eq_true, decide_eq_true_eq, decide_eq_false_iff_not, Option.isNone_some, Option.isNone_none, Option.isSome_some, Option.isSome_none, List.map_toArray, List.map_cons, List.map_nil, stK_eq, stR_int, stR_bool, stR_string, stR_pointer, stR_slice, exD_plain, exD_guard, exD_nil, stepD_true, stepD_false, needOp, pureOp, Bool.false_or, Bool.true_or, Bool.or_false, Bool.or_true, gval_succ, gval_zero, Bd.s22, Bd.s22b, Bd.s31, Bd.s30, Bd.s30b, Bd.s30e, Bd.s42, Bd.s66, Bd.s67, Bd.b49, Bd.b54, Bd.b79, Bd.b82, Bd.b77, Bd.b86, Bd.b74, decide_true, decide_false, reduceCtorEq, ne_eq, not_true_eq_false, not_false_eq_true, true_implies, false_implies, implies_true, cond_true, cond_false, Bool.not_true, Bool.not_false, stR_agg2, stR_agg4, stR_agg5, one_int, one_bool, one_string, one_pointer, one_slice, one_map, retK_mk, cells_agg, rowAt_alloc, setRow_alloc, ow_four, ow_five, List.getElem_toArray, List.getElem_cons_zero, List.getElem_cons_succ, List.size_toArray, List.length_cons, List.length_nil, Nat.reduceLeDiff, g35]
      repeat (refine ⟨by omega, ?_⟩)
      refine hK _ _ ?_
      clear hK K
      refine cwp_forget [7, 3, 4, 34, 35, 8] fun ρ hL => ?_
      have g7X := hL 7 (by simp)
      have g3X := hL 3 (by simp)
      have g4X := hL 4 (by simp)
      have g34X := hL 34 (by simp)
      have g35X := hL 35 (by simp)
      have g8X := hL 8 (by simp)
      clear hL
      simp only [upd_apply, Nat.reduceEqDiff, if_false, if_true, ↓reduceIte, g7, g3, g4, g34, g35] at g7X g3X g4X g34X g35X g8X
      have g7 := g7X
      clear g7X
      have g3 := g3X
      clear g3X
      have g4 := g4X
      clear g4X
      have g34 := g34X
      clear g34X
      have g35 := g35X
      clear g35X
      have g8 := g8X
      clear g8X
      refine cwp_sr rfl fun K hK => ?_
      simp only [exL_plain, exL_guard, exL_nil, fx_move, fx_assign, fx_pick, fx_nilCheck, fx_load, fx_fieldAddr, fx_indexAddr, fx_binOp, fx_not, fx_convert, fx_slice, fx_extract, fx_lookup, fx_build, fx_len, fx_store, fx_alloc, fx_box, fx_makeMap, fx_makeSlice, fx_buildSlice, fx_mapUpdate, fx_append, fx_call, ev_tmp, ev_const, updo_some, updo_none, upd_apply, thenQ_normal, optK_some, optE_some, optE_none, ptrK_mk, intK_mk, boolK_mk, strK_mk, sliceK_mk, addrK_mk, tupK_mk, mapK_mk, sndK_mk, mkK_mk, cvK_int, ldN_zero, ldN_two, ldN_four, ldN_five, binK_add, binK_sub, binK_mul, binK_eql, binK_neq, binK_lss, binK_leq, binK_gtr, binK_geq, binK_seql, binK_sneq, binK_sadd, binK_beql, binK_bneq, binK_peql, binK_pneq, binK_leql, binK_lneq, lenK_slice, lenK_string, ex_slice, ex_pointer, inR_i64, inR_i32, gdK_bool, gdK_undef, Ty.all, Nat.reduceEqDiff, Nat.reduceAdd, Nat.reduceMul, if_false, if_true, ↓reduceIte, true_and, and_true, Int.toNat_natCast, Nat.add_zero, Nat.mul_one, Bool.false_eq_true, decide_eq_true_eq, decide_eq_false_iff_not, Option.isNone_some, Option.isNone_none, Option.isSome_some, Option.isSome_none, List.map_toArray, List.map_cons, List.map_nil, stK_eq, stR_int, stR_bool, stR_string, stR_pointer, stR_slice, exD_plain, exD_guard, exD_nil, stepD_true, stepD_false, needOp, pureOp, Bool.false_or, Bool.true_or, Bool.or_false, Bool.or_true, gval_succ, gval_zero, Bd.s22, Bd.s22b, Bd.s31, Bd.s30, Bd.s30b, Bd.s30e, Bd.s42, Bd.s66, Bd.s67, Bd.b49, Bd.b54, Bd.b79, Bd.b82, Bd.b77, Bd.b86, Bd.b74, decide_true, decide_false, reduceCtorEq, ne_eq, not_true_eq_false, not_false_eq_true, true_implies, false_implies, implies_true, cond_true, cond_false, Bool.not_true, Bool.not_false, stR_agg2, stR_agg4, stR_agg5, one_int, one_bool, one_string, one_pointer, one_slice, one_map, retK_mk, cells_agg, rowAt_alloc, setRow_alloc, ow_four, ow_five, List.getElem_toArray, List.getElem_cons_zero, List.getElem_cons_succ, List.size_toArray, List.length_cons, List.length_nil, Nat.reduceLeDiff, g7, g3, g8, c6, r4, row1, Nat.zero_add]
      repeat (refine ⟨by omega, ?_⟩)
      refine hK _ _ ?_
      clear hK K
      refine cwp_forget [7, 3, 4, 34, 35, 8] fun ρ hL => ?_
      have g7X := hL 7 (by simp)
      have g3X := hL 3 (by simp)
      have g4X := hL 4 (by simp)
      have g34X := hL 34 (by simp)
      have g35X := hL 35 (by simp)
      have g8X := hL 8 (by simp)
      clear hL
      simp only [upd_apply, Nat.reduceEqDiff, if_false, if_true, ↓reduceIte, g7, g3, g4, g34, g35, g8] at g7X g3X g4X g34X g35X g8X
      have g7 := g7X
      clear g7X
      have g3 := g3X
      clear g3X
      have g4 := g4X
      clear g4X
      have g34 := g34X
      clear g34X
      have g35 := g35X
      clear g35X
      have g8 := g8X
      clear g8X
      refine cwp_region rfl ?_
      simp only [exL_plain, exL_guard, exL_nil, fx_move, fx_assign, fx_pick, fx_nilCheck, fx_load, fx_fieldAddr, fx_indexAddr, fx_binOp, fx_not, fx_convert, fx_slice, fx_extract, fx_lookup, fx_build, fx_len, fx_store, fx_alloc, fx_box, fx_makeMap, fx_makeSlice, fx_buildSlice, fx_mapUpdate, fx_append, fx_call, ev_tmp, ev_const, updo_some, updo_none, upd_apply, thenQ_normal, optK_some, optE_some, optE_none, ptrK_mk, intK_mk, boolK_mk, strK_mk, sliceK_mk, addrK_mk, tupK_mk, mapK_mk, sndK_mk, mkK_mk, cvK_int, ldN_zero, ldN_two, ldN_four, ldN_five, binK_add, binK_sub, binK_mul, binK_eql, binK_neq, binK_lss, binK_leq, binK_gtr, binK_geq, binK_seql, binK_sneq, binK_sadd, binK_beql, binK_bneq, binK_peql, binK_pneq, binK_leql, binK_lneq, lenK_slice, lenK_string, ex_slice, ex_pointer, inR_i64, inR_i32, gdK_bool, gdK_undef, Ty.all, Nat.reduceEqDiff, Nat.reduceAdd, Nat.reduceMul, if_false, if_true, ↓reduceIte, true_and, and_true, Int.toNat_natCast, Nat.add_zero, Nat.mul_one, Bool.false_eq_true, decide_eq_true_eq, decide_eq_false_iff_not, Option.isNone_some, Option.isNone_none, Option.isSome_some, Option.isSome_none, List.map_toArray, List.map_cons, List.map_nil, stK_eq, stR_int, stR_bool, stR_string, stR_pointer, stR_slice, exD_plain, exD_guard, exD_nil, stepD_true, stepD_false, needOp, pureOp, Bool.false_or, Bool.true_or, Bool.or_false, Bool.or_true, gval_succ, gval_zero, Bd.s22, Bd.s22b, Bd.s31, Bd.s30, Bd.s30b, Bd.s30e, Bd.s42, Bd.s66, Bd.s67, Bd.b49, Bd.b54, Bd.b79, Bd.b82, Bd.b77, Bd.b86, Bd.b74, decide_true, decide_false, reduceCtorEq, ne_eq, not_true_eq_false, not_false_eq_true, true_implies, false_implies, implies_true, cond_true, cond_false, Bool.not_true, Bool.not_false, stR_agg2, stR_agg4, stR_agg5, one_int, one_bool, one_string, one_pointer, one_slice, one_map, retK_mk, cells_agg, rowAt_alloc, setRow_alloc, ow_four, ow_five, List.getElem_toArray, List.getElem_cons_zero, List.getElem_cons_succ, List.size_toArray, List.length_cons, List.length_nil, Nat.reduceLeDiff, g7, g4, g8, c61, r1, m3, row2, Nat.zero_add, blkQ_normal]
      repeat (refine ⟨by omega, ?_⟩)
      refine hK2 _ _ ?_
      refine cwp_region rfl ?_
      simp only [exL_plain, exL_guard, exL_nil, fx_move, fx_assign, fx_pick, fx_nilCheck, fx_load, fx_fieldAddr, fx_indexAddr, fx_binOp, fx_not, fx_convert, fx_slice, fx_extract, fx_lookup, fx_build, fx_len, fx_store, fx_alloc, fx_box, fx_makeMap, fx_makeSlice, fx_buildSlice, fx_mapUpdate, fx_append, fx_call, ev_tmp, ev_const, updo_some, updo_none, upd_apply, thenQ_normal, optK_some, optE_some, optE_none, ptrK_mk, intK_mk, boolK_mk, strK_mk, sliceK_mk, addrK_mk, tupK_mk, mapK_mk, sndK_mk, mkK_mk, cvK_int, ldN_zero, ldN_two, ldN_four, ldN_five, binK_add, binK_sub, binK_mul, binK_eql, binK_neq, binK_lss, binK_leq, binK_gtr, binK_geq, binK_seql, binK_sneq, binK_sadd, binK_beql, binK_bneq, binK_peql, binK_pneq, binK_leql, binK_lneq, lenK_slice, lenK_string, ex_slice, ex_pointer, inR_i64, inR_i32, gdK_bool, gdK_undef, Ty.all, Nat.reduceEqDiff, Nat.reduceAdd, Nat.reduceMul, if_false, if_true, ↓reduceIte, true_and, and_true, Int.toNat_natCast, Nat.add_zero, Nat.mul_one, Bool.false_eq_true, decide_eq_true_eq, decide_eq_false_iff_not, Option.isNone_some, Option.isNone_none, Option.isSome_some, Option.isSome_none, List.map_toArray, List.map_cons, List.map_nil, stK_eq, stR_int, stR_bool, stR_string, stR_pointer, stR_slice, exD_plain, exD_guard, exD_nil, stepD_true, stepD_false, needOp, pureOp, Bool.false_or, Bool.true_or, Bool.or_false, Bool.or_true, gval_succ, gval_zero, Bd.s22, Bd.s22b, Bd.s31, Bd.s30, Bd.s30b, Bd.s30e, Bd.s42, Bd.s66, Bd.s67, Bd.b49, Bd.b54, Bd.b79, Bd.b82, Bd.b77, Bd.b86, Bd.b74, decide_true, decide_false, reduceCtorEq, ne_eq, not_true_eq_false, not_false_eq_true, true_implies, false_implies, implies_true, cond_true, cond_false, Bool.not_true, Bool.not_false, stR_agg2, stR_agg4, stR_agg5, one_int, one_bool, one_string, one_pointer, one_slice, one_map, retK_mk, cells_agg, rowAt_alloc, setRow_alloc, ow_four, ow_five, List.getElem_toArray, List.getElem_cons_zero, List.getElem_cons_succ, List.size_toArray, List.length_cons, List.length_nil, Nat.reduceLeDiff, g35]
      repeat (refine ⟨by omega, ?_⟩)
      refine hK1 _ _ (i + 1) ⟨hlt', ?_, ?_, ?_, ?_, ?_, b2, c2, x.set i (S.R.getD i rd0).cl, y.set i (lgOf S (S.R.getD i rd0)), M2, hFd2, hcom2, hx2, hy2, set_fill (f := fun k => (S.R.getD k rd0).cl) hxf.1 hlt' hxf.2 rfl, set_fill (f := fun k => lgOf S (S.R.getD k rd0)) hyf.1 hlt' hyf.2 rfl⟩ (by omega)
      · simp only [exL_plain, exL_guard, exL_nil, fx_move, fx_assign, fx_pick, fx_nilCheck, fx_load, fx_fieldAddr, fx_indexAddr, fx_binOp, fx_not, fx_convert, fx_slice, fx_extract, fx_lookup, fx_build, fx_len, fx_store, fx_alloc, fx_box, fx_makeMap, fx_makeSlice, fx_buildSlice, fx_mapUpdate, fx_append, fx_call, ev_tmp, ev_const, updo_some, updo_none, upd_apply, thenQ_normal, optK_some, optE_some, optE_none, ptrK_mk, intK_mk, boolK_mk, strK_mk, sliceK_mk, addrK_mk, tupK_mk, mapK_mk, sndK_mk, mkK_mk, cvK_int, ldN_zero, ldN_two, ldN_four, ldN_five, binK_add, binK_sub, binK_mul, binK_eql, binK_neq, binK_lss, binK_leq, binK_gtr, binK_geq, binK_seql, binK_sneq, binK_sadd, binK_beql, binK_bneq, binK_peql, binK_pneq, binK_leql, binK_lneq, lenK_slice, lenK_string, ex_slice, ex_pointer, inR_i64, inR_i32, gdK_bool, gdK_undef, Ty.all, Nat.reduceEqDiff, Nat.reduceAdd, Nat.reduceMul, if_false, if_true, ↓reduceIte, true_and, and_true, Int.toNat_natCast, Nat.add_zero, Nat.mul_one, Bool.false_eq_true, decide_eq_true_eq, decide_eq_false_iff_not, Option.isNone_some, Option.isNone_none, Option.isSome_some, Option.isSome_none, List.map_toArray, List.map_cons, List.map_nil, stK_eq, stR_int, stR_bool, stR_string, stR_pointer, stR_slice, exD_plain, exD_guard, exD_nil, stepD_true, stepD_false, needOp, pureOp, Bool.false_or, Bool.true_or, Bool.or_false, Bool.or_true, gval_succ, gval_zero, Bd.s22, Bd.s22b, Bd.s31, Bd.s30, Bd.s30b, Bd.s30e, Bd.s42, Bd.s66, Bd.s67, Bd.b49, Bd.b54, Bd.b79, Bd.b82, Bd.b77, Bd.b86, Bd.b74, decide_true, decide_false, reduceCtorEq, ne_eq, not_true_eq_false, not_false_eq_true, true_implies, false_implies, implies_true, cond_true, cond_false, Bool.not_true, Bool.not_false, stR_agg2, stR_agg4, stR_agg5, one_int, one_bool, one_string, one_pointer, one_slice, one_map, retK_mk, cells_agg, rowAt_alloc, setRow_alloc, ow_four, ow_five, List.getElem_toArray, List.getElem_cons_zero, List.getElem_cons_succ, List.size_toArray, List.length_cons, List.length_nil, Nat.reduceLeDiff, g7]
      · simp only [exL_plain, exL_guard, exL_nil, fx_move, fx_assign, fx_pick, fx_nilCheck, fx_load, fx_fieldAddr, fx_indexAddr, fx_binOp, fx_not, fx_convert, fx_slice, fx_extract, fx_lookup, fx_build, fx_len, fx_store, fx_alloc, fx_box, fx_makeMap, fx_makeSlice, fx_buildSlice, fx_mapUpdate, fx_append, fx_call, ev_tmp, ev_const, updo_some, updo_none, upd_apply, thenQ_normal, optK_some, optE_some, optE_none, ptrK_mk, intK_mk, boolK_mk, strK_mk, sliceK_mk, addrK_mk, tupK_mk, mapK_mk, sndK_mk, mkK_mk, cvK_int, ldN_zero, ldN_two, ldN_four, ldN_five, binK_add, binK_sub, binK_mul, binK_eql, binK_neq, binK_lss, binK_leq, binK_gtr, binK_geq, binK_seql, binK_sneq, binK_sadd, binK_beql, binK_bneq, binK_peql, binK_pneq, binK_leql, binK_lneq, lenK_slice, lenK_string, ex_slice, ex_pointer, inR_i64, inR_i32, gdK_bool, gdK_undef, Ty.all, Nat.reduceEqDiff, Nat.reduceAdd, Nat.reduceMul, if_false, if_true, ↓reduceIte, true_and, and_true, Int.toNat_natCast, Nat.add_zero, Nat.mul_one, Bool.false_eq_true, decide_eq_true_eq, decide_eq_false_iff_not, Option.isNone_some, Option.isNone_none, Option.isSome_some, Option.isSome_none, List.map_toArray, List.map_cons, List.map_nil, stK_eq, stR_int, stR_bool, stR_string, stR_pointer, stR_slice, exD_plain, exD_guard, exD_nil, stepD_true, stepD_false, needOp, pureOp, Bool.false_or, Bool.true_or, Bool.or_false, Bool.or_true, gval_succ, gval_zero, Bd.s22, Bd.s22b, Bd.s31, Bd.s30, Bd.s30b, Bd.s30e, Bd.s42, Bd.s66, Bd.s67, Bd.b49, Bd.b54, Bd.b79, Bd.b82, Bd.b77, Bd.b86, Bd.b74, decide_true, decide_false, reduceCtorEq, ne_eq, not_true_eq_false, not_false_eq_true, true_implies, false_implies, implies_true, cond_true, cond_false, Bool.not_true, Bool.not_false, stR_agg2, stR_agg4, stR_agg5, one_int, one_bool, one_string, one_pointer, one_slice, one_map, retK_mk, cells_agg, rowAt_alloc, setRow_alloc, ow_four, ow_five, List.getElem_toArray, List.getElem_cons_zero, List.getElem_cons_succ, List.size_toArray, List.length_cons, List.length_nil, Nat.reduceLeDiff, g3]
      · simp only [exL_plain, exL_guard, exL_nil, fx_move, fx_assign, fx_pick, fx_nilCheck, fx_load, fx_fieldAddr, fx_indexAddr, fx_binOp, fx_not, fx_convert, fx_slice, fx_extract, fx_lookup, fx_build, fx_len, fx_store, fx_alloc, fx_box, fx_makeMap, fx_makeSlice, fx_buildSlice, fx_mapUpdate, fx_append, fx_call, ev_tmp, ev_const, updo_some, updo_none, upd_apply, thenQ_normal, optK_some, optE_some, optE_none, ptrK_mk, intK_mk, boolK_mk, strK_mk, sliceK_mk, addrK_mk, tupK_mk, mapK_mk, sndK_mk, mkK_mk, cvK_int, ldN_zero, ldN_two, ldN_four, ldN_five, binK_add, binK_sub, binK_mul, binK_eql, binK_neq, binK_lss, binK_leq, binK_gtr, binK_geq, binK_seql, binK_sneq, binK_sadd, binK_beql, binK_bneq, binK_peql, binK_pneq, binK_leql, binK_lneq, lenK_slice, lenK_string, ex_slice, ex_pointer, inR_i64, inR_i32, gdK_bool, gdK_undef, Ty.all, Nat.reduceEqDiff, Nat.reduceAdd, Nat.reduceMul, if_false, if_true, ↓reduceIte, true_and, and_true, Int.toNat_natCast, Nat.add_zero, Nat.mul_one, Bool.false_eq_true, decide_eq_true_eq, decide_eq_false_iff_not, Option.isNone_some, Option.isNone_none, Option.isSome_some, Option.isSome_none, List.map_toArray, List.map_cons, List.map_nil, stK_eq, stR_int, stR_bool, stR_string, stR_pointer, stR_slice, exD_plain, exD_guard, exD_nil, stepD_true, stepD_false, needOp, pureOp, Bool.false_or, Bool.true_or, Bool.or_false, Bool.or_true, gval_succ, gval_zero, Bd.s22, Bd.s22b, Bd.s31, Bd.s30, Bd.s30b, Bd.s30e, Bd.s42, Bd.s66, Bd.s67, Bd.b49, Bd.b54, Bd.b79, Bd.b82, Bd.b77, Bd.b86, Bd.b74, decide_true, decide_false, reduceCtorEq, ne_eq, not_true_eq_false, not_false_eq_true, true_implies, false_implies, implies_true, cond_true, cond_false, Bool.not_true, Bool.not_false, stR_agg2, stR_agg4, stR_agg5, one_int, one_bool, one_string, one_pointer, one_slice, one_map, retK_mk, cells_agg, rowAt_alloc, setRow_alloc, ow_four, ow_five, List.getElem_toArray, List.getElem_cons_zero, List.getElem_cons_succ, List.size_toArray, List.length_cons, List.length_nil, Nat.reduceLeDiff, g4]
      · simp only [exL_plain, exL_guard, exL_nil, fx_move, fx_assign, fx_pick, fx_nilCheck, fx_load, fx_fieldAddr, fx_indexAddr, fx_binOp, fx_not, fx_convert, fx_slice, fx_extract, fx_lookup, fx_build, fx_len, fx_store, fx_alloc, fx_box, fx_makeMap, fx_makeSlice, fx_buildSlice, fx_mapUpdate, fx_append, fx_call, ev_tmp, ev_const, updo_some, updo_none, upd_apply, thenQ_normal, optK_some, optE_some, optE_none, ptrK_mk, intK_mk, boolK_mk, strK_mk, sliceK_mk, addrK_mk, tupK_mk, mapK_mk, sndK_mk, mkK_mk, cvK_int, ldN_zero, ldN_two, ldN_four, ldN_five, binK_add, binK_sub, binK_mul, binK_eql, binK_neq, binK_lss, binK_leq, binK_gtr, binK_geq, binK_seql, binK_sneq, binK_sadd, binK_beql, binK_bneq, binK_peql, binK_pneq, binK_leql, binK_lneq, lenK_slice, lenK_string, ex_slice, ex_pointer, inR_i64, inR_i32, gdK_bool, gdK_undef, Ty.all, Nat.reduceEqDiff, Nat.reduceAdd, Nat.reduceMul, if_false, if_true, ↓reduceIte, true_and, and_true, Int.toNat_natCast, Nat.add_zero, Nat.mul_one, Bool.false_eq_true, decide_eq_true_eq, decide_eq_false_iff_not, Option.isNone_some, Option.isNone_none, Option.isSome_some, Option.isSome_none, List.map_toArray, List.map_cons, List.map_nil, stK_eq, stR_int, stR_bool, stR_string, stR_pointer, stR_slice, exD_plain, exD_guard, exD_nil, stepD_true, stepD_false, needOp, pureOp, Bool.false_or, Bool.true_or, Bool.or_false, Bool.or_true, gval_succ, gval_zero, Bd.s22, Bd.s22b, Bd.s31, Bd.s30, Bd.s30b, Bd.s30e, Bd.s42, Bd.s66, Bd.s67, Bd.b49, Bd.b54, Bd.b79, Bd.b82, Bd.b77, Bd.b86, Bd.b74, decide_true, decide_false, reduceCtorEq, ne_eq, not_true_eq_false, not_false_eq_true, true_implies, false_implies, implies_true, cond_true, cond_false, Bool.not_true, Bool.not_false, stR_agg2, stR_agg4, stR_agg5, one_int, one_bool, one_string, one_pointer, one_slice, one_map, retK_mk, cells_agg, rowAt_alloc, setRow_alloc, ow_four, ow_five, List.getElem_toArray, List.getElem_cons_zero, List.getElem_cons_succ, List.size_toArray, List.length_cons, List.length_nil, Nat.reduceLeDiff, g34]
      · simp only [exL_plain, exL_guard, exL_nil, fx_move, fx_assign, fx_pick, fx_nilCheck, fx_load, fx_fieldAddr, fx_indexAddr, fx_binOp, fx_not, fx_convert, fx_slice, fx_extract, fx_lookup, fx_build, fx_len, fx_store, fx_alloc, fx_box, fx_makeMap, fx_makeSlice, fx_buildSlice, fx_mapUpdate, fx_append, fx_call, ev_tmp, ev_const, updo_some, updo_none, upd_apply, thenQ_normal, optK_some, optE_some, optE_none, ptrK_mk, intK_mk, boolK_mk, strK_mk, sliceK_mk, addrK_mk, tupK_mk, mapK_mk, sndK_mk, mkK_mk, cvK_int, ldN_zero, ldN_two, ldN_four, ldN_five, binK_add, binK_sub, binK_mul, binK_eql, binK_neq, binK_lss, binK_leq, binK_gtr, binK_geq, binK_seql, binK_sneq, binK_sadd, binK_beql, binK_bneq, binK_peql, binK_pneq, binK_leql, binK_lneq, lenK_slice, lenK_string, ex_slice, ex_pointer, inR_i64, inR_i32, gdK_bool, gdK_undef, Ty.all, Nat.reduceEqDiff, Nat.reduceAdd, Nat.reduceMul, if_false, if_true, ↓reduceIte, true_and, and_true, Int.toNat_natCast, Nat.add_zero, Nat.mul_one, Bool.false_eq_true, decide_eq_true_eq, decide_eq_false_iff_not, Option.isNone_some, Option.isNone_none, Option.isSome_some, Option.isSome_none, List.map_toArray, List.map_cons, List.map_nil, stK_eq, stR_int, stR_bool, stR_string, stR_pointer, stR_slice, exD_plain, exD_guard, exD_nil, stepD_true, stepD_false, needOp, pureOp, Bool.false_or, Bool.true_or, Bool.or_false, Bool.or_true, gval_succ, gval_zero, Bd.s22, Bd.s22b, Bd.s31, Bd.s30, Bd.s30b, Bd.s30e, Bd.s42, Bd.s66, Bd.s67, Bd.b49, Bd.b54, Bd.b79, Bd.b82, Bd.b77, Bd.b86, Bd.b74, decide_true, decide_false, reduceCtorEq, ne_eq, not_true_eq_false, not_false_eq_true, true_implies, false_implies, implies_true, cond_true, cond_false, Bool.not_true, Bool.not_false, stR_agg2, stR_agg4, stR_agg5, one_int, one_bool, one_string, one_pointer, one_slice, one_map, retK_mk, cells_agg, rowAt_alloc, setRow_alloc, ow_four, ow_five, List.getElem_toArray, List.getElem_cons_zero, List.getElem_cons_succ, List.size_toArray, List.length_cons, List.length_nil, Nat.reduceLeDiff]
        rfl
    · obtain rfl : i = S.R.length := by omega
      refine ⟨g7, g3, g4, hb, c, hM, hFd, hcom, ?_, ?_⟩
      · rw [← filled (ys := S.R.map (·.cl)) (d := false) (n := S.R.length) hxf.1 (by simp) (fun k hk => by rw [hxf.2 k hk]; simp [List.getD_eq_getElem?_getD, hk])]; exact hx
      · rw [← filled (ys := S.R.map (lgOf S)) (d := 0) (n := S.R.length) hyf.1 (by simp) (fun k hk => by rw [hyf.2 k hk]; simp [List.getD_eq_getElem?_getD, hk])]; exact hy
  · clear g7 g3 g4 g34 g35 M5 F5 m5 x5 y5 b5 c6
    rintro ρ wr ⟨g7, g3, g4, hb, c, hM, hFd, hcom, hx, hy⟩
    refine hK _ _ ?_
    clear hK K
    obtain ⟨L6, c6, S6, a6, d6, o6⟩ := hM.st.new' hM.nb 15 (madeCells (Value.int .i64 0).cells 9) 3
    have M6 := hM.move S6 (by have := hM.nb; simp; omega) (fun r hr => o6 r (by omega))
    have b6 := hb.alloc hM.nb (.cells (madeCells (Value.int .i64 0).cells 9) 3)
    have F6 := hFd.congr (lay' := L6) (c' := c6) (fun r h1 h2 => o6 r (by omega))
    have m6 := hcom.congr (o6 8 (by omega)).1 (o6 8 (by omega)).2
    have x6 := hx.congr (o6 13 (by omega)).1 (o6 13 (by omega)).2
    have y6 := hy.congr (o6 14 (by omega)).1 (o6 14 (by omega)).2
    have p6 : RowV L6 c6 15 3 1 (.slice (some ⟨wr.heap.size, 0, none⟩) 9 9) 9 ((List.replicate 9 (0 : Int)).map fun n => .int .i64 n) :=
      ⟨by simp, .inr ⟨9, _, by rw [a6], d6, Nat.le_refl _, by unfold maxLen; omega, by rw [size_madeCells], by
        rw [show (Value.int .i64 0).cells = #[.int .i64 0] from rfl, toList_madeCells_one]
        rfl⟩⟩
    refine cwp_sr rfl fun K hK => ?_
    simp only [exL_plain, exL_guard, exL_nil, fx_move, fx_assign, fx_pick, fx_nilCheck, fx_load, fx_fieldAddr, fx_indexAddr, fx_binOp, fx_not, fx_convert, fx_slice, fx_extract, fx_lookup, fx_build, fx_len, fx_store, fx_alloc, fx_box, fx_makeMap, fx_makeSlice, fx_buildSlice, fx_mapUpdate, fx_append, fx_call, ev_tmp, ev_const, updo_some, updo_none, upd_apply, thenQ_normal, optK_some, optE_some, optE_none, ptrK_mk, intK_mk, boolK_mk, strK_mk, sliceK_mk, addrK_mk, tupK_mk, mapK_mk, sndK_mk, mkK_mk, cvK_int, ldN_zero, ldN_two, ldN_four, ldN_five, binK_add, binK_sub, binK_mul, binK_eql, binK_neq, binK_lss, binK_leq, binK_gtr, binK_geq, binK_seql, binK_sneq, binK_sadd, binK_beql, binK_bneq, binK_peql, binK_pneq, binK_leql, binK_lneq, lenK_slice, lenK_string, ex_slice, ex_pointer, inR_i64, inR_i32, gdK_bool, gdK_undef, Ty.all, Nat.reduceEqDiff, Nat.reduceAdd, Nat.reduceMul, if_false, if_true, ↓reduceIte, true_and, and_true, Int.toNat_natCast, Nat.add_zero, Nat.mul_one, Bool.false_eq_true, decide_eq_true_eq, decide_eq_false_iff_not, Option.isNone_some, Option.isNone_none, Option.isSome_some, Option.isSome_none, List.map_toArray, List.map_cons, List.map_nil, stK_eq, stR_int, stR_bool, stR_string, stR_pointer, stR_slice, exD_plain, exD_guard, exD_nil, stepD_true, stepD_false, needOp, pureOp, Bool.false_or, Bool.true_or, Bool.or_false, Bool.or_true, gval_succ, gval_zero, Bd.s22, Bd.s22b, Bd.s31, Bd.s30, Bd.s30b, Bd.s30e, Bd.s42, Bd.s66, Bd.s67, Bd.b49, Bd.b54, Bd.b79, Bd.b82, Bd.b77, Bd.b86, Bd.b74, decide_true, decide_false, reduceCtorEq, ne_eq, not_true_eq_false, not_false_eq_true, true_implies, false_implies, implies_true, cond_true, cond_false, Bool.not_true, Bool.not_false, stR_agg2, stR_agg4, stR_agg5, one_int, one_bool, one_string, one_pointer, one_slice, one_map, retK_mk, cells_agg, rowAt_alloc, setRow_alloc, ow_four, ow_five, List.getElem_toArray, List.getElem_cons_zero, List.getElem_cons_succ, List.size_toArray, List.length_cons, List.length_nil, Nat.reduceLeDiff, Int.reduceToNat, Nat.reduceMul]
    repeat (refine ⟨by omega, ?_⟩)
    refine hK _ _ ?_
    clear hK K
    refine cwp_forget [7, 3, 4, 5] fun ρ hL => ?_
    have g7X := hL 7 (by simp)
    have g3X := hL 3 (by simp)
    have g4X := hL 4 (by simp)
    have g5X := hL 5 (by simp)
    clear hL
    simp only [upd_apply, Nat.reduceEqDiff, if_false, if_true, ↓reduceIte, g7, g3, g4] at g7X g3X g4X g5X
    have g7 := g7X
    clear g7X
    have g3 := g3X
    clear g3X
    have g4 := g4X
    clear g4X
    have g5 := g5X
    clear g5X
    rw [← (o6 0 (by omega)).1] at g7
    generalize wr.alloc (.cells (madeCells (Value.int .i64 0).cells 9) 3) = w6 at *
    obtain ⟨L7, c7, S7, a7, d7, o7⟩ := M6.st.new' M6.nb 16 (madeCells (Value.slice none 0 0).cells 9) 30
    have M7 := M6.move S7 (by have := M6.nb; simp; omega) (fun r hr => o7 r (by omega))
    have b7 := b6.alloc M6.nb (.cells (madeCells (Value.slice none 0 0).cells 9) 30)
    have F7 := F6.congr (lay' := L7) (c' := c7) (fun r h1 h2 => o7 r (by omega))
    have m7 := m6.congr (o7 8 (by omega)).1 (o7 8 (by omega)).2
    have x7 := x6.congr (o7 13 (by omega)).1 (o7 13 (by omega)).2
    have y7 := y6.congr (o7 14 (by omega)).1 (o7 14 (by omega)).2
    have p7 := p6.congr (o7 15 (by omega)).1 (o7 15 (by omega)).2
    have q7 : RowV L7 c7 16 30 1 (.slice (some ⟨w6.heap.size, 0, none⟩) 9 9) 9 (List.replicate 9 (.slice none 0 0)) :=
      ⟨by simp, .inr ⟨9, _, by rw [a7], d7, Nat.le_refl _, by unfold maxLen; omega, by rw [size_madeCells], by
        rw [show (Value.slice none 0 0).cells = #[.slice none 0 0] from rfl, toList_madeCells_one]
        rfl⟩⟩
    refine cwp_sr rfl fun K hK => ?_
    simp only [exL_plain, exL_guard, exL_nil, fx_move, fx_assign, fx_pick, fx_nilCheck, fx_load, fx_fieldAddr, fx_indexAddr, fx_binOp, fx_not, fx_convert, fx_slice, fx_extract, fx_lookup, fx_build, fx_len, fx_store, fx_alloc, fx_box, fx_makeMap, fx_makeSlice, fx_buildSlice, fx_mapUpdate, fx_append, fx_call, ev_tmp, ev_const, updo_some, updo_none, upd_apply, thenQ_normal, optK_some, optE_some, optE_none, ptrK_mk, intK_mk, boolK_mk, strK_mk, sliceK_mk, addrK_mk, tupK_mk, mapK_mk, sndK_mk, mkK_mk, cvK_int, ldN_zero, ldN_two, ldN_four, ldN_five, binK_add, binK_sub, binK_mul, binK_eql, binK_neq, binK_lss, binK_leq, binK_gtr, binK_geq, binK_seql, binK_sneq, binK_sadd, binK_beql, binK_bneq, binK_peql, binK_pneq, binK_leql, binK_lneq, lenK_slice, lenK_string, ex_slice, ex_pointer, inR_i64, inR_i32, gdK_bool, gdK_undef, Ty.all, Nat.reduceEqDiff, Nat.reduceAdd, Nat.reduceMul, if_false, if_true, ↓reduceIte, true_and, and_true, Int.toNat_natCast, Nat.add_zero, Nat.mul_one, Bool.false_eq_true, decide_eq_true_eq, decide_eq_false_iff_not, Option.isNone_some, Option.isNone_none, Option.isSome_some, Option.isSome_none, List.map_toArray, List.map_cons, List.map_nil, stK_eq, stR_int, stR_bool, stR_string, stR_pointer, stR_slice, exD_plain, exD_guard, exD_nil, stepD_true, stepD_false, needOp, pureOp, Bool.false_or, Bool.true_or, Bool.or_false, Bool.or_true, gval_succ, gval_zero, Bd.s22, Bd.s22b, Bd.s31, Bd.s30, Bd.s30b, Bd.s30e, Bd.s42, Bd.s66, Bd.s67, Bd.b49, Bd.b54, Bd.b79, Bd.b82, Bd.b77, Bd.b86, Bd.b74, decide_true, decide_false, reduceCtorEq, ne_eq, not_true_eq_false, not_false_eq_true, true_implies, false_implies, implies_true, cond_true, cond_false, Bool.not_true, Bool.not_false, stR_agg2, stR_agg4, stR_agg5, one_int, one_bool, one_string, one_pointer, one_slice, one_map, retK_mk, cells_agg, rowAt_alloc, setRow_alloc, ow_four, ow_five, List.getElem_toArray, List.getElem_cons_zero, List.getElem_cons_succ, List.size_toArray, List.length_cons, List.length_nil, Nat.reduceLeDiff, Int.reduceToNat, Nat.reduceMul]
    repeat (refine ⟨by omega, ?_⟩)
    refine hK _ _ ?_
    clear hK K
    refine cwp_forget [7, 3, 4, 5, 6] fun ρ hL => ?_
    have g7X := hL 7 (by simp)
    have g3X := hL 3 (by simp)
    have g4X := hL 4 (by simp)
    have g5X := hL 5 (by simp)
    have g6X := hL 6 (by simp)
    clear hL
    simp only [upd_apply, Nat.reduceEqDiff, if_false, if_true, ↓reduceIte, g7, g3, g4, g5] at g7X g3X g4X g5X g6X
    have g7 := g7X
    clear g7X
    have g3 := g3X
    clear g3X
    have g4 := g4X
    clear g4X
    have g5 := g5X
    clear g5X
    have g6 := g6X
    clear g6X
    rw [← (o7 0 (by omega)).1] at g7
    rw [← a6, ← (o7 15 (by omega)).1] at g5 p7
    rw [← a7] at g6 q7
    generalize w6.alloc (.cells (madeCells (Value.slice none 0 0).cells 9) 30) = w7 at *
    clear S6 S7 M6 hM d6 d7 hcom m6 x6 y6 hx hy b6 F6 hFd p6
    refine cwp_seq fun K hK => ?_
    refine cwp_sr rfl fun K hK => ?_
    simp only [exL_plain, exL_guard, exL_nil, fx_move, fx_assign, fx_pick, fx_nilCheck, fx_load, fx_fieldAddr, fx_indexAddr, fx_binOp, fx_not, fx_convert, fx_slice, fx_extract, fx_lookup, fx_build, fx_len, fx_store, fx_alloc, fx_box, fx_makeMap, fx_makeSlice, fx_buildSlice, fx_mapUpdate, fx_append, fx_call, ev_tmp, ev_const, updo_some, updo_none, upd_apply, thenQ_normal, optK_some, optE_some, optE_none, ptrK_mk, intK_mk, boolK_mk, strK_mk, sliceK_mk, addrK_mk, tupK_mk, mapK_mk, sndK_mk, mkK_mk, cvK_int, ldN_zero, ldN_two, ldN_four, ldN_five, binK_add, binK_sub, binK_mul, binK_eql, binK_neq, binK_lss, binK_leq, binK_gtr, binK_geq, binK_seql, binK_sneq, binK_sadd, binK_beql, binK_bneq, binK_peql, binK_pneq, binK_leql, binK_lneq, lenK_slice, lenK_string, ex_slice, ex_pointer, inR_i64, inR_i32, gdK_bool, gdK_undef, Ty.all, Nat.reduceEqDiff, Nat.reduceAdd, Nat.reduceMul, if_false, if_true, ↓reduceIte, true_and, and_true, Int.toNat_natCast, Nat.add_zero, Nat.mul_one, Bool.false_eq_true, decide_eq_true_eq, decide_eq_false_iff_not, Option.isNone_some, Option.isNone_none, Option.isSome_some, Option.isSome_none, List.map_toArray, List.map_cons, List.map_nil, stK_eq, stR_int, stR_bool, stR_string, stR_pointer, stR_slice, exD_plain, exD_guard, exD_nil, stepD_true, stepD_false, needOp, pureOp, Bool.false_or, Bool.true_or, Bool.or_false, Bool.or_true, gval_succ, gval_zero, Bd.s22, Bd.s22b, Bd.s31, Bd.s30, Bd.s30b, Bd.s30e, Bd.s42, Bd.s66, Bd.s67, Bd.b49, Bd.b54, Bd.b79, Bd.b82, Bd.b77, Bd.b86, Bd.b74, decide_true, decide_false, reduceCtorEq, ne_eq, not_true_eq_false, not_false_eq_true, true_implies, false_implies, implies_true, cond_true, cond_false, Bool.not_true, Bool.not_false, stR_agg2, stR_agg4, stR_agg5, one_int, one_bool, one_string, one_pointer, one_slice, one_map, retK_mk, cells_agg, rowAt_alloc, setRow_alloc, ow_four, ow_five, List.getElem_toArray, List.getElem_cons_zero, List.getElem_cons_succ, List.size_toArray, List.length_cons, List.length_nil, Nat.reduceLeDiff]
    repeat (refine ⟨by omega, ?_⟩)
    refine hK _ _ ?_
    clear hK K
    refine cwp_forget [7, 3, 4, 5, 6, 66] fun ρ hL => ?_
    have g7X := hL 7 (by simp)
    have g3X := hL 3 (by simp)
    have g4X := hL 4 (by simp)
    have g5X := hL 5 (by simp)
    have g6X := hL 6 (by simp)
    have g66X := hL 66 (by simp)
    clear hL
    simp only [upd_apply, Nat.reduceEqDiff, if_false, if_true, ↓reduceIte, g7, g3, g4, g5, g6] at g7X g3X g4X g5X g6X g66X
    have g7 := g7X
    clear g7X
    have g3 := g3X
    clear g3X
    have g4 := g4X
    clear g4X
    have g5 := g5X
    clear g5X
    have g6 := g6X
    clear g6X
    have g66 := g66X
    clear g66X
    refine cwp_for (fun i ρ wr => i ≤ 9 ∧ (ρ 7 = .pointer (some ⟨L7 0, 0, none⟩) ∧ ρ 3 = .slice (some ⟨L5 13, 0, none⟩) S.R.length S.R.length ∧ ρ 4 = .slice (some ⟨L5 14, 0, none⟩) S.R.length S.R.length ∧ ρ 5 = .slice (some ⟨L7 15, 0, none⟩) 9 9 ∧ ρ 6 = .slice (some ⟨L7 16, 0, none⟩) 9 9) ∧ ρ 66 = .int .i64 (i : Nat) ∧ Below w.heap.size w wr ∧ ∃ (c : Nat → Option AO) (x : List Int) (y : List Value), CM w.heap.size wr L7 c (.slice ta T.length tcap) cv fd S C ov wv iv rv lv xo ∧ Fd L7 c fd F ∧ RowV L7 c 8 4 1 cv T.length (com.map .bool) ∧ RowV L7 c 13 4 1 (.slice (some ⟨L5 13, 0, none⟩) S.R.length S.R.length) S.R.length (vB (S.R.map (·.cl))) ∧ RowV L7 c 14 21 1 (.slice (some ⟨L5 14, 0, none⟩) S.R.length S.R.length) S.R.length (vI (S.R.map (lgOf S))) ∧ RowV L7 c 15 3 1 (.slice (some ⟨L7 15, 0, none⟩) 9 9) 9 (x.map fun n => .int .i64 n) ∧ RowV L7 c 16 30 1 (.slice (some ⟨L7 16, 0, none⟩) 9 9) 9 y ∧
        (x.length = 9 ∧ ∀ k, k < i → x.getD k 0 = (F k).1) ∧ (y.length = 9 ∧ ∀ k, k < i → some (y.getD k undef) = fd (3 * k + 2)))
      (fun i => 9 - i) (fun ρ wr => (ρ 7 = .pointer (some ⟨L7 0, 0, none⟩) ∧ ρ 3 = .slice (some ⟨L5 13, 0, none⟩) S.R.length S.R.length ∧ ρ 4 = .slice (some ⟨L5 14, 0, none⟩) S.R.length S.R.length ∧ ρ 5 = .slice (some ⟨L7 15, 0, none⟩) 9 9 ∧ ρ 6 = .slice (some ⟨L7 16, 0, none⟩) 9 9) ∧ Below w.heap.size w wr ∧ ∃ (c : Nat → Option AO) (y : List Value), CM w.heap.size wr L7 c (.slice ta T.length tcap) cv fd S C ov wv iv rv lv xo ∧ Fd L7 c fd F ∧ RowV L7 c 8 4 1 cv T.length (com.map .bool) ∧ RowV L7 c 13 4 1 (.slice (some ⟨L5 13, 0, none⟩) S.R.length S.R.length) S.R.length (vB (S.R.map (·.cl))) ∧ RowV L7 c 14 21 1 (.slice (some ⟨L5 14, 0, none⟩) S.R.length S.R.length) S.R.length (vI (S.R.map (lgOf S))) ∧ RowV L7 c 15 3 1 (.slice (some ⟨L7 15, 0, none⟩) 9 9) 9 ((List.range 9).map fun a => .int .i64 (F a).1) ∧ RowV L7 c 16 30 1 (.slice (some ⟨L7 16, 0, none⟩) 9 9) 9 y ∧
        (y.length = 9 ∧ ∀ k, k < 9 → some (y.getD k undef) = fd (3 * k + 2))) 0 ?_ ?_ ?_
    · exact ⟨Nat.zero_le _, ⟨g7, g3, g4, g5, g6⟩, g66, b7, c7, List.replicate 9 0, List.replicate 9 (.slice none 0 0), M7, F7, m7, x7, y7, p7, q7, ⟨by simp, fun k hk => by omega⟩, ⟨by simp, fun k hk => by omega⟩⟩
    · clear g7 g3 g4 g5 g6 g66 M7 F7 m7 x7 y7 p7 q7 b7
      rintro i ρ wr ⟨hi, ⟨g7, g3, g4, g5, g6⟩, g66, hb, c, x, y, hM, hFd, hcom, hx, hy, hp, hq, hxf, hyf⟩ K1 hK1
      refine cwp_sr rfl fun K hK => ?_
      simp only [exL_plain, exL_guard, exL_nil, fx_move, fx_assign, fx_pick, fx_nilCheck, fx_load, fx_fieldAddr, fx_indexAddr, fx_binOp, fx_not, fx_convert, fx_slice, fx_extract, fx_lookup, fx_build, fx_len, fx_store, fx_alloc, fx_box, fx_makeMap, fx_makeSlice, fx_buildSlice, fx_mapUpdate, fx_append, fx_call, ev_tmp, ev_const, updo_some, updo_none, upd_apply, thenQ_normal, optK_some, optE_some, optE_none, ptrK_mk, intK_mk, boolK_mk, strK_mk, sliceK_mk, addrK_mk, tupK_mk, mapK_mk, sndK_mk, mkK_mk, cvK_int, ldN_zero, ldN_two, ldN_four, ldN_five, binK_add, binK_sub, binK_mul, binK_eql, binK_neq, binK_lss, binK_leq, binK_gtr, binK_geq, binK_seql, binK_sneq, binK_sadd, binK_beql, binK_bneq, binK_peql, binK_pneq, binK_leql, binK_lneq, lenK_slice, lenK_string, ex_slice, ex_pointer, inR_i64, inR_i32, gdK_bool, gdK_undef, Ty.all, Nat.reduceEqDiff, Nat.reduceAdd, Nat.reduceMul, if_false, if_true, ↓reduceIte, true_and, and_true, Int.toNat_natCast, Nat.add_zero, Nat.mul_one, Bool.false_eq_true, decide_eq_true_eq, decide_eq_false_iff_not, Option.isNone_some, Option.isNone_none, Option.isSome_some, Option.isSome_none, List.map_toArray, List.map_cons, List.map_nil, stK_eq, stR_int, stR_bool, stR_string, stR_pointer, stR_slice, exD_plain, exD_guard, exD_nil, stepD_true, stepD_false, needOp, pureOp, Bool.false_or, Bool.true_or, Bool.or_false, Bool.or_true, gval_succ, gval_zero, Bd.s22, Bd.s22b, Bd.s31, Bd.s30, Bd.s30b, Bd.s30e, Bd.s42, Bd.s66, Bd.s67, Bd.b49, Bd.b54, Bd.b79, Bd.b82, Bd.b77, Bd.b86, Bd.b74, decide_true, decide_false, reduceCtorEq, ne_eq, not_true_eq_false, not_false_eq_true, true_implies, false_implies, implies_true, cond_true, cond_false, Bool.not_true, Bool.not_false, stR_agg2, stR_agg4, stR_agg5, one_int, one_bool, one_string, one_pointer, one_slice, one_map, retK_mk, cells_agg, rowAt_alloc, setRow_alloc, ow_four, ow_five, List.getElem_toArray, List.getElem_cons_zero, List.getElem_cons_succ, List.size_toArray, List.length_cons, List.length_nil, Nat.reduceLeDiff, g66]
      repeat (refine ⟨by omega, ?_⟩)
      refine hK _ _ ?_
      clear hK K
      refine cwp_seq fun K hK => cwp_cond ?_
      simp only [exL_plain, exL_guard, exL_nil, fx_move, fx_assign, fx_pick, fx_nilCheck, fx_load, fx_fieldAddr, fx_indexAddr, fx_binOp, fx_not, fx_convert, fx_slice, fx_extract, fx_lookup, fx_build, fx_len, fx_store, fx_alloc, fx_box, fx_makeMap, fx_makeSlice, fx_buildSlice, fx_mapUpdate, fx_append, fx_call, ev_tmp, ev_const, updo_some, updo_none, upd_apply, thenQ_normal, optK_some, optE_some, optE_none, ptrK_mk, intK_mk, boolK_mk, strK_mk, sliceK_mk, addrK_mk, tupK_mk, mapK_mk, sndK_mk, mkK_mk, cvK_int, ldN_zero, ldN_two, ldN_four, ldN_five, binK_add, binK_sub, binK_mul, binK_eql, binK_neq, binK_lss, binK_leq, binK_gtr, binK_geq, binK_seql, binK_sneq, binK_sadd, binK_beql, binK_bneq, binK_peql, binK_pneq, binK_leql, binK_lneq, lenK_slice, lenK_string, ex_slice, ex_pointer, inR_i64, inR_i32, gdK_bool, gdK_undef, Ty.all, Nat.reduceEqDiff, Nat.reduceAdd, Nat.reduceMul, if_false, if_true, ↓reduceIte, true_and, and_true, Int.toNat_natCast, Nat.add_zero, Nat.mul_one, Bool.false_eq_true, decide_eq_true_eq, decide_eq_false_iff_not, Option.isNone_some, Option.isNone_none, Option.isSome_some, Option.isSome_none, List.map_toArray, List.map_cons, List.map_nil, stK_eq, stR_int, stR_bool, stR_string, stR_pointer, stR_slice, exD_plain, exD_guard, exD_nil, stepD_true, stepD_false, needOp, pureOp, Bool.false_or, Bool.true_or, Bool.or_false, Bool.or_true, gval_succ, gval_zero, Bd.s22, Bd.s22b, Bd.s31, Bd.s30, Bd.s30b, Bd.s30e, Bd.s42, Bd.s66, Bd.s67, Bd.b49, Bd.b54, Bd.b79, Bd.b82, Bd.b77, Bd.b86, Bd.b74, decide_true, decide_false, reduceCtorEq, ne_eq, not_true_eq_false, not_false_eq_true, true_implies, false_implies, implies_true, cond_true, cond_false, Bool.not_true, Bool.not_false, stR_agg2, stR_agg4, stR_agg5, one_int, one_bool, one_string, one_pointer, one_slice, one_map, retK_mk, cells_agg, rowAt_alloc, setRow_alloc, ow_four, ow_five, List.getElem_toArray, List.getElem_cons_zero, List.getElem_cons_succ, List.size_toArray, List.length_cons, List.length_nil, Nat.reduceLeDiff]
      refine ⟨fun hlt => cwp_skip (hK _ _ ?_), fun hge => cwp_exit (toJ ?_)⟩
      · clear hK K
        have hlt' : i < 9 := by omega
        obtain ⟨fc, tv', ft, frow⟩ := hFd i hlt'
        have hoff1 : hM.st.cell hM.hc (8 + i * 3 + 1) = hM.st.cell hM.hc (8 + i * 3 + 1) := rfl
        have q1 : wr.cell? ⟨L7 0, 8 + i * 3 + 1, none⟩ = some (.int .i64 (F i).1) := by
          rw [hM.st.cell hM.hc, show 8 + i * 3 + 1 = 8 + (3 * i + 1) by omega]
          exact (hM.fnd (3 * i + 1) (by omega)).trans fc
        obtain ⟨_, cur1, _, hc1, hcl1, hset1⟩ := hp.set hM.st hlt'
        have row1 := hM.st.row hc1
        obtain ⟨c1, S1, z1, o1⟩ := hM.st.set' hc1 (cur1.setIfInBounds i (.int .i64 (F i).1))
        have b1 := below_setRow hb (hM.st.ge hc1) (cur1.setIfInBounds i (.int .i64 (F i).1))
        have M1 := hM.move S1 b1.size (fun r hr => ⟨rfl, o1 r (by omega)⟩)
        have hcom1 := hcom.congr (lay' := L7) (c' := c1) rfl (o1 8 (by omega))
        have hFd1 := hFd.congr (lay' := L7) (c' := c1) (fun r h1 h2 => ⟨rfl, o1 r (by omega)⟩)
        have hx1 := hx.congr (lay' := L7) (c' := c1) rfl (o1 13 (by omega))
        have hy1 := hy.congr (lay' := L7) (c' := c1) rfl (o1 14 (by omega))
        have hq1 := hq.congr (lay' := L7) (c' := c1) rfl (o1 16 (by omega))
        have hp1 : RowV L7 c1 15 3 1 (.slice (some ⟨L7 15, 0, none⟩) 9 9) 9 ((x.set i (F i).1).map fun n => .int .i64 n) := by
          rw [List.map_set]
          exact (hset1 (.int .i64 (F i).1)).congr rfl (by rw [z1]; simp [updC])
        have q2 : (wr.setRow (L7 15) (cur1.setIfInBounds i (.int .i64 (F i).1))).cell? ⟨L7 0, 8 + i * 3 + 2, none⟩ = some tv' := by
          rw [M1.st.cell M1.hc, show 8 + i * 3 + 2 = 8 + (3 * i + 2) by omega]
          exact (M1.fnd (3 * i + 2) (by omega)).trans ft
        obtain ⟨_, cur2, _, hc2, hcl2, hset2⟩ := hq1.set M1.st hlt'
        have row2 := M1.st.row hc2
        obtain ⟨c2, S2, z2, o2⟩ := M1.st.set' hc2 (cur2.setIfInBounds i tv')
        have b2 := below_setRow b1 (M1.st.ge hc2) (cur2.setIfInBounds i tv')
        have M2 := M1.move S2 b2.size (fun r hr => ⟨rfl, o2 r (by omega)⟩)
        have hcom2 := hcom1.congr (lay' := L7) (c' := c2) rfl (o2 8 (by omega))
        have hFd2 := hFd1.congr (lay' := L7) (c' := c2) (fun r h1 h2 => ⟨rfl, o2 r (by omega)⟩)
        have hx2 := hx1.congr (lay' := L7) (c' := c2) rfl (o2 13 (by omega))
        have hy2 := hy1.congr (lay' := L7) (c' := c2) rfl (o2 14 (by omega))
        have hp2 := hp1.congr (lay' := L7) (c' := c2) rfl (o2 15 (by omega))
        have hq2 : RowV L7 c2 16 30 1 (.slice (some ⟨L7 16, 0, none⟩) 9 9) 9 (y.set i tv') := (hset2 tv').congr rfl (by rw [z2]; simp [updC])
        obtain ⟨ta', tcap', htv⟩ := frow.form
        refine cwp_seq fun K2 hK2 => ?_
        refine cwp_block ?_
        refine cwp_forget [7, 3, 4, 5, 6, 66] fun ρ hL => ?_
        have g7X := hL 7 (by simp)
        have g3X := hL 3 (by simp)
        have g4X := hL 4 (by simp)
        have g5X := hL 5 (by simp)
        have g6X := hL 6 (by simp)
        have g66X := hL 66 (by simp)
        clear hL
        simp only [upd_apply, Nat.reduceEqDiff, if_false, if_true, ↓reduceIte, g7, g3, g4, g5, g6, g66] at g7X g3X g4X g5X g6X g66X
        have g7 := g7X
        clear g7X
        have g3 := g3X
        clear g3X
        have g4 := g4X
        clear g4X
        have g5 := g5X
        clear g5X
        have g6 := g6X
        clear g6X
        have g66 := g66X
        clear g66X
        refine cwp_sr rfl fun K hK => ?_
        simp only [exL_plain, exL_guard, exL_nil, fx_move, fx_assign, fx_pick, fx_nilCheck, fx_load, fx_fieldAddr, fx_indexAddr, fx_binOp, fx_not, fx_convert, fx_slice, fx_extract, fx_lookup, fx_build, fx_len, fx_store, fx_alloc, fx_box, fx_makeMap, fx_makeSlice, fx_buildSlice, fx_mapUpdate, fx_append, fx_call, ev_tmp, ev_const, updo_some, updo_none, upd_apply, thenQ_normal, optK_some, optE_some, optE_none, ptrK_mk, intK_mk, boolK_mk, strK_mk, sliceK_mk, addrK_mk, tupK_mk, mapK_mk, sndK_mk, mkK_mk, cvK_int, ldN_zero, ldN_two, ldN_four, ldN_five, binK_add, binK_sub, binK_mul, binK_eql, binK_neq, binK_lss, binK_leq, binK_gtr, binK_geq, binK_seql, binK_sneq, binK_sadd, binK_beql, binK_bneq, binK_peql, binK_pneq, binK_leql, binK_lneq, lenK_slice, lenK_string, ex_slice, ex_pointer, inR_i64, inR_i32, gdK_bool, gdK_undef, Ty.all, Nat.reduceEqDiff, Nat.reduceAdd, Nat.reduceMul, if_false, if_true, ↓reduceIte, true_and, and_true, Int.toNat_natCast, Nat.add_zero, Nat.mul_one, Bool.false_eq_true, decide_eq_true_eq, decide_eq_false_iff_not, Option.isNone_some, Option.isNone_none, Option.isSome_some, Option.isSome_none, List.map_toArray, List.map_cons, List.map_nil, stK_eq, stR_int, stR_bool, stR_string, stR_pointer, stR_slice, exD_plain, exD_guard, exD_nil, stepD_true, stepD_false, needOp, pureOp, Bool.false_or, Bool.true_or, Bool.or_false, Bool.or_true, gval_succ, gval_zero, Bd.s22, Bd.s22b, Bd.s31, Bd.s30, Bd.s30b, Bd.s30e, Bd.s42, Bd.s66, Bd.s67, Bd.b49, Bd.b54, Bd.b79, Bd.b82, Bd.b77, Bd.b86, Bd.b74, decide_true, decide_false, reduceCtorEq, ne_eq, not_true_eq_false, not_false_eq_true, true_implies, false_implies, implies_true, cond_true, cond_false, Bool.not_true, Bool.not_false, stR_agg2, stR_agg4, stR_agg5, one_int, one_bool, one_string, one_pointer, one_slice, one_map, retK_mk, cells_agg, rowAt_alloc, setRow_alloc, ow_four, ow_five, List.getElem_toArray, List.getElem_cons_zero, List.getElem_cons_succ, List.size_toArray, List.length_cons, List.length_nil, Nat.reduceLeDiff, g66]
        repeat (refine ⟨by omega, ?_⟩)
        refine hK _ _ ?_
        clear hK K
        refine cwp_forget [7, 3, 4, 5, 6, 66, 9] fun ρ hL => ?_
        have g7X := hL 7 (by simp)
        have g3X := hL 3 (by simp)
        have g4X := hL 4 (by simp)
        have g5X := hL 5 (by simp)
        have g6X := hL 6 (by simp)
        have g66X := hL 66 (by simp)
        have g9X := hL 9 (by simp)
        clear hL
        simp only [upd_apply, Nat.reduceEqDiff, if_false, if_true, ↓reduceIte, g7, g3, g4, g5, g6, g66] at g7X g3X g4X g5X g6X g66X g9X
        have g7 := g7X
        clear g7X
        have g3 := g3X
        clear g3X
        have g4 := g4X
        clear g4X
        have g5 := g5X
        clear g5X
        have g6 := g6X
        clear g6X
        have g66 := g66X
        clear g66X
        have g9 := g9X
        clear g9X
        refine cwp_sr rfl fun K hK => ?_
        simp only [exL_plain, exL_guard, exL_nil, fx_move, fx_assign, fx_pick, fx_nilCheck, fx_load, fx_fieldAddr, fx_indexAddr, fx_binOp, fx_not, fx_convert, fx_slice, fx_extract, fx_lookup, fx_build, fx_len, fx_store, fx_alloc, fx_box, fx_makeMap, fx_makeSlice, fx_buildSlice, fx_mapUpdate, fx_append, fx_call, ev_tmp, ev_const, updo_some, updo_none, upd_apply, thenQ_normal, optK_some, optE_some, optE_none, ptrK_mk, intK_mk, boolK_mk, strK_mk, sliceK_mk, addrK_mk, tupK_mk, mapK_mk, sndK_mk, mkK_mk, cvK_int, ldN_zero, ldN_two, ldN_four, ldN_five, binK_add, binK_sub, binK_mul, binK_eql, binK_neq, binK_lss, binK_leq, binK_gtr, binK_geq, binK_seql, binK_sneq, binK_sadd, binK_beql, binK_bneq, binK_peql, binK_pneq, binK_leql, binK_lneq, lenK_slice, lenK_string, ex_slice, ex_pointer, inR_i64, inR_i32, gdK_bool, gdK_undef, Ty.all, Nat.reduceEqDiff, Nat.reduceAdd, Nat.reduceMul, if_false, if_true, ↓reduceIte, true_and, and_true, Int.toNat_natCast, Nat.add_zero, Nat.mul_one, Bool.false_eq_true, decide_eq_true_eq, decide_eq_false_iff_not, Option.isNone_some, Option.isNone_none, Option.isSome_some, Option.isSome_none, List.map_toArray, List.map_cons, List.map_nil, stK_eq, stR_int, stR_bool, stR_string, stR_pointer, stR_slice, exD_plain, exD_guard, exD_nil, stepD_true, stepD_false, needOp, pureOp, Bool.false_or, Bool.true_or, Bool.or_false, Bool.or_true, gval_succ, gval_zero, Bd.s22, Bd.s22b, Bd.s31, Bd.s30, Bd.s30b, Bd.s30e, Bd.s42, Bd.s66, Bd.s67, Bd.b49, Bd.b54, Bd.b79, Bd.b82, Bd.b77, Bd.b86, Bd.b74, decide_true, decide_false, reduceCtorEq, ne_eq, not_true_eq_false, not_false_eq_true, true_implies, false_implies, implies_true, cond_true, cond_false, Bool.not_true, Bool.not_false, stR_agg2, stR_agg4, stR_agg5, one_int, one_bool, one_string, one_pointer, one_slice, one_map, retK_mk, cells_agg, rowAt_alloc, setRow_alloc, ow_four, ow_five, List.getElem_toArray, List.getElem_cons_zero, List.getElem_cons_succ, List.size_toArray, List.length_cons, List.length_nil, Nat.reduceLeDiff, g7, g5, g9, q1, row1, Nat.zero_add]
        repeat (refine ⟨by omega, ?_⟩)
        refine hK _ _ ?_
        clear hK K
        refine cwp_forget [7, 3, 4, 5, 6, 66, 9] fun ρ hL => ?_
        have g7X := hL 7 (by simp)
        have g3X := hL 3 (by simp)
        have g4X := hL 4 (by simp)
        have g5X := hL 5 (by simp)
        have g6X := hL 6 (by simp)
        have g66X := hL 66 (by simp)
        have g9X := hL 9 (by simp)
        clear hL
        simp only [upd_apply, Nat.reduceEqDiff, if_false, if_true, ↓reduceIte, g7, g3, g4, g5, g6, g66, g9] at g7X g3X g4X g5X g6X g66X g9X
        have g7 := g7X
        clear g7X
        have g3 := g3X
        clear g3X
        have g4 := g4X
        clear g4X
        have g5 := g5X
        clear g5X
        have g6 := g6X
        clear g6X
        have g66 := g66X
        clear g66X
        have g9 := g9X
        clear g9X
        refine cwp_region rfl ?_
        rw [htv] at q2
        simp only [exL_plain, exL_guard, exL_nil, fx_move, fx_assign, fx_pick, fx_nilCheck, fx_load, fx_fieldAddr, fx_indexAddr, fx_binOp, fx_not, fx_convert, fx_slice, fx_extract, fx_lookup, fx_build, fx_len, fx_store, fx_alloc, fx_box, fx_makeMap, fx_makeSlice, fx_buildSlice, fx_mapUpdate, fx_append, fx_call, ev_tmp, ev_const, updo_some, updo_none, upd_apply, thenQ_normal, optK_some, optE_some, optE_none, ptrK_mk, intK_mk, boolK_mk, strK_mk, sliceK_mk, addrK_mk, tupK_mk, mapK_mk, sndK_mk, mkK_mk, cvK_int, ldN_zero, ldN_two, ldN_four, ldN_five, binK_add, binK_sub, binK_mul, binK_eql, binK_neq, binK_lss, binK_leq, binK_gtr, binK_geq, binK_seql, binK_sneq, binK_sadd, binK_beql, binK_bneq, binK_peql, binK_pneq, binK_leql, binK_lneq, lenK_slice, lenK_string, ex_slice, ex_pointer, inR_i64, inR_i32, gdK_bool, gdK_undef, Ty.all, Nat.reduceEqDiff, Nat.reduceAdd, Nat.reduceMul, if_false, if_true, ↓reduceIte, true_and, and_true, Int.toNat_natCast, Nat.add_zero, Nat.mul_one, Bool.false_eq_true, decide_eq_true_eq, decide_eq_false_iff_not, Option.isNone_some, Option.isNone_none, Option.isSome_some, Option.isSome_none, List.map_toArray, List.map_cons, List.map_nil, stK_eq, stR_int, stR_bool, stR_string, stR_pointer, stR_slice, exD_plain, exD_guard, exD_nil, stepD_true, stepD_false, needOp, pureOp, Bool.false_or, Bool.true_or, Bool.or_false, Bool.or_true, gval_succ, gval_zero, Bd.s22, Bd.s22b, Bd.s31, Bd.s30, Bd.s30b, Bd.s30e, Bd.s42, Bd.s66, Bd.s67, Bd.b49, Bd.b54, Bd.b79, Bd.b82, Bd.b77, Bd.b86, Bd.b74, decide_true, decide_false, reduceCtorEq, ne_eq, not_true_eq_false, not_false_eq_true, true_implies, false_implies, implies_true, cond_true, cond_false, Bool.not_true, Bool.not_false, stR_agg2, stR_agg4, stR_agg5, one_int, one_bool, one_string, one_pointer, one_slice, one_map, retK_mk, cells_agg, rowAt_alloc, setRow_alloc, ow_four, ow_five, List.getElem_toArray, List.getElem_cons_zero, List.getElem_cons_succ, List.size_toArray, List.length_cons, List.length_nil, Nat.reduceLeDiff, g7, g6, g9, q2, row2, Nat.zero_add, blkQ_normal]
        rw [← htv]
        repeat (refine ⟨by omega, ?_⟩)
        refine hK2 _ _ ?_
        refine cwp_region rfl ?_
        simp only [exL_plain, exL_guard, exL_nil, fx_move, fx_assign, fx_pick, fx_nilCheck, fx_load, fx_fieldAddr, fx_indexAddr, fx_binOp, fx_not, fx_convert, fx_slice, fx_extract, fx_lookup, fx_build, fx_len, fx_store, fx_alloc, fx_box, fx_makeMap, fx_makeSlice, fx_buildSlice, fx_mapUpdate, fx_append, fx_call, ev_tmp, ev_const, updo_some, updo_none, upd_apply, thenQ_normal, optK_some, optE_some, optE_none, ptrK_mk, intK_mk, boolK_mk, strK_mk, sliceK_mk, addrK_mk, tupK_mk, mapK_mk, sndK_mk, mkK_mk, cvK_int, ldN_zero, ldN_two, ldN_four, ldN_five, binK_add, binK_sub, binK_mul, binK_eql, binK_neq, binK_lss, binK_leq, binK_gtr, binK_geq, binK_seql, binK_sneq, binK_sadd, binK_beql, binK_bneq, binK_peql, binK_pneq, binK_leql, binK_lneq, lenK_slice, lenK_string, ex_slice, ex_pointer, inR_i64, inR_i32, gdK_bool, gdK_undef, Ty.all, Nat.reduceEqDiff, Nat.reduceAdd, Nat.reduceMul, if_false, if_true, ↓reduceIte, true_and, and_true, Int.toNat_natCast, Nat.add_zero, Nat.mul_one, Bool.false_eq_true, decide_eq_true_eq, decide_eq_false_iff_not, Option.isNone_some, Option.isNone_none, Option.isSome_some, Option.isSome_none, List.map_toArray, List.map_cons, List.map_nil, stK_eq, stR_int, stR_bool, stR_string, stR_pointer, stR_slice, exD_plain, exD_guard, exD_nil, stepD_true, stepD_false, needOp, pureOp, Bool.false_or, Bool.true_or, Bool.or_false, Bool.or_true, gval_succ, gval_zero, Bd.s22, Bd.s22b, Bd.s31, Bd.s30, Bd.s30b, Bd.s30e, Bd.s42, Bd.s66, Bd.s67, Bd.b49, Bd.b54, Bd.b79, Bd.b82, Bd.b77, Bd.b86, Bd.b74, decide_true, decide_false, reduceCtorEq, ne_eq, not_true_eq_false, not_false_eq_true, true_implies, false_implies, implies_true, cond_true, cond_false, Bool.not_true, Bool.not_false, stR_agg2, stR_agg4, stR_agg5, one_int, one_bool, one_string, one_pointer, one_slice, one_map, retK_mk, cells_agg, rowAt_alloc, setRow_alloc, ow_four, ow_five, List.getElem_toArray, List.getElem_cons_zero, List.getElem_cons_succ, List.size_toArray, List.length_cons, List.length_nil, Nat.reduceLeDiff, g66]
        repeat (refine ⟨by omega, ?_⟩)
        have hyf' : ∀ k, k < i + 1 → some ((y.set i tv').getD k undef) = fd (3 * k + 2) := fun k hk => by
          by_cases hki : k = i
          · subst hki
            rw [ft]
            simp [List.getD_eq_getElem?_getD, hyf.1, hlt']
          · rw [← hyf.2 k (by omega)]
            simp [List.getD_eq_getElem?_getD, List.getElem?_set, Ne.symm hki]
        refine hK1 _ _ (i + 1) ⟨hlt', ⟨?_, ?_, ?_, ?_, ?_⟩, ?_, b2, c2, x.set i (F i).1, y.set i tv', M2, hFd2, hcom2, hx2, hy2, hp2, hq2, set_fill (f := fun k => (F k).1) hxf.1 hlt' hxf.2 rfl, ⟨by simpa using hyf.1, hyf'⟩⟩ (by omega)
        · simp only [exL_plain, exL_guard, exL_nil, fx_move, fx_assign, fx_pick, fx_nilCheck, fx_load, fx_fieldAddr, fx_indexAddr, fx_binOp, fx_not, fx_convert, fx_slice, fx_extract, fx_lookup, fx_build, fx_len, fx_store, fx_alloc, fx_box, fx_makeMap, fx_makeSlice, fx_buildSlice, fx_mapUpdate, fx_append, fx_call, ev_tmp, ev_const, updo_some, updo_none, upd_apply, thenQ_normal, optK_some, optE_some, optE_none, ptrK_mk, intK_mk, boolK_mk, strK_mk, sliceK_mk, addrK_mk, tupK_mk, mapK_mk, sndK_mk, mkK_mk, cvK_int, ldN_zero, ldN_two, ldN_four, ldN_five, binK_add, binK_sub, binK_mul, binK_eql, binK_neq, binK_lss, binK_leq, binK_gtr, binK_geq, binK_seql, binK_sneq, binK_sadd, binK_beql, binK_bneq, binK_peql, binK_pneq, binK_leql, binK_lneq, lenK_slice, lenK_string, ex_slice, ex_pointer, inR_i64, inR_i32, gdK_bool, gdK_undef, Ty.all, Nat.reduceEqDiff, Nat.reduceAdd, Nat.reduceMul, if_false, if_true, ↓reduceIte, true_and, and_true, Int.toNat_natCast, Nat.add_zero, Nat.mul_one, Bool.false_eq_true, decide_eq_true_eq, decide_eq_false_iff_not, Option.isNone_some, Option.isNone_none, Option.isSome_some, Option.isSome_none, List.map_toArray, List.map_cons, List.map_nil, stK_eq, stR_int, stR_bool, stR_string, stR_pointer, stR_slice, exD_plain, exD_guard, exD_nil, stepD_true, stepD_false, needOp, pureOp, Bool.false_or, Bool.true_or, Bool.or_false, Bool.or_true, gval_succ, gval_zero, Bd.s22, Bd.s22b, Bd.s31, Bd.s30, Bd.s30b, Bd.s30e, Bd.s42, Bd.s66, Bd.s67, Bd.b49, Bd.b54, Bd.b79, Bd.b82, Bd.b77, Bd.b86, Bd.b74, decide_true, decide_false, reduceCtorEq, ne_eq, not_true_eq_false, not_false_eq_true, true_implies, false_implies, implies_true, cond_true, cond_false, Bool.not_true, Bool.not_false, stR_agg2, stR_agg4, stR_agg5, one_int, one_bool, one_string, one_pointer, one_slice, one_map, retK_mk, cells_agg, rowAt_alloc, setRow_alloc, ow_four, ow_five, List.getElem_toArray, List.getElem_cons_zero, List.getElem_cons_succ, List.size_toArray, List.length_cons, List.length_nil, Nat.reduceLeDiff, g7]
        · simp only [exL_plain, exL_guard, exL_nil, fx_move, fx_assign, fx_pick, fx_nilCheck, fx_load, fx_fieldAddr, fx_indexAddr, fx_binOp, fx_not, fx_convert, fx_slice, fx_extract, fx_lookup, fx_build, fx_len, fx_store, fx_alloc, fx_box, fx_makeMap, fx_makeSlice, fx_buildSlice, fx_mapUpdate, fx_append, fx_call, ev_tmp, ev_const, updo_some, updo_none, upd_apply, thenQ_normal, optK_some, optE_some, optE_none, ptrK_mk, intK_mk, boolK_mk, strK_mk, sliceK_mk, addrK_mk, tupK_mk, mapK_mk, sndK_mk, mkK_mk, cvK_int, ldN_zero, ldN_two, ldN_four, ldN_five, binK_add, binK_sub, binK_mul, binK_eql, binK_neq, binK_lss, binK_leq, binK_gtr, binK_geq, binK_seql, binK_sneq, binK_sadd, binK_beql, binK_bneq, binK_peql, binK_pneq, binK_leql, binK_lneq, lenK_slice, lenK_string, ex_slice, ex_pointer, inR_i64, inR_i32, gdK_bool, gdK_undef, Ty.all, Nat.reduceEqDiff, Nat.reduceAdd, Nat.reduceMul, if_false, if_true, ↓reduceIte, true_and, and_true, Int.toNat_natCast, Nat.add_zero, Nat.mul_one, Bool.false_eq_true, decide_eq_true_eq, decide_eq_false_iff_not, Option.isNone_some, Option.isNone_none, Option.isSome_some, Option.isSome_none, List.map_toArray, List.map_cons, List.map_nil, stK_eq, stR_int, stR_bool, stR_string, stR_pointer, stR_slice, exD_plain, exD_guard, exD_nil, stepD_true, stepD_false, needOp, pureOp, Bool.false_or, Bool.true_or, Bool.or_false, Bool.or_true, gval_succ, gval_zero, Bd.s22, Bd.s22b, Bd.s31, Bd.s30, Bd.s30b, Bd.s30e, Bd.s42, Bd.s66, Bd.s67, Bd.b49, Bd.b54, Bd.b79, Bd.b82, Bd.b77, Bd.b86, Bd.b74, decide_true, decide_false, reduceCtorEq, ne_eq, not_true_eq_false, not_false_eq_true, true_implies, false_implies, implies_true, cond_true, cond_false, Bool.not_true, Bool.not_false, stR_agg2, stR_agg4, stR_agg5, one_int, one_bool, one_string, one_pointer, one_slice, one_map, retK_mk, cells_agg, rowAt_alloc, setRow_alloc, ow_four, ow_five, List.getElem_toArray, List.getElem_cons_zero, List.getElem_cons_succ, List.size_toArray, List.length_cons, List.length_nil, Nat.reduceLeDiff, g3]
        · simp only [exL_plain, exL_guard, exL_nil, fx_move, fx_assign, fx_pick, fx_nilCheck, fx_load, fx_fieldAddr, fx_indexAddr, fx_binOp, fx_not, fx_convert, fx_slice, fx_extract, fx_lookup, fx_build, fx_len, fx_store, fx_alloc, fx_box, fx_makeMap, fx_makeSlice, fx_buildSlice, fx_mapUpdate, fx_append, fx_call, ev_tmp, ev_const, updo_some, updo_none, upd_apply, thenQ_normal, optK_some, optE_some, optE_none, ptrK_mk, intK_mk, boolK_mk, strK_mk, sliceK_mk, addrK_mk, tupK_mk, mapK_mk, sndK_mk, mkK_mk, cvK_int, ldN_zero, ldN_two, ldN_four, ldN_five, binK_add, binK_sub, binK_mul, binK_eql, binK_neq, binK_lss, binK_leq, binK_gtr, binK_geq, binK_seql, binK_sneq, binK_sadd, binK_beql, binK_bneq, binK_peql, binK_pneq, binK_leql, binK_lneq, lenK_slice, lenK_string, ex_slice, ex_pointer, inR_i64, inR_i32, gdK_bool, gdK_undef, Ty.all, Nat.reduceEqDiff, Nat.reduceAdd, Nat.reduceMul, if_false, if_true, ↓reduceIte, true_and, and_true, Int.toNat_natCast, Nat.add_zero, Nat.mul_one, Bool.false_eq_true, decide_eq_true_eq, decide_eq_false_iff_not, Option.isNone_some, Option.isNone_none, Option.isSome_some, Option.isSome_none, List.map_toArray, List.map_cons, List.map_nil, stK_eq, stR_int, stR_bool, stR_string, stR_pointer, stR_slice, exD_plain, exD_guard, exD_nil, stepD_true, stepD_false, needOp, pureOp, Bool.false_or, Bool.true_or, Bool.or_false, Bool.or_true, gval_succ, gval_zero, Bd.s22, Bd.s22b, Bd.s31, Bd.s30, Bd.s30b, Bd.s30e, Bd.s42, Bd.s66, Bd.s67, Bd.b49, Bd.b54, Bd.b79, Bd.b82, Bd.b77, Bd.b86, Bd.b74, decide_true, decide_false, reduceCtorEq, ne_eq, not_true_eq_false, not_false_eq_true, true_implies, false_implies, implies_true, cond_true, cond_false, Bool.not_true, Bool.not_false, stR_agg2, stR_agg4, stR_agg5, one_int, one_bool, one_string, one_pointer, one_slice, one_map, retK_mk, cells_agg, rowAt_alloc, setRow_alloc, ow_four, ow_five, List.getElem_toArray, List.getElem_cons_zero, List.getElem_cons_succ, List.size_toArray, List.length_cons, List.length_nil, Nat.reduceLeDiff, g4]
        · simp only [exL_plain, exL_guard, exL_nil, fx_move, fx_assign, fx_pick, fx_nilCheck, fx_load, fx_fieldAddr, fx_indexAddr, fx_binOp, fx_not, fx_convert, fx_slice, fx_extract, fx_lookup, fx_build, fx_len, fx_store, fx_alloc, fx_box, fx_makeMap, fx_makeSlice, fx_buildSlice, fx_mapUpdate, fx_append, fx_call, ev_tmp, ev_const, updo_some, updo_none, upd_apply, thenQ_normal, optK_some, optE_some, optE_none, ptrK_mk, intK_mk, boolK_mk, strK_mk, sliceK_mk, addrK_mk, tupK_mk, mapK_mk, sndK_mk, mkK_mk, cvK_int, ldN_zero, ldN_two, ldN_four, ldN_five, binK_add, binK_sub, binK_mul, binK_eql, binK_neq, binK_lss, binK_leq, binK_gtr, binK_geq, binK_seql, binK_sneq, binK_sadd, binK_beql, binK_bneq, binK_peql, binK_pneq, binK_leql, binK_lneq, lenK_slice, lenK_string, ex_slice, ex_pointer, inR_i64, inR_i32, gdK_bool, gdK_undef, Ty.all, Nat.reduceEqDiff, Nat.reduceAdd, Nat.reduceMul, if_false, if_true, ↓reduceIte, true_and, and_true, Int.toNat_natCast, Nat.add_zero, Nat.mul_one, Bool.false_eq_true, decide_eq_true_eq, decide_eq_false_iff_not, Option.isNone_some, Option.isNone_none, Option.isSome_some, Option.isSome_none, List.map_toArray, List.map_cons, List.map_nil, stK_eq, stR_int, stR_bool, stR_string, stR_pointer, stR_slice, exD_plain, exD_guard, exD_nil, stepD_true, stepD_false, needOp, pureOp, Bool.false_or, Bool.true_or, Bool.or_false, Bool.or_true, gval_succ, gval_zero, Bd.s22, Bd.s22b, Bd.s31, Bd.s30, Bd.s30b, Bd.s30e, Bd.s42, Bd.s66, Bd.s67, Bd.b49, Bd.b54, Bd.b79, Bd.b82, Bd.b77, Bd.b86, Bd.b74, decide_true, decide_false, reduceCtorEq, ne_eq, not_true_eq_false, not_false_eq_true, true_implies, false_implies, implies_true, cond_true, cond_false, Bool.not_true, Bool.not_false, stR_agg2, stR_agg4, stR_agg5, one_int, one_bool, one_string, one_pointer, one_slice, one_map, retK_mk, cells_agg, rowAt_alloc, setRow_alloc, ow_four, ow_five, List.getElem_toArray, List.getElem_cons_zero, List.getElem_cons_succ, List.size_toArray, List.length_cons, List.length_nil, Nat.reduceLeDiff, g5]
        · simp only [exL_plain, exL_guard, exL_nil, fx_move, fx_assign, fx_pick, fx_nilCheck, fx_load, fx_fieldAddr, fx_indexAddr, fx_binOp, fx_not, fx_convert, fx_slice, fx_extract, fx_lookup, fx_build, fx_len, fx_store, fx_alloc, fx_box, fx_makeMap, fx_makeSlice, fx_buildSlice, fx_mapUpdate, fx_append, fx_call, ev_tmp, ev_const, updo_some, updo_none, upd_apply, thenQ_normal, optK_some, optE_some, optE_none, ptrK_mk, intK_mk, boolK_mk, strK_mk, sliceK_mk, addrK_mk, tupK_mk, mapK_mk, sndK_mk, mkK_mk, cvK_int, ldN_zero, ldN_two, ldN_four, ldN_five, binK_add, binK_sub, binK_mul, binK_eql, binK_neq, binK_lss, binK_leq, binK_gtr, binK_geq, binK_seql, binK_sneq, binK_sadd, binK_beql, binK_bneq, binK_peql, binK_pneq, binK_leql, binK_lneq, lenK_slice, lenK_string, ex_slice, ex_pointer, inR_i64, inR_i32, gdK_bool, gdK_undef, Ty.all, Nat.reduceEqDiff, Nat.reduceAdd, Nat.reduceMul, if_false, if_true, ↓reduceIte, true_and, and_true, Int.toNat_natCast, Nat.add_zero, Nat.mul_one, Bool.false_eq_true, decide_eq_true_eq, decide_eq_false_iff_not, Option.isNone_some, Option.isNone_none, Option.isSome_some, Option.isSome_none, List.map_toArray, List.map_cons, List.map_nil, stK_eq, stR_int, stR_bool, stR_string, stR_pointer, stR_slice, exD_plain, exD_guard, exD_nil, stepD_true, stepD_false, needOp, pureOp, Bool.false_or, Bool.true_or, Bool.or_false, Bool.or_true, gval_succ, gval_zero, Bd.s22, Bd.s22b, Bd.s31, Bd.s30, Bd.s30b, Bd.s30e, Bd.s42, Bd.s66, Bd.s67, Bd.b49, Bd.b54, Bd.b79, Bd.b82, Bd.b77, Bd.b86, Bd.b74, decide_true, decide_false, reduceCtorEq, ne_eq, not_true_eq_false, not_false_eq_true, true_implies, false_implies, implies_true, cond_true, cond_false, Bool.not_true, Bool.not_false, stR_agg2, stR_agg4, stR_agg5, one_int, one_bool, one_string, one_pointer, one_slice, one_map, retK_mk, cells_agg, rowAt_alloc, setRow_alloc, ow_four, ow_five, List.getElem_toArray, List.getElem_cons_zero, List.getElem_cons_succ, List.size_toArray, List.length_cons, List.length_nil, Nat.reduceLeDiff, g6]
        · simp only [exL_plain, exL_guard, exL_nil, fx_move, fx_assign, fx_pick, fx_nilCheck, fx_load, fx_fieldAddr, fx_indexAddr, fx_binOp, fx_not, fx_convert, fx_slice, fx_extract, fx_lookup, fx_build, fx_len, fx_store, fx_alloc, fx_box, fx_makeMap, fx_makeSlice, fx_buildSlice, fx_mapUpdate, fx_append, fx_call, ev_tmp, ev_const, updo_some, updo_none, upd_apply, thenQ_normal, optK_some, optE_some, optE_none, ptrK_mk, intK_mk, boolK_mk, strK_mk, sliceK_mk, addrK_mk, tupK_mk, mapK_mk, sndK_mk, mkK_mk, cvK_int, ldN_zero, ldN_two, ldN_four, ldN_five, binK_add, binK_sub, binK_mul, binK_eql, binK_neq, binK_lss, binK_leq, binK_gtr, binK_geq, binK_seql, binK_sneq, binK_sadd, binK_beql, binK_bneq, binK_peql, binK_pneq, binK_leql, binK_lneq, lenK_slice, lenK_string, ex_slice, ex_pointer, inR_i64, inR_i32, gdK_bool, gdK_undef, Ty.all, Nat.reduceEqDiff, Nat.reduceAdd, Nat.reduceMul, if_false, if_true, ↓reduceIte, true_and, and_true, Int.toNat_natCast, Nat.add_zero, Nat.mul_one, Bool.false_eq_true, decide_eq_true_eq, decide_eq_false_iff_not, Option.isNone_some, Option.isNone_none, Option.isSome_some, Option.isSome_none, List.map_toArray, List.map_cons, List.map_nil, stK_eq, stR_int, stR_bool, stR_string, stR_pointer, stR_slice, exD_plain, exD_guard, exD_nil, stepD_true, stepD_false, needOp, pureOp, Bool.false_or, Bool.true_or, Bool.or_false, Bool.or_true, gval_succ, gval_zero, Bd.s22, Bd.s22b, Bd.s31, Bd.s30, Bd.s30b, Bd.s30e, Bd.s42, Bd.s66, Bd.s67, Bd.b49, Bd.b54, Bd.b79, Bd.b82, Bd.b77, Bd.b86, Bd.b74, decide_true, decide_false, reduceCtorEq, ne_eq, not_true_eq_false, not_false_eq_true, true_implies, false_implies, implies_true, cond_true, cond_false, Bool.not_true, Bool.not_false, stR_agg2, stR_agg4, stR_agg5, one_int, one_bool, one_string, one_pointer, one_slice, one_map, retK_mk, cells_agg, rowAt_alloc, setRow_alloc, ow_four, ow_five, List.getElem_toArray, List.getElem_cons_zero, List.getElem_cons_succ, List.size_toArray, List.length_cons, List.length_nil, Nat.reduceLeDiff]
          rfl
      · obtain rfl : i = 9 := by omega
        refine ⟨⟨g7, g3, g4, g5, g6⟩, hb, c, y, hM, hFd, hcom, hx, hy, ?_, hq, hyf⟩
        rw [show ((List.range 9).map fun a => Value.int .i64 (F a).1) = (((List.range 9).map fun a => (F a).1).map fun n => Value.int .i64 n) by simp]
        rw [← filled (xs := x) (ys := (List.range 9).map fun a => (F a).1) (d := 0) (n := 9) hxf.1 (by simp) (fun k hk => by rw [hxf.2 k hk]; simp [List.getD_eq_getElem?_getD, hk])]
        exact hp
    · clear g7 g3 g4 g5 g6 g66 M7 F7 m7 x7 y7 p7 q7 b7
      rintro ρ wr ⟨⟨g7, g3, g4, g5, g6⟩, hb, c, y, hM, hFd, hcom, hx, hy, hp, hq, hyl, hyf⟩
      refine hK _ _ ?_
      clear hK K
      have c1 := (hM.st.cell hM.hc 1).trans hM.cc.2.2.1
      refine cwp_sr rfl fun Kz hKz => ?_
      refine exL_cut 8 fun K hK => ?_
      simp only [List.take_succ_cons, List.take_zero, exL_plain, exL_guard, exL_nil, fx_move, fx_assign, fx_pick, fx_nilCheck, fx_load, fx_fieldAddr, fx_indexAddr, fx_binOp, fx_not, fx_convert, fx_slice, fx_extract, fx_lookup, fx_build, fx_len, fx_store, fx_alloc, fx_box, fx_makeMap, fx_makeSlice, fx_buildSlice, fx_mapUpdate, fx_append, fx_call, ev_tmp, ev_const, updo_some, updo_none, upd_apply, thenQ_normal, optK_some, optE_some, optE_none, ptrK_mk, intK_mk, boolK_mk, strK_mk, sliceK_mk, addrK_mk, tupK_mk, mapK_mk, sndK_mk, mkK_mk, cvK_int, ldN_zero, ldN_two, ldN_four, ldN_five, binK_add, binK_sub, binK_mul, binK_eql, binK_neq, binK_lss, binK_leq, binK_gtr, binK_geq, binK_seql, binK_sneq, binK_sadd, binK_beql, binK_bneq, binK_peql, binK_pneq, binK_leql, binK_lneq, lenK_slice, lenK_string, ex_slice, ex_pointer, inR_i64, inR_i32, gdK_bool, gdK_undef, Ty.all, Nat.reduceEqDiff, Nat.reduceAdd, Nat.reduceMul, if_false, if_true, ↓reduceIte, true_and, and_true, Int.toNat_natCast, Nat.add_zero, Nat.mul_one, Bool.false_eq_true, decide_eq_true_eq, decide_eq_false_iff_not, Option.isNone_some, Option.isNone_none, Option.isSome_some, Option.isSome_none, List.map_toArray, List.map_cons, List.map_nil, stK_eq, stR_int, stR_bool, stR_string, stR_pointer, stR_slice, exD_plain, exD_guard, exD_nil, stepD_true, stepD_false, needOp, pureOp, Bool.false_or, Bool.true_or, Bool.or_false, Bool.or_true, gval_succ, gval_zero, Bd.s22, Bd.s22b, Bd.s31, Bd.s30, Bd.s30b, Bd.s30e, Bd.s42, Bd.s66, Bd.s67, Bd.b49, Bd.b54, Bd.b79, Bd.b82, Bd.b77, Bd.b86, Bd.b74, decide_true, decide_false, reduceCtorEq, ne_eq, not_true_eq_false, not_false_eq_true, true_implies, false_implies, implies_true, cond_true, cond_false, Bool.not_true, Bool.not_false, stR_agg2, stR_agg4, stR_agg5, one_int, one_bool, one_string, one_pointer, one_slice, one_map, retK_mk, cells_agg, rowAt_alloc, setRow_alloc, ow_four, ow_five, List.getElem_toArray, List.getElem_cons_zero, List.getElem_cons_succ, List.size_toArray, List.length_cons, List.length_nil, Nat.reduceLeDiff, g7, c1, g3, g4, g5, g6, Nat.zero_add]
      repeat (refine ⟨by omega, ?_⟩)
      refine hK _ _ ?_
      clear hK K
      simp only [List.drop_succ_cons, List.drop_zero]
      refine exL_forget [93, 94, 95, 96, 97] fun ρ hL => ?_
      have g93X := hL 93 (by simp)
      have g94X := hL 94 (by simp)
      have g95X := hL 95 (by simp)
      have g96X := hL 96 (by simp)
      have g97X := hL 97 (by simp)
      clear hL
      simp only [upd_apply, Nat.reduceEqDiff, if_false, if_true, ↓reduceIte, g3, g4, g5, g6] at g93X g94X g95X g96X g97X
      have g93 := g93X
      clear g93X
      have g94 := g94X
      clear g94X
      have g95 := g95X
      clear g95X
      have g96 := g96X
      clear g96X
      have g97 := g97X
      clear g97X
      simp only [exL_plain, exL_guard, exL_nil, fx_move, fx_assign, fx_pick, fx_nilCheck, fx_load, fx_fieldAddr, fx_indexAddr, fx_binOp, fx_not, fx_convert, fx_slice, fx_extract, fx_lookup, fx_build, fx_len, fx_store, fx_alloc, fx_box, fx_makeMap, fx_makeSlice, fx_buildSlice, fx_mapUpdate, fx_append, fx_call, ev_tmp, ev_const, updo_some, updo_none, upd_apply, thenQ_normal, optK_some, optE_some, optE_none, ptrK_mk, intK_mk, boolK_mk, strK_mk, sliceK_mk, addrK_mk, tupK_mk, mapK_mk, sndK_mk, mkK_mk, cvK_int, ldN_zero, ldN_two, ldN_four, ldN_five, binK_add, binK_sub, binK_mul, binK_eql, binK_neq, binK_lss, binK_leq, binK_gtr, binK_geq, binK_seql, binK_sneq, binK_sadd, binK_beql, binK_bneq, binK_peql, binK_pneq, binK_leql, binK_lneq, lenK_slice, lenK_string, ex_slice, ex_pointer, inR_i64, inR_i32, gdK_bool, gdK_undef, Ty.all, Nat.reduceEqDiff, Nat.reduceAdd, Nat.reduceMul, if_false, if_true, ↓reduceIte, true_and, and_true, Int.toNat_natCast, Nat.add_zero, Nat.mul_one, Bool.false_eq_true, decide_eq_true_eq, decide_eq_false_iff_not, Option.isNone_some, Option.isNone_none, Option.isSome_some, Option.isSome_none, List.map_toArray, List.map_cons, List.map_nil, stK_eq, stR_int, stR_bool, stR_string, stR_pointer, stR_slice, exD_plain, exD_guard, exD_nil, stepD_true, stepD_false, needOp, pureOp, Bool.false_or, Bool.true_or, Bool.or_false, Bool.or_true, gval_succ, gval_zero, Bd.s22, Bd.s22b, Bd.s31, Bd.s30, Bd.s30b, Bd.s30e, Bd.s42, Bd.s66, Bd.s67, Bd.b49, Bd.b54, Bd.b79, Bd.b82, Bd.b77, Bd.b86, Bd.b74, decide_true, decide_false, reduceCtorEq, ne_eq, not_true_eq_false, not_false_eq_true, true_implies, false_implies, implies_true, cond_true, cond_false, Bool.not_true, Bool.not_false, stR_agg2, stR_agg4, stR_agg5, one_int, one_bool, one_string, one_pointer, one_slice, one_map, retK_mk, cells_agg, rowAt_alloc, setRow_alloc, ow_four, ow_five, List.getElem_toArray, List.getElem_cons_zero, List.getElem_cons_succ, List.size_toArray, List.length_cons, List.length_nil, Nat.reduceLeDiff, g93, g94, g95, g96, g97]
      refine hKz _ _ ?_
      refine cwp_ret ?_
      refine endQ_five (va := cv) (vb := .slice (some ⟨L5 13, 0, none⟩) S.R.length S.R.length) (vc := .slice (some ⟨L5 14, 0, none⟩) S.R.length S.R.length) (vd := .slice (some ⟨L7 15, 0, none⟩) 9 9) (ve := .slice (some ⟨L7 16, 0, none⟩) 9 9) rfl ?_ ?_ ?_ ?_ ?_ ?_
      · simp only [exL_plain, exL_guard, exL_nil, fx_move, fx_assign, fx_pick, fx_nilCheck, fx_load, fx_fieldAddr, fx_indexAddr, fx_binOp, fx_not, fx_convert, fx_slice, fx_extract, fx_lookup, fx_build, fx_len, fx_store, fx_alloc, fx_box, fx_makeMap, fx_makeSlice, fx_buildSlice, fx_mapUpdate, fx_append, fx_call, ev_tmp, ev_const, updo_some, updo_none, upd_apply, thenQ_normal, optK_some, optE_some, optE_none, ptrK_mk, intK_mk, boolK_mk, strK_mk, sliceK_mk, addrK_mk, tupK_mk, mapK_mk, sndK_mk, mkK_mk, cvK_int, ldN_zero, ldN_two, ldN_four, ldN_five, binK_add, binK_sub, binK_mul, binK_eql, binK_neq, binK_lss, binK_leq, binK_gtr, binK_geq, binK_seql, binK_sneq, binK_sadd, binK_beql, binK_bneq, binK_peql, binK_pneq, binK_leql, binK_lneq, lenK_slice, lenK_string, ex_slice, ex_pointer, inR_i64, inR_i32, gdK_bool, gdK_undef, Ty.all, Nat.reduceEqDiff, Nat.reduceAdd, Nat.reduceMul, if_false, if_true, ↓reduceIte, true_and, and_true, Int.toNat_natCast, Nat.add_zero, Nat.mul_one, Bool.false_eq_true, decide_eq_true_eq, decide_eq_false_iff_not, Option.isNone_some, Option.isNone_none, Option.isSome_some, Option.isSome_none, List.map_toArray, List.map_cons, List.map_nil, stK_eq, stR_int, stR_bool, stR_string, stR_pointer, stR_slice, exD_plain, exD_guard, exD_nil, stepD_true, stepD_false, needOp, pureOp, Bool.false_or, Bool.true_or, Bool.or_false, Bool.or_true, gval_succ, gval_zero, Bd.s22, Bd.s22b, Bd.s31, Bd.s30, Bd.s30b, Bd.s30e, Bd.s42, Bd.s66, Bd.s67, Bd.b49, Bd.b54, Bd.b79, Bd.b82, Bd.b77, Bd.b86, Bd.b74, decide_true, decide_false, reduceCtorEq, ne_eq, not_true_eq_false, not_false_eq_true, true_implies, false_implies, implies_true, cond_true, cond_false, Bool.not_true, Bool.not_false, stR_agg2, stR_agg4, stR_agg5, one_int, one_bool, one_string, one_pointer, one_slice, one_map, retK_mk, cells_agg, rowAt_alloc, setRow_alloc, ow_four, ow_five, List.getElem_toArray, List.getElem_cons_zero, List.getElem_cons_succ, List.size_toArray, List.length_cons, List.length_nil, Nat.reduceLeDiff, g93]
      · simp only [exL_plain, exL_guard, exL_nil, fx_move, fx_assign, fx_pick, fx_nilCheck, fx_load, fx_fieldAddr, fx_indexAddr, fx_binOp, fx_not, fx_convert, fx_slice, fx_extract, fx_lookup, fx_build, fx_len, fx_store, fx_alloc, fx_box, fx_makeMap, fx_makeSlice, fx_buildSlice, fx_mapUpdate, fx_append, fx_call, ev_tmp, ev_const, updo_some, updo_none, upd_apply, thenQ_normal, optK_some, optE_some, optE_none, ptrK_mk, intK_mk, boolK_mk, strK_mk, sliceK_mk, addrK_mk, tupK_mk, mapK_mk, sndK_mk, mkK_mk, cvK_int, ldN_zero, ldN_two, ldN_four, ldN_five, binK_add, binK_sub, binK_mul, binK_eql, binK_neq, binK_lss, binK_leq, binK_gtr, binK_geq, binK_seql, binK_sneq, binK_sadd, binK_beql, binK_bneq, binK_peql, binK_pneq, binK_leql, binK_lneq, lenK_slice, lenK_string, ex_slice, ex_pointer, inR_i64, inR_i32, gdK_bool, gdK_undef, Ty.all, Nat.reduceEqDiff, Nat.reduceAdd, Nat.reduceMul, if_false, if_true, ↓reduceIte, true_and, and_true, Int.toNat_natCast, Nat.add_zero, Nat.mul_one, Bool.false_eq_true, decide_eq_true_eq, decide_eq_false_iff_not, Option.isNone_some, Option.isNone_none, Option.isSome_some, Option.isSome_none, List.map_toArray, List.map_cons, List.map_nil, stK_eq, stR_int, stR_bool, stR_string, stR_pointer, stR_slice, exD_plain, exD_guard, exD_nil, stepD_true, stepD_false, needOp, pureOp, Bool.false_or, Bool.true_or, Bool.or_false, Bool.or_true, gval_succ, gval_zero, Bd.s22, Bd.s22b, Bd.s31, Bd.s30, Bd.s30b, Bd.s30e, Bd.s42, Bd.s66, Bd.s67, Bd.b49, Bd.b54, Bd.b79, Bd.b82, Bd.b77, Bd.b86, Bd.b74, decide_true, decide_false, reduceCtorEq, ne_eq, not_true_eq_false, not_false_eq_true, true_implies, false_implies, implies_true, cond_true, cond_false, Bool.not_true, Bool.not_false, stR_agg2, stR_agg4, stR_agg5, one_int, one_bool, one_string, one_pointer, one_slice, one_map, retK_mk, cells_agg, rowAt_alloc, setRow_alloc, ow_four, ow_five, List.getElem_toArray, List.getElem_cons_zero, List.getElem_cons_succ, List.size_toArray, List.length_cons, List.length_nil, Nat.reduceLeDiff, g94]
      · simp only [exL_plain, exL_guard, exL_nil, fx_move, fx_assign, fx_pick, fx_nilCheck, fx_load, fx_fieldAddr, fx_indexAddr, fx_binOp, fx_not, fx_convert, fx_slice, fx_extract, fx_lookup, fx_build, fx_len, fx_store, fx_alloc, fx_box, fx_makeMap, fx_makeSlice, fx_buildSlice, fx_mapUpdate, fx_append, fx_call, ev_tmp, ev_const, updo_some, updo_none, upd_apply, thenQ_normal, optK_some, optE_some, optE_none, ptrK_mk, intK_mk, boolK_mk, strK_mk, sliceK_mk, addrK_mk, tupK_mk, mapK_mk, sndK_mk, mkK_mk, cvK_int, ldN_zero, ldN_two, ldN_four, ldN_five, binK_add, binK_sub, binK_mul, binK_eql, binK_neq, binK_lss, binK_leq, binK_gtr, binK_geq, binK_seql, binK_sneq, binK_sadd, binK_beql, binK_bneq, binK_peql, binK_pneq, binK_leql, binK_lneq, lenK_slice, lenK_string, ex_slice, ex_pointer, inR_i64, inR_i32, gdK_bool, gdK_undef, Ty.all, Nat.reduceEqDiff, Nat.reduceAdd, Nat.reduceMul, if_false, if_true, ↓reduceIte, true_and, and_true, Int.toNat_natCast, Nat.add_zero, Nat.mul_one, Bool.false_eq_true, decide_eq_true_eq, decide_eq_false_iff_not, Option.isNone_some, Option.isNone_none, Option.isSome_some, Option.isSome_none, List.map_toArray, List.map_cons, List.map_nil, stK_eq, stR_int, stR_bool, stR_string, stR_pointer, stR_slice, exD_plain, exD_guard, exD_nil, stepD_true, stepD_false, needOp, pureOp, Bool.false_or, Bool.true_or, Bool.or_false, Bool.or_true, gval_succ, gval_zero, Bd.s22, Bd.s22b, Bd.s31, Bd.s30, Bd.s30b, Bd.s30e, Bd.s42, Bd.s66, Bd.s67, Bd.b49, Bd.b54, Bd.b79, Bd.b82, Bd.b77, Bd.b86, Bd.b74, decide_true, decide_false, reduceCtorEq, ne_eq, not_true_eq_false, not_false_eq_true, true_implies, false_implies, implies_true, cond_true, cond_false, Bool.not_true, Bool.not_false, stR_agg2, stR_agg4, stR_agg5, one_int, one_bool, one_string, one_pointer, one_slice, one_map, retK_mk, cells_agg, rowAt_alloc, setRow_alloc, ow_four, ow_five, List.getElem_toArray, List.getElem_cons_zero, List.getElem_cons_succ, List.size_toArray, List.length_cons, List.length_nil, Nat.reduceLeDiff, g95]
      · simp only [exL_plain, exL_guard, exL_nil, fx_move, fx_assign, fx_pick, fx_nilCheck, fx_load, fx_fieldAddr, fx_indexAddr, fx_binOp, fx_not, fx_convert, fx_slice, fx_extract, fx_lookup, fx_build, fx_len, fx_store, fx_alloc, fx_box, fx_makeMap, fx_makeSlice, fx_buildSlice, fx_mapUpdate, fx_append, fx_call, ev_tmp, ev_const, updo_some, updo_none, upd_apply, thenQ_normal, optK_some, optE_some, optE_none, ptrK_mk, intK_mk, boolK_mk, strK_mk, sliceK_mk, addrK_mk, tupK_mk, mapK_mk, sndK_mk, mkK_mk, cvK_int, ldN_zero, ldN_two, ldN_four, ldN_five, binK_add, binK_sub, binK_mul, binK_eql, binK_neq, binK_lss, binK_leq, binK_gtr, binK_geq, binK_seql, binK_sneq, binK_sadd, binK_beql, binK_bneq, binK_peql, binK_pneq, binK_leql, binK_lneq, lenK_slice, lenK_string, ex_slice, ex_pointer, inR_i64, inR_i32, gdK_bool, gdK_undef, Ty.all, Nat.reduceEqDiff, Nat.reduceAdd, Nat.reduceMul, if_false, if_true, ↓reduceIte, true_and, and_true, Int.toNat_natCast, Nat.add_zero, Nat.mul_one, Bool.false_eq_true, decide_eq_true_eq, decide_eq_false_iff_not, Option.isNone_some, Option.isNone_none, Option.isSome_some, Option.isSome_none, List.map_toArray, List.map_cons, List.map_nil, stK_eq, stR_int, stR_bool, stR_string, stR_pointer, stR_slice, exD_plain, exD_guard, exD_nil, stepD_true, stepD_false, needOp, pureOp, Bool.false_or, Bool.true_or, Bool.or_false, Bool.or_true, gval_succ, gval_zero, Bd.s22, Bd.s22b, Bd.s31, Bd.s30, Bd.s30b, Bd.s30e, Bd.s42, Bd.s66, Bd.s67, Bd.b49, Bd.b54, Bd.b79, Bd.b82, Bd.b77, Bd.b86, Bd.b74, decide_true, decide_false, reduceCtorEq, ne_eq, not_true_eq_false, not_false_eq_true, true_implies, false_implies, implies_true, cond_true, cond_false, Bool.not_true, Bool.not_false, stR_agg2, stR_agg4, stR_agg5, one_int, one_bool, one_string, one_pointer, one_slice, one_map, retK_mk, cells_agg, rowAt_alloc, setRow_alloc, ow_four, ow_five, List.getElem_toArray, List.getElem_cons_zero, List.getElem_cons_succ, List.size_toArray, List.length_cons, List.length_nil, Nat.reduceLeDiff, g96]
      · simp only [exL_plain, exL_guard, exL_nil, fx_move, fx_assign, fx_pick, fx_nilCheck, fx_load, fx_fieldAddr, fx_indexAddr, fx_binOp, fx_not, fx_convert, fx_slice, fx_extract, fx_lookup, fx_build, fx_len, fx_store, fx_alloc, fx_box, fx_makeMap, fx_makeSlice, fx_buildSlice, fx_mapUpdate, fx_append, fx_call, ev_tmp, ev_const, updo_some, updo_none, upd_apply, thenQ_normal, optK_some, optE_some, optE_none, ptrK_mk, intK_mk, boolK_mk, strK_mk, sliceK_mk, addrK_mk, tupK_mk, mapK_mk, sndK_mk, mkK_mk, cvK_int, ldN_zero, ldN_two, ldN_four, ldN_five, binK_add, binK_sub, binK_mul, binK_eql, binK_neq, binK_lss, binK_leq, binK_gtr, binK_geq, binK_seql, binK_sneq, binK_sadd, binK_beql, binK_bneq, binK_peql, binK_pneq, binK_leql, binK_lneq, lenK_slice, lenK_string, ex_slice, ex_pointer, inR_i64, inR_i32, gdK_bool, gdK_undef, Ty.all, Nat.reduceEqDiff, Nat.reduceAdd, Nat.reduceMul, if_false, if_true, ↓reduceIte, true_and, and_true, Int.toNat_natCast, Nat.add_zero, Nat.mul_one, Bool.false_eq_true, decide_eq_true_eq, decide_eq_false_iff_not, Option.isNone_some, Option.isNone_none, Option.isSome_some, Option.isSome_none, List.map_toArray, List.map_cons, List.map_nil, stK_eq, stR_int, stR_bool, stR_string, stR_pointer, stR_slice, exD_plain, exD_guard, exD_nil, stepD_true, stepD_false, needOp, pureOp, Bool.false_or, Bool.true_or, Bool.or_false, Bool.or_true, gval_succ, gval_zero, Bd.s22, Bd.s22b, Bd.s31, Bd.s30, Bd.s30b, Bd.s30e, Bd.s42, Bd.s66, Bd.s67, Bd.b49, Bd.b54, Bd.b79, Bd.b82, Bd.b77, Bd.b86, Bd.b74, decide_true, decide_false, reduceCtorEq, ne_eq, not_true_eq_false, not_false_eq_true, true_implies, false_implies, implies_true, cond_true, cond_false, Bool.not_true, Bool.not_false, stR_agg2, stR_agg4, stR_agg5, one_int, one_bool, one_string, one_pointer, one_slice, one_map, retK_mk, cells_agg, rowAt_alloc, setRow_alloc, ow_four, ow_five, List.getElem_toArray, List.getElem_cons_zero, List.getElem_cons_succ, List.size_toArray, List.length_cons, List.length_nil, Nat.reduceLeDiff, g97]
      · refine ⟨_, _, _, _, _, rfl, hb, hcom.vals hM.st, hx.vals hM.st, hy.vals hM.st, hp.vals hM.st, y, hyl, hq.vals hM.st, fun a ha => ?_⟩
        obtain ⟨_, v, h2, h3⟩ := hFd a ha
        have h4 := hyf a ha
        rw [h2] at h4
        rw [Option.some.inj h4]
        exact h3.vals hM.st
end Go.Proofs.Qxb6001346a
