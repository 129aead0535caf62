/-
  ZZCollect.
-/
import Derived.Test.Qxb6001346aCd
import Derived.Test.Qxb6001346aJb
import Derived.Test.Qxb6001346aJd
namespace Go.Proofs.Qxb6001346a
open Fw Go.RowKit
set_option linter.unusedSimpArgs false
set_option linter.unusedVariables false

theorem results_tmp5 {fn : Func} {a b c d e : Tmp} (h : fn.results = #[.tmp a, .tmp b, .tmp c, .tmp d, .tmp e]) (tmps : Array Value) (P : Program) (w : World) :
    (results fn tmps).run P w = .ok (.tuple #[tmps.getD a undef, tmps.getD b undef, tmps.getD c undef, tmps.getD d undef, tmps.getD e undef]) w := by
  simp [results, h]
theorem results_tmp7 {fn : Func} {a b c d e f g : Tmp} (h : fn.results = #[.tmp a, .tmp b, .tmp c, .tmp d, .tmp e, .tmp f, .tmp g]) (tmps : Array Value) (P : Program) (w : World) :
    (results fn tmps).run P w = .ok (.tuple #[tmps.getD a undef, tmps.getD b undef, tmps.getD c undef, tmps.getD d undef, tmps.getD e undef, tmps.getD f undef, tmps.getD g undef]) w := by
  simp [results, h]
theorem endQ_five {P : Program} {fn : Func} {R : Value → World → Prop} {ρ : Env} {w : World} {a b c d e : Nat} {va vb vc vd ve : Value} (h : fn.results = #[.tmp a, .tmp b, .tmp c, .tmp d, .tmp e]) (ha : ρ a = va) (hb : ρ b = vb) (hc : ρ c = vc) (hd : ρ d = vd) (he : ρ e = ve)
    (hR : R (.tuple #[va, vb, vc, vd, ve]) w) : endQ fn P R .ret ρ w :=
  ⟨_, fun tmps ht => by rw [results_tmp5 h]; simp only [ht, ha, hb, hc, hd, he], hR⟩
theorem endQ_seven {P : Program} {fn : Func} {R : Value → World → Prop} {ρ : Env} {w : World} {a b c d e f g : Nat} {va vb vc vd ve vf vg : Value} (h : fn.results = #[.tmp a, .tmp b, .tmp c, .tmp d, .tmp e, .tmp f, .tmp g]) (ha : ρ a = va) (hb : ρ b = vb) (hc : ρ c = vc) (hd : ρ d = vd) (he : ρ e = ve)
    (hf : ρ f = vf) (hg : ρ g = vg) (hR : R (.tuple #[va, vb, vc, vd, ve, vf, vg]) w) : endQ fn P R .ret ρ w :=
  ⟨_, fun tmps ht => by rw [results_tmp7 h]; simp only [ht, ha, hb, hc, hd, he, hf, hg], hR⟩

def c0cells (a : Option Addr) (n c b : Nat) : Array Value := #[.slice a n c, .slice none 0 0, .map (some b), .slice none 0 0, .slice none 0 0, .slice none 0 0, .slice none 0 0, .slice none 0 0, .int .i64 0, .int .i64 0, .slice none 0 0, .int .i64 0, .int .i64 0, .slice none 0 0, .int .i64 0, .int .i64 0, .slice none 0 0, .int .i64 0, .int .i64 0, .slice none 0 0, .int .i64 0, .int .i64 0, .slice none 0 0, .int .i64 0, .int .i64 0, .slice none 0 0, .int .i64 0, .int .i64 0, .slice none 0 0, .int .i64 0, .int .i64 0, .slice none 0 0, .int .i64 0, .int .i64 0, .slice none 0 0, .slice none 0 0]
/-- The check as it is made. -/
theorem initCM {w : World} {a : Option Addr} {n c : Nat} : ∃ lay cc, lay 0 = w.heap.size + 1 ∧ (∀ r, 2 ≤ r → cc r = none) ∧
    CM w.heap.size ((w.alloc (.map #[] 0)).alloc (.cells (c0cells a n c w.heap.size) 74)) lay cc (.slice a n c) (.slice none 0 0) (fun i => (c0cells a n c w.heap.size)[8 + i]?) s0 (c0cells a n c w.heap.size) (.slice none 0 0) (.slice none 0 0) (.slice none 0 0) (.slice none 0 0) (.slice none 0 0) [] := by
  have h0 : St w.heap.size w (fun _ => 0) (fun _ => none) := ⟨fun r o h => (by cases h), fun r r' o o' h => (by cases h)⟩
  have h1 := h0.newMap (Nat.le_refl _) 1
  have h2 := h1.new (by simp) 0 (c0cells a n c w.heap.size) 74
  have hn : ∀ r, 2 ≤ r → updC (updC (fun _ => none) 1 (.inr [])) 0 (.inl (c0cells a n c w.heap.size, 74)) r = none := fun r hr => by
    simp only [updC]
    rw [if_neg (by omega), if_neg (by omega)]
  have nil : ∀ r e size, 2 ≤ r → RowV (updN (updN (fun _ => 0) 1 w.heap.size) 0 (w.alloc (.map #[] 0)).heap.size) (updC (updC (fun _ => none) 1 (.inr [])) 0 (.inl (c0cells a n c w.heap.size, 74))) r e size (.slice none 0 0) 0 [] := fun r e size hr =>
    ⟨by simp, .inl ⟨rfl, rfl, hn r hr⟩⟩
  refine ⟨_, _, ?_, hn, { st := h2, hc := by simp [updC], cc := ?_, fnd := fun i hi => rfl, keys := ?_, wr := nil 2 _ _ (by omega), im := nil 3 _ _ (by omega), rd := nil 4 _ _ (by omega), li := nil 5 _ _ (by omega), od := nil 6 _ _ (by omega), rk := by simp [s0], nb := by simp; omega }⟩
  · simp [updN]
  · refine ⟨rfl, rfl, rfl, ?_, rfl, rfl, rfl, rfl, rfl⟩
    simp [updN, c0cells]
  · refine ⟨?_, fun j hj => by simp [s0] at hj⟩
    simp [updC, s0, keyEntsFrom]

theorem RowV.vals {N : Nat} {w : World} {lay : Nat → Nat} {c : Nat → Option AO} {r e n : Nat} {v : Value} {xs : List Value} (hS : St N w lay c) (h : RowV lay c r e 1 v n xs) : ValsAt N w v xs := by
  have hl : xs.length = n := by have := h.1; omega
  rcases h.2 with ⟨h1, h2, _⟩ | ⟨cap, cur, h1, h2, h3, h4, h5, h6⟩
  · have : xs = [] := List.length_eq_zero_iff.1 (by omega)
    subst this
    exact ⟨none, 0, by rw [h1]; rfl, .inl rfl⟩
  · refine ⟨some ⟨lay r, 0, none⟩, cap, by rw [h1, hl], .inr ⟨lay r, 0, rfl, hS.ge h2, fun i hi => ?_⟩⟩
    obtain ⟨_, _, hc⟩ := h.get hS (i := i) (by omega)
    rw [Nat.zero_add, hc, List.getD_eq_getElem?_getD, List.getElem?_eq_getElem hi]
    rfl

def vI (l : List Int) : List Value := l.map fun n => .int .i32 n
def vB (l : List Bool) : List Value := l.map .bool

theorem RowV.madeI (lay : Nat → Nat) (c : Nat → Option AO) {r m b : Nat} (hb : lay r = b) (hc : c r = some (.inl (madeCells (Value.int .i32 0).cells m, 21))) (h : m ≤ 1000000) :
    RowV lay c r 21 1 (.slice (some ⟨b, 0, none⟩) m m) m ((List.replicate m (0 : Int)).map fun n => .int .i32 n) :=
  ⟨by simp, .inr ⟨m, _, by rw [hb], hc, Nat.le_refl _, by unfold maxLen; omega, by rw [size_madeCells, Nat.mul_one], by
    rw [show (Value.int .i32 0).cells = #[.int .i32 0] from rfl, toList_madeCells_one]
    simp⟩⟩
theorem filled {α : Type} {xs ys : List α} {d : α} {n : Nat} (hx : xs.length = n) (hy : ys.length = n) (h : ∀ k, k < n → xs.getD k d = ys.getD k d) : xs = ys := by
  refine List.ext_getElem (by omega) fun k h1 h2 => ?_
  have := h k (by omega)
  rw [List.getD_eq_getElem?_getD, List.getD_eq_getElem?_getD, List.getElem?_eq_getElem h1, List.getElem?_eq_getElem h2] at this
  simpa using this
theorem set_fill {α : Type} {xs : List α} {d x : α} {n i : Nat} {f : Nat → α} (hx : xs.length = n) (hi : i < n) (h : ∀ k, k < i → xs.getD k d = f k) (hxi : x = f i) : (xs.set i x).length = n ∧ ∀ k, k < i + 1 → (xs.set i x).getD k d = f k := by
  refine ⟨by simpa using hx, fun k hk => ?_⟩
  by_cases hki : k = i
  · subst hki
    simp [List.getD_eq_getElem?_getD, hx, hi, hxi]
  · rw [← h k (by omega)]
    simp [List.getD_eq_getElem?_getD, List.getElem?_set, Ne.symm hki]

set_option maxHeartbeats 8000000 in
theorem zzCollect {Nt : Nat} {w : World} {v : Value} {T : List LTx} (hT : HTxnsAt Nt w v T) (hf : fits T) :
    Calls Try.prog 22 #[v] w (fun e w' => ∃ v0 v1 v2 v3 v4 v5 v6, e = .returned (.tuple #[v0, v1, v2, v3, v4, v5, v6]) ∧ Below w.heap.size w w' ∧ ValsAt w.heap.size w' v0 (vB (comm T (colS T).2)) ∧ ValsAt w.heap.size w' v1 (vI (colS T).1.W) ∧ ValsAt w.heap.size w' v2 (vB (colS T).1.I) ∧
      ValsAt w.heap.size w' v3 (vI (colS T).1.L) ∧ ValsAt w.heap.size w' v4 (vI ((colS T).1.R.map (·.t))) ∧ ValsAt w.heap.size w' v5 (vI ((colS T).1.R.map (·.s))) ∧ ValsAt w.heap.size w' v6 (vI ((colS T).1.R.map (·.e)))) := by
  obtain ⟨ta, tcap, rfl, _⟩ := hT.form
  refine calls_of_cwp Try.func22 rfl Try.ntmps22 (by simp) ?_
  have h0 : argE #[.slice ta T.length tcap] 0 = .slice ta T.length tcap := rfl
  generalize argE #[.slice ta T.length tcap] = ρ at h0 ⊢
  refine cwp_sr rfl fun K hK => ?_
  simp only [exL_plain, exL_guard, exL_nil, fx_move, fx_assign, fx_pick, fx_nilCheck, fx_load, fx_fieldAddr, fx_indexAddr, fx_binOp, fx_not, fx_convert, fx_slice, fx_extract, fx_lookup, fx_build, fx_len, fx_store, fx_alloc, fx_box, fx_makeMap, fx_makeSlice, fx_buildSlice, fx_mapUpdate, fx_append, fx_call, ev_tmp, ev_const, updo_some, updo_none, upd_apply, thenQ_normal, optK_some, optE_some, optE_none, ptrK_mk, intK_mk, boolK_mk, strK_mk, sliceK_mk, addrK_mk, tupK_mk, mapK_mk, sndK_mk, mkK_mk, cvK_int, ldN_zero, ldN_two, ldN_four, ldN_five, binK_add, binK_sub, binK_mul, binK_eql, binK_neq, binK_lss, binK_leq, binK_gtr, binK_geq, binK_seql, binK_sneq, binK_sadd, binK_beql, binK_bneq, binK_peql, binK_pneq, binK_leql, binK_lneq, lenK_slice, lenK_string, ex_slice, ex_pointer, inR_i64, inR_i32, gdK_bool, gdK_undef, Ty.all, Nat.reduceEqDiff, Nat.reduceAdd, Nat.reduceMul, if_false, if_true, ↓reduceIte, true_and, and_true, Int.toNat_natCast, Nat.add_zero, Nat.mul_one, Bool.false_eq_true, decide_eq_true_eq, decide_eq_false_iff_not, Option.isNone_some, Option.isNone_none, Option.isSome_some, Option.isSome_none, List.map_toArray, List.map_cons, List.map_nil, stK_eq, stR_int, stR_bool, stR_string, stR_pointer, stR_slice, exD_plain, exD_guard, exD_nil, stepD_true, stepD_false, needOp, pureOp, Bool.false_or, Bool.true_or, Bool.or_false, Bool.or_true, gval_succ, gval_zero, Bd.s22, Bd.s22b, Bd.s31, Bd.s30, Bd.s30b, Bd.s30e, Bd.s42, Bd.s66, Bd.s67, Bd.b49, Bd.b54, Bd.b79, Bd.b82, Bd.b77, Bd.b86, Bd.b74, decide_true, decide_false, reduceCtorEq, ne_eq, not_true_eq_false, not_false_eq_true, true_implies, false_implies, implies_true, cond_true, cond_false, Bool.not_true, Bool.not_false, stR_agg2, stR_agg4, stR_agg5, one_int, one_bool, one_string, one_pointer, one_slice, one_map, retK_mk, cells_agg, rowAt_alloc, setRow_alloc, ow_four, ow_five, List.getElem_toArray, List.getElem_cons_zero, List.getElem_cons_succ, List.size_toArray, List.length_cons, List.length_nil, Nat.reduceLeDiff]
  repeat (refine ⟨by omega, ?_⟩)
  refine hK _ _ ?_
  clear hK K
  refine cwp_sr rfl fun K hK => ?_
  simp only [exL_plain, exL_guard, exL_nil, fx_move, fx_assign, fx_pick, fx_nilCheck, fx_load, fx_fieldAddr, fx_indexAddr, fx_binOp, fx_not, fx_convert, fx_slice, fx_extract, fx_lookup, fx_build, fx_len, fx_store, fx_alloc, fx_box, fx_makeMap, fx_makeSlice, fx_buildSlice, fx_mapUpdate, fx_append, fx_call, ev_tmp, ev_const, updo_some, updo_none, upd_apply, thenQ_normal, optK_some, optE_some, optE_none, ptrK_mk, intK_mk, boolK_mk, strK_mk, sliceK_mk, addrK_mk, tupK_mk, mapK_mk, sndK_mk, mkK_mk, cvK_int, ldN_zero, ldN_two, ldN_four, ldN_five, binK_add, binK_sub, binK_mul, binK_eql, binK_neq, binK_lss, binK_leq, binK_gtr, binK_geq, binK_seql, binK_sneq, binK_sadd, binK_beql, binK_bneq, binK_peql, binK_pneq, binK_leql, binK_lneq, lenK_slice, lenK_string, ex_slice, ex_pointer, inR_i64, inR_i32, gdK_bool, gdK_undef, Ty.all, Nat.reduceEqDiff, Nat.reduceAdd, Nat.reduceMul, if_false, if_true, ↓reduceIte, true_and, and_true, Int.toNat_natCast, Nat.add_zero, Nat.mul_one, Bool.false_eq_true, decide_eq_true_eq, decide_eq_false_iff_not, Option.isNone_some, Option.isNone_none, Option.isSome_some, Option.isSome_none, List.map_toArray, List.map_cons, List.map_nil, stK_eq, stR_int, stR_bool, stR_string, stR_pointer, stR_slice, exD_plain, exD_guard, exD_nil, stepD_true, stepD_false, needOp, pureOp, Bool.false_or, Bool.true_or, Bool.or_false, Bool.or_true, gval_succ, gval_zero, Bd.s22, Bd.s22b, Bd.s31, Bd.s30, Bd.s30b, Bd.s30e, Bd.s42, Bd.s66, Bd.s67, Bd.b49, Bd.b54, Bd.b79, Bd.b82, Bd.b77, Bd.b86, Bd.b74, decide_true, decide_false, reduceCtorEq, ne_eq, not_true_eq_false, not_false_eq_true, true_implies, false_implies, implies_true, cond_true, cond_false, Bool.not_true, Bool.not_false, stR_agg2, stR_agg4, stR_agg5, one_int, one_bool, one_string, one_pointer, one_slice, one_map, retK_mk, cells_agg, rowAt_alloc, setRow_alloc, ow_four, ow_five, List.getElem_toArray, List.getElem_cons_zero, List.getElem_cons_succ, List.size_toArray, List.length_cons, List.length_nil, Nat.reduceLeDiff, h0]
  repeat (refine ⟨by omega, ?_⟩)
  refine hK _ _ ?_
  clear hK K
  obtain ⟨lay, cc, hB, hcn, hM⟩ := initCM (w := w) (a := ta) (n := T.length) (c := tcap)
  have hb : Below w.heap.size w ((w.alloc (.map #[] 0)).alloc (.cells (c0cells ta T.length tcap w.heap.size) 74)) := ((Below.refl _ _).alloc (Nat.le_refl _) _).alloc (by simp) _
  have e1 : (w.alloc (.map #[] 0)).heap.size = w.heap.size + 1 := by simp
  refine cwp_forget [9] fun ρ hL => ?_
  have g9X := hL 9 (by simp)
  clear hL
  simp only [upd_apply, Nat.reduceEqDiff, if_false, if_true, ↓reduceIte] at g9X
  have g9 := g9X
  clear g9X
  rw [e1, ← hB] at g9
  change cwp _ _ _ _ _ ((w.alloc (.map #[] 0)).alloc (.cells (c0cells ta T.length tcap w.heap.size) 74))
  generalize ((w.alloc (.map #[] 0)).alloc (.cells (c0cells ta T.length tcap w.heap.size) 74)) = w1 at *
  refine cwp_sr rfl fun K hK => ?_
  simp only [exL_plain, exL_guard, exL_nil, fx_move, fx_assign, fx_pick, fx_nilCheck, fx_load, fx_fieldAddr, fx_indexAddr, fx_binOp, fx_not, fx_convert, fx_slice, fx_extract, fx_lookup, fx_build, fx_len, fx_store, fx_alloc, fx_box, fx_makeMap, fx_makeSlice, fx_buildSlice, fx_mapUpdate, fx_append, fx_call, ev_tmp, ev_const, updo_some, updo_none, upd_apply, thenQ_normal, optK_some, optE_some, optE_none, ptrK_mk, intK_mk, boolK_mk, strK_mk, sliceK_mk, addrK_mk, tupK_mk, mapK_mk, sndK_mk, mkK_mk, cvK_int, ldN_zero, ldN_two, ldN_four, ldN_five, binK_add, binK_sub, binK_mul, binK_eql, binK_neq, binK_lss, binK_leq, binK_gtr, binK_geq, binK_seql, binK_sneq, binK_sadd, binK_beql, binK_bneq, binK_peql, binK_pneq, binK_leql, binK_lneq, lenK_slice, lenK_string, ex_slice, ex_pointer, inR_i64, inR_i32, gdK_bool, gdK_undef, Ty.all, Nat.reduceEqDiff, Nat.reduceAdd, Nat.reduceMul, if_false, if_true, ↓reduceIte, true_and, and_true, Int.toNat_natCast, Nat.add_zero, Nat.mul_one, Bool.false_eq_true, decide_eq_true_eq, decide_eq_false_iff_not, Option.isNone_some, Option.isNone_none, Option.isSome_some, Option.isSome_none, List.map_toArray, List.map_cons, List.map_nil, stK_eq, stR_int, stR_bool, stR_string, stR_pointer, stR_slice, exD_plain, exD_guard, exD_nil, stepD_true, stepD_false, needOp, pureOp, Bool.false_or, Bool.true_or, Bool.or_false, Bool.or_true, gval_succ, gval_zero, Bd.s22, Bd.s22b, Bd.s31, Bd.s30, Bd.s30b, Bd.s30e, Bd.s42, Bd.s66, Bd.s67, Bd.b49, Bd.b54, Bd.b79, Bd.b82, Bd.b77, Bd.b86, Bd.b74, decide_true, decide_false, reduceCtorEq, ne_eq, not_true_eq_false, not_false_eq_true, true_implies, false_implies, implies_true, cond_true, cond_false, Bool.not_true, Bool.not_false, stR_agg2, stR_agg4, stR_agg5, one_int, one_bool, one_string, one_pointer, one_slice, one_map, retK_mk, cells_agg, rowAt_alloc, setRow_alloc, ow_four, ow_five, List.getElem_toArray, List.getElem_cons_zero, List.getElem_cons_succ, List.size_toArray, List.length_cons, List.length_nil, Nat.reduceLeDiff, g9]
  refine (collect (fd := fun i => (c0cells ta T.length tcap w.heap.size)[8 + i]?) hT hb hf ⟨lay, cc, rfl, _, _, _, _, _, _, _, _, hM⟩).mono ?_
  clear hM hb hcn
  rintro e w2 ⟨rfl, hb, L, c, cv, C, ov, wv, iv, rv, lv, xo, hL0, hM, hcom⟩
  simp only [exL_plain, exL_guard, exL_nil, fx_move, fx_assign, fx_pick, fx_nilCheck, fx_load, fx_fieldAddr, fx_indexAddr, fx_binOp, fx_not, fx_convert, fx_slice, fx_extract, fx_lookup, fx_build, fx_len, fx_store, fx_alloc, fx_box, fx_makeMap, fx_makeSlice, fx_buildSlice, fx_mapUpdate, fx_append, fx_call, ev_tmp, ev_const, updo_some, updo_none, upd_apply, thenQ_normal, optK_some, optE_some, optE_none, ptrK_mk, intK_mk, boolK_mk, strK_mk, sliceK_mk, addrK_mk, tupK_mk, mapK_mk, sndK_mk, mkK_mk, cvK_int, ldN_zero, ldN_two, ldN_four, ldN_five, binK_add, binK_sub, binK_mul, binK_eql, binK_neq, binK_lss, binK_leq, binK_gtr, binK_geq, binK_seql, binK_sneq, binK_sadd, binK_beql, binK_bneq, binK_peql, binK_pneq, binK_leql, binK_lneq, lenK_slice, lenK_string, ex_slice, ex_pointer, inR_i64, inR_i32, gdK_bool, gdK_undef, Ty.all, Nat.reduceEqDiff, Nat.reduceAdd, Nat.reduceMul, if_false, if_true, ↓reduceIte, true_and, and_true, Int.toNat_natCast, Nat.add_zero, Nat.mul_one, Bool.false_eq_true, decide_eq_true_eq, decide_eq_false_iff_not, Option.isNone_some, Option.isNone_none, Option.isSome_some, Option.isSome_none, List.map_toArray, List.map_cons, List.map_nil, stK_eq, stR_int, stR_bool, stR_string, stR_pointer, stR_slice, exD_plain, exD_guard, exD_nil, stepD_true, stepD_false, needOp, pureOp, Bool.false_or, Bool.true_or, Bool.or_false, Bool.or_true, gval_succ, gval_zero, Bd.s22, Bd.s22b, Bd.s31, Bd.s30, Bd.s30b, Bd.s30e, Bd.s42, Bd.s66, Bd.s67, Bd.b49, Bd.b54, Bd.b79, Bd.b82, Bd.b77, Bd.b86, Bd.b74, decide_true, decide_false, reduceCtorEq, ne_eq, not_true_eq_false, not_false_eq_true, true_implies, false_implies, implies_true, cond_true, cond_false, Bool.not_true, Bool.not_false, stR_agg2, stR_agg4, stR_agg5, one_int, one_bool, one_string, one_pointer, one_slice, one_map, retK_mk, cells_agg, rowAt_alloc, setRow_alloc, ow_four, ow_five, List.getElem_toArray, List.getElem_cons_zero, List.getElem_cons_succ, List.size_toArray, List.length_cons, List.length_nil, Nat.reduceLeDiff]
  repeat (refine ⟨by omega, ?_⟩)
  refine hK _ _ ?_
  clear hK K
  rw [← hL0] at g9
  obtain ⟨hG, _, hK, hW, hLl, hR, _, hsum⟩ := phR_fits hf (show fl T = fl T ++ [] by simp)
  have hf2 := hf.2.1
  change Good T.length (colS T).1 at hG
  change (colS T).1.W.length ≤ _ at hW
  change (colS T).1.R.length ≤ _ at hR
  generalize hSS : (colS T).1 = S at *
  obtain ⟨ra, rcap, hrv⟩ := hM.rd.form
  have c6 := (hM.st.cell hM.hc 6).trans hM.cc.2.2.2.2.2.2.2.1
  rw [hrv] at c6
  have hR' : S.R.length ≤ 4096 := by omega
  obtain ⟨L1, c1, S1, a1, d1, o1⟩ := hM.st.new' hM.nb 13 (madeCells (Value.int .i32 0).cells S.R.length) 21
  have M1 := hM.move S1 (by have := hM.nb; simp; omega) (fun r hr => o1 r (by omega))
  have b1 := hb.alloc hM.nb (.cells (madeCells (Value.int .i32 0).cells S.R.length) 21)
  refine cwp_sr rfl fun K hK => ?_
  simp only [exL_plain, exL_guard, exL_nil, fx_move, fx_assign, fx_pick, fx_nilCheck, fx_load, fx_fieldAddr, fx_indexAddr, fx_binOp, fx_not, fx_convert, fx_slice, fx_extract, fx_lookup, fx_build, fx_len, fx_store, fx_alloc, fx_box, fx_makeMap, fx_makeSlice, fx_buildSlice, fx_mapUpdate, fx_append, fx_call, ev_tmp, ev_const, updo_some, updo_none, upd_apply, thenQ_normal, optK_some, optE_some, optE_none, ptrK_mk, intK_mk, boolK_mk, strK_mk, sliceK_mk, addrK_mk, tupK_mk, mapK_mk, sndK_mk, mkK_mk, cvK_int, ldN_zero, ldN_two, ldN_four, ldN_five, binK_add, binK_sub, binK_mul, binK_eql, binK_neq, binK_lss, binK_leq, binK_gtr, binK_geq, binK_seql, binK_sneq, binK_sadd, binK_beql, binK_bneq, binK_peql, binK_pneq, binK_leql, binK_lneq, lenK_slice, lenK_string, ex_slice, ex_pointer, inR_i64, inR_i32, gdK_bool, gdK_undef, Ty.all, Nat.reduceEqDiff, Nat.reduceAdd, Nat.reduceMul, if_false, if_true, ↓reduceIte, true_and, and_true, Int.toNat_natCast, Nat.add_zero, Nat.mul_one, Bool.false_eq_true, decide_eq_true_eq, decide_eq_false_iff_not, Option.isNone_some, Option.isNone_none, Option.isSome_some, Option.isSome_none, List.map_toArray, List.map_cons, List.map_nil, stK_eq, stR_int, stR_bool, stR_string, stR_pointer, stR_slice, exD_plain, exD_guard, exD_nil, stepD_true, stepD_false, needOp, pureOp, Bool.false_or, Bool.true_or, Bool.or_false, Bool.or_true, gval_succ, gval_zero, Bd.s22, Bd.s22b, Bd.s31, Bd.s30, Bd.s30b, Bd.s30e, Bd.s42, Bd.s66, Bd.s67, Bd.b49, Bd.b54, Bd.b79, Bd.b82, Bd.b77, Bd.b86, Bd.b74, decide_true, decide_false, reduceCtorEq, ne_eq, not_true_eq_false, not_false_eq_true, true_implies, false_implies, implies_true, cond_true, cond_false, Bool.not_true, Bool.not_false, stR_agg2, stR_agg4, stR_agg5, one_int, one_bool, one_string, one_pointer, one_slice, one_map, retK_mk, cells_agg, rowAt_alloc, setRow_alloc, ow_four, ow_five, List.getElem_toArray, List.getElem_cons_zero, List.getElem_cons_succ, List.size_toArray, List.length_cons, List.length_nil, Nat.reduceLeDiff, g9, c6, Nat.zero_add]
  repeat (refine ⟨by omega, ?_⟩)
  refine hK _ _ ?_
  clear hK K
  refine cwp_forget [9, 6] fun ρ hL => ?_
  have g9X := hL 9 (by simp)
  have g6X := hL 6 (by simp)
  clear hL
  simp only [upd_apply, Nat.reduceEqDiff, if_false, if_true, ↓reduceIte, g9] at g9X g6X
  have g9 := g9X
  clear g9X
  have g6 := g6X
  clear g6X
  have c6 := (M1.st.cell M1.hc 6).trans M1.cc.2.2.2.2.2.2.2.1
  rw [hrv, (o1 0 (by omega)).1] at c6
  have hcom1 := hcom.congr (o1 8 (by omega)).1 (o1 8 (by omega)).2
  have x1 := RowV.madeI L1 c1 (r := 13) a1 d1 (show S.R.length ≤ 1000000 by omega)
  generalize w2.alloc (.cells (madeCells (Value.int .i32 0).cells S.R.length) 21) = w3 at *
  obtain ⟨L2, c2, S2, a2, d2, o2⟩ := M1.st.new' M1.nb 14 (madeCells (Value.int .i32 0).cells S.R.length) 21
  have M2 := M1.move S2 (by have := M1.nb; simp; omega) (fun r hr => o2 r (by omega))
  have b2 := b1.alloc M1.nb (.cells (madeCells (Value.int .i32 0).cells S.R.length) 21)
  refine cwp_sr rfl fun K hK => ?_
  simp only [exL_plain, exL_guard, exL_nil, fx_move, fx_assign, fx_pick, fx_nilCheck, fx_load, fx_fieldAddr, fx_indexAddr, fx_binOp, fx_not, fx_convert, fx_slice, fx_extract, fx_lookup, fx_build, fx_len, fx_store, fx_alloc, fx_box, fx_makeMap, fx_makeSlice, fx_buildSlice, fx_mapUpdate, fx_append, fx_call, ev_tmp, ev_const, updo_some, updo_none, upd_apply, thenQ_normal, optK_some, optE_some, optE_none, ptrK_mk, intK_mk, boolK_mk, strK_mk, sliceK_mk, addrK_mk, tupK_mk, mapK_mk, sndK_mk, mkK_mk, cvK_int, ldN_zero, ldN_two, ldN_four, ldN_five, binK_add, binK_sub, binK_mul, binK_eql, binK_neq, binK_lss, binK_leq, binK_gtr, binK_geq, binK_seql, binK_sneq, binK_sadd, binK_beql, binK_bneq, binK_peql, binK_pneq, binK_leql, binK_lneq, lenK_slice, lenK_string, ex_slice, ex_pointer, inR_i64, inR_i32, gdK_bool, gdK_undef, Ty.all, Nat.reduceEqDiff, Nat.reduceAdd, Nat.reduceMul, if_false, if_true, ↓reduceIte, true_and, and_true, Int.toNat_natCast, Nat.add_zero, Nat.mul_one, Bool.false_eq_true, decide_eq_true_eq, decide_eq_false_iff_not, Option.isNone_some, Option.isNone_none, Option.isSome_some, Option.isSome_none, List.map_toArray, List.map_cons, List.map_nil, stK_eq, stR_int, stR_bool, stR_string, stR_pointer, stR_slice, exD_plain, exD_guard, exD_nil, stepD_true, stepD_false, needOp, pureOp, Bool.false_or, Bool.true_or, Bool.or_false, Bool.or_true, gval_succ, gval_zero, Bd.s22, Bd.s22b, Bd.s31, Bd.s30, Bd.s30b, Bd.s30e, Bd.s42, Bd.s66, Bd.s67, Bd.b49, Bd.b54, Bd.b79, Bd.b82, Bd.b77, Bd.b86, Bd.b74, decide_true, decide_false, reduceCtorEq, ne_eq, not_true_eq_false, not_false_eq_true, true_implies, false_implies, implies_true, cond_true, cond_false, Bool.not_true, Bool.not_false, stR_agg2, stR_agg4, stR_agg5, one_int, one_bool, one_string, one_pointer, one_slice, one_map, retK_mk, cells_agg, rowAt_alloc, setRow_alloc, ow_four, ow_five, List.getElem_toArray, List.getElem_cons_zero, List.getElem_cons_succ, List.size_toArray, List.length_cons, List.length_nil, Nat.reduceLeDiff, g9, c6, Nat.zero_add]
  repeat (refine ⟨by omega, ?_⟩)
  refine hK _ _ ?_
  clear hK K
  refine cwp_forget [9, 6, 7] fun ρ hL => ?_
  have g9X := hL 9 (by simp)
  have g6X := hL 6 (by simp)
  have g7X := hL 7 (by simp)
  clear hL
  simp only [upd_apply, Nat.reduceEqDiff, if_false, if_true, ↓reduceIte, g9, g6] at g9X g6X g7X
  have g9 := g9X
  clear g9X
  have g6 := g6X
  clear g6X
  have g7 := g7X
  clear g7X
  have c6 := (M2.st.cell M2.hc 6).trans M2.cc.2.2.2.2.2.2.2.1
  rw [hrv, (o2 0 (by omega)).1, (o1 0 (by omega)).1] at c6
  have hcom2 := hcom1.congr (o2 8 (by omega)).1 (o2 8 (by omega)).2
  have x12 := x1.congr (o2 13 (by omega)).1 (o2 13 (by omega)).2
  have x2 := RowV.madeI L2 c2 (r := 14) a2 d2 (show S.R.length ≤ 1000000 by omega)
  generalize w3.alloc (.cells (madeCells (Value.int .i32 0).cells S.R.length) 21) = w4 at *
  obtain ⟨L3, c3, S3, a3, d3, o3⟩ := M2.st.new' M2.nb 15 (madeCells (Value.int .i32 0).cells S.R.length) 21
  have M3 := M2.move S3 (by have := M2.nb; simp; omega) (fun r hr => o3 r (by omega))
  have b3 := b2.alloc M2.nb (.cells (madeCells (Value.int .i32 0).cells S.R.length) 21)
  refine cwp_sr rfl fun K hK => ?_
  simp only [exL_plain, exL_guard, exL_nil, fx_move, fx_assign, fx_pick, fx_nilCheck, fx_load, fx_fieldAddr, fx_indexAddr, fx_binOp, fx_not, fx_convert, fx_slice, fx_extract, fx_lookup, fx_build, fx_len, fx_store, fx_alloc, fx_box, fx_makeMap, fx_makeSlice, fx_buildSlice, fx_mapUpdate, fx_append, fx_call, ev_tmp, ev_const, updo_some, updo_none, upd_apply, thenQ_normal, optK_some, optE_some, optE_none, ptrK_mk, intK_mk, boolK_mk, strK_mk, sliceK_mk, addrK_mk, tupK_mk, mapK_mk, sndK_mk, mkK_mk, cvK_int, ldN_zero, ldN_two, ldN_four, ldN_five, binK_add, binK_sub, binK_mul, binK_eql, binK_neq, binK_lss, binK_leq, binK_gtr, binK_geq, binK_seql, binK_sneq, binK_sadd, binK_beql, binK_bneq, binK_peql, binK_pneq, binK_leql, binK_lneq, lenK_slice, lenK_string, ex_slice, ex_pointer, inR_i64, inR_i32, gdK_bool, gdK_undef, Ty.all, Nat.reduceEqDiff, Nat.reduceAdd, Nat.reduceMul, if_false, if_true, ↓reduceIte, true_and, and_true, Int.toNat_natCast, Nat.add_zero, Nat.mul_one, Bool.false_eq_true, decide_eq_true_eq, decide_eq_false_iff_not, Option.isNone_some, Option.isNone_none, Option.isSome_some, Option.isSome_none, List.map_toArray, List.map_cons, List.map_nil, stK_eq, stR_int, stR_bool, stR_string, stR_pointer, stR_slice, exD_plain, exD_guard, exD_nil, stepD_true, stepD_false, needOp, pureOp, Bool.false_or, Bool.true_or, Bool.or_false, Bool.or_true, gval_succ, gval_zero, Bd.s22, Bd.s22b, Bd.s31, Bd.s30, Bd.s30b, Bd.s30e, Bd.s42, Bd.s66, Bd.s67, Bd.b49, Bd.b54, Bd.b79, Bd.b82, Bd.b77, Bd.b86, Bd.b74, decide_true, decide_false, reduceCtorEq, ne_eq, not_true_eq_false, not_false_eq_true, true_implies, false_implies, implies_true, cond_true, cond_false, Bool.not_true, Bool.not_false, stR_agg2, stR_agg4, stR_agg5, one_int, one_bool, one_string, one_pointer, one_slice, one_map, retK_mk, cells_agg, rowAt_alloc, setRow_alloc, ow_four, ow_five, List.getElem_toArray, List.getElem_cons_zero, List.getElem_cons_succ, List.size_toArray, List.length_cons, List.length_nil, Nat.reduceLeDiff, g9, c6, Nat.zero_add]
  repeat (refine ⟨by omega, ?_⟩)
  refine hK _ _ ?_
  clear hK K
  refine cwp_forget [9, 6, 7, 8] fun ρ hL => ?_
  have g9X := hL 9 (by simp)
  have g6X := hL 6 (by simp)
  have g7X := hL 7 (by simp)
  have g8X := hL 8 (by simp)
  clear hL
  simp only [upd_apply, Nat.reduceEqDiff, if_false, if_true, ↓reduceIte, g9, g6, g7] at g9X g6X g7X g8X
  have g9 := g9X
  clear g9X
  have g6 := g6X
  clear g6X
  have g7 := g7X
  clear g7X
  have g8 := g8X
  clear g8X
  have e0 : L3 0 = L 0 := (o3 0 (by omega)).1.trans ((o2 0 (by omega)).1.trans (o1 0 (by omega)).1)
  have c6 := (M3.st.cell M3.hc 6).trans M3.cc.2.2.2.2.2.2.2.1
  rw [hrv] at c6
  rw [← e0] at g9
  have hcom3 := hcom2.congr (o3 8 (by omega)).1 (o3 8 (by omega)).2
  have x13 := x12.congr (o3 13 (by omega)).1 (o3 13 (by omega)).2
  have x23 := x2.congr (o3 14 (by omega)).1 (o3 14 (by omega)).2
  have x3 := RowV.madeI L3 c3 (r := 15) a3 d3 (show S.R.length ≤ 1000000 by omega)
  have e13 : L3 13 = w2.heap.size := (o3 13 (by omega)).1.trans ((o2 13 (by omega)).1.trans a1)
  have e14 : L3 14 = w3.heap.size := (o3 14 (by omega)).1.trans a2
  rw [← e13] at g6 x13
  rw [← e14] at g7 x23
  rw [← a3] at g8 x3
  generalize w4.alloc (.cells (madeCells (Value.int .i32 0).cells S.R.length) 21) = w5 at *
  clear S1 S2 S3 M1 M2 hM d1 d2 d3 hcom hcom1 hcom2 x1 x12 x2 b1 b2
  refine cwp_seq fun K hK => ?_
  refine cwp_sr rfl fun K hK => ?_
  simp only [exL_plain, exL_guard, exL_nil, fx_move, fx_assign, fx_pick, fx_nilCheck, fx_load, fx_fieldAddr, fx_indexAddr, fx_binOp, fx_not, fx_convert, fx_slice, fx_extract, fx_lookup, fx_build, fx_len, fx_store, fx_alloc, fx_box, fx_makeMap, fx_makeSlice, fx_buildSlice, fx_mapUpdate, fx_append, fx_call, ev_tmp, ev_const, updo_some, updo_none, upd_apply, thenQ_normal, optK_some, optE_some, optE_none, ptrK_mk, intK_mk, boolK_mk, strK_mk, sliceK_mk, addrK_mk, tupK_mk, mapK_mk, sndK_mk, mkK_mk, cvK_int, ldN_zero, ldN_two, ldN_four, ldN_five, binK_add, binK_sub, binK_mul, binK_eql, binK_neq, binK_lss, binK_leq, binK_gtr, binK_geq, binK_seql, binK_sneq, binK_sadd, binK_beql, binK_bneq, binK_peql, binK_pneq, binK_leql, binK_lneq, lenK_slice, lenK_string, ex_slice, ex_pointer, inR_i64, inR_i32, gdK_bool, gdK_undef, Ty.all, Nat.reduceEqDiff, Nat.reduceAdd, Nat.reduceMul, if_false, if_true, ↓reduceIte, true_and, and_true, Int.toNat_natCast, Nat.add_zero, Nat.mul_one, Bool.false_eq_true, decide_eq_true_eq, decide_eq_false_iff_not, Option.isNone_some, Option.isNone_none, Option.isSome_some, Option.isSome_none, List.map_toArray, List.map_cons, List.map_nil, stK_eq, stR_int, stR_bool, stR_string, stR_pointer, stR_slice, exD_plain, exD_guard, exD_nil, stepD_true, stepD_false, needOp, pureOp, Bool.false_or, Bool.true_or, Bool.or_false, Bool.or_true, gval_succ, gval_zero, Bd.s22, Bd.s22b, Bd.s31, Bd.s30, Bd.s30b, Bd.s30e, Bd.s42, Bd.s66, Bd.s67, Bd.b49, Bd.b54, Bd.b79, Bd.b82, Bd.b77, Bd.b86, Bd.b74, decide_true, decide_false, reduceCtorEq, ne_eq, not_true_eq_false, not_false_eq_true, true_implies, false_implies, implies_true, cond_true, cond_false, Bool.not_true, Bool.not_false, stR_agg2, stR_agg4, stR_agg5, one_int, one_bool, one_string, one_pointer, one_slice, one_map, retK_mk, cells_agg, rowAt_alloc, setRow_alloc, ow_four, ow_five, List.getElem_toArray, List.getElem_cons_zero, List.getElem_cons_succ, List.size_toArray, List.length_cons, List.length_nil, Nat.reduceLeDiff, g9, c6, Nat.zero_add]
  repeat (refine ⟨by omega, ?_⟩)
  refine hK _ _ ?_
  clear hK K
  refine cwp_forget [9, 6, 7, 8, 39, 40] fun ρ hL => ?_
  have g9X := hL 9 (by simp)
  have g6X := hL 6 (by simp)
  have g7X := hL 7 (by simp)
  have g8X := hL 8 (by simp)
  have g39X := hL 39 (by simp)
  have g40X := hL 40 (by simp)
  clear hL
  simp only [upd_apply, Nat.reduceEqDiff, if_false, if_true, ↓reduceIte, g9, g6, g7, g8] at g9X g6X g7X g8X g39X g40X
  have g9 := g9X
  clear g9X
  have g6 := g6X
  clear g6X
  have g7 := g7X
  clear g7X
  have g8 := g8X
  clear g8X
  have g39 := g39X
  clear g39X
  have g40 := g40X
  clear g40X
  refine cwp_for (fun i ρ wr => i ≤ S.R.length ∧ ρ 9 = .pointer (some ⟨L3 0, 0, none⟩) ∧ ρ 6 = .slice (some ⟨L3 13, 0, none⟩) S.R.length S.R.length ∧ ρ 7 = .slice (some ⟨L3 14, 0, none⟩) S.R.length S.R.length ∧ ρ 8 = .slice (some ⟨L3 15, 0, none⟩) S.R.length S.R.length ∧ ρ 39 = .int .i64 S.R.length ∧ ρ 40 = .int .i64 (i : Nat) ∧
      Below w.heap.size w wr ∧ ∃ (c : Nat → Option AO) (x y z : List Int), CM w.heap.size wr L3 c (.slice ta T.length tcap) cv (fun i => (c0cells ta T.length tcap w.heap.size)[8 + i]?) S C ov wv iv rv lv xo ∧ RowV L3 c 8 4 1 cv T.length ((comm T (colS T).2).map .bool) ∧
        RowV L3 c 13 21 1 (.slice (some ⟨L3 13, 0, none⟩) S.R.length S.R.length) S.R.length (vI x) ∧ RowV L3 c 14 21 1 (.slice (some ⟨L3 14, 0, none⟩) S.R.length S.R.length) S.R.length (vI y) ∧ RowV L3 c 15 21 1 (.slice (some ⟨L3 15, 0, none⟩) S.R.length S.R.length) S.R.length (vI z) ∧
        (x.length = S.R.length ∧ ∀ k, k < i → x.getD k 0 = (S.R.getD k rd0).t) ∧ (y.length = S.R.length ∧ ∀ k, k < i → y.getD k 0 = (S.R.getD k rd0).s) ∧ (z.length = S.R.length ∧ ∀ k, k < i → z.getD k 0 = (S.R.getD k rd0).e))
    (fun i => S.R.length - i) (fun ρ wr => ρ 9 = .pointer (some ⟨L3 0, 0, none⟩) ∧ ρ 6 = .slice (some ⟨L3 13, 0, none⟩) S.R.length S.R.length ∧ ρ 7 = .slice (some ⟨L3 14, 0, none⟩) S.R.length S.R.length ∧ ρ 8 = .slice (some ⟨L3 15, 0, none⟩) S.R.length S.R.length ∧
      Below w.heap.size w wr ∧ ∃ (c : Nat → Option AO), CM w.heap.size wr L3 c (.slice ta T.length tcap) cv (fun i => (c0cells ta T.length tcap w.heap.size)[8 + i]?) S C ov wv iv rv lv xo ∧ RowV L3 c 8 4 1 cv T.length ((comm T (colS T).2).map .bool) ∧
        RowV L3 c 13 21 1 (.slice (some ⟨L3 13, 0, none⟩) S.R.length S.R.length) S.R.length (vI (S.R.map (·.t))) ∧ RowV L3 c 14 21 1 (.slice (some ⟨L3 14, 0, none⟩) S.R.length S.R.length) S.R.length (vI (S.R.map (·.s))) ∧ RowV L3 c 15 21 1 (.slice (some ⟨L3 15, 0, none⟩) S.R.length S.R.length) S.R.length (vI (S.R.map (·.e)))) 0 ?_ ?_ ?_
  · exact ⟨Nat.zero_le _, g9, g6, g7, g8, g39, g40, b3, c3, List.replicate S.R.length 0, List.replicate S.R.length 0, List.replicate S.R.length 0, M3, hcom3, x13, x23, x3, ⟨by simp, fun k hk => by omega⟩, ⟨by simp, fun k hk => by omega⟩, ⟨by simp, fun k hk => by omega⟩⟩
  · clear g9 g6 g7 g8 g39 g40 M3 hcom3 x13 x23 x3 b3 c6
    rintro i ρ wr ⟨hi, g9, g6, g7, g8, g39, g40, hb, c, x, y, z, hM, hcom, hx, hy, hz, hxf, hyf, hzf⟩ K1 hK1
    refine cwp_sr rfl fun K hK => ?_
    simp only [exL_plain, exL_guard, exL_nil, fx_move, fx_assign, fx_pick, fx_nilCheck, fx_load, fx_fieldAddr, fx_indexAddr, fx_binOp, fx_not, fx_convert, fx_slice, fx_extract, fx_lookup, fx_build, fx_len, fx_store, fx_alloc, fx_box, fx_makeMap, fx_makeSlice, fx_buildSlice, fx_mapUpdate, fx_append, fx_call, ev_tmp, ev_const, updo_some, updo_none, upd_apply, thenQ_normal, optK_some, optE_some, optE_none, ptrK_mk, intK_mk, boolK_mk, strK_mk, sliceK_mk, addrK_mk, tupK_mk, mapK_mk, sndK_mk, mkK_mk, cvK_int, ldN_zero, ldN_two, ldN_four, ldN_five, binK_add, binK_sub, binK_mul, binK_eql, binK_neq, binK_lss, binK_leq, binK_gtr, binK_geq, binK_seql, binK_sneq, binK_sadd, binK_beql, binK_bneq, binK_peql, binK_pneq, binK_leql, binK_lneq, lenK_slice, lenK_string, ex_slice, ex_pointer, inR_i64, inR_i32, gdK_bool, gdK_undef, Ty.all, Nat.reduceEqDiff, Nat.reduceAdd, Nat.reduceMul, if_false, if_true, ↓reduceIte, true_and, and_true, Int.toNat_natCast, Nat.add_zero, Nat.mul_one, Bool.false_eq_true, decide_eq_true_eq, decide_eq_false_iff_not, Option.isNone_some, Option.isNone_none, Option.isSome_some, Option.isSome_none, List.map_toArray, List.map_cons, List.map_nil, stK_eq, stR_int, stR_bool, stR_string, stR_pointer, stR_slice, exD_plain, exD_guard, exD_nil, stepD_true, stepD_false, needOp, pureOp, Bool.false_or, Bool.true_or, Bool.or_false, Bool.or_true, gval_succ, gval_zero, Bd.s22, Bd.s22b, Bd.s31, Bd.s30, Bd.s30b, Bd.s30e, Bd.s42, Bd.s66, Bd.s67, Bd.b49, Bd.b54, Bd.b79, Bd.b82, Bd.b77, Bd.b86, Bd.b74, decide_true, decide_false, reduceCtorEq, ne_eq, not_true_eq_false, not_false_eq_true, true_implies, false_implies, implies_true, cond_true, cond_false, Bool.not_true, Bool.not_false, stR_agg2, stR_agg4, stR_agg5, one_int, one_bool, one_string, one_pointer, one_slice, one_map, retK_mk, cells_agg, rowAt_alloc, setRow_alloc, ow_four, ow_five, List.getElem_toArray, List.getElem_cons_zero, List.getElem_cons_succ, List.size_toArray, List.length_cons, List.length_nil, Nat.reduceLeDiff, g39, g40]
    repeat (refine ⟨by omega, ?_⟩)
    refine hK _ _ ?_
    clear hK K
    refine cwp_seq fun K hK => cwp_cond ?_
    simp only [exL_plain, exL_guard, exL_nil, fx_move, fx_assign, fx_pick, fx_nilCheck, fx_load, fx_fieldAddr, fx_indexAddr, fx_binOp, fx_not, fx_convert, fx_slice, fx_extract, fx_lookup, fx_build, fx_len, fx_store, fx_alloc, fx_box, fx_makeMap, fx_makeSlice, fx_buildSlice, fx_mapUpdate, fx_append, fx_call, ev_tmp, ev_const, updo_some, updo_none, upd_apply, thenQ_normal, optK_some, optE_some, optE_none, ptrK_mk, intK_mk, boolK_mk, strK_mk, sliceK_mk, addrK_mk, tupK_mk, mapK_mk, sndK_mk, mkK_mk, cvK_int, ldN_zero, ldN_two, ldN_four, ldN_five, binK_add, binK_sub, binK_mul, binK_eql, binK_neq, binK_lss, binK_leq, binK_gtr, binK_geq, binK_seql, binK_sneq, binK_sadd, binK_beql, binK_bneq, binK_peql, binK_pneq, binK_leql, binK_lneq, lenK_slice, lenK_string, ex_slice, ex_pointer, inR_i64, inR_i32, gdK_bool, gdK_undef, Ty.all, Nat.reduceEqDiff, Nat.reduceAdd, Nat.reduceMul, if_false, if_true, ↓reduceIte, true_and, and_true, Int.toNat_natCast, Nat.add_zero, Nat.mul_one, Bool.false_eq_true, decide_eq_true_eq, decide_eq_false_iff_not, Option.isNone_some, Option.isNone_none, Option.isSome_some, Option.isSome_none, List.map_toArray, List.map_cons, List.map_nil, stK_eq, stR_int, stR_bool, stR_string, stR_pointer, stR_slice, exD_plain, exD_guard, exD_nil, stepD_true, stepD_false, needOp, pureOp, Bool.false_or, Bool.true_or, Bool.or_false, Bool.or_true, gval_succ, gval_zero, Bd.s22, Bd.s22b, Bd.s31, Bd.s30, Bd.s30b, Bd.s30e, Bd.s42, Bd.s66, Bd.s67, Bd.b49, Bd.b54, Bd.b79, Bd.b82, Bd.b77, Bd.b86, Bd.b74, decide_true, decide_false, reduceCtorEq, ne_eq, not_true_eq_false, not_false_eq_true, true_implies, false_implies, implies_true, cond_true, cond_false, Bool.not_true, Bool.not_false, stR_agg2, stR_agg4, stR_agg5, one_int, one_bool, one_string, one_pointer, one_slice, one_map, retK_mk, cells_agg, rowAt_alloc, setRow_alloc, ow_four, ow_five, List.getElem_toArray, List.getElem_cons_zero, List.getElem_cons_succ, List.size_toArray, List.length_cons, List.length_nil, Nat.reduceLeDiff]
    refine ⟨fun hlt => cwp_skip (hK _ _ ?_), fun hge => cwp_exit (toJ ?_)⟩
    · clear hK K
      have hlt' : i < S.R.length := by omega
      obtain ⟨rc', hrv', _⟩ := hM.rd.get5 hM.st hlt'
      obtain ⟨_, _, hrc1⟩ := hM.rd.get5 hM.st hlt'
      have r1 := (hrc1 0 (by omega)).trans (flat5 S.R i 0 hlt' (by omega))
      simp only [rdCells, List.getElem?_cons_zero, List.getElem?_cons_succ, Nat.add_zero] at r1
      have cc1 := (hM.st.cell hM.hc 6).trans hM.cc.2.2.2.2.2.2.2.1
      rw [hrv'] at cc1
      obtain ⟨_, cur1, _, hc1, hcl1, hset1⟩ := hx.set hM.st hlt'
      have row1 := hM.st.row hc1
      obtain ⟨c1, S1, z1, o1⟩ := hM.st.set' hc1 (cur1.setIfInBounds i (.int .i32 (S.R.getD i rd0).t))
      have b1 := below_setRow hb (hM.st.ge hc1) (cur1.setIfInBounds i (.int .i32 (S.R.getD i rd0).t))
      have M1 := hM.move S1 b1.size (fun r hr => ⟨rfl, o1 r (by omega)⟩)
      have hcom1 := hcom.congr (lay' := L3) (c' := c1) rfl (o1 8 (by omega))
      have hy1 := hy.congr (lay' := L3) (c' := c1) rfl (o1 14 (by omega))
      have hz1 := hz.congr (lay' := L3) (c' := c1) rfl (o1 15 (by omega))
      have hx1 : RowV L3 c1 13 21 1 (.slice (some ⟨L3 13, 0, none⟩) S.R.length S.R.length) S.R.length (vI (x.set i (S.R.getD i rd0).t)) := by
        rw [vI, List.map_set]
        exact (hset1 (.int .i32 (S.R.getD i rd0).t)).congr rfl (by rw [z1]; simp [updC])
      obtain ⟨_, _, hrc2⟩ := M1.rd.get5 M1.st hlt'
      have r2 := (hrc2 2 (by omega)).trans (flat5 S.R i 2 hlt' (by omega))
      simp only [rdCells, List.getElem?_cons_zero, List.getElem?_cons_succ, Nat.add_zero] at r2
      have cc2 := (M1.st.cell M1.hc 6).trans M1.cc.2.2.2.2.2.2.2.1
      rw [hrv'] at cc2
      obtain ⟨_, cur2, _, hc2, hcl2, hset2⟩ := hy1.set M1.st hlt'
      have row2 := M1.st.row hc2
      obtain ⟨c2, S2, z2, o2⟩ := M1.st.set' hc2 (cur2.setIfInBounds i (.int .i32 (S.R.getD i rd0).s))
      have b2 := below_setRow b1 (M1.st.ge hc2) (cur2.setIfInBounds i (.int .i32 (S.R.getD i rd0).s))
      have M2 := M1.move S2 b2.size (fun r hr => ⟨rfl, o2 r (by omega)⟩)
      have hcom2 := hcom1.congr (lay' := L3) (c' := c2) rfl (o2 8 (by omega))
      have hx2 := hx1.congr (lay' := L3) (c' := c2) rfl (o2 13 (by omega))
      have hz2 := hz1.congr (lay' := L3) (c' := c2) rfl (o2 15 (by omega))
      have hy2 : RowV L3 c2 14 21 1 (.slice (some ⟨L3 14, 0, none⟩) S.R.length S.R.length) S.R.length (vI (y.set i (S.R.getD i rd0).s)) := by
        rw [vI, List.map_set]
        exact (hset2 (.int .i32 (S.R.getD i rd0).s)).congr rfl (by rw [z2]; simp [updC])
      obtain ⟨_, _, hrc3⟩ := M2.rd.get5 M2.st hlt'
      have r3 := (hrc3 3 (by omega)).trans (flat5 S.R i 3 hlt' (by omega))
      simp only [rdCells, List.getElem?_cons_zero, List.getElem?_cons_succ, Nat.add_zero] at r3
      have cc3 := (M2.st.cell M2.hc 6).trans M2.cc.2.2.2.2.2.2.2.1
      rw [hrv'] at cc3
      obtain ⟨_, cur3, _, hc3, hcl3, hset3⟩ := hz2.set M2.st hlt'
      have row3 := M2.st.row hc3
      obtain ⟨c3, S3, z3, o3⟩ := M2.st.set' hc3 (cur3.setIfInBounds i (.int .i32 (S.R.getD i rd0).e))
      have b3 := below_setRow b2 (M2.st.ge hc3) (cur3.setIfInBounds i (.int .i32 (S.R.getD i rd0).e))
      have M3 := M2.move S3 b3.size (fun r hr => ⟨rfl, o3 r (by omega)⟩)
      have hcom3 := hcom2.congr (lay' := L3) (c' := c3) rfl (o3 8 (by omega))
      have hx3 := hx2.congr (lay' := L3) (c' := c3) rfl (o3 13 (by omega))
      have hy3 := hy2.congr (lay' := L3) (c' := c3) rfl (o3 14 (by omega))
      have hz3 : RowV L3 c3 15 21 1 (.slice (some ⟨L3 15, 0, none⟩) S.R.length S.R.length) S.R.length (vI (z.set i (S.R.getD i rd0).e)) := by
        rw [vI, List.map_set]
        exact (hset3 (.int .i32 (S.R.getD i rd0).e)).congr rfl (by rw [z3]; simp [updC])
      refine cwp_seq fun K2 hK2 => ?_
      refine cwp_block ?_
      refine cwp_forget [9, 6, 7, 8, 39, 40] fun ρ hL => ?_
      have g9X := hL 9 (by simp)
      have g6X := hL 6 (by simp)
      have g7X := hL 7 (by simp)
      have g8X := hL 8 (by simp)
      have g39X := hL 39 (by simp)
      have g40X := hL 40 (by simp)
      clear hL
      simp only [upd_apply, Nat.reduceEqDiff, if_false, if_true, ↓reduceIte, g9, g6, g7, g8, g39, g40] at g9X g6X g7X g8X g39X g40X
      have g9 := g9X
      clear g9X
      have g6 := g6X
      clear g6X
      have g7 := g7X
      clear g7X
      have g8 := g8X
      clear g8X
      have g39 := g39X
      clear g39X
      have g40 := g40X
      clear g40X
      refine cwp_sr rfl fun K hK => ?_
      simp only [exL_plain, exL_guard, exL_nil, fx_move, fx_assign, fx_pick, fx_nilCheck, fx_load, fx_fieldAddr, fx_indexAddr, fx_binOp, fx_not, fx_convert, fx_slice, fx_extract, fx_lookup, fx_build, fx_len, fx_store, fx_alloc, fx_box, fx_makeMap, fx_makeSlice, fx_buildSlice, fx_mapUpdate, fx_append, fx_call, ev_tmp, ev_const, updo_some, updo_none, upd_apply, thenQ_normal, optK_some, optE_some, optE_none, ptrK_mk, intK_mk, boolK_mk, strK_mk, sliceK_mk, addrK_mk, tupK_mk, mapK_mk, sndK_mk, mkK_mk, cvK_int, ldN_zero, ldN_two, ldN_four, ldN_five, binK_add, binK_sub, binK_mul, binK_eql, binK_neq, binK_lss, binK_leq, binK_gtr, binK_geq, binK_seql, binK_sneq, binK_sadd, binK_beql, binK_bneq, binK_peql, binK_pneq, binK_leql, binK_lneq, lenK_slice, lenK_string, ex_slice, ex_pointer, inR_i64, inR_i32, gdK_bool, gdK_undef, Ty.all, Nat.reduceEqDiff, Nat.reduceAdd, Nat.reduceMul, if_false, if_true, ↓reduceIte, true_and, and_true, Int.toNat_natCast, Nat.add_zero, Nat.mul_one, Bool.false_eq_true, decide_eq_true_eq, decide_eq_false_iff_not, Option.isNone_some, Option.isNone_none, Option.isSome_some, Option.isSome_none, List.map_toArray, List.map_cons, List.map_nil, stK_eq, stR_int, stR_bool, stR_string, stR_pointer, stR_slice, exD_plain, exD_guard, exD_nil, stepD_true, stepD_false, needOp, pureOp, Bool.false_or, Bool.true_or, Bool.or_false, Bool.or_true, gval_succ, gval_zero, Bd.s22, Bd.s22b, Bd.s31, Bd.s30, Bd.s30b, Bd.s30e, Bd.s42, Bd.s66, Bd.s67, Bd.b49, Bd.b54, Bd.b79, Bd.b82, Bd.b77, Bd.b86, Bd.b74, decide_true, decide_false, reduceCtorEq, ne_eq, not_true_eq_false, not_false_eq_true, true_implies, false_implies, implies_true, cond_true, cond_false, Bool.not_true, Bool.not_false, stR_agg2, stR_agg4, stR_agg5, one_int, one_bool, one_string, one_pointer, one_slice, one_map, retK_mk, cells_agg, rowAt_alloc, setRow_alloc, ow_four, ow_five, List.getElem_toArray, List.getElem_cons_zero, List.getElem_cons_succ, List.size_toArray, List.length_cons, List.length_nil, Nat.reduceLeDiff, g40]
      repeat (refine ⟨by omega, ?_⟩)
      refine hK _ _ ?_
      clear hK K
      refine cwp_forget [9, 6, 7, 8, 39, 40, 10] fun ρ hL => ?_
      have g9X := hL 9 (by simp)
      have g6X := hL 6 (by simp)
      have g7X := hL 7 (by simp)
      have g8X := hL 8 (by simp)
      have g39X := hL 39 (by simp)
      have g40X := hL 40 (by simp)
      have g10X := hL 10 (by simp)
      clear hL
      simp only [upd_apply, Nat.reduceEqDiff, if_false, if_true, ↓reduceIte, g9, g6, g7, g8, g39, g40] at g9X g6X g7X g8X g39X g40X g10X
      have g9 := g9X
      clear g9X
      have g6 := g6X
      clear g6X
      have g7 := g7X
      clear g7X
      have g8 := g8X
      clear g8X
      have g39 := g39X
      clear g39X
      have g40 := g40X
      clear g40X
      have g10 := g10X
      clear g10X
      refine cwp_sr rfl fun K hK => ?_
      simp only [exL_plain, exL_guard, exL_nil, fx_move, fx_assign, fx_pick, fx_nilCheck, fx_load, fx_fieldAddr, fx_indexAddr, fx_binOp, fx_not, fx_convert, fx_slice, fx_extract, fx_lookup, fx_build, fx_len, fx_store, fx_alloc, fx_box, fx_makeMap, fx_makeSlice, fx_buildSlice, fx_mapUpdate, fx_append, fx_call, ev_tmp, ev_const, updo_some, updo_none, upd_apply, thenQ_normal, optK_some, optE_some, optE_none, ptrK_mk, intK_mk, boolK_mk, strK_mk, sliceK_mk, addrK_mk, tupK_mk, mapK_mk, sndK_mk, mkK_mk, cvK_int, ldN_zero, ldN_two, ldN_four, ldN_five, binK_add, binK_sub, binK_mul, binK_eql, binK_neq, binK_lss, binK_leq, binK_gtr, binK_geq, binK_seql, binK_sneq, binK_sadd, binK_beql, binK_bneq, binK_peql, binK_pneq, binK_leql, binK_lneq, lenK_slice, lenK_string, ex_slice, ex_pointer, inR_i64, inR_i32, gdK_bool, gdK_undef, Ty.all, Nat.reduceEqDiff, Nat.reduceAdd, Nat.reduceMul, if_false, if_true, ↓reduceIte, true_and, and_true, Int.toNat_natCast, Nat.add_zero, Nat.mul_one, Bool.false_eq_true, decide_eq_true_eq, decide_eq_false_iff_not, Option.isNone_some, Option.isNone_none, Option.isSome_some, Option.isSome_none, List.map_toArray, List.map_cons, List.map_nil, stK_eq, stR_int, stR_bool, stR_string, stR_pointer, stR_slice, exD_plain, exD_guard, exD_nil, stepD_true, stepD_false, needOp, pureOp, Bool.false_or, Bool.true_or, Bool.or_false, Bool.or_true, gval_succ, gval_zero, Bd.s22, Bd.s22b, Bd.s31, Bd.s30, Bd.s30b, Bd.s30e, Bd.s42, Bd.s66, Bd.s67, Bd.b49, Bd.b54, Bd.b79, Bd.b82, Bd.b77, Bd.b86, Bd.b74, decide_true, decide_false, reduceCtorEq, ne_eq, not_true_eq_false, not_false_eq_true, true_implies, false_implies, implies_true, cond_true, cond_false, Bool.not_true, Bool.not_false, stR_agg2, stR_agg4, stR_agg5, one_int, one_bool, one_string, one_pointer, one_slice, one_map, retK_mk, cells_agg, rowAt_alloc, setRow_alloc, ow_four, ow_five, List.getElem_toArray, List.getElem_cons_zero, List.getElem_cons_succ, List.size_toArray, List.length_cons, List.length_nil, Nat.reduceLeDiff, g9, g6, g10, cc1, r1, row1, Nat.zero_add]
      repeat (refine ⟨by omega, ?_⟩)
      refine hK _ _ ?_
      clear hK K
      refine cwp_forget [9, 6, 7, 8, 39, 40, 10] fun ρ hL => ?_
      have g9X := hL 9 (by simp)
      have g6X := hL 6 (by simp)
      have g7X := hL 7 (by simp)
      have g8X := hL 8 (by simp)
      have g39X := hL 39 (by simp)
      have g40X := hL 40 (by simp)
      have g10X := hL 10 (by simp)
      clear hL
      simp only [upd_apply, Nat.reduceEqDiff, if_false, if_true, ↓reduceIte, g9, g6, g7, g8, g39, g40, g10] at g9X g6X g7X g8X g39X g40X g10X
      have g9 := g9X
      clear g9X
      have g6 := g6X
      clear g6X
      have g7 := g7X
      clear g7X
      have g8 := g8X
      clear g8X
      have g39 := g39X
      clear g39X
      have g40 := g40X
      clear g40X
      have g10 := g10X
      clear g10X
      refine cwp_sr rfl fun K hK => ?_
      simp only [exL_plain, exL_guard, exL_nil, fx_move, fx_assign, fx_pick, fx_nilCheck, fx_load, fx_fieldAddr, fx_indexAddr, fx_binOp, fx_not, fx_convert, fx_slice, fx_extract, fx_lookup, fx_build, fx_len, fx_store, fx_alloc, fx_box, fx_makeMap, fx_makeSlice, fx_buildSlice, fx_mapUpdate, fx_append, fx_call, ev_tmp, ev_const, updo_some, updo_none, upd_apply, thenQ_normal, optK_some, optE_some, optE_none, ptrK_mk, intK_mk, boolK_mk, strK_mk, sliceK_mk, addrK_mk, tupK_mk, mapK_mk, sndK_mk, mkK_mk, cvK_int, ldN_zero, ldN_two, ldN_four, ldN_five, binK_add, binK_sub, binK_mul, binK_eql, binK_neq, binK_lss, binK_leq, binK_gtr, binK_geq, binK_seql, binK_sneq, binK_sadd, binK_beql, binK_bneq, binK_peql, binK_pneq, binK_leql, binK_lneq, lenK_slice, lenK_string, ex_slice, ex_pointer, inR_i64, inR_i32, gdK_bool, gdK_undef, Ty.all, Nat.reduceEqDiff, Nat.reduceAdd, Nat.reduceMul, if_false, if_true, ↓reduceIte, true_and, and_true, Int.toNat_natCast, Nat.add_zero, Nat.mul_one, Bool.false_eq_true, decide_eq_true_eq, decide_eq_false_iff_not, Option.isNone_some, Option.isNone_none, Option.isSome_some, Option.isSome_none, List.map_toArray, List.map_cons, List.map_nil, stK_eq, stR_int, stR_bool, stR_string, stR_pointer, stR_slice, exD_plain, exD_guard, exD_nil, stepD_true, stepD_false, needOp, pureOp, Bool.false_or, Bool.true_or, Bool.or_false, Bool.or_true, gval_succ, gval_zero, Bd.s22, Bd.s22b, Bd.s31, Bd.s30, Bd.s30b, Bd.s30e, Bd.s42, Bd.s66, Bd.s67, Bd.b49, Bd.b54, Bd.b79, Bd.b82, Bd.b77, Bd.b86, Bd.b74, decide_true, decide_false, reduceCtorEq, ne_eq, not_true_eq_false, not_false_eq_true, true_implies, false_implies, implies_true, cond_true, cond_false, Bool.not_true, Bool.not_false, stR_agg2, stR_agg4, stR_agg5, one_int, one_bool, one_string, one_pointer, one_slice, one_map, retK_mk, cells_agg, rowAt_alloc, setRow_alloc, ow_four, ow_five, List.getElem_toArray, List.getElem_cons_zero, List.getElem_cons_succ, List.size_toArray, List.length_cons, List.length_nil, Nat.reduceLeDiff, g9, g7, g10, cc2, r2, row2, Nat.zero_add]
      repeat (refine ⟨by omega, ?_⟩)
      refine hK _ _ ?_
      clear hK K
      refine cwp_forget [9, 6, 7, 8, 39, 40, 10] fun ρ hL => ?_
      have g9X := hL 9 (by simp)
      have g6X := hL 6 (by simp)
      have g7X := hL 7 (by simp)
      have g8X := hL 8 (by simp)
      have g39X := hL 39 (by simp)
      have g40X := hL 40 (by simp)
      have g10X := hL 10 (by simp)
      clear hL
      simp only [upd_apply, Nat.reduceEqDiff, if_false, if_true, ↓reduceIte, g9, g6, g7, g8, g39, g40, g10] at g9X g6X g7X g8X g39X g40X g10X
      have g9 := g9X
      clear g9X
      have g6 := g6X
      clear g6X
      have g7 := g7X
      clear g7X
      have g8 := g8X
      clear g8X
      have g39 := g39X
      clear g39X
      have g40 := g40X
      clear g40X
      have g10 := g10X
      clear g10X
      refine cwp_region rfl ?_
      simp only [exL_plain, exL_guard, exL_nil, fx_move, fx_assign, fx_pick, fx_nilCheck, fx_load, fx_fieldAddr, fx_indexAddr, fx_binOp, fx_not, fx_convert, fx_slice, fx_extract, fx_lookup, fx_build, fx_len, fx_store, fx_alloc, fx_box, fx_makeMap, fx_makeSlice, fx_buildSlice, fx_mapUpdate, fx_append, fx_call, ev_tmp, ev_const, updo_some, updo_none, upd_apply, thenQ_normal, optK_some, optE_some, optE_none, ptrK_mk, intK_mk, boolK_mk, strK_mk, sliceK_mk, addrK_mk, tupK_mk, mapK_mk, sndK_mk, mkK_mk, cvK_int, ldN_zero, ldN_two, ldN_four, ldN_five, binK_add, binK_sub, binK_mul, binK_eql, binK_neq, binK_lss, binK_leq, binK_gtr, binK_geq, binK_seql, binK_sneq, binK_sadd, binK_beql, binK_bneq, binK_peql, binK_pneq, binK_leql, binK_lneq, lenK_slice, lenK_string, ex_slice, ex_pointer, inR_i64, inR_i32, gdK_bool, gdK_undef, Ty.all, Nat.reduceEqDiff, Nat.reduceAdd, Nat.reduceMul, if_false, if_true, ↓reduceIte, true_and, and_true, Int.toNat_natCast, Nat.add_zero, Nat.mul_one, Bool.false_eq_true, decide_eq_true_eq, decide_eq_false_iff_not, Option.isNone_some, Option.isNone_none, Option.isSome_some, Option.isSome_none, List.map_toArray, List.map_cons, List.map_nil, stK_eq, stR_int, stR_bool, stR_string, stR_pointer, stR_slice, exD_plain, exD_guard, exD_nil, stepD_true, stepD_false, needOp, pureOp, Bool.false_or, Bool.true_or, Bool.or_false, Bool.or_true, gval_succ, gval_zero, Bd.s22, Bd.s22b, Bd.s31, Bd.s30, Bd.s30b, Bd.s30e, Bd.s42, Bd.s66, Bd.s67, Bd.b49, Bd.b54, Bd.b79, Bd.b82, Bd.b77, Bd.b86, Bd.b74, decide_true, decide_false, reduceCtorEq, ne_eq, not_true_eq_false, not_false_eq_true, true_implies, false_implies, implies_true, cond_true, cond_false, Bool.not_true, Bool.not_false, stR_agg2, stR_agg4, stR_agg5, one_int, one_bool, one_string, one_pointer, one_slice, one_map, retK_mk, cells_agg, rowAt_alloc, setRow_alloc, ow_four, ow_five, List.getElem_toArray, List.getElem_cons_zero, List.getElem_cons_succ, List.size_toArray, List.length_cons, List.length_nil, Nat.reduceLeDiff, g9, g8, g10, cc3, r3, row3, Nat.zero_add, blkQ_normal]
      repeat (refine ⟨by omega, ?_⟩)
      refine hK2 _ _ ?_
      refine cwp_region rfl ?_
      simp only [exL_plain, exL_guard, exL_nil, fx_move, fx_assign, fx_pick, fx_nilCheck, fx_load, fx_fieldAddr, fx_indexAddr, fx_binOp, fx_not, fx_convert, fx_slice, fx_extract, fx_lookup, fx_build, fx_len, fx_store, fx_alloc, fx_box, fx_makeMap, fx_makeSlice, fx_buildSlice, fx_mapUpdate, fx_append, fx_call, ev_tmp, ev_const, updo_some, updo_none, upd_apply, thenQ_normal, optK_some, optE_some, optE_none, ptrK_mk, intK_mk, boolK_mk, strK_mk, sliceK_mk, addrK_mk, tupK_mk, mapK_mk, sndK_mk, mkK_mk, cvK_int, ldN_zero, ldN_two, ldN_four, ldN_five, binK_add, binK_sub, binK_mul, binK_eql, binK_neq, binK_lss, binK_leq, binK_gtr, binK_geq, binK_seql, binK_sneq, binK_sadd, binK_beql, binK_bneq, binK_peql, binK_pneq, binK_leql, binK_lneq, lenK_slice, lenK_string, ex_slice, ex_pointer, inR_i64, inR_i32, gdK_bool, gdK_undef, Ty.all, Nat.reduceEqDiff, Nat.reduceAdd, Nat.reduceMul, if_false, if_true, ↓reduceIte, true_and, and_true, Int.toNat_natCast, Nat.add_zero, Nat.mul_one, Bool.false_eq_true, decide_eq_true_eq, decide_eq_false_iff_not, Option.isNone_some, Option.isNone_none, Option.isSome_some, Option.isSome_none, List.map_toArray, List.map_cons, List.map_nil, stK_eq, stR_int, stR_bool, stR_string, stR_pointer, stR_slice, exD_plain, exD_guard, exD_nil, stepD_true, stepD_false, needOp, pureOp, Bool.false_or, Bool.true_or, Bool.or_false, Bool.or_true, gval_succ, gval_zero, Bd.s22, Bd.s22b, Bd.s31, Bd.s30, Bd.s30b, Bd.s30e, Bd.s42, Bd.s66, Bd.s67, Bd.b49, Bd.b54, Bd.b79, Bd.b82, Bd.b77, Bd.b86, Bd.b74, decide_true, decide_false, reduceCtorEq, ne_eq, not_true_eq_false, not_false_eq_true, true_implies, false_implies, implies_true, cond_true, cond_false, Bool.not_true, Bool.not_false, stR_agg2, stR_agg4, stR_agg5, one_int, one_bool, one_string, one_pointer, one_slice, one_map, retK_mk, cells_agg, rowAt_alloc, setRow_alloc, ow_four, ow_five, List.getElem_toArray, List.getElem_cons_zero, List.getElem_cons_succ, List.size_toArray, List.length_cons, List.length_nil, Nat.reduceLeDiff, g40]
      repeat (refine ⟨by omega, ?_⟩)
      refine hK1 _ _ (i + 1) ⟨hlt', ?_, ?_, ?_, ?_, ?_, ?_, b3, c3, x.set i (S.R.getD i rd0).t, y.set i (S.R.getD i rd0).s, z.set i (S.R.getD i rd0).e, M3, hcom3, hx3, hy3, hz3, set_fill (f := fun k => (S.R.getD k rd0).t) hxf.1 hlt' hxf.2 rfl, set_fill (f := fun k => (S.R.getD k rd0).s) hyf.1 hlt' hyf.2 rfl, set_fill (f := fun k => (S.R.getD k rd0).e) hzf.1 hlt' hzf.2 rfl⟩ (by omega)
      · simp only [exL_plain, exL_guard, exL_nil, fx_move, fx_assign, fx_pick, fx_nilCheck, fx_load, fx_fieldAddr, fx_indexAddr, fx_binOp, fx_not, fx_convert, fx_slice, fx_extract, fx_lookup, fx_build, fx_len, fx_store, fx_alloc, fx_box, fx_makeMap, fx_makeSlice, fx_buildSlice, fx_mapUpdate, fx_append, fx_call, ev_tmp, ev_const, updo_some, updo_none, upd_apply, thenQ_normal, optK_some, optE_some, optE_none, ptrK_mk, intK_mk, boolK_mk, strK_mk, sliceK_mk, addrK_mk, tupK_mk, mapK_mk, sndK_mk, mkK_mk, cvK_int, ldN_zero, ldN_two, ldN_four, ldN_five, binK_add, binK_sub, binK_mul, binK_eql, binK_neq, binK_lss, binK_leq, binK_gtr, binK_geq, binK_seql, binK_sneq, binK_sadd, binK_beql, binK_bneq, binK_peql, binK_pneq, binK_leql, binK_lneq, lenK_slice, lenK_string, ex_slice, ex_pointer, inR_i64, inR_i32, gdK_bool, gdK_undef, Ty.all, Nat.reduceEqDiff, Nat.reduceAdd, Nat.reduceMul, if_false, if_true, ↓reduceIte, true_and, and_true, Int.toNat_natCast, Nat.add_zero, Nat.mul_one, Bool.false_eq_true, decide_eq_true_eq, decide_eq_false_iff_not, Option.isNone_some, Option.isNone_none, Option.isSome_some, Option.isSome_none, List.map_toArray, List.map_cons, List.map_nil, stK_eq, stR_int, stR_bool, stR_string, stR_pointer, stR_slice, exD_plain, exD_guard, exD_nil, stepD_true, stepD_false, needOp, pureOp, Bool.false_or, Bool.true_or, Bool.or_false, Bool.or_true, gval_succ, gval_zero, Bd.s22, Bd.s22b, Bd.s31, Bd.s30, Bd.s30b, Bd.s30e, Bd.s42, Bd.s66, Bd.s67, Bd.b49, Bd.b54, Bd.b79, Bd.b82, Bd.b77, Bd.b86, Bd.b74, decide_true, decide_false, reduceCtorEq, ne_eq, not_true_eq_false, not_false_eq_true, true_implies, false_implies, implies_true, cond_true, cond_false, Bool.not_true, Bool.not_false, stR_agg2, stR_agg4, stR_agg5, one_int, one_bool, one_string, one_pointer, one_slice, one_map, retK_mk, cells_agg, rowAt_alloc, setRow_alloc, ow_four, ow_five, List.getElem_toArray, List.getElem_cons_zero, List.getElem_cons_succ, List.size_toArray, List.length_cons, List.length_nil, Nat.reduceLeDiff, g9]
      · simp only [exL_plain, exL_guard, exL_nil, fx_move, fx_assign, fx_pick, fx_nilCheck, fx_load, fx_fieldAddr, fx_indexAddr, fx_binOp, fx_not, fx_convert, fx_slice, fx_extract, fx_lookup, fx_build, fx_len, fx_store, fx_alloc, fx_box, fx_makeMap, fx_makeSlice, fx_buildSlice, fx_mapUpdate, fx_append, fx_call, ev_tmp, ev_const, updo_some, updo_none, upd_apply, thenQ_normal, optK_some, optE_some, optE_none, ptrK_mk, intK_mk, boolK_mk, strK_mk, sliceK_mk, addrK_mk, tupK_mk, mapK_mk, sndK_mk, mkK_mk, cvK_int, ldN_zero, ldN_two, ldN_four, ldN_five, binK_add, binK_sub, binK_mul, binK_eql, binK_neq, binK_lss, binK_leq, binK_gtr, binK_geq, binK_seql, binK_sneq, binK_sadd, binK_beql, binK_bneq, binK_peql, binK_pneq, binK_leql, binK_lneq, lenK_slice, lenK_string, ex_slice, ex_pointer, inR_i64, inR_i32, gdK_bool, gdK_undef, Ty.all, Nat.reduceEqDiff, Nat.reduceAdd, Nat.reduceMul, if_false, if_true, ↓reduceIte, true_and, and_true, Int.toNat_natCast, Nat.add_zero, Nat.mul_one, Bool.false_eq_true, decide_eq_true_eq, decide_eq_false_iff_not, Option.isNone_some, Option.isNone_none, Option.isSome_some, Option.isSome_none, List.map_toArray, List.map_cons, List.map_nil, stK_eq, stR_int, stR_bool, stR_string, stR_pointer, stR_slice, exD_plain, exD_guard, exD_nil, stepD_true, stepD_false, needOp, pureOp, Bool.false_or, Bool.true_or, Bool.or_false, Bool.or_true, gval_succ, gval_zero, Bd.s22, Bd.s22b, Bd.s31, Bd.s30, Bd.s30b, Bd.s30e, Bd.s42, Bd.s66, Bd.s67, Bd.b49, Bd.b54, Bd.b79, Bd.b82, Bd.b77, Bd.b86, Bd.b74, decide_true, decide_false, reduceCtorEq, ne_eq, not_true_eq_false, not_false_eq_true, true_implies, false_implies, implies_true, cond_true, cond_false, Bool.not_true, Bool.not_false, stR_agg2, stR_agg4, stR_agg5, one_int, one_bool, one_string, one_pointer, one_slice, one_map, retK_mk, cells_agg, rowAt_alloc, setRow_alloc, ow_four, ow_five, List.getElem_toArray, List.getElem_cons_zero, List.getElem_cons_succ, List.size_toArray, List.length_cons, List.length_nil, Nat.reduceLeDiff, g6]
      · simp only [exL_plain, exL_guard, exL_nil, fx_move, fx_assign, fx_pick, fx_nilCheck, fx_load, fx_fieldAddr, fx_indexAddr, fx_binOp, fx_not, fx_convert, fx_slice, fx_extract, fx_lookup, fx_build, fx_len, fx_store, fx_alloc, fx_box, fx_makeMap, fx_makeSlice, fx_buildSlice, fx_mapUpdate, fx_append, fx_call, ev_tmp, ev_const, updo_some, updo_none, upd_apply, thenQ_normal, optK_some, optE_some, optE_none, ptrK_mk, intK_mk, boolK_mk, strK_mk, sliceK_mk, addrK_mk, tupK_mk, mapK_mk, sndK_mk, mkK_mk, cvK_int, ldN_zero, ldN_two, ldN_four, ldN_five, binK_add, binK_sub, binK_mul, binK_eql, binK_neq, binK_lss, binK_leq, binK_gtr, binK_geq, binK_seql, binK_sneq, binK_sadd, binK_beql, binK_bneq, binK_peql, binK_pneq, binK_leql, binK_lneq, lenK_slice, lenK_string, ex_slice, ex_pointer, inR_i64, inR_i32, gdK_bool, gdK_undef, Ty.all, Nat.reduceEqDiff, Nat.reduceAdd, Nat.reduceMul, if_false, if_true, ↓reduceIte, true_and, and_true, Int.toNat_natCast, Nat.add_zero, Nat.mul_one, Bool.false_eq_true, decide_eq_true_eq, decide_eq_false_iff_not, Option.isNone_some, Option.isNone_none, Option.isSome_some, Option.isSome_none, List.map_toArray, List.map_cons, List.map_nil, stK_eq, stR_int, stR_bool, stR_string, stR_pointer, stR_slice, exD_plain, exD_guard, exD_nil, stepD_true, stepD_false, needOp, pureOp, Bool.false_or, Bool.true_or, Bool.or_false, Bool.or_true, gval_succ, gval_zero, Bd.s22, Bd.s22b, Bd.s31, Bd.s30, Bd.s30b, Bd.s30e, Bd.s42, Bd.s66, Bd.s67, Bd.b49, Bd.b54, Bd.b79, Bd.b82, Bd.b77, Bd.b86, Bd.b74, decide_true, decide_false, reduceCtorEq, ne_eq, not_true_eq_false, not_false_eq_true, true_implies, false_implies, implies_true, cond_true, cond_false, Bool.not_true, Bool.not_false, stR_agg2, stR_agg4, stR_agg5, one_int, one_bool, one_string, one_pointer, one_slice, one_map, retK_mk, cells_agg, rowAt_alloc, setRow_alloc, ow_four, ow_five, List.getElem_toArray, List.getElem_cons_zero, List.getElem_cons_succ, List.size_toArray, List.length_cons, List.length_nil, Nat.reduceLeDiff, g7]
      · simp only [exL_plain, exL_guard, exL_nil, fx_move, fx_assign, fx_pick, fx_nilCheck, fx_load, fx_fieldAddr, fx_indexAddr, fx_binOp, fx_not, fx_convert, fx_slice, fx_extract, fx_lookup, fx_build, fx_len, fx_store, fx_alloc, fx_box, fx_makeMap, fx_makeSlice, fx_buildSlice, fx_mapUpdate, fx_append, fx_call, ev_tmp, ev_const, updo_some, updo_none, upd_apply, thenQ_normal, optK_some, optE_some, optE_none, ptrK_mk, intK_mk, boolK_mk, strK_mk, sliceK_mk, addrK_mk, tupK_mk, mapK_mk, sndK_mk, mkK_mk, cvK_int, ldN_zero, ldN_two, ldN_four, ldN_five, binK_add, binK_sub, binK_mul, binK_eql, binK_neq, binK_lss, binK_leq, binK_gtr, binK_geq, binK_seql, binK_sneq, binK_sadd, binK_beql, binK_bneq, binK_peql, binK_pneq, binK_leql, binK_lneq, lenK_slice, lenK_string, ex_slice, ex_pointer, inR_i64, inR_i32, gdK_bool, gdK_undef, Ty.all, Nat.reduceEqDiff, Nat.reduceAdd, Nat.reduceMul, if_false, if_true, ↓reduceIte, true_and, and_true, Int.toNat_natCast, Nat.add_zero, Nat.mul_one, Bool.false_eq_true, decide_eq_true_eq, decide_eq_false_iff_not, Option.isNone_some, Option.isNone_none, Option.isSome_some, Option.isSome_none, List.map_toArray, List.map_cons, List.map_nil, stK_eq, stR_int, stR_bool, stR_string, stR_pointer, stR_slice, exD_plain, exD_guard, exD_nil, stepD_true, stepD_false, needOp, pureOp, Bool.false_or, Bool.true_or, Bool.or_false, Bool.or_true, gval_succ, gval_zero, Bd.s22, Bd.s22b, Bd.s31, Bd.s30, Bd.s30b, Bd.s30e, Bd.s42, Bd.s66, Bd.s67, Bd.b49, Bd.b54, Bd.b79, Bd.b82, Bd.b77, Bd.b86, Bd.b74, decide_true, decide_false, reduceCtorEq, ne_eq, not_true_eq_false, not_false_eq_true, true_implies, false_implies, implies_true, cond_true, cond_false, Bool.not_true, Bool.not_false, stR_agg2, stR_agg4, stR_agg5, one_int, one_bool, one_string, one_pointer, one_slice, one_map, retK_mk, cells_agg, rowAt_alloc, setRow_alloc, ow_four, ow_five, List.getElem_toArray, List.getElem_cons_zero, List.getElem_cons_succ, List.size_toArray, List.length_cons, List.length_nil, Nat.reduceLeDiff, g8]
      · simp only [exL_plain, exL_guard, exL_nil, fx_move, fx_assign, fx_pick, fx_nilCheck, fx_load, fx_fieldAddr, fx_indexAddr, fx_binOp, fx_not, fx_convert, fx_slice, fx_extract, fx_lookup, fx_build, fx_len, fx_store, fx_alloc, fx_box, fx_makeMap, fx_makeSlice, fx_buildSlice, fx_mapUpdate, fx_append, fx_call, ev_tmp, ev_const, updo_some, updo_none, upd_apply, thenQ_normal, optK_some, optE_some, optE_none, ptrK_mk, intK_mk, boolK_mk, strK_mk, sliceK_mk, addrK_mk, tupK_mk, mapK_mk, sndK_mk, mkK_mk, cvK_int, ldN_zero, ldN_two, ldN_four, ldN_five, binK_add, binK_sub, binK_mul, binK_eql, binK_neq, binK_lss, binK_leq, binK_gtr, binK_geq, binK_seql, binK_sneq, binK_sadd, binK_beql, binK_bneq, binK_peql, binK_pneq, binK_leql, binK_lneq, lenK_slice, lenK_string, ex_slice, ex_pointer, inR_i64, inR_i32, gdK_bool, gdK_undef, Ty.all, Nat.reduceEqDiff, Nat.reduceAdd, Nat.reduceMul, if_false, if_true, ↓reduceIte, true_and, and_true, Int.toNat_natCast, Nat.add_zero, Nat.mul_one, Bool.false_eq_true, decide_eq_true_eq, decide_eq_false_iff_not, Option.isNone_some, Option.isNone_none, Option.isSome_some, Option.isSome_none, List.map_toArray, List.map_cons, List.map_nil, stK_eq, stR_int, stR_bool, stR_string, stR_pointer, stR_slice, exD_plain, exD_guard, exD_nil, stepD_true, stepD_false, needOp, pureOp, Bool.false_or, Bool.true_or, Bool.or_false, Bool.or_true, gval_succ, gval_zero, Bd.s22, Bd.s22b, Bd.s31, Bd.s30, Bd.s30b, Bd.s30e, Bd.s42, Bd.s66, Bd.s67, Bd.b49, Bd.b54, Bd.b79, Bd.b82, Bd.b77, Bd.b86, Bd.b74, decide_true, decide_false, reduceCtorEq, ne_eq, not_true_eq_false, not_false_eq_true, true_implies, false_implies, implies_true, cond_true, cond_false, Bool.not_true, Bool.not_false, stR_agg2, stR_agg4, stR_agg5, one_int, one_bool, one_string, one_pointer, one_slice, one_map, retK_mk, cells_agg, rowAt_alloc, setRow_alloc, ow_four, ow_five, List.getElem_toArray, List.getElem_cons_zero, List.getElem_cons_succ, List.size_toArray, List.length_cons, List.length_nil, Nat.reduceLeDiff, g39]
      · simp only [exL_plain, exL_guard, exL_nil, fx_move, fx_assign, fx_pick, fx_nilCheck, fx_load, fx_fieldAddr, fx_indexAddr, fx_binOp, fx_not, fx_convert, fx_slice, fx_extract, fx_lookup, fx_build, fx_len, fx_store, fx_alloc, fx_box, fx_makeMap, fx_makeSlice, fx_buildSlice, fx_mapUpdate, fx_append, fx_call, ev_tmp, ev_const, updo_some, updo_none, upd_apply, thenQ_normal, optK_some, optE_some, optE_none, ptrK_mk, intK_mk, boolK_mk, strK_mk, sliceK_mk, addrK_mk, tupK_mk, mapK_mk, sndK_mk, mkK_mk, cvK_int, ldN_zero, ldN_two, ldN_four, ldN_five, binK_add, binK_sub, binK_mul, binK_eql, binK_neq, binK_lss, binK_leq, binK_gtr, binK_geq, binK_seql, binK_sneq, binK_sadd, binK_beql, binK_bneq, binK_peql, binK_pneq, binK_leql, binK_lneq, lenK_slice, lenK_string, ex_slice, ex_pointer, inR_i64, inR_i32, gdK_bool, gdK_undef, Ty.all, Nat.reduceEqDiff, Nat.reduceAdd, Nat.reduceMul, if_false, if_true, ↓reduceIte, true_and, and_true, Int.toNat_natCast, Nat.add_zero, Nat.mul_one, Bool.false_eq_true, decide_eq_true_eq, decide_eq_false_iff_not, Option.isNone_some, Option.isNone_none, Option.isSome_some, Option.isSome_none, List.map_toArray, List.map_cons, List.map_nil, stK_eq, stR_int, stR_bool, stR_string, stR_pointer, stR_slice, exD_plain, exD_guard, exD_nil, stepD_true, stepD_false, needOp, pureOp, Bool.false_or, Bool.true_or, Bool.or_false, Bool.or_true, gval_succ, gval_zero, Bd.s22, Bd.s22b, Bd.s31, Bd.s30, Bd.s30b, Bd.s30e, Bd.s42, Bd.s66, Bd.s67, Bd.b49, Bd.b54, Bd.b79, Bd.b82, Bd.b77, Bd.b86, Bd.b74, decide_true, decide_false, reduceCtorEq, ne_eq, not_true_eq_false, not_false_eq_true, true_implies, false_implies, implies_true, cond_true, cond_false, Bool.not_true, Bool.not_false, stR_agg2, stR_agg4, stR_agg5, one_int, one_bool, one_string, one_pointer, one_slice, one_map, retK_mk, cells_agg, rowAt_alloc, setRow_alloc, ow_four, ow_five, List.getElem_toArray, List.getElem_cons_zero, List.getElem_cons_succ, List.size_toArray, List.length_cons, List.length_nil, Nat.reduceLeDiff]
        rfl
    · obtain rfl : i = S.R.length := by omega
      refine ⟨g9, g6, g7, g8, hb, c, hM, hcom, ?_, ?_, ?_⟩
      · rw [← filled (ys := S.R.map (·.t)) (d := 0) (n := S.R.length) hxf.1 (by simp) (fun k hk => by rw [hxf.2 k hk]; simp [List.getD_eq_getElem?_getD, hk])]; exact hx
      · rw [← filled (ys := S.R.map (·.s)) (d := 0) (n := S.R.length) hyf.1 (by simp) (fun k hk => by rw [hyf.2 k hk]; simp [List.getD_eq_getElem?_getD, hk])]; exact hy
      · rw [← filled (ys := S.R.map (·.e)) (d := 0) (n := S.R.length) hzf.1 (by simp) (fun k hk => by rw [hzf.2 k hk]; simp [List.getD_eq_getElem?_getD, hk])]; exact hz
  · clear g9 g6 g7 g8 g39 g40 M3 hcom3 x13 x23 x3 b3 c6
    rintro ρ wr ⟨g9, g6, g7, g8, hb, c, hM, hcom, hx, hy, hz⟩
    refine hK _ _ ?_
    clear hK K
    have c1 := (hM.st.cell hM.hc 1).trans hM.cc.2.2.1
    have c4 := (hM.st.cell hM.hc 4).trans hM.cc.2.2.2.2.2.1
    have c5 := (hM.st.cell hM.hc 5).trans hM.cc.2.2.2.2.2.2.1
    have c7 := (hM.st.cell hM.hc 7).trans hM.cc.2.2.2.2.2.2.2.2
    refine cwp_sd Ty.mixed (by kernel_rfl) (fun _ _ _ h => h) fun Kz hKz => ?_
    refine exD_cut 8 fun K hK => ?_
    simp only [List.take_succ_cons, List.take_zero, exL_plain, exL_guard, exL_nil, fx_move, fx_assign, fx_pick, fx_nilCheck, fx_load, fx_fieldAddr, fx_indexAddr, fx_binOp, fx_not, fx_convert, fx_slice, fx_extract, fx_lookup, fx_build, fx_len, fx_store, fx_alloc, fx_box, fx_makeMap, fx_makeSlice, fx_buildSlice, fx_mapUpdate, fx_append, fx_call, ev_tmp, ev_const, updo_some, updo_none, upd_apply, thenQ_normal, optK_some, optE_some, optE_none, ptrK_mk, intK_mk, boolK_mk, strK_mk, sliceK_mk, addrK_mk, tupK_mk, mapK_mk, sndK_mk, mkK_mk, cvK_int, ldN_zero, ldN_two, ldN_four, ldN_five, binK_add, binK_sub, binK_mul, binK_eql, binK_neq, binK_lss, binK_leq, binK_gtr, binK_geq, binK_seql, binK_sneq, binK_sadd, binK_beql, binK_bneq, binK_peql, binK_pneq, binK_leql, binK_lneq, lenK_slice, lenK_string, ex_slice, ex_pointer, inR_i64, inR_i32, gdK_bool, gdK_undef, Ty.all, Nat.reduceEqDiff, Nat.reduceAdd, Nat.reduceMul, if_false, if_true, ↓reduceIte, true_and, and_true, Int.toNat_natCast, Nat.add_zero, Nat.mul_one, Bool.false_eq_true, decide_eq_true_eq, decide_eq_false_iff_not, Option.isNone_some, Option.isNone_none, Option.isSome_some, Option.isSome_none, List.map_toArray, List.map_cons, List.map_nil, stK_eq, stR_int, stR_bool, stR_string, stR_pointer, stR_slice, exD_plain, exD_guard, exD_nil, stepD_true, stepD_false, needOp, pureOp, Bool.false_or, Bool.true_or, Bool.or_false, Bool.or_true, gval_succ, gval_zero, Bd.s22, Bd.s22b, Bd.s31, Bd.s30, Bd.s30b, Bd.s30e, Bd.s42, Bd.s66, Bd.s67, Bd.b49, Bd.b54, Bd.b79, Bd.b82, Bd.b77, Bd.b86, Bd.b74, decide_true, decide_false, reduceCtorEq, ne_eq, not_true_eq_false, not_false_eq_true, true_implies, false_implies, implies_true, cond_true, cond_false, Bool.not_true, Bool.not_false, stR_agg2, stR_agg4, stR_agg5, one_int, one_bool, one_string, one_pointer, one_slice, one_map, retK_mk, cells_agg, rowAt_alloc, setRow_alloc, ow_four, ow_five, List.getElem_toArray, List.getElem_cons_zero, List.getElem_cons_succ, List.size_toArray, List.length_cons, List.length_nil, Nat.reduceLeDiff, g9, c1, c4, Nat.zero_add]
    repeat (refine ⟨by omega, ?_⟩)
    refine hK _ _ ?_
    clear hK K
    simp only [List.drop_succ_cons, List.drop_zero]
    refine exD_forget [9, 6, 7, 8, 80, 84] fun ρ hL => ?_
    have g9X := hL 9 (by simp)
    have g6X := hL 6 (by simp)
    have g7X := hL 7 (by simp)
    have g8X := hL 8 (by simp)
    have g80X := hL 80 (by simp)
    have g84X := hL 84 (by simp)
    clear hL
    simp only [upd_apply, Nat.reduceEqDiff, if_false, if_true, ↓reduceIte, g9, g6, g7, g8] at g9X g6X g7X g8X g80X g84X
    have g9 := g9X
    clear g9X
    have g6 := g6X
    clear g6X
    have g7 := g7X
    clear g7X
    have g8 := g8X
    clear g8X
    have g80 := g80X
    clear g80X
    have g84 := g84X
    clear g84X
    refine exD_cut 8 fun K hK => ?_
    simp only [List.take_succ_cons, List.take_zero, exL_plain, exL_guard, exL_nil, fx_move, fx_assign, fx_pick, fx_nilCheck, fx_load, fx_fieldAddr, fx_indexAddr, fx_binOp, fx_not, fx_convert, fx_slice, fx_extract, fx_lookup, fx_build, fx_len, fx_store, fx_alloc, fx_box, fx_makeMap, fx_makeSlice, fx_buildSlice, fx_mapUpdate, fx_append, fx_call, ev_tmp, ev_const, updo_some, updo_none, upd_apply, thenQ_normal, optK_some, optE_some, optE_none, ptrK_mk, intK_mk, boolK_mk, strK_mk, sliceK_mk, addrK_mk, tupK_mk, mapK_mk, sndK_mk, mkK_mk, cvK_int, ldN_zero, ldN_two, ldN_four, ldN_five, binK_add, binK_sub, binK_mul, binK_eql, binK_neq, binK_lss, binK_leq, binK_gtr, binK_geq, binK_seql, binK_sneq, binK_sadd, binK_beql, binK_bneq, binK_peql, binK_pneq, binK_leql, binK_lneq, lenK_slice, lenK_string, ex_slice, ex_pointer, inR_i64, inR_i32, gdK_bool, gdK_undef, Ty.all, Nat.reduceEqDiff, Nat.reduceAdd, Nat.reduceMul, if_false, if_true, ↓reduceIte, true_and, and_true, Int.toNat_natCast, Nat.add_zero, Nat.mul_one, Bool.false_eq_true, decide_eq_true_eq, decide_eq_false_iff_not, Option.isNone_some, Option.isNone_none, Option.isSome_some, Option.isSome_none, List.map_toArray, List.map_cons, List.map_nil, stK_eq, stR_int, stR_bool, stR_string, stR_pointer, stR_slice, exD_plain, exD_guard, exD_nil, stepD_true, stepD_false, needOp, pureOp, Bool.false_or, Bool.true_or, Bool.or_false, Bool.or_true, gval_succ, gval_zero, Bd.s22, Bd.s22b, Bd.s31, Bd.s30, Bd.s30b, Bd.s30e, Bd.s42, Bd.s66, Bd.s67, Bd.b49, Bd.b54, Bd.b79, Bd.b82, Bd.b77, Bd.b86, Bd.b74, decide_true, decide_false, reduceCtorEq, ne_eq, not_true_eq_false, not_false_eq_true, true_implies, false_implies, implies_true, cond_true, cond_false, Bool.not_true, Bool.not_false, stR_agg2, stR_agg4, stR_agg5, one_int, one_bool, one_string, one_pointer, one_slice, one_map, retK_mk, cells_agg, rowAt_alloc, setRow_alloc, ow_four, ow_five, List.getElem_toArray, List.getElem_cons_zero, List.getElem_cons_succ, List.size_toArray, List.length_cons, List.length_nil, Nat.reduceLeDiff, g9, c5, c7, Nat.zero_add]
    repeat (refine ⟨by omega, ?_⟩)
    refine hK _ _ ?_
    clear hK K
    simp only [List.drop_succ_cons, List.drop_zero]
    refine exD_forget [9, 6, 7, 8, 80, 84, 88, 92] fun ρ hL => ?_
    have g9X := hL 9 (by simp)
    have g6X := hL 6 (by simp)
    have g7X := hL 7 (by simp)
    have g8X := hL 8 (by simp)
    have g80X := hL 80 (by simp)
    have g84X := hL 84 (by simp)
    have g88X := hL 88 (by simp)
    have g92X := hL 92 (by simp)
    clear hL
    simp only [upd_apply, Nat.reduceEqDiff, if_false, if_true, ↓reduceIte, g9, g6, g7, g8, g80, g84] at g9X g6X g7X g8X g80X g84X g88X g92X
    have g9 := g9X
    clear g9X
    have g6 := g6X
    clear g6X
    have g7 := g7X
    clear g7X
    have g8 := g8X
    clear g8X
    have g80 := g80X
    clear g80X
    have g84 := g84X
    clear g84X
    have g88 := g88X
    clear g88X
    have g92 := g92X
    clear g92X
    simp only [exL_plain, exL_guard, exL_nil, fx_move, fx_assign, fx_pick, fx_nilCheck, fx_load, fx_fieldAddr, fx_indexAddr, fx_binOp, fx_not, fx_convert, fx_slice, fx_extract, fx_lookup, fx_build, fx_len, fx_store, fx_alloc, fx_box, fx_makeMap, fx_makeSlice, fx_buildSlice, fx_mapUpdate, fx_append, fx_call, ev_tmp, ev_const, updo_some, updo_none, upd_apply, thenQ_normal, optK_some, optE_some, optE_none, ptrK_mk, intK_mk, boolK_mk, strK_mk, sliceK_mk, addrK_mk, tupK_mk, mapK_mk, sndK_mk, mkK_mk, cvK_int, ldN_zero, ldN_two, ldN_four, ldN_five, binK_add, binK_sub, binK_mul, binK_eql, binK_neq, binK_lss, binK_leq, binK_gtr, binK_geq, binK_seql, binK_sneq, binK_sadd, binK_beql, binK_bneq, binK_peql, binK_pneq, binK_leql, binK_lneq, lenK_slice, lenK_string, ex_slice, ex_pointer, inR_i64, inR_i32, gdK_bool, gdK_undef, Ty.all, Nat.reduceEqDiff, Nat.reduceAdd, Nat.reduceMul, if_false, if_true, ↓reduceIte, true_and, and_true, Int.toNat_natCast, Nat.add_zero, Nat.mul_one, Bool.false_eq_true, decide_eq_true_eq, decide_eq_false_iff_not, Option.isNone_some, Option.isNone_none, Option.isSome_some, Option.isSome_none, List.map_toArray, List.map_cons, List.map_nil, stK_eq, stR_int, stR_bool, stR_string, stR_pointer, stR_slice, exD_plain, exD_guard, exD_nil, stepD_true, stepD_false, needOp, pureOp, Bool.false_or, Bool.true_or, Bool.or_false, Bool.or_true, gval_succ, gval_zero, Bd.s22, Bd.s22b, Bd.s31, Bd.s30, Bd.s30b, Bd.s30e, Bd.s42, Bd.s66, Bd.s67, Bd.b49, Bd.b54, Bd.b79, Bd.b82, Bd.b77, Bd.b86, Bd.b74, decide_true, decide_false, reduceCtorEq, ne_eq, not_true_eq_false, not_false_eq_true, true_implies, false_implies, implies_true, cond_true, cond_false, Bool.not_true, Bool.not_false, stR_agg2, stR_agg4, stR_agg5, one_int, one_bool, one_string, one_pointer, one_slice, one_map, retK_mk, cells_agg, rowAt_alloc, setRow_alloc, ow_four, ow_five, List.getElem_toArray, List.getElem_cons_zero, List.getElem_cons_succ, List.size_toArray, List.length_cons, List.length_nil, Nat.reduceLeDiff, g6, g7, g8, g80, g84, g88, g92]
    refine hKz _ _ ?_
    refine cwp_ret ?_
    refine endQ_seven (va := cv) (vb := wv) (vc := iv) (vd := lv) (ve := .slice (some ⟨L3 13, 0, none⟩) S.R.length S.R.length) (vf := .slice (some ⟨L3 14, 0, none⟩) S.R.length S.R.length) (vg := .slice (some ⟨L3 15, 0, none⟩) S.R.length S.R.length) rfl ?_ ?_ ?_ ?_ ?_ ?_ ?_ ?_
    · simp only [exL_plain, exL_guard, exL_nil, fx_move, fx_assign, fx_pick, fx_nilCheck, fx_load, fx_fieldAddr, fx_indexAddr, fx_binOp, fx_not, fx_convert, fx_slice, fx_extract, fx_lookup, fx_build, fx_len, fx_store, fx_alloc, fx_box, fx_makeMap, fx_makeSlice, fx_buildSlice, fx_mapUpdate, fx_append, fx_call, ev_tmp, ev_const, updo_some, updo_none, upd_apply, thenQ_normal, optK_some, optE_some, optE_none, ptrK_mk, intK_mk, boolK_mk, strK_mk, sliceK_mk, addrK_mk, tupK_mk, mapK_mk, sndK_mk, mkK_mk, cvK_int, ldN_zero, ldN_two, ldN_four, ldN_five, binK_add, binK_sub, binK_mul, binK_eql, binK_neq, binK_lss, binK_leq, binK_gtr, binK_geq, binK_seql, binK_sneq, binK_sadd, binK_beql, binK_bneq, binK_peql, binK_pneq, binK_leql, binK_lneq, lenK_slice, lenK_string, ex_slice, ex_pointer, inR_i64, inR_i32, gdK_bool, gdK_undef, Ty.all, Nat.reduceEqDiff, Nat.reduceAdd, Nat.reduceMul, if_false, if_true, ↓reduceIte, true_and, and_true, Int.toNat_natCast, Nat.add_zero, Nat.mul_one, Bool.false_eq_true, decide_eq_true_eq, decide_eq_false_iff_not, Option.isNone_some, Option.isNone_none, Option.isSome_some, Option.isSome_none, List.map_toArray, List.map_cons, List.map_nil, stK_eq, stR_int, stR_bool, stR_string, stR_pointer, stR_slice, exD_plain, exD_guard, exD_nil, stepD_true, stepD_false, needOp, pureOp, Bool.false_or, Bool.true_or, Bool.or_false, Bool.or_true, gval_succ, gval_zero, Bd.s22, Bd.s22b, Bd.s31, Bd.s30, Bd.s30b, Bd.s30e, Bd.s42, Bd.s66, Bd.s67, Bd.b49, Bd.b54, Bd.b79, Bd.b82, Bd.b77, Bd.b86, Bd.b74, decide_true, decide_false, reduceCtorEq, ne_eq, not_true_eq_false, not_false_eq_true, true_implies, false_implies, implies_true, cond_true, cond_false, Bool.not_true, Bool.not_false, stR_agg2, stR_agg4, stR_agg5, one_int, one_bool, one_string, one_pointer, one_slice, one_map, retK_mk, cells_agg, rowAt_alloc, setRow_alloc, ow_four, ow_five, List.getElem_toArray, List.getElem_cons_zero, List.getElem_cons_succ, List.size_toArray, List.length_cons, List.length_nil, Nat.reduceLeDiff, g80]
    · simp only [exL_plain, exL_guard, exL_nil, fx_move, fx_assign, fx_pick, fx_nilCheck, fx_load, fx_fieldAddr, fx_indexAddr, fx_binOp, fx_not, fx_convert, fx_slice, fx_extract, fx_lookup, fx_build, fx_len, fx_store, fx_alloc, fx_box, fx_makeMap, fx_makeSlice, fx_buildSlice, fx_mapUpdate, fx_append, fx_call, ev_tmp, ev_const, updo_some, updo_none, upd_apply, thenQ_normal, optK_some, optE_some, optE_none, ptrK_mk, intK_mk, boolK_mk, strK_mk, sliceK_mk, addrK_mk, tupK_mk, mapK_mk, sndK_mk, mkK_mk, cvK_int, ldN_zero, ldN_two, ldN_four, ldN_five, binK_add, binK_sub, binK_mul, binK_eql, binK_neq, binK_lss, binK_leq, binK_gtr, binK_geq, binK_seql, binK_sneq, binK_sadd, binK_beql, binK_bneq, binK_peql, binK_pneq, binK_leql, binK_lneq, lenK_slice, lenK_string, ex_slice, ex_pointer, inR_i64, inR_i32, gdK_bool, gdK_undef, Ty.all, Nat.reduceEqDiff, Nat.reduceAdd, Nat.reduceMul, if_false, if_true, ↓reduceIte, true_and, and_true, Int.toNat_natCast, Nat.add_zero, Nat.mul_one, Bool.false_eq_true, decide_eq_true_eq, decide_eq_false_iff_not, Option.isNone_some, Option.isNone_none, Option.isSome_some, Option.isSome_none, List.map_toArray, List.map_cons, List.map_nil, stK_eq, stR_int, stR_bool, stR_string, stR_pointer, stR_slice, exD_plain, exD_guard, exD_nil, stepD_true, stepD_false, needOp, pureOp, Bool.false_or, Bool.true_or, Bool.or_false, Bool.or_true, gval_succ, gval_zero, Bd.s22, Bd.s22b, Bd.s31, Bd.s30, Bd.s30b, Bd.s30e, Bd.s42, Bd.s66, Bd.s67, Bd.b49, Bd.b54, Bd.b79, Bd.b82, Bd.b77, Bd.b86, Bd.b74, decide_true, decide_false, reduceCtorEq, ne_eq, not_true_eq_false, not_false_eq_true, true_implies, false_implies, implies_true, cond_true, cond_false, Bool.not_true, Bool.not_false, stR_agg2, stR_agg4, stR_agg5, one_int, one_bool, one_string, one_pointer, one_slice, one_map, retK_mk, cells_agg, rowAt_alloc, setRow_alloc, ow_four, ow_five, List.getElem_toArray, List.getElem_cons_zero, List.getElem_cons_succ, List.size_toArray, List.length_cons, List.length_nil, Nat.reduceLeDiff, g84]
    · simp only [exL_plain, exL_guard, exL_nil, fx_move, fx_assign, fx_pick, fx_nilCheck, fx_load, fx_fieldAddr, fx_indexAddr, fx_binOp, fx_not, fx_convert, fx_slice, fx_extract, fx_lookup, fx_build, fx_len, fx_store, fx_alloc, fx_box, fx_makeMap, fx_makeSlice, fx_buildSlice, fx_mapUpdate, fx_append, fx_call, ev_tmp, ev_const, updo_some, updo_none, upd_apply, thenQ_normal, optK_some, optE_some, optE_none, ptrK_mk, intK_mk, boolK_mk, strK_mk, sliceK_mk, addrK_mk, tupK_mk, mapK_mk, sndK_mk, mkK_mk, cvK_int, ldN_zero, ldN_two, ldN_four, ldN_five, binK_add, binK_sub, binK_mul, binK_eql, binK_neq, binK_lss, binK_leq, binK_gtr, binK_geq, binK_seql, binK_sneq, binK_sadd, binK_beql, binK_bneq, binK_peql, binK_pneq, binK_leql, binK_lneq, lenK_slice, lenK_string, ex_slice, ex_pointer, inR_i64, inR_i32, gdK_bool, gdK_undef, Ty.all, Nat.reduceEqDiff, Nat.reduceAdd, Nat.reduceMul, if_false, if_true, ↓reduceIte, true_and, and_true, Int.toNat_natCast, Nat.add_zero, Nat.mul_one, Bool.false_eq_true, decide_eq_true_eq, decide_eq_false_iff_not, Option.isNone_some, Option.isNone_none, Option.isSome_some, Option.isSome_none, List.map_toArray, List.map_cons, List.map_nil, stK_eq, stR_int, stR_bool, stR_string, stR_pointer, stR_slice, exD_plain, exD_guard, exD_nil, stepD_true, stepD_false, needOp, pureOp, Bool.false_or, Bool.true_or, Bool.or_false, Bool.or_true, gval_succ, gval_zero, Bd.s22, Bd.s22b, Bd.s31, Bd.s30, Bd.s30b, Bd.s30e, Bd.s42, Bd.s66, Bd.s67, Bd.b49, Bd.b54, Bd.b79, Bd.b82, Bd.b77, Bd.b86, Bd.b74, decide_true, decide_false, reduceCtorEq, ne_eq, not_true_eq_false, not_false_eq_true, true_implies, false_implies, implies_true, cond_true, cond_false, Bool.not_true, Bool.not_false, stR_agg2, stR_agg4, stR_agg5, one_int, one_bool, one_string, one_pointer, one_slice, one_map, retK_mk, cells_agg, rowAt_alloc, setRow_alloc, ow_four, ow_five, List.getElem_toArray, List.getElem_cons_zero, List.getElem_cons_succ, List.size_toArray, List.length_cons, List.length_nil, Nat.reduceLeDiff, g88]
    · simp only [exL_plain, exL_guard, exL_nil, fx_move, fx_assign, fx_pick, fx_nilCheck, fx_load, fx_fieldAddr, fx_indexAddr, fx_binOp, fx_not, fx_convert, fx_slice, fx_extract, fx_lookup, fx_build, fx_len, fx_store, fx_alloc, fx_box, fx_makeMap, fx_makeSlice, fx_buildSlice, fx_mapUpdate, fx_append, fx_call, ev_tmp, ev_const, updo_some, updo_none, upd_apply, thenQ_normal, optK_some, optE_some, optE_none, ptrK_mk, intK_mk, boolK_mk, strK_mk, sliceK_mk, addrK_mk, tupK_mk, mapK_mk, sndK_mk, mkK_mk, cvK_int, ldN_zero, ldN_two, ldN_four, ldN_five, binK_add, binK_sub, binK_mul, binK_eql, binK_neq, binK_lss, binK_leq, binK_gtr, binK_geq, binK_seql, binK_sneq, binK_sadd, binK_beql, binK_bneq, binK_peql, binK_pneq, binK_leql, binK_lneq, lenK_slice, lenK_string, ex_slice, ex_pointer, inR_i64, inR_i32, gdK_bool, gdK_undef, Ty.all, Nat.reduceEqDiff, Nat.reduceAdd, Nat.reduceMul, if_false, if_true, ↓reduceIte, true_and, and_true, Int.toNat_natCast, Nat.add_zero, Nat.mul_one, Bool.false_eq_true, decide_eq_true_eq, decide_eq_false_iff_not, Option.isNone_some, Option.isNone_none, Option.isSome_some, Option.isSome_none, List.map_toArray, List.map_cons, List.map_nil, stK_eq, stR_int, stR_bool, stR_string, stR_pointer, stR_slice, exD_plain, exD_guard, exD_nil, stepD_true, stepD_false, needOp, pureOp, Bool.false_or, Bool.true_or, Bool.or_false, Bool.or_true, gval_succ, gval_zero, Bd.s22, Bd.s22b, Bd.s31, Bd.s30, Bd.s30b, Bd.s30e, Bd.s42, Bd.s66, Bd.s67, Bd.b49, Bd.b54, Bd.b79, Bd.b82, Bd.b77, Bd.b86, Bd.b74, decide_true, decide_false, reduceCtorEq, ne_eq, not_true_eq_false, not_false_eq_true, true_implies, false_implies, implies_true, cond_true, cond_false, Bool.not_true, Bool.not_false, stR_agg2, stR_agg4, stR_agg5, one_int, one_bool, one_string, one_pointer, one_slice, one_map, retK_mk, cells_agg, rowAt_alloc, setRow_alloc, ow_four, ow_five, List.getElem_toArray, List.getElem_cons_zero, List.getElem_cons_succ, List.size_toArray, List.length_cons, List.length_nil, Nat.reduceLeDiff, g92]
    · simp only [exL_plain, exL_guard, exL_nil, fx_move, fx_assign, fx_pick, fx_nilCheck, fx_load, fx_fieldAddr, fx_indexAddr, fx_binOp, fx_not, fx_convert, fx_slice, fx_extract, fx_lookup, fx_build, fx_len, fx_store, fx_alloc, fx_box, fx_makeMap, fx_makeSlice, fx_buildSlice, fx_mapUpdate, fx_append, fx_call, ev_tmp, ev_const, updo_some, updo_none, upd_apply, thenQ_normal, optK_some, optE_some, optE_none, ptrK_mk, intK_mk, boolK_mk, strK_mk, sliceK_mk, addrK_mk, tupK_mk, mapK_mk, sndK_mk, mkK_mk, cvK_int, ldN_zero, ldN_two, ldN_four, ldN_five, binK_add, binK_sub, binK_mul, binK_eql, binK_neq, binK_lss, binK_leq, binK_gtr, binK_geq, binK_seql, binK_sneq, binK_sadd, binK_beql, binK_bneq, binK_peql, binK_pneq, binK_leql, binK_lneq, lenK_slice, lenK_string, ex_slice, ex_pointer, inR_i64, inR_i32, gdK_bool, gdK_undef, Ty.all, Nat.reduceEqDiff, Nat.reduceAdd, Nat.reduceMul, if_false, if_true, ↓reduceIte, true_and, and_true, Int.toNat_natCast, Nat.add_zero, Nat.mul_one, Bool.false_eq_true, decide_eq_true_eq, decide_eq_false_iff_not, Option.isNone_some, Option.isNone_none, Option.isSome_some, Option.isSome_none, List.map_toArray, List.map_cons, List.map_nil, stK_eq, stR_int, stR_bool, stR_string, stR_pointer, stR_slice, exD_plain, exD_guard, exD_nil, stepD_true, stepD_false, needOp, pureOp, Bool.false_or, Bool.true_or, Bool.or_false, Bool.or_true, gval_succ, gval_zero, Bd.s22, Bd.s22b, Bd.s31, Bd.s30, Bd.s30b, Bd.s30e, Bd.s42, Bd.s66, Bd.s67, Bd.b49, Bd.b54, Bd.b79, Bd.b82, Bd.b77, Bd.b86, Bd.b74, decide_true, decide_false, reduceCtorEq, ne_eq, not_true_eq_false, not_false_eq_true, true_implies, false_implies, implies_true, cond_true, cond_false, Bool.not_true, Bool.not_false, stR_agg2, stR_agg4, stR_agg5, one_int, one_bool, one_string, one_pointer, one_slice, one_map, retK_mk, cells_agg, rowAt_alloc, setRow_alloc, ow_four, ow_five, List.getElem_toArray, List.getElem_cons_zero, List.getElem_cons_succ, List.size_toArray, List.length_cons, List.length_nil, Nat.reduceLeDiff, g6]
    · simp only [exL_plain, exL_guard, exL_nil, fx_move, fx_assign, fx_pick, fx_nilCheck, fx_load, fx_fieldAddr, fx_indexAddr, fx_binOp, fx_not, fx_convert, fx_slice, fx_extract, fx_lookup, fx_build, fx_len, fx_store, fx_alloc, fx_box, fx_makeMap, fx_makeSlice, fx_buildSlice, fx_mapUpdate, fx_append, fx_call, ev_tmp, ev_const, updo_some, updo_none, upd_apply, thenQ_normal, optK_some, optE_some, optE_none, ptrK_mk, intK_mk, boolK_mk, strK_mk, sliceK_mk, addrK_mk, tupK_mk, mapK_mk, sndK_mk, mkK_mk, cvK_int, ldN_zero, ldN_two, ldN_four, ldN_five, binK_add, binK_sub, binK_mul, binK_eql, binK_neq, binK_lss, binK_leq, binK_gtr, binK_geq, binK_seql, binK_sneq, binK_sadd, binK_beql, binK_bneq, binK_peql, binK_pneq, binK_leql, binK_lneq, lenK_slice, lenK_string, ex_slice, ex_pointer, inR_i64, inR_i32, gdK_bool, gdK_undef, Ty.all, Nat.reduceEqDiff, Nat.reduceAdd, Nat.reduceMul, if_false, if_true, ↓reduceIte, true_and, and_true, Int.toNat_natCast, Nat.add_zero, Nat.mul_one, Bool.false_eq_true, decide_eq_true_eq, decide_eq_false_iff_not, Option.isNone_some, Option.isNone_none, Option.isSome_some, Option.isSome_none, List.map_toArray, List.map_cons, List.map_nil, stK_eq, stR_int, stR_bool, stR_string, stR_pointer, stR_slice, exD_plain, exD_guard, exD_nil, stepD_true, stepD_false, needOp, pureOp, Bool.false_or, Bool.true_or, Bool.or_false, Bool.or_true, gval_succ, gval_zero, Bd.s22, Bd.s22b, Bd.s31, Bd.s30, Bd.s30b, Bd.s30e, Bd.s42, Bd.s66, Bd.s67, Bd.b49, Bd.b54, Bd.b79, Bd.b82, Bd.b77, Bd.b86, Bd.b74, decide_true, decide_false, reduceCtorEq, ne_eq, not_true_eq_false, not_false_eq_true, true_implies, false_implies, implies_true, cond_true, cond_false, Bool.not_true, Bool.not_false, stR_agg2, stR_agg4, stR_agg5, one_int, one_bool, one_string, one_pointer, one_slice, one_map, retK_mk, cells_agg, rowAt_alloc, setRow_alloc, ow_four, ow_five, List.getElem_toArray, List.getElem_cons_zero, List.getElem_cons_succ, List.size_toArray, List.length_cons, List.length_nil, Nat.reduceLeDiff, g7]
    · simp only [exL_plain, exL_guard, exL_nil, fx_move, fx_assign, fx_pick, fx_nilCheck, fx_load, fx_fieldAddr, fx_indexAddr, fx_binOp, fx_not, fx_convert, fx_slice, fx_extract, fx_lookup, fx_build, fx_len, fx_store, fx_alloc, fx_box, fx_makeMap, fx_makeSlice, fx_buildSlice, fx_mapUpdate, fx_append, fx_call, ev_tmp, ev_const, updo_some, updo_none, upd_apply, thenQ_normal, optK_some, optE_some, optE_none, ptrK_mk, intK_mk, boolK_mk, strK_mk, sliceK_mk, addrK_mk, tupK_mk, mapK_mk, sndK_mk, mkK_mk, cvK_int, ldN_zero, ldN_two, ldN_four, ldN_five, binK_add, binK_sub, binK_mul, binK_eql, binK_neq, binK_lss, binK_leq, binK_gtr, binK_geq, binK_seql, binK_sneq, binK_sadd, binK_beql, binK_bneq, binK_peql, binK_pneq, binK_leql, binK_lneq, lenK_slice, lenK_string, ex_slice, ex_pointer, inR_i64, inR_i32, gdK_bool, gdK_undef, Ty.all, Nat.reduceEqDiff, Nat.reduceAdd, Nat.reduceMul, if_false, if_true, ↓reduceIte, true_and, and_true, Int.toNat_natCast, Nat.add_zero, Nat.mul_one, Bool.false_eq_true, decide_eq_true_eq, decide_eq_false_iff_not, Option.isNone_some, Option.isNone_none, Option.isSome_some, Option.isSome_none, List.map_toArray, List.map_cons, List.map_nil, stK_eq, stR_int, stR_bool, stR_string, stR_pointer, stR_slice, exD_plain, exD_guard, exD_nil, stepD_true, stepD_false, needOp, pureOp, Bool.false_or, Bool.true_or, Bool.or_false, Bool.or_true, gval_succ, gval_zero, Bd.s22, Bd.s22b, Bd.s31, Bd.s30, Bd.s30b, Bd.s30e, Bd.s42, Bd.s66, Bd.s67, Bd.b49, Bd.b54, Bd.b79, Bd.b82, Bd.b77, Bd.b86, Bd.b74, decide_true, decide_false, reduceCtorEq, ne_eq, not_true_eq_false, not_false_eq_true, true_implies, false_implies, implies_true, cond_true, cond_false, Bool.not_true, Bool.not_false, stR_agg2, stR_agg4, stR_agg5, one_int, one_bool, one_string, one_pointer, one_slice, one_map, retK_mk, cells_agg, rowAt_alloc, setRow_alloc, ow_four, ow_five, List.getElem_toArray, List.getElem_cons_zero, List.getElem_cons_succ, List.size_toArray, List.length_cons, List.length_nil, Nat.reduceLeDiff, g8]
    · have hSd := hM.st.drew
      exact ⟨_, _, _, _, _, _, _, rfl, hb.drew, hcom.vals hSd, hM.wr.vals hSd, hM.im.vals hSd, hM.li.vals hSd, hx.vals hSd, hy.vals hSd, hz.vals hSd⟩
end Go.Proofs.Qxb6001346a
