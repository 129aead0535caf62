/-
  judgeReads, as a whole.
-/
import Derived.Test.Qxb6001346aJe
namespace Go.Proofs.Qxb6001346a
open Fw Go.RowKit
set_option linter.unusedSimpArgs false
set_option linter.unusedVariables false

structure JH (m : Nat) (X : JSt) (i : Nat) : Prop where
  g : Good m X.1
  lg : ∀ k ∈ X.1.K, -1 ≤ k.lg ∧ k.lg < X.1.R.length
  fg : FG X.2.1 fun _ => i
  st : X.2.2.length = X.1.W.length

theorem FG_stepF {com : List Bool} {S : CSt} {r : Rd} {y : NSt} {F : Nat → Int × List Int} {n : Nat} (h : FG F fun _ => n) : FG (stepF com S r y F) fun _ => n + 1 := by
  unfold stepF
  simp only
  have h1 : FG (if y.2.1 = true then updF F 4 (noteF (F 4) [r.t]) else F) (fun a => if a = 4 then n + 1 else n) := by
    split
    · exact (h.note 4 (l := [r.t]) (by simp)).mono fun a => by by_cases ha : a = 4 <;> simp [ha]
    · exact h.mono fun a => by by_cases ha : a = 4 <;> simp [ha]
  generalize (if y.2.1 = true then updF F 4 (noteF (F 4) [r.t]) else F) = F1 at *
  have h2 : FG (if y.2.2.1 = true then updF F1 5 (noteF (F1 5) [r.t]) else F1) (fun a => if a = 4 ∨ a = 5 then n + 1 else n) := by
    split
    · refine (h1.note 5 (l := [r.t]) (by simp)).mono fun a => ?_
      by_cases ha : a = 5
      · subst ha; simp
      · by_cases hb : a = 4 <;> simp [ha, hb]
    · refine h1.mono fun a => ?_
      by_cases hb : a = 4 <;> simp [hb]
      split <;> omega
  generalize (if y.2.2.1 = true then updF F1 5 (noteF (F1 5) [r.t]) else F1) = F2 at *
  have h3 : FG (if 0 ≤ y.2.2.2 then updF F2 1 (noteF (F2 1) [r.t, y.2.2.2]) else F2) (fun a => if a = 4 ∨ a = 5 ∨ a = 1 then n + 1 else n) := by
    split
    · refine (h2.note 1 (l := [r.t, y.2.2.2]) (by simp)).mono fun a => ?_
      by_cases ha : a = 1
      · subst ha; simp
      · by_cases hb : a = 4 ∨ a = 5 <;> simp [ha, hb]
        all_goals first | omega | (rw [if_pos (by omega)]) | skip
    · refine h2.mono fun a => ?_
      by_cases hb : a = 4 ∨ a = 5
      · rw [if_pos hb, if_pos (by omega)]; exact Nat.le_refl _
      · rw [if_neg hb]; split <;> omega
  generalize (if 0 ≤ y.2.2.2 then updF F2 1 (noteF (F2 1) [r.t, y.2.2.2]) else F2) = F3 at *
  split
  · refine (h3.note 2 (l := [r.t, lastW S r]) (by simp)).mono fun a => ?_
    by_cases ha : a = 2
    · subst ha; simp
    · simp only [if_neg ha]
      split <;> omega
  · refine h3.mono fun a => ?_
    split <;> omega

theorem good_turn {m : Nat} {S : CSt} (h : Good m S) {i j i' : Nat} {b : Bool} (p : Bool) (hi : i < S.R.length) (hj : j < S.K.length) : Good m ⟨if p = true then setLg S.K j i' else S.K, S.W, S.I, S.L, setCl S.R i b⟩ where
  il := h.il
  lt := fun k hk h0 => by
    dsimp only at hk ⊢
    split at hk
    · obtain ⟨k0, h1, _, h3, h4, _⟩ := mem_setLg hk hj
      rw [h3]; exact h.lt k0 h1 (by rw [← h4]; exact h0)
    · exact h.lt k hk h0
  va := fun k hk q hq => by
    dsimp only at hk ⊢
    split at hk
    · obtain ⟨k0, h1, h2, _⟩ := mem_setLg hk hj
      exact h.va k0 h1 q (by rw [← h2]; exact hq)
    · exact h.va k hk q hq
  wm := h.wm
  rk := fun r hr => by
    obtain ⟨r0, h0, _, h2, _⟩ := mem_setCl hr hi
    have := h.rk r0 h0
    dsimp only
    rw [h2]
    split
    · rw [setLg_len]; exact this
    · exact this
  rt := fun r hr => by
    obtain ⟨r0, h0, h1, _⟩ := mem_setCl hr hi
    rw [h1]; exact h.rt r0 h0
  rs := fun r hr => by
    obtain ⟨r0, h0, _, _, h3, h4⟩ := mem_setCl hr hi
    rw [h3, h4]; exact h.rs r0 h0
  ll := h.ll

theorem stepJ_run {com : List Bool} {X : JSt} {i : Nat} (h : com.getD (X.1.R.getD i rd0).t.toNat false = true) : stepJ com X i =
    (⟨if (!((rdL X.1 (X.1.R.getD i rd0)).foldl (stepN i X.1.W com) (X.2.2, false, false, -1)).2.1 && !((rdL X.1 (X.1.R.getD i rd0)).foldl (stepN i X.1.W com) (X.2.2, false, false, -1)).2.2.1) = true ∧
        better X.1.K (setCl X.1.R i (!((rdL X.1 (X.1.R.getD i rd0)).foldl (stepN i X.1.W com) (X.2.2, false, false, -1)).2.1 && !((rdL X.1 (X.1.R.getD i rd0)).foldl (stepN i X.1.W com) (X.2.2, false, false, -1)).2.2.1)) (X.1.R.getD i rd0) = true then setLg X.1.K (X.1.R.getD i rd0).kj i else X.1.K,
      X.1.W, X.1.I, X.1.L, setCl X.1.R i (!((rdL X.1 (X.1.R.getD i rd0)).foldl (stepN i X.1.W com) (X.2.2, false, false, -1)).2.1 && !((rdL X.1 (X.1.R.getD i rd0)).foldl (stepN i X.1.W com) (X.2.2, false, false, -1)).2.2.1)⟩,
     stepF com X.1 (X.1.R.getD i rd0) ((rdL X.1 (X.1.R.getD i rd0)).foldl (stepN i X.1.W com) (X.2.2, false, false, -1)) X.2.1, ((rdL X.1 (X.1.R.getD i rd0)).foldl (stepN i X.1.W com) (X.2.2, false, false, -1)).1) := by
  simp only [stepJ, h, Bool.true_eq_false, if_false]
theorem stepJ_skip {com : List Bool} {X : JSt} {i : Nat} (h : com.getD (X.1.R.getD i rd0).t.toNat false = false) : stepJ com X i = X := by
  simp only [stepJ, h, if_true]

theorem stepJ_same (com : List Bool) (X : JSt) (i : Nat) : (stepJ com X i).1.W = X.1.W ∧ (stepJ com X i).1.I = X.1.I ∧ (stepJ com X i).1.L = X.1.L ∧ (stepJ com X i).1.R.length = X.1.R.length ∧ (stepJ com X i).1.K.length = X.1.K.length := by
  cases h : com.getD (X.1.R.getD i rd0).t.toNat false with
  | false => rw [stepJ_skip h]; exact ⟨rfl, rfl, rfl, rfl, rfl⟩
  | true =>
    rw [stepJ_run h]
    refine ⟨rfl, rfl, rfl, setCl_len _ _ _, ?_⟩
    dsimp only
    split
    · exact setLg_len _ _ _
    · rfl
theorem JH.step {m : Nat} {X : JSt} {i : Nat} {com : List Bool} (h : JH m X i) (hi : i < X.1.R.length) : JH m (stepJ com X i) (i + 1) := by
  cases hc : com.getD (X.1.R.getD i rd0).t.toNat false with
  | false =>
    rw [stepJ_skip hc]
    exact ⟨h.g, h.lg, h.fg.mono fun _ => Nat.le_succ _, h.st⟩
  | true =>
    rw [stepJ_run hc]
    have hkj := h.g.rk _ (getD_mem (d := rd0) hi)
    have hyl := stepN_len i X.1.W com (rdL X.1 (X.1.R.getD i rd0)) (X.2.2, false, false, -1)
    generalize (rdL X.1 (X.1.R.getD i rd0)).foldl (stepN i X.1.W com) (X.2.2, false, false, -1) = y at *
    generalize (!y.2.1 && !y.2.2.1) = b at *
    refine ⟨?_, ?_, FG_stepF h.fg, hyl.trans h.st⟩
    · by_cases hp : b = true ∧ better X.1.K (setCl X.1.R i b) (X.1.R.getD i rd0) = true
      · rw [if_pos hp]
        have := good_turn h.g (i' := i) (b := b) true hi hkj
        rwa [if_pos rfl] at this
      · rw [if_neg hp]
        have := good_turn h.g (i' := i) (b := b) false hi hkj
        rwa [if_neg (by simp)] at this
    · intro k hk
      dsimp only at hk ⊢
      rw [setCl_len]
      split at hk
      · obtain ⟨k0, h1, _, _, _, h5⟩ := mem_setLg hk hkj
        rcases h5 with h5 | h5
        · rw [h5]; exact h.lg k0 h1
        · rw [h5]; omega
      · exact h.lg k hk

theorem stepN_ab {i m : Nat} {W : List Int} {com : List Bool} (hW : ∀ x ∈ W, -1 ≤ x ∧ x < (m : Int)) : ∀ (l : List Int) (x : NSt), (∀ n ∈ l, 0 ≤ n ∧ n < W.length) → -1 ≤ x.2.2.2 ∧ x.2.2.2 < m → -1 ≤ (l.foldl (stepN i W com) x).2.2.2 ∧ (l.foldl (stepN i W com) x).2.2.2 < m
  | [], x, _, h => h
  | n :: l, x, hl, h => by
    refine stepN_ab hW l _ (fun n hn => hl n (List.mem_cons_of_mem _ hn)) ?_
    have hn := hl n (List.mem_cons_self ..)
    have := hW _ (getD_mem (d := 0) (show n.toNat < W.length by omega))
    simp only [stepN]
    split
    · exact this
    · exact h

theorem JH.all {m : Nat} {com : List Bool} {X0 : JSt} (h : JH m X0 0) : ∀ i, i ≤ X0.1.R.length → JH m ((List.range i).foldl (stepJ com) X0) i ∧ ((List.range i).foldl (stepJ com) X0).1.W = X0.1.W ∧ ((List.range i).foldl (stepJ com) X0).1.L = X0.1.L ∧ ((List.range i).foldl (stepJ com) X0).1.I = X0.1.I ∧
      ((List.range i).foldl (stepJ com) X0).1.R.length = X0.1.R.length ∧ ((List.range i).foldl (stepJ com) X0).1.K.length = X0.1.K.length := by
  intro i
  induction i with
  | zero => intro _; exact ⟨h, rfl, rfl, rfl, rfl, rfl⟩
  | succ i ih =>
    intro hi
    obtain ⟨h1, h2, h3, h4, h5, h6⟩ := ih (by omega)
    rw [List.range_succ, List.foldl_append]
    simp only [List.foldl_cons, List.foldl_nil]
    obtain ⟨e1, e2, e3, e4, e5⟩ := stepJ_same com ((List.range i).foldl (stepJ com) X0) i
    exact ⟨h1.step (by omega), e1.trans h2, e3.trans h3, e2.trans h4, e4.trans h5, e5.trans h6⟩

theorem FG_if {F : Nat → Int × List Int} {n a : Nat} {l : List Int} (h : FG F fun _ => n) (hl : l.length ≤ 2) (p : Prop) [Decidable p] : FG (if p then updF F a (noteF (F a) l) else F) fun _ => n + 1 := by
  split
  · exact (h.note a hl).mono fun b => by split <;> omega
  · exact h.mono fun _ => Nat.le_succ _

set_option maxHeartbeats 8000000 in
theorem judge_calls {N m : Nat} {w : World} {lay : Nat → Nat} {c : Nat → Option AO} {tv cv : Value} {fd : Nat → Option Value} {X0 : JSt} {C : Array Value} {ov wv iv rv lv : Value} {xo : List Value} {com : List Bool}
    (hM : CM N w lay c tv cv fd X0.1 C ov wv iv rv lv xo) (hFd : Fd lay c fd X0.2.1) (hcom : RowV lay c 8 4 1 cv com.length (com.map .bool)) (hcm : com.length = m) (hH : JH m X0 0) (hst : X0.2.2 = List.replicate X0.1.W.length 0)
    (hb1 : X0.1.R.length ≤ 50000) (hb2 : X0.1.L.length ≤ 100000) (hb3 : X0.1.W.length ≤ 100000) (hb4 : m ≤ 100000) :
    Calls Try.prog 41 #[.pointer (some ⟨lay 0, 0, none⟩)] w (fun e w' => e = .returned (.tuple #[]) ∧ Below N w w' ∧ ∃ lay' c' fd' C' xo', lay' 0 = lay 0 ∧ CM N w' lay' c' tv cv fd' ((List.range X0.1.R.length).foldl (stepJ com) X0).1 C' ov wv iv rv lv xo' ∧
      Fd lay' c' fd' ((List.range X0.1.R.length).foldl (stepJ com) X0).2.1 ∧ RowV lay' c' 8 4 1 cv com.length (com.map .bool)) := by
  refine calls_of_cwp Try.func41 rfl Try.ntmps41 (by simp) ?_
  have h0 : argE #[.pointer (some ⟨lay 0, 0, none⟩)] 0 = .pointer (some ⟨lay 0, 0, none⟩) := rfl
  generalize argE #[.pointer (some ⟨lay 0, 0, none⟩)] = ρ at h0 ⊢
  obtain ⟨wa, wcap, hwv⟩ := hM.wr.form
  have c4 := (hM.st.cell hM.hc 4).trans hM.cc.2.2.2.2.2.1
  rw [hwv] at c4
  obtain ⟨L, c1, S1, a1, d1, o1⟩ := hM.st.new' hM.nb 12 (madeCells (Value.int .i32 0).cells X0.1.W.length) 21
  have hbw := (Below.refl N w).alloc hM.nb (.cells (madeCells (Value.int .i32 0).cells X0.1.W.length) 21)
  have hM1 := hM.move S1 (by have := hM.nb; simp; omega) (fun r hr => o1 r (by omega))
  have hFd1 := hFd.congr (lay' := L) (c' := c1) (fun r h1 h2 => o1 r (by omega))
  have hcom1 := hcom.congr (o1 8 (by omega)).1 (o1 8 (by omega)).2
  have hstm1 : RowV L c1 12 21 1 (.slice (some ⟨L 12, 0, none⟩) X0.1.W.length X0.1.W.length) X0.2.2.length (X0.2.2.map fun n => .int .i32 n) := by
    rw [hst]
    refine ⟨by simp, .inr ⟨X0.1.W.length, _, by simp, d1, by simp, by unfold maxLen; omega, by rw [size_madeCells, Nat.mul_one], ?_⟩⟩
    rw [show (Value.int .i32 0).cells = #[.int .i32 0] from rfl, toList_madeCells_one]
    simp
  have hJ : JX N (w.alloc (.cells (madeCells (Value.int .i32 0).cells X0.1.W.length) 21)) L tv cv ov wv iv rv lv com X0 := ⟨L, c1, fun _ _ _ => rfl, ⟨fd, C, xo, hM1, hFd1⟩, hcom1, hstm1⟩
  have e0 : L 0 = lay 0 := (o1 0 (by omega)).1
  obtain ⟨ra, rcap, hrv⟩ := hM1.rd.form
  have c6 := (hM1.st.cell hM1.hc 6).trans hM1.cc.2.2.2.2.2.2.2.1
  rw [hrv] at c6
  rw [← e0] at h0 c4
  refine cwp_sr rfl fun K hK => ?_
  simp only [exL_plain, exL_guard, exL_nil, fx_move, fx_assign, fx_pick, fx_nilCheck, fx_load, fx_fieldAddr, fx_indexAddr, fx_binOp, fx_not, fx_convert, fx_slice, fx_extract, fx_lookup, fx_build, fx_len, fx_store, fx_alloc, fx_box, fx_makeMap, fx_makeSlice, fx_buildSlice, fx_mapUpdate, fx_append, fx_call, ev_tmp, ev_const, updo_some, updo_none, upd_apply, thenQ_normal, optK_some, optE_some, optE_none, ptrK_mk, intK_mk, boolK_mk, strK_mk, sliceK_mk, addrK_mk, tupK_mk, mapK_mk, sndK_mk, mkK_mk, cvK_int, ldN_zero, ldN_two, ldN_four, ldN_five, binK_add, binK_sub, binK_mul, binK_eql, binK_neq, binK_lss, binK_leq, binK_gtr, binK_geq, binK_seql, binK_sneq, binK_sadd, binK_beql, binK_bneq, binK_peql, binK_pneq, binK_leql, binK_lneq, lenK_slice, lenK_string, ex_slice, ex_pointer, inR_i64, inR_i32, gdK_bool, gdK_undef, Ty.all, Nat.reduceEqDiff, Nat.reduceAdd, Nat.reduceMul, if_false, if_true, ↓reduceIte, true_and, and_true, Int.toNat_natCast, Nat.add_zero, Nat.mul_one, Bool.false_eq_true, decide_eq_true_eq, decide_eq_false_iff_not, Option.isNone_some, Option.isNone_none, Option.isSome_some, Option.isSome_none, List.map_toArray, List.map_cons, List.map_nil, stK_eq, stR_int, stR_bool, stR_string, stR_pointer, stR_slice, exD_plain, exD_guard, exD_nil, stepD_true, stepD_false, needOp, pureOp, Bool.false_or, Bool.true_or, Bool.or_false, Bool.or_true, gval_succ, gval_zero, Bd.s22, Bd.s22b, Bd.s31, Bd.s30, Bd.s30b, Bd.s30e, Bd.s42, Bd.s66, Bd.s67, Bd.b49, Bd.b54, Bd.b79, Bd.b82, Bd.b77, Bd.b86, Bd.b74, decide_true, decide_false, reduceCtorEq, ne_eq, not_true_eq_false, not_false_eq_true, true_implies, false_implies, implies_true, cond_true, cond_false, Bool.not_true, Bool.not_false, stR_agg2, stR_agg4, stR_agg5, one_int, one_bool, one_string, one_pointer, one_slice, one_map, retK_mk, cells_agg, rowAt_alloc, setRow_alloc, ow_four, ow_five, List.getElem_toArray, List.getElem_cons_zero, List.getElem_cons_succ, List.size_toArray, List.length_cons, List.length_nil, Nat.reduceLeDiff, h0, c4, Nat.zero_add]
  repeat (refine ⟨by omega, ?_⟩)
  refine hK _ _ ?_
  clear hK K
  refine cwp_sr rfl fun K hK => ?_
  simp only [exL_plain, exL_guard, exL_nil, fx_move, fx_assign, fx_pick, fx_nilCheck, fx_load, fx_fieldAddr, fx_indexAddr, fx_binOp, fx_not, fx_convert, fx_slice, fx_extract, fx_lookup, fx_build, fx_len, fx_store, fx_alloc, fx_box, fx_makeMap, fx_makeSlice, fx_buildSlice, fx_mapUpdate, fx_append, fx_call, ev_tmp, ev_const, updo_some, updo_none, upd_apply, thenQ_normal, optK_some, optE_some, optE_none, ptrK_mk, intK_mk, boolK_mk, strK_mk, sliceK_mk, addrK_mk, tupK_mk, mapK_mk, sndK_mk, mkK_mk, cvK_int, ldN_zero, ldN_two, ldN_four, ldN_five, binK_add, binK_sub, binK_mul, binK_eql, binK_neq, binK_lss, binK_leq, binK_gtr, binK_geq, binK_seql, binK_sneq, binK_sadd, binK_beql, binK_bneq, binK_peql, binK_pneq, binK_leql, binK_lneq, lenK_slice, lenK_string, ex_slice, ex_pointer, inR_i64, inR_i32, gdK_bool, gdK_undef, Ty.all, Nat.reduceEqDiff, Nat.reduceAdd, Nat.reduceMul, if_false, if_true, ↓reduceIte, true_and, and_true, Int.toNat_natCast, Nat.add_zero, Nat.mul_one, Bool.false_eq_true, decide_eq_true_eq, decide_eq_false_iff_not, Option.isNone_some, Option.isNone_none, Option.isSome_some, Option.isSome_none, List.map_toArray, List.map_cons, List.map_nil, stK_eq, stR_int, stR_bool, stR_string, stR_pointer, stR_slice, exD_plain, exD_guard, exD_nil, stepD_true, stepD_false, needOp, pureOp, Bool.false_or, Bool.true_or, Bool.or_false, Bool.or_true, gval_succ, gval_zero, Bd.s22, Bd.s22b, Bd.s31, Bd.s30, Bd.s30b, Bd.s30e, Bd.s42, Bd.s66, Bd.s67, Bd.b49, Bd.b54, Bd.b79, Bd.b82, Bd.b77, Bd.b86, Bd.b74, decide_true, decide_false, reduceCtorEq, ne_eq, not_true_eq_false, not_false_eq_true, true_implies, false_implies, implies_true, cond_true, cond_false, Bool.not_true, Bool.not_false, stR_agg2, stR_agg4, stR_agg5, one_int, one_bool, one_string, one_pointer, one_slice, one_map, retK_mk, cells_agg, rowAt_alloc, setRow_alloc, ow_four, ow_five, List.getElem_toArray, List.getElem_cons_zero, List.getElem_cons_succ, List.size_toArray, List.length_cons, List.length_nil, Nat.reduceLeDiff, h0, c6, ← a1, Nat.zero_add]
  repeat (refine ⟨by omega, ?_⟩)
  refine hK _ _ ?_
  clear hK K
  refine cwp_forget [0, 2, 23, 24] fun ρ hL => ?_
  have h0X := hL 0 (by simp)
  have h2X := hL 2 (by simp)
  have h23X := hL 23 (by simp)
  have h24X := hL 24 (by simp)
  clear hL
  simp only [upd_apply, Nat.reduceEqDiff, if_false, if_true, ↓reduceIte, h0] at h0X h2X h23X h24X
  have h0 := h0X
  clear h0X
  have h2 := h2X
  clear h2X
  have h23 := h23X
  clear h23X
  have h24 := h24X
  clear h24X
  generalize w.alloc (.cells (madeCells (Value.int .i32 0).cells X0.1.W.length) 21) = w1 at *
  clear hM1 hFd1 hcom1 hstm1 S1 d1
  refine cwp_for (fun i ρ wr => i ≤ X0.1.R.length ∧ ρ 0 = .pointer (some ⟨L 0, 0, none⟩) ∧ ρ 2 = .slice (some ⟨L 12, 0, none⟩) X0.1.W.length X0.1.W.length ∧ ρ 23 = .int .i64 X0.1.R.length ∧ ρ 24 = .int .i64 (i : Nat) ∧ Below N w wr ∧ JX N wr L tv cv ov wv iv rv lv com ((List.range i).foldl (stepJ com) X0))
    (fun i => X0.1.R.length - i) (fun ρ wr => Below N w wr ∧ JX N wr L tv cv ov wv iv rv lv com ((List.range X0.1.R.length).foldl (stepJ com) X0)) 0 ?_ ?_ ?_
  · exact ⟨Nat.zero_le _, h0, h2, h23, h24, hbw, hJ⟩
  · clear h0 h2 h23 h24 hJ hbw
    rintro i ρ wr ⟨hi, g0, g2, g23, g24, hb, hJ⟩ K1 hK1
    refine cwp_sr rfl fun K hK => ?_
    simp only [exL_plain, exL_guard, exL_nil, fx_move, fx_assign, fx_pick, fx_nilCheck, fx_load, fx_fieldAddr, fx_indexAddr, fx_binOp, fx_not, fx_convert, fx_slice, fx_extract, fx_lookup, fx_build, fx_len, fx_store, fx_alloc, fx_box, fx_makeMap, fx_makeSlice, fx_buildSlice, fx_mapUpdate, fx_append, fx_call, ev_tmp, ev_const, updo_some, updo_none, upd_apply, thenQ_normal, optK_some, optE_some, optE_none, ptrK_mk, intK_mk, boolK_mk, strK_mk, sliceK_mk, addrK_mk, tupK_mk, mapK_mk, sndK_mk, mkK_mk, cvK_int, ldN_zero, ldN_two, ldN_four, ldN_five, binK_add, binK_sub, binK_mul, binK_eql, binK_neq, binK_lss, binK_leq, binK_gtr, binK_geq, binK_seql, binK_sneq, binK_sadd, binK_beql, binK_bneq, binK_peql, binK_pneq, binK_leql, binK_lneq, lenK_slice, lenK_string, ex_slice, ex_pointer, inR_i64, inR_i32, gdK_bool, gdK_undef, Ty.all, Nat.reduceEqDiff, Nat.reduceAdd, Nat.reduceMul, if_false, if_true, ↓reduceIte, true_and, and_true, Int.toNat_natCast, Nat.add_zero, Nat.mul_one, Bool.false_eq_true, decide_eq_true_eq, decide_eq_false_iff_not, Option.isNone_some, Option.isNone_none, Option.isSome_some, Option.isSome_none, List.map_toArray, List.map_cons, List.map_nil, stK_eq, stR_int, stR_bool, stR_string, stR_pointer, stR_slice, exD_plain, exD_guard, exD_nil, stepD_true, stepD_false, needOp, pureOp, Bool.false_or, Bool.true_or, Bool.or_false, Bool.or_true, gval_succ, gval_zero, Bd.s22, Bd.s22b, Bd.s31, Bd.s30, Bd.s30b, Bd.s30e, Bd.s42, Bd.s66, Bd.s67, Bd.b49, Bd.b54, Bd.b79, Bd.b82, Bd.b77, Bd.b86, Bd.b74, decide_true, decide_false, reduceCtorEq, ne_eq, not_true_eq_false, not_false_eq_true, true_implies, false_implies, implies_true, cond_true, cond_false, Bool.not_true, Bool.not_false, stR_agg2, stR_agg4, stR_agg5, one_int, one_bool, one_string, one_pointer, one_slice, one_map, retK_mk, cells_agg, rowAt_alloc, setRow_alloc, ow_four, ow_five, List.getElem_toArray, List.getElem_cons_zero, List.getElem_cons_succ, List.size_toArray, List.length_cons, List.length_nil, Nat.reduceLeDiff, g23, g24]
    repeat (refine ⟨by omega, ?_⟩)
    refine hK _ _ ?_
    clear hK K
    refine cwp_seq fun K hK => cwp_cond ?_
    simp only [exL_plain, exL_guard, exL_nil, fx_move, fx_assign, fx_pick, fx_nilCheck, fx_load, fx_fieldAddr, fx_indexAddr, fx_binOp, fx_not, fx_convert, fx_slice, fx_extract, fx_lookup, fx_build, fx_len, fx_store, fx_alloc, fx_box, fx_makeMap, fx_makeSlice, fx_buildSlice, fx_mapUpdate, fx_append, fx_call, ev_tmp, ev_const, updo_some, updo_none, upd_apply, thenQ_normal, optK_some, optE_some, optE_none, ptrK_mk, intK_mk, boolK_mk, strK_mk, sliceK_mk, addrK_mk, tupK_mk, mapK_mk, sndK_mk, mkK_mk, cvK_int, ldN_zero, ldN_two, ldN_four, ldN_five, binK_add, binK_sub, binK_mul, binK_eql, binK_neq, binK_lss, binK_leq, binK_gtr, binK_geq, binK_seql, binK_sneq, binK_sadd, binK_beql, binK_bneq, binK_peql, binK_pneq, binK_leql, binK_lneq, lenK_slice, lenK_string, ex_slice, ex_pointer, inR_i64, inR_i32, gdK_bool, gdK_undef, Ty.all, Nat.reduceEqDiff, Nat.reduceAdd, Nat.reduceMul, if_false, if_true, ↓reduceIte, true_and, and_true, Int.toNat_natCast, Nat.add_zero, Nat.mul_one, Bool.false_eq_true, decide_eq_true_eq, decide_eq_false_iff_not, Option.isNone_some, Option.isNone_none, Option.isSome_some, Option.isSome_none, List.map_toArray, List.map_cons, List.map_nil, stK_eq, stR_int, stR_bool, stR_string, stR_pointer, stR_slice, exD_plain, exD_guard, exD_nil, stepD_true, stepD_false, needOp, pureOp, Bool.false_or, Bool.true_or, Bool.or_false, Bool.or_true, gval_succ, gval_zero, Bd.s22, Bd.s22b, Bd.s31, Bd.s30, Bd.s30b, Bd.s30e, Bd.s42, Bd.s66, Bd.s67, Bd.b49, Bd.b54, Bd.b79, Bd.b82, Bd.b77, Bd.b86, Bd.b74, decide_true, decide_false, reduceCtorEq, ne_eq, not_true_eq_false, not_false_eq_true, true_implies, false_implies, implies_true, cond_true, cond_false, Bool.not_true, Bool.not_false, stR_agg2, stR_agg4, stR_agg5, one_int, one_bool, one_string, one_pointer, one_slice, one_map, retK_mk, cells_agg, rowAt_alloc, setRow_alloc, ow_four, ow_five, List.getElem_toArray, List.getElem_cons_zero, List.getElem_cons_succ, List.size_toArray, List.length_cons, List.length_nil, Nat.reduceLeDiff]
    refine ⟨fun hlt => cwp_skip (hK _ _ ?_), fun hge => cwp_exit (toJ ?_)⟩
    · clear hK K
      have hlt' : i < X0.1.R.length := by omega
      obtain ⟨hHi, eW, eL, eI, eR, eK⟩ := hH.all (com := com) i hi
      have hnext : (List.range (i + 1)).foldl (stepJ com) X0 = stepJ com ((List.range i).foldl (stepJ com) X0) i := by rw [List.range_succ, List.foldl_append]; rfl
      generalize (List.range i).foldl (stepJ com) X0 = X at *
      obtain ⟨S, F, st⟩ := X
      dsimp only at eW eL eI eR eK
      rw [← eW] at g2
      rw [← eR] at g23 hlt'
      have hG := hHi.g
      have hlgs := hHi.lg
      have hFG := hHi.fg
      have hsl := hHi.st
      dsimp only at hG hlgs hFG hsl
      have hb1' : S.R.length ≤ 100000 := by omega
      have hb2' : S.L.length ≤ 100000 := by rw [eL]; omega
      have hb3' : S.W.length ≤ 100000 := by rw [eW]; omega
      have hJ0 := hJ
      obtain ⟨lay1, c1, hL, ⟨fd1, C1, xo1, hM1, hFd1⟩, hcom1, hstm1⟩ := hJ
      dsimp only at hM1 hFd1 hcom1 hstm1
      obtain ⟨rcap1, hrv1, hrc⟩ := hM1.rd.get5 hM1.st hlt'
      rw [hL 4 (by omega) (by omega)] at hrv1
      have r0 := (hrc 0 (by omega)).trans (flat5 S.R i 0 hlt' (by omega))
      rw [hL 4 (by omega) (by omega)] at r0
      simp only [rdCells, List.getElem?_cons_zero, List.getElem?_cons_succ, Nat.add_zero] at r0
      have hrt := hG.rt _ (getD_mem (d := rd0) hlt')
      have c6 := (hM1.st.cell hM1.hc 6).trans hM1.cc.2.2.2.2.2.2.2.1
      rw [hL 0 (by omega) (by omega), hrv1] at c6
      obtain ⟨ccap, hcv, hcc⟩ := hcom1.get hM1.st (i := (S.R.getD i rd0).t.toNat) (by omega)
      rw [hL 8 (by omega) (by omega)] at hcv
      rw [hL 8 (by omega) (by omega), map_getD (d := false) (by omega)] at hcc
      have c1' := (hM1.st.cell hM1.hc 1).trans hM1.cc.2.2.1
      rw [hL 0 (by omega) (by omega), hcv] at c1'
      refine cwp_forget [0, 2, 23, 24] fun ρ hL => ?_
      have g0X := hL 0 (by simp)
      have g2X := hL 2 (by simp)
      have g23X := hL 23 (by simp)
      have g24X := hL 24 (by simp)
      clear hL
      simp only [upd_apply, Nat.reduceEqDiff, if_false, if_true, ↓reduceIte, g0, g2, g23, g24] at g0X g2X g23X g24X
      have g0 := g0X
      clear g0X
      have g2 := g2X
      clear g2X
      have g23 := g23X
      clear g23X
      have g24 := g24X
      clear g24X
      refine cwp_seq fun K2 hK2 => ?_
      refine cwp_block ?_
      have hK3 : ∀ ρ wr, ρ 0 = .pointer (some ⟨L 0, 0, none⟩) → ρ 2 = .slice (some ⟨L 12, 0, none⟩) S.W.length S.W.length → ρ 23 = .int .i64 S.R.length → ρ 24 = .int .i64 (i : Nat) → Below N w wr → JX N wr L tv cv ov wv iv rv lv com (stepJ com (S, F, st) i) → K2 ρ wr := by
        clear g0 g2 g23 g24
        intro ρ wr g0 g2 g23 g24 hb hJ
        refine hK2 _ _ ?_
        refine cwp_region rfl ?_
        simp only [exL_plain, exL_guard, exL_nil, fx_move, fx_assign, fx_pick, fx_nilCheck, fx_load, fx_fieldAddr, fx_indexAddr, fx_binOp, fx_not, fx_convert, fx_slice, fx_extract, fx_lookup, fx_build, fx_len, fx_store, fx_alloc, fx_box, fx_makeMap, fx_makeSlice, fx_buildSlice, fx_mapUpdate, fx_append, fx_call, ev_tmp, ev_const, updo_some, updo_none, upd_apply, thenQ_normal, optK_some, optE_some, optE_none, ptrK_mk, intK_mk, boolK_mk, strK_mk, sliceK_mk, addrK_mk, tupK_mk, mapK_mk, sndK_mk, mkK_mk, cvK_int, ldN_zero, ldN_two, ldN_four, ldN_five, binK_add, binK_sub, binK_mul, binK_eql, binK_neq, binK_lss, binK_leq, binK_gtr, binK_geq, binK_seql, binK_sneq, binK_sadd, binK_beql, binK_bneq, binK_peql, binK_pneq, binK_leql, binK_lneq, lenK_slice, lenK_string, ex_slice, ex_pointer, inR_i64, inR_i32, gdK_bool, gdK_undef, Ty.all, Nat.reduceEqDiff, Nat.reduceAdd, Nat.reduceMul, if_false, if_true, ↓reduceIte, true_and, and_true, Int.toNat_natCast, Nat.add_zero, Nat.mul_one, Bool.false_eq_true, decide_eq_true_eq, decide_eq_false_iff_not, Option.isNone_some, Option.isNone_none, Option.isSome_some, Option.isSome_none, List.map_toArray, List.map_cons, List.map_nil, stK_eq, stR_int, stR_bool, stR_string, stR_pointer, stR_slice, exD_plain, exD_guard, exD_nil, stepD_true, stepD_false, needOp, pureOp, Bool.false_or, Bool.true_or, Bool.or_false, Bool.or_true, gval_succ, gval_zero, Bd.s22, Bd.s22b, Bd.s31, Bd.s30, Bd.s30b, Bd.s30e, Bd.s42, Bd.s66, Bd.s67, Bd.b49, Bd.b54, Bd.b79, Bd.b82, Bd.b77, Bd.b86, Bd.b74, decide_true, decide_false, reduceCtorEq, ne_eq, not_true_eq_false, not_false_eq_true, true_implies, false_implies, implies_true, cond_true, cond_false, Bool.not_true, Bool.not_false, stR_agg2, stR_agg4, stR_agg5, one_int, one_bool, one_string, one_pointer, one_slice, one_map, retK_mk, cells_agg, rowAt_alloc, setRow_alloc, ow_four, ow_five, List.getElem_toArray, List.getElem_cons_zero, List.getElem_cons_succ, List.size_toArray, List.length_cons, List.length_nil, Nat.reduceLeDiff, g24]
        repeat (refine ⟨by omega, ?_⟩)
        refine hK1 _ _ (i + 1) ⟨by omega, ?_, ?_, ?_, ?_, hb, by rw [hnext]; exact hJ⟩ (by omega)
        · simp only [exL_plain, exL_guard, exL_nil, fx_move, fx_assign, fx_pick, fx_nilCheck, fx_load, fx_fieldAddr, fx_indexAddr, fx_binOp, fx_not, fx_convert, fx_slice, fx_extract, fx_lookup, fx_build, fx_len, fx_store, fx_alloc, fx_box, fx_makeMap, fx_makeSlice, fx_buildSlice, fx_mapUpdate, fx_append, fx_call, ev_tmp, ev_const, updo_some, updo_none, upd_apply, thenQ_normal, optK_some, optE_some, optE_none, ptrK_mk, intK_mk, boolK_mk, strK_mk, sliceK_mk, addrK_mk, tupK_mk, mapK_mk, sndK_mk, mkK_mk, cvK_int, ldN_zero, ldN_two, ldN_four, ldN_five, binK_add, binK_sub, binK_mul, binK_eql, binK_neq, binK_lss, binK_leq, binK_gtr, binK_geq, binK_seql, binK_sneq, binK_sadd, binK_beql, binK_bneq, binK_peql, binK_pneq, binK_leql, binK_lneq, lenK_slice, lenK_string, ex_slice, ex_pointer, inR_i64, inR_i32, gdK_bool, gdK_undef, Ty.all, Nat.reduceEqDiff, Nat.reduceAdd, Nat.reduceMul, if_false, if_true, ↓reduceIte, true_and, and_true, Int.toNat_natCast, Nat.add_zero, Nat.mul_one, Bool.false_eq_true, decide_eq_true_eq, decide_eq_false_iff_not, Option.isNone_some, Option.isNone_none, Option.isSome_some, Option.isSome_none, List.map_toArray, List.map_cons, List.map_nil, stK_eq, stR_int, stR_bool, stR_string, stR_pointer, stR_slice, exD_plain, exD_guard, exD_nil, stepD_true, stepD_false, needOp, pureOp, Bool.false_or, Bool.true_or, Bool.or_false, Bool.or_true, gval_succ, gval_zero, Bd.s22, Bd.s22b, Bd.s31, Bd.s30, Bd.s30b, Bd.s30e, Bd.s42, Bd.s66, Bd.s67, Bd.b49, Bd.b54, Bd.b79, Bd.b82, Bd.b77, Bd.b86, Bd.b74, decide_true, decide_false, reduceCtorEq, ne_eq, not_true_eq_false, not_false_eq_true, true_implies, false_implies, implies_true, cond_true, cond_false, Bool.not_true, Bool.not_false, stR_agg2, stR_agg4, stR_agg5, one_int, one_bool, one_string, one_pointer, one_slice, one_map, retK_mk, cells_agg, rowAt_alloc, setRow_alloc, ow_four, ow_five, List.getElem_toArray, List.getElem_cons_zero, List.getElem_cons_succ, List.size_toArray, List.length_cons, List.length_nil, Nat.reduceLeDiff, g0]
        · simp only [exL_plain, exL_guard, exL_nil, fx_move, fx_assign, fx_pick, fx_nilCheck, fx_load, fx_fieldAddr, fx_indexAddr, fx_binOp, fx_not, fx_convert, fx_slice, fx_extract, fx_lookup, fx_build, fx_len, fx_store, fx_alloc, fx_box, fx_makeMap, fx_makeSlice, fx_buildSlice, fx_mapUpdate, fx_append, fx_call, ev_tmp, ev_const, updo_some, updo_none, upd_apply, thenQ_normal, optK_some, optE_some, optE_none, ptrK_mk, intK_mk, boolK_mk, strK_mk, sliceK_mk, addrK_mk, tupK_mk, mapK_mk, sndK_mk, mkK_mk, cvK_int, ldN_zero, ldN_two, ldN_four, ldN_five, binK_add, binK_sub, binK_mul, binK_eql, binK_neq, binK_lss, binK_leq, binK_gtr, binK_geq, binK_seql, binK_sneq, binK_sadd, binK_beql, binK_bneq, binK_peql, binK_pneq, binK_leql, binK_lneq, lenK_slice, lenK_string, ex_slice, ex_pointer, inR_i64, inR_i32, gdK_bool, gdK_undef, Ty.all, Nat.reduceEqDiff, Nat.reduceAdd, Nat.reduceMul, if_false, if_true, ↓reduceIte, true_and, and_true, Int.toNat_natCast, Nat.add_zero, Nat.mul_one, Bool.false_eq_true, decide_eq_true_eq, decide_eq_false_iff_not, Option.isNone_some, Option.isNone_none, Option.isSome_some, Option.isSome_none, List.map_toArray, List.map_cons, List.map_nil, stK_eq, stR_int, stR_bool, stR_string, stR_pointer, stR_slice, exD_plain, exD_guard, exD_nil, stepD_true, stepD_false, needOp, pureOp, Bool.false_or, Bool.true_or, Bool.or_false, Bool.or_true, gval_succ, gval_zero, Bd.s22, Bd.s22b, Bd.s31, Bd.s30, Bd.s30b, Bd.s30e, Bd.s42, Bd.s66, Bd.s67, Bd.b49, Bd.b54, Bd.b79, Bd.b82, Bd.b77, Bd.b86, Bd.b74, decide_true, decide_false, reduceCtorEq, ne_eq, not_true_eq_false, not_false_eq_true, true_implies, false_implies, implies_true, cond_true, cond_false, Bool.not_true, Bool.not_false, stR_agg2, stR_agg4, stR_agg5, one_int, one_bool, one_string, one_pointer, one_slice, one_map, retK_mk, cells_agg, rowAt_alloc, setRow_alloc, ow_four, ow_five, List.getElem_toArray, List.getElem_cons_zero, List.getElem_cons_succ, List.size_toArray, List.length_cons, List.length_nil, Nat.reduceLeDiff, g2, eW]
        · simp only [exL_plain, exL_guard, exL_nil, fx_move, fx_assign, fx_pick, fx_nilCheck, fx_load, fx_fieldAddr, fx_indexAddr, fx_binOp, fx_not, fx_convert, fx_slice, fx_extract, fx_lookup, fx_build, fx_len, fx_store, fx_alloc, fx_box, fx_makeMap, fx_makeSlice, fx_buildSlice, fx_mapUpdate, fx_append, fx_call, ev_tmp, ev_const, updo_some, updo_none, upd_apply, thenQ_normal, optK_some, optE_some, optE_none, ptrK_mk, intK_mk, boolK_mk, strK_mk, sliceK_mk, addrK_mk, tupK_mk, mapK_mk, sndK_mk, mkK_mk, cvK_int, ldN_zero, ldN_two, ldN_four, ldN_five, binK_add, binK_sub, binK_mul, binK_eql, binK_neq, binK_lss, binK_leq, binK_gtr, binK_geq, binK_seql, binK_sneq, binK_sadd, binK_beql, binK_bneq, binK_peql, binK_pneq, binK_leql, binK_lneq, lenK_slice, lenK_string, ex_slice, ex_pointer, inR_i64, inR_i32, gdK_bool, gdK_undef, Ty.all, Nat.reduceEqDiff, Nat.reduceAdd, Nat.reduceMul, if_false, if_true, ↓reduceIte, true_and, and_true, Int.toNat_natCast, Nat.add_zero, Nat.mul_one, Bool.false_eq_true, decide_eq_true_eq, decide_eq_false_iff_not, Option.isNone_some, Option.isNone_none, Option.isSome_some, Option.isSome_none, List.map_toArray, List.map_cons, List.map_nil, stK_eq, stR_int, stR_bool, stR_string, stR_pointer, stR_slice, exD_plain, exD_guard, exD_nil, stepD_true, stepD_false, needOp, pureOp, Bool.false_or, Bool.true_or, Bool.or_false, Bool.or_true, gval_succ, gval_zero, Bd.s22, Bd.s22b, Bd.s31, Bd.s30, Bd.s30b, Bd.s30e, Bd.s42, Bd.s66, Bd.s67, Bd.b49, Bd.b54, Bd.b79, Bd.b82, Bd.b77, Bd.b86, Bd.b74, decide_true, decide_false, reduceCtorEq, ne_eq, not_true_eq_false, not_false_eq_true, true_implies, false_implies, implies_true, cond_true, cond_false, Bool.not_true, Bool.not_false, stR_agg2, stR_agg4, stR_agg5, one_int, one_bool, one_string, one_pointer, one_slice, one_map, retK_mk, cells_agg, rowAt_alloc, setRow_alloc, ow_four, ow_five, List.getElem_toArray, List.getElem_cons_zero, List.getElem_cons_succ, List.size_toArray, List.length_cons, List.length_nil, Nat.reduceLeDiff, g23, eR]
        · simp only [exL_plain, exL_guard, exL_nil, fx_move, fx_assign, fx_pick, fx_nilCheck, fx_load, fx_fieldAddr, fx_indexAddr, fx_binOp, fx_not, fx_convert, fx_slice, fx_extract, fx_lookup, fx_build, fx_len, fx_store, fx_alloc, fx_box, fx_makeMap, fx_makeSlice, fx_buildSlice, fx_mapUpdate, fx_append, fx_call, ev_tmp, ev_const, updo_some, updo_none, upd_apply, thenQ_normal, optK_some, optE_some, optE_none, ptrK_mk, intK_mk, boolK_mk, strK_mk, sliceK_mk, addrK_mk, tupK_mk, mapK_mk, sndK_mk, mkK_mk, cvK_int, ldN_zero, ldN_two, ldN_four, ldN_five, binK_add, binK_sub, binK_mul, binK_eql, binK_neq, binK_lss, binK_leq, binK_gtr, binK_geq, binK_seql, binK_sneq, binK_sadd, binK_beql, binK_bneq, binK_peql, binK_pneq, binK_leql, binK_lneq, lenK_slice, lenK_string, ex_slice, ex_pointer, inR_i64, inR_i32, gdK_bool, gdK_undef, Ty.all, Nat.reduceEqDiff, Nat.reduceAdd, Nat.reduceMul, if_false, if_true, ↓reduceIte, true_and, and_true, Int.toNat_natCast, Nat.add_zero, Nat.mul_one, Bool.false_eq_true, decide_eq_true_eq, decide_eq_false_iff_not, Option.isNone_some, Option.isNone_none, Option.isSome_some, Option.isSome_none, List.map_toArray, List.map_cons, List.map_nil, stK_eq, stR_int, stR_bool, stR_string, stR_pointer, stR_slice, exD_plain, exD_guard, exD_nil, stepD_true, stepD_false, needOp, pureOp, Bool.false_or, Bool.true_or, Bool.or_false, Bool.or_true, gval_succ, gval_zero, Bd.s22, Bd.s22b, Bd.s31, Bd.s30, Bd.s30b, Bd.s30e, Bd.s42, Bd.s66, Bd.s67, Bd.b49, Bd.b54, Bd.b79, Bd.b82, Bd.b77, Bd.b86, Bd.b74, decide_true, decide_false, reduceCtorEq, ne_eq, not_true_eq_false, not_false_eq_true, true_implies, false_implies, implies_true, cond_true, cond_false, Bool.not_true, Bool.not_false, stR_agg2, stR_agg4, stR_agg5, one_int, one_bool, one_string, one_pointer, one_slice, one_map, retK_mk, cells_agg, rowAt_alloc, setRow_alloc, ow_four, ow_five, List.getElem_toArray, List.getElem_cons_zero, List.getElem_cons_succ, List.size_toArray, List.length_cons, List.length_nil, Nat.reduceLeDiff]
          rfl
      clear hK2 hK1
      refine cwp_sr rfl fun K hK => ?_
      simp only [exL_plain, exL_guard, exL_nil, fx_move, fx_assign, fx_pick, fx_nilCheck, fx_load, fx_fieldAddr, fx_indexAddr, fx_binOp, fx_not, fx_convert, fx_slice, fx_extract, fx_lookup, fx_build, fx_len, fx_store, fx_alloc, fx_box, fx_makeMap, fx_makeSlice, fx_buildSlice, fx_mapUpdate, fx_append, fx_call, ev_tmp, ev_const, updo_some, updo_none, upd_apply, thenQ_normal, optK_some, optE_some, optE_none, ptrK_mk, intK_mk, boolK_mk, strK_mk, sliceK_mk, addrK_mk, tupK_mk, mapK_mk, sndK_mk, mkK_mk, cvK_int, ldN_zero, ldN_two, ldN_four, ldN_five, binK_add, binK_sub, binK_mul, binK_eql, binK_neq, binK_lss, binK_leq, binK_gtr, binK_geq, binK_seql, binK_sneq, binK_sadd, binK_beql, binK_bneq, binK_peql, binK_pneq, binK_leql, binK_lneq, lenK_slice, lenK_string, ex_slice, ex_pointer, inR_i64, inR_i32, gdK_bool, gdK_undef, Ty.all, Nat.reduceEqDiff, Nat.reduceAdd, Nat.reduceMul, if_false, if_true, ↓reduceIte, true_and, and_true, Int.toNat_natCast, Nat.add_zero, Nat.mul_one, Bool.false_eq_true, decide_eq_true_eq, decide_eq_false_iff_not, Option.isNone_some, Option.isNone_none, Option.isSome_some, Option.isSome_none, List.map_toArray, List.map_cons, List.map_nil, stK_eq, stR_int, stR_bool, stR_string, stR_pointer, stR_slice, exD_plain, exD_guard, exD_nil, stepD_true, stepD_false, needOp, pureOp, Bool.false_or, Bool.true_or, Bool.or_false, Bool.or_true, gval_succ, gval_zero, Bd.s22, Bd.s22b, Bd.s31, Bd.s30, Bd.s30b, Bd.s30e, Bd.s42, Bd.s66, Bd.s67, Bd.b49, Bd.b54, Bd.b79, Bd.b82, Bd.b77, Bd.b86, Bd.b74, decide_true, decide_false, reduceCtorEq, ne_eq, not_true_eq_false, not_false_eq_true, true_implies, false_implies, implies_true, cond_true, cond_false, Bool.not_true, Bool.not_false, stR_agg2, stR_agg4, stR_agg5, one_int, one_bool, one_string, one_pointer, one_slice, one_map, retK_mk, cells_agg, rowAt_alloc, setRow_alloc, ow_four, ow_five, List.getElem_toArray, List.getElem_cons_zero, List.getElem_cons_succ, List.size_toArray, List.length_cons, List.length_nil, Nat.reduceLeDiff, g24]
      repeat (refine ⟨by omega, ?_⟩)
      refine hK _ _ ?_
      clear hK K
      refine cwp_sr rfl fun K hK => ?_
      simp only [exL_plain, exL_guard, exL_nil, fx_move, fx_assign, fx_pick, fx_nilCheck, fx_load, fx_fieldAddr, fx_indexAddr, fx_binOp, fx_not, fx_convert, fx_slice, fx_extract, fx_lookup, fx_build, fx_len, fx_store, fx_alloc, fx_box, fx_makeMap, fx_makeSlice, fx_buildSlice, fx_mapUpdate, fx_append, fx_call, ev_tmp, ev_const, updo_some, updo_none, upd_apply, thenQ_normal, optK_some, optE_some, optE_none, ptrK_mk, intK_mk, boolK_mk, strK_mk, sliceK_mk, addrK_mk, tupK_mk, mapK_mk, sndK_mk, mkK_mk, cvK_int, ldN_zero, ldN_two, ldN_four, ldN_five, binK_add, binK_sub, binK_mul, binK_eql, binK_neq, binK_lss, binK_leq, binK_gtr, binK_geq, binK_seql, binK_sneq, binK_sadd, binK_beql, binK_bneq, binK_peql, binK_pneq, binK_leql, binK_lneq, lenK_slice, lenK_string, ex_slice, ex_pointer, inR_i64, inR_i32, gdK_bool, gdK_undef, Ty.all, Nat.reduceEqDiff, Nat.reduceAdd, Nat.reduceMul, if_false, if_true, ↓reduceIte, true_and, and_true, Int.toNat_natCast, Nat.add_zero, Nat.mul_one, Bool.false_eq_true, decide_eq_true_eq, decide_eq_false_iff_not, Option.isNone_some, Option.isNone_none, Option.isSome_some, Option.isSome_none, List.map_toArray, List.map_cons, List.map_nil, stK_eq, stR_int, stR_bool, stR_string, stR_pointer, stR_slice, exD_plain, exD_guard, exD_nil, stepD_true, stepD_false, needOp, pureOp, Bool.false_or, Bool.true_or, Bool.or_false, Bool.or_true, gval_succ, gval_zero, Bd.s22, Bd.s22b, Bd.s31, Bd.s30, Bd.s30b, Bd.s30e, Bd.s42, Bd.s66, Bd.s67, Bd.b49, Bd.b54, Bd.b79, Bd.b82, Bd.b77, Bd.b86, Bd.b74, decide_true, decide_false, reduceCtorEq, ne_eq, not_true_eq_false, not_false_eq_true, true_implies, false_implies, implies_true, cond_true, cond_false, Bool.not_true, Bool.not_false, stR_agg2, stR_agg4, stR_agg5, one_int, one_bool, one_string, one_pointer, one_slice, one_map, retK_mk, cells_agg, rowAt_alloc, setRow_alloc, ow_four, ow_five, List.getElem_toArray, List.getElem_cons_zero, List.getElem_cons_succ, List.size_toArray, List.length_cons, List.length_nil, Nat.reduceLeDiff, g0, c6, Nat.zero_add]
      repeat (refine ⟨by omega, ?_⟩)
      refine hK _ _ ?_
      clear hK K
      refine cwp_forget [0, 2, 23, 24, 3, 4] fun ρ hL => ?_
      have g0X := hL 0 (by simp)
      have g2X := hL 2 (by simp)
      have g23X := hL 23 (by simp)
      have g24X := hL 24 (by simp)
      have g3X := hL 3 (by simp)
      have g4X := hL 4 (by simp)
      clear hL
      simp only [upd_apply, Nat.reduceEqDiff, if_false, if_true, ↓reduceIte, g0, g2, g23, g24] at g0X g2X g23X g24X g3X g4X
      have g0 := g0X
      clear g0X
      have g2 := g2X
      clear g2X
      have g23 := g23X
      clear g23X
      have g24 := g24X
      clear g24X
      have g3 := g3X
      clear g3X
      have g4 := g4X
      clear g4X
      refine cwp_seq fun K hK => ?_
      refine cwp_sd Ty.mixed (by kernel_rfl) (by first | exact (fun _ _ _ h => h) | exact hQ) fun K hK => ?_
      simp only [exL_plain, exL_guard, exL_nil, fx_move, fx_assign, fx_pick, fx_nilCheck, fx_load, fx_fieldAddr, fx_indexAddr, fx_binOp, fx_not, fx_convert, fx_slice, fx_extract, fx_lookup, fx_build, fx_len, fx_store, fx_alloc, fx_box, fx_makeMap, fx_makeSlice, fx_buildSlice, fx_mapUpdate, fx_append, fx_call, ev_tmp, ev_const, updo_some, updo_none, upd_apply, thenQ_normal, optK_some, optE_some, optE_none, ptrK_mk, intK_mk, boolK_mk, strK_mk, sliceK_mk, addrK_mk, tupK_mk, mapK_mk, sndK_mk, mkK_mk, cvK_int, ldN_zero, ldN_two, ldN_four, ldN_five, binK_add, binK_sub, binK_mul, binK_eql, binK_neq, binK_lss, binK_leq, binK_gtr, binK_geq, binK_seql, binK_sneq, binK_sadd, binK_beql, binK_bneq, binK_peql, binK_pneq, binK_leql, binK_lneq, lenK_slice, lenK_string, ex_slice, ex_pointer, inR_i64, inR_i32, gdK_bool, gdK_undef, Ty.all, Nat.reduceEqDiff, Nat.reduceAdd, Nat.reduceMul, if_false, if_true, ↓reduceIte, true_and, and_true, Int.toNat_natCast, Nat.add_zero, Nat.mul_one, Bool.false_eq_true, decide_eq_true_eq, decide_eq_false_iff_not, Option.isNone_some, Option.isNone_none, Option.isSome_some, Option.isSome_none, List.map_toArray, List.map_cons, List.map_nil, stK_eq, stR_int, stR_bool, stR_string, stR_pointer, stR_slice, exD_plain, exD_guard, exD_nil, stepD_true, stepD_false, needOp, pureOp, Bool.false_or, Bool.true_or, Bool.or_false, Bool.or_true, gval_succ, gval_zero, Bd.s22, Bd.s22b, Bd.s31, Bd.s30, Bd.s30b, Bd.s30e, Bd.s42, Bd.s66, Bd.s67, Bd.b49, Bd.b54, Bd.b79, Bd.b82, Bd.b77, Bd.b86, Bd.b74, decide_true, decide_false, reduceCtorEq, ne_eq, not_true_eq_false, not_false_eq_true, true_implies, false_implies, implies_true, cond_true, cond_false, Bool.not_true, Bool.not_false, stR_agg2, stR_agg4, stR_agg5, one_int, one_bool, one_string, one_pointer, one_slice, one_map, retK_mk, cells_agg, rowAt_alloc, setRow_alloc, ow_four, ow_five, List.getElem_toArray, List.getElem_cons_zero, List.getElem_cons_succ, List.size_toArray, List.length_cons, List.length_nil, Nat.reduceLeDiff, g0, g4, c1', r0, hcc, Nat.zero_add]
      repeat (refine ⟨by omega, ?_⟩)
      refine hK _ _ ?_
      clear hK K
      refine cwp_cond ?_
      simp only [exL_plain, exL_guard, exL_nil, fx_move, fx_assign, fx_pick, fx_nilCheck, fx_load, fx_fieldAddr, fx_indexAddr, fx_binOp, fx_not, fx_convert, fx_slice, fx_extract, fx_lookup, fx_build, fx_len, fx_store, fx_alloc, fx_box, fx_makeMap, fx_makeSlice, fx_buildSlice, fx_mapUpdate, fx_append, fx_call, ev_tmp, ev_const, updo_some, updo_none, upd_apply, thenQ_normal, optK_some, optE_some, optE_none, ptrK_mk, intK_mk, boolK_mk, strK_mk, sliceK_mk, addrK_mk, tupK_mk, mapK_mk, sndK_mk, mkK_mk, cvK_int, ldN_zero, ldN_two, ldN_four, ldN_five, binK_add, binK_sub, binK_mul, binK_eql, binK_neq, binK_lss, binK_leq, binK_gtr, binK_geq, binK_seql, binK_sneq, binK_sadd, binK_beql, binK_bneq, binK_peql, binK_pneq, binK_leql, binK_lneq, lenK_slice, lenK_string, ex_slice, ex_pointer, inR_i64, inR_i32, gdK_bool, gdK_undef, Ty.all, Nat.reduceEqDiff, Nat.reduceAdd, Nat.reduceMul, if_false, if_true, ↓reduceIte, true_and, and_true, Int.toNat_natCast, Nat.add_zero, Nat.mul_one, Bool.false_eq_true, decide_eq_true_eq, decide_eq_false_iff_not, Option.isNone_some, Option.isNone_none, Option.isSome_some, Option.isSome_none, List.map_toArray, List.map_cons, List.map_nil, stK_eq, stR_int, stR_bool, stR_string, stR_pointer, stR_slice, exD_plain, exD_guard, exD_nil, stepD_true, stepD_false, needOp, pureOp, Bool.false_or, Bool.true_or, Bool.or_false, Bool.or_true, gval_succ, gval_zero, Bd.s22, Bd.s22b, Bd.s31, Bd.s30, Bd.s30b, Bd.s30e, Bd.s42, Bd.s66, Bd.s67, Bd.b49, Bd.b54, Bd.b79, Bd.b82, Bd.b77, Bd.b86, Bd.b74, decide_true, decide_false, reduceCtorEq, ne_eq, not_true_eq_false, not_false_eq_true, true_implies, false_implies, implies_true, cond_true, cond_false, Bool.not_true, Bool.not_false, stR_agg2, stR_agg4, stR_agg5, one_int, one_bool, one_string, one_pointer, one_slice, one_map, retK_mk, cells_agg, rowAt_alloc, setRow_alloc, ow_four, ow_five, List.getElem_toArray, List.getElem_cons_zero, List.getElem_cons_succ, List.size_toArray, List.length_cons, List.length_nil, Nat.reduceLeDiff]
      refine ⟨fun hc => ?_, fun hc => cwp_skip (hK _ _ ?_)⟩
      · have hc' : com.getD (S.R.getD i rd0).t.toNat false = false := by simpa using hc
        refine cwp_exit ?_
        simp only [thenQ_exit, blkQ_exit, if_true, thenQ_normal]
        refine hK3 _ _ ?_ ?_ ?_ ?_ hb.drew ?_
        · simp only [exL_plain, exL_guard, exL_nil, fx_move, fx_assign, fx_pick, fx_nilCheck, fx_load, fx_fieldAddr, fx_indexAddr, fx_binOp, fx_not, fx_convert, fx_slice, fx_extract, fx_lookup, fx_build, fx_len, fx_store, fx_alloc, fx_box, fx_makeMap, fx_makeSlice, fx_buildSlice, fx_mapUpdate, fx_append, fx_call, ev_tmp, ev_const, updo_some, updo_none, upd_apply, thenQ_normal, optK_some, optE_some, optE_none, ptrK_mk, intK_mk, boolK_mk, strK_mk, sliceK_mk, addrK_mk, tupK_mk, mapK_mk, sndK_mk, mkK_mk, cvK_int, ldN_zero, ldN_two, ldN_four, ldN_five, binK_add, binK_sub, binK_mul, binK_eql, binK_neq, binK_lss, binK_leq, binK_gtr, binK_geq, binK_seql, binK_sneq, binK_sadd, binK_beql, binK_bneq, binK_peql, binK_pneq, binK_leql, binK_lneq, lenK_slice, lenK_string, ex_slice, ex_pointer, inR_i64, inR_i32, gdK_bool, gdK_undef, Ty.all, Nat.reduceEqDiff, Nat.reduceAdd, Nat.reduceMul, if_false, if_true, ↓reduceIte, true_and, and_true, Int.toNat_natCast, Nat.add_zero, Nat.mul_one, Bool.false_eq_true, decide_eq_true_eq, decide_eq_false_iff_not, Option.isNone_some, Option.isNone_none, Option.isSome_some, Option.isSome_none, List.map_toArray, List.map_cons, List.map_nil, stK_eq, stR_int, stR_bool, stR_string, stR_pointer, stR_slice, exD_plain, exD_guard, exD_nil, stepD_true, stepD_false, needOp, pureOp, Bool.false_or, Bool.true_or, Bool.or_false, Bool.or_true, gval_succ, gval_zero, Bd.s22, Bd.s22b, Bd.s31, Bd.s30, Bd.s30b, Bd.s30e, Bd.s42, Bd.s66, Bd.s67, Bd.b49, Bd.b54, Bd.b79, Bd.b82, Bd.b77, Bd.b86, Bd.b74, decide_true, decide_false, reduceCtorEq, ne_eq, not_true_eq_false, not_false_eq_true, true_implies, false_implies, implies_true, cond_true, cond_false, Bool.not_true, Bool.not_false, stR_agg2, stR_agg4, stR_agg5, one_int, one_bool, one_string, one_pointer, one_slice, one_map, retK_mk, cells_agg, rowAt_alloc, setRow_alloc, ow_four, ow_five, List.getElem_toArray, List.getElem_cons_zero, List.getElem_cons_succ, List.size_toArray, List.length_cons, List.length_nil, Nat.reduceLeDiff, g0]
        · simp only [exL_plain, exL_guard, exL_nil, fx_move, fx_assign, fx_pick, fx_nilCheck, fx_load, fx_fieldAddr, fx_indexAddr, fx_binOp, fx_not, fx_convert, fx_slice, fx_extract, fx_lookup, fx_build, fx_len, fx_store, fx_alloc, fx_box, fx_makeMap, fx_makeSlice, fx_buildSlice, fx_mapUpdate, fx_append, fx_call, ev_tmp, ev_const, updo_some, updo_none, upd_apply, thenQ_normal, optK_some, optE_some, optE_none, ptrK_mk, intK_mk, boolK_mk, strK_mk, sliceK_mk, addrK_mk, tupK_mk, mapK_mk, sndK_mk, mkK_mk, cvK_int, ldN_zero, ldN_two, ldN_four, ldN_five, binK_add, binK_sub, binK_mul, binK_eql, binK_neq, binK_lss, binK_leq, binK_gtr, binK_geq, binK_seql, binK_sneq, binK_sadd, binK_beql, binK_bneq, binK_peql, binK_pneq, binK_leql, binK_lneq, lenK_slice, lenK_string, ex_slice, ex_pointer, inR_i64, inR_i32, gdK_bool, gdK_undef, Ty.all, Nat.reduceEqDiff, Nat.reduceAdd, Nat.reduceMul, if_false, if_true, ↓reduceIte, true_and, and_true, Int.toNat_natCast, Nat.add_zero, Nat.mul_one, Bool.false_eq_true, decide_eq_true_eq, decide_eq_false_iff_not, Option.isNone_some, Option.isNone_none, Option.isSome_some, Option.isSome_none, List.map_toArray, List.map_cons, List.map_nil, stK_eq, stR_int, stR_bool, stR_string, stR_pointer, stR_slice, exD_plain, exD_guard, exD_nil, stepD_true, stepD_false, needOp, pureOp, Bool.false_or, Bool.true_or, Bool.or_false, Bool.or_true, gval_succ, gval_zero, Bd.s22, Bd.s22b, Bd.s31, Bd.s30, Bd.s30b, Bd.s30e, Bd.s42, Bd.s66, Bd.s67, Bd.b49, Bd.b54, Bd.b79, Bd.b82, Bd.b77, Bd.b86, Bd.b74, decide_true, decide_false, reduceCtorEq, ne_eq, not_true_eq_false, not_false_eq_true, true_implies, false_implies, implies_true, cond_true, cond_false, Bool.not_true, Bool.not_false, stR_agg2, stR_agg4, stR_agg5, one_int, one_bool, one_string, one_pointer, one_slice, one_map, retK_mk, cells_agg, rowAt_alloc, setRow_alloc, ow_four, ow_five, List.getElem_toArray, List.getElem_cons_zero, List.getElem_cons_succ, List.size_toArray, List.length_cons, List.length_nil, Nat.reduceLeDiff, g2]
        · simp only [exL_plain, exL_guard, exL_nil, fx_move, fx_assign, fx_pick, fx_nilCheck, fx_load, fx_fieldAddr, fx_indexAddr, fx_binOp, fx_not, fx_convert, fx_slice, fx_extract, fx_lookup, fx_build, fx_len, fx_store, fx_alloc, fx_box, fx_makeMap, fx_makeSlice, fx_buildSlice, fx_mapUpdate, fx_append, fx_call, ev_tmp, ev_const, updo_some, updo_none, upd_apply, thenQ_normal, optK_some, optE_some, optE_none, ptrK_mk, intK_mk, boolK_mk, strK_mk, sliceK_mk, addrK_mk, tupK_mk, mapK_mk, sndK_mk, mkK_mk, cvK_int, ldN_zero, ldN_two, ldN_four, ldN_five, binK_add, binK_sub, binK_mul, binK_eql, binK_neq, binK_lss, binK_leq, binK_gtr, binK_geq, binK_seql, binK_sneq, binK_sadd, binK_beql, binK_bneq, binK_peql, binK_pneq, binK_leql, binK_lneq, lenK_slice, lenK_string, ex_slice, ex_pointer, inR_i64, inR_i32, gdK_bool, gdK_undef, Ty.all, Nat.reduceEqDiff, Nat.reduceAdd, Nat.reduceMul, if_false, if_true, ↓reduceIte, true_and, and_true, Int.toNat_natCast, Nat.add_zero, Nat.mul_one, Bool.false_eq_true, decide_eq_true_eq, decide_eq_false_iff_not, Option.isNone_some, Option.isNone_none, Option.isSome_some, Option.isSome_none, List.map_toArray, List.map_cons, List.map_nil, stK_eq, stR_int, stR_bool, stR_string, stR_pointer, stR_slice, exD_plain, exD_guard, exD_nil, stepD_true, stepD_false, needOp, pureOp, Bool.false_or, Bool.true_or, Bool.or_false, Bool.or_true, gval_succ, gval_zero, Bd.s22, Bd.s22b, Bd.s31, Bd.s30, Bd.s30b, Bd.s30e, Bd.s42, Bd.s66, Bd.s67, Bd.b49, Bd.b54, Bd.b79, Bd.b82, Bd.b77, Bd.b86, Bd.b74, decide_true, decide_false, reduceCtorEq, ne_eq, not_true_eq_false, not_false_eq_true, true_implies, false_implies, implies_true, cond_true, cond_false, Bool.not_true, Bool.not_false, stR_agg2, stR_agg4, stR_agg5, one_int, one_bool, one_string, one_pointer, one_slice, one_map, retK_mk, cells_agg, rowAt_alloc, setRow_alloc, ow_four, ow_five, List.getElem_toArray, List.getElem_cons_zero, List.getElem_cons_succ, List.size_toArray, List.length_cons, List.length_nil, Nat.reduceLeDiff, g23]
        · simp only [exL_plain, exL_guard, exL_nil, fx_move, fx_assign, fx_pick, fx_nilCheck, fx_load, fx_fieldAddr, fx_indexAddr, fx_binOp, fx_not, fx_convert, fx_slice, fx_extract, fx_lookup, fx_build, fx_len, fx_store, fx_alloc, fx_box, fx_makeMap, fx_makeSlice, fx_buildSlice, fx_mapUpdate, fx_append, fx_call, ev_tmp, ev_const, updo_some, updo_none, upd_apply, thenQ_normal, optK_some, optE_some, optE_none, ptrK_mk, intK_mk, boolK_mk, strK_mk, sliceK_mk, addrK_mk, tupK_mk, mapK_mk, sndK_mk, mkK_mk, cvK_int, ldN_zero, ldN_two, ldN_four, ldN_five, binK_add, binK_sub, binK_mul, binK_eql, binK_neq, binK_lss, binK_leq, binK_gtr, binK_geq, binK_seql, binK_sneq, binK_sadd, binK_beql, binK_bneq, binK_peql, binK_pneq, binK_leql, binK_lneq, lenK_slice, lenK_string, ex_slice, ex_pointer, inR_i64, inR_i32, gdK_bool, gdK_undef, Ty.all, Nat.reduceEqDiff, Nat.reduceAdd, Nat.reduceMul, if_false, if_true, ↓reduceIte, true_and, and_true, Int.toNat_natCast, Nat.add_zero, Nat.mul_one, Bool.false_eq_true, decide_eq_true_eq, decide_eq_false_iff_not, Option.isNone_some, Option.isNone_none, Option.isSome_some, Option.isSome_none, List.map_toArray, List.map_cons, List.map_nil, stK_eq, stR_int, stR_bool, stR_string, stR_pointer, stR_slice, exD_plain, exD_guard, exD_nil, stepD_true, stepD_false, needOp, pureOp, Bool.false_or, Bool.true_or, Bool.or_false, Bool.or_true, gval_succ, gval_zero, Bd.s22, Bd.s22b, Bd.s31, Bd.s30, Bd.s30b, Bd.s30e, Bd.s42, Bd.s66, Bd.s67, Bd.b49, Bd.b54, Bd.b79, Bd.b82, Bd.b77, Bd.b86, Bd.b74, decide_true, decide_false, reduceCtorEq, ne_eq, not_true_eq_false, not_false_eq_true, true_implies, false_implies, implies_true, cond_true, cond_false, Bool.not_true, Bool.not_false, stR_agg2, stR_agg4, stR_agg5, one_int, one_bool, one_string, one_pointer, one_slice, one_map, retK_mk, cells_agg, rowAt_alloc, setRow_alloc, ow_four, ow_five, List.getElem_toArray, List.getElem_cons_zero, List.getElem_cons_succ, List.size_toArray, List.length_cons, List.length_nil, Nat.reduceLeDiff, g24]
        · rw [stepJ_skip hc']
          exact hJ0.drew
      clear hK K
      have hc' : com.getD (S.R.getD i rd0).t.toNat false = true := by simpa using hc
      have hJd := hJ0.drew
      have hbd := hb.drew
      refine cwp_forget [0, 2, 23, 24, 3, 4] fun ρ hL => ?_
      have g0X := hL 0 (by simp)
      have g2X := hL 2 (by simp)
      have g23X := hL 23 (by simp)
      have g24X := hL 24 (by simp)
      have g3X := hL 3 (by simp)
      have g4X := hL 4 (by simp)
      clear hL
      simp only [upd_apply, Nat.reduceEqDiff, if_false, if_true, ↓reduceIte, g0, g2, g23, g24, g3, g4] at g0X g2X g23X g24X g3X g4X
      have g0 := g0X
      clear g0X
      have g2 := g2X
      clear g2X
      have g23 := g23X
      clear g23X
      have g24 := g24X
      clear g24X
      have g3 := g3X
      clear g3X
      have g4 := g4X
      clear g4X
      refine cwp_sr rfl fun K hK => ?_
      simp only [exL_plain, exL_guard, exL_nil, fx_move, fx_assign, fx_pick, fx_nilCheck, fx_load, fx_fieldAddr, fx_indexAddr, fx_binOp, fx_not, fx_convert, fx_slice, fx_extract, fx_lookup, fx_build, fx_len, fx_store, fx_alloc, fx_box, fx_makeMap, fx_makeSlice, fx_buildSlice, fx_mapUpdate, fx_append, fx_call, ev_tmp, ev_const, updo_some, updo_none, upd_apply, thenQ_normal, optK_some, optE_some, optE_none, ptrK_mk, intK_mk, boolK_mk, strK_mk, sliceK_mk, addrK_mk, tupK_mk, mapK_mk, sndK_mk, mkK_mk, cvK_int, ldN_zero, ldN_two, ldN_four, ldN_five, binK_add, binK_sub, binK_mul, binK_eql, binK_neq, binK_lss, binK_leq, binK_gtr, binK_geq, binK_seql, binK_sneq, binK_sadd, binK_beql, binK_bneq, binK_peql, binK_pneq, binK_leql, binK_lneq, lenK_slice, lenK_string, ex_slice, ex_pointer, inR_i64, inR_i32, gdK_bool, gdK_undef, Ty.all, Nat.reduceEqDiff, Nat.reduceAdd, Nat.reduceMul, if_false, if_true, ↓reduceIte, true_and, and_true, Int.toNat_natCast, Nat.add_zero, Nat.mul_one, Bool.false_eq_true, decide_eq_true_eq, decide_eq_false_iff_not, Option.isNone_some, Option.isNone_none, Option.isSome_some, Option.isSome_none, List.map_toArray, List.map_cons, List.map_nil, stK_eq, stR_int, stR_bool, stR_string, stR_pointer, stR_slice, exD_plain, exD_guard, exD_nil, stepD_true, stepD_false, needOp, pureOp, Bool.false_or, Bool.true_or, Bool.or_false, Bool.or_true, gval_succ, gval_zero, Bd.s22, Bd.s22b, Bd.s31, Bd.s30, Bd.s30b, Bd.s30e, Bd.s42, Bd.s66, Bd.s67, Bd.b49, Bd.b54, Bd.b79, Bd.b82, Bd.b77, Bd.b86, Bd.b74, decide_true, decide_false, reduceCtorEq, ne_eq, not_true_eq_false, not_false_eq_true, true_implies, false_implies, implies_true, cond_true, cond_false, Bool.not_true, Bool.not_false, stR_agg2, stR_agg4, stR_agg5, one_int, one_bool, one_string, one_pointer, one_slice, one_map, retK_mk, cells_agg, rowAt_alloc, setRow_alloc, ow_four, ow_five, List.getElem_toArray, List.getElem_cons_zero, List.getElem_cons_succ, List.size_toArray, List.length_cons, List.length_nil, Nat.reduceLeDiff]
      repeat (refine ⟨by omega, ?_⟩)
      refine hK _ _ ?_
      clear hK K
      refine cwp_forget [0, 2, 23, 24, 3, 4, 5, 6, 7] fun ρ hL => ?_
      have g0X := hL 0 (by simp)
      have g2X := hL 2 (by simp)
      have g23X := hL 23 (by simp)
      have g24X := hL 24 (by simp)
      have g3X := hL 3 (by simp)
      have g4X := hL 4 (by simp)
      have g5X := hL 5 (by simp)
      have g6X := hL 6 (by simp)
      have g7X := hL 7 (by simp)
      clear hL
      simp only [upd_apply, Nat.reduceEqDiff, if_false, if_true, ↓reduceIte, g0, g2, g23, g24, g3, g4] at g0X g2X g23X g24X g3X g4X g5X g6X g7X
      have g0 := g0X
      clear g0X
      have g2 := g2X
      clear g2X
      have g23 := g23X
      clear g23X
      have g24 := g24X
      clear g24X
      have g3 := g3X
      clear g3X
      have g4 := g4X
      clear g4X
      have g5 := g5X
      clear g5X
      have g6 := g6X
      clear g6X
      have g7 := g7X
      clear g7X
      generalize wr.drew = w2 at *
      clear hM1 hFd1 hcom1 hstm1 c6 c1' hcc r0 hrc hJ0 hb
      have hrun := stepJ_run (X := (S, F, st)) hc'
      dsimp only at hrun
      have hrl : ∀ n ∈ rdL S (S.R.getD i rd0), 0 ≤ n ∧ n < S.W.length := fun n hn => hG.ll n (List.mem_of_mem_drop (List.mem_of_mem_take hn))
      have hab := stepN_ab (i := i) (com := com) hG.wm (rdL S (S.R.getD i rd0)) (st, false, false, -1) hrl (by dsimp only; omega)
      refine cwp_seq fun K hK => ?_
      refine judgeN hJd hG hcm hsl hlt' hb1' hb2' hb3' hb4 g0 g2 g3 g4 g23 g24 g5 g6 g7 (fun _ _ _ h => h) ?_
      clear g0 g2 g3 g4 g23 g24 g5 g6 g7 hJd
      generalize (rdL S (S.R.getD i rd0)).foldl (stepN i S.W com) (st, false, false, -1) = y at *
      intro ρ w3 g0 g2 g3 g4 g23 g24 g5 g6 g7 hb3x hJ3
      refine hK _ _ ?_
      clear hK K
      have hb3 := hbd.trans hb3x
      clear hb3x hbd
      refine cwp_seq fun K hK => ?_
      refine judge5 hJ3 hG hcm hFG (fun _ => by omega) hlt' hb1' hb2' hb3' hb4 g0 g2 g3 g4 g23 g24 g5 g6 g7 (fun _ _ _ h => h) ?_
      clear g0 g2 g3 g4 g23 g24 g5 g6 g7 hJ3
      intro ρ w4 g0 g2 g3 g4 g23 g24 g5 g6 g7 hb4x hJ4
      refine hK _ _ ?_
      clear hK K
      have hb4' := hb3.trans hb4x
      have hFG1 := FG_if (a := 4) (l := [(S.R.getD i rd0).t]) hFG (by simp) (y.2.1 = true)
      refine cwp_seq fun K hK => ?_
      refine judge6 hJ4 hG hcm hFG1 (fun _ => by omega) hlt' hb1' hb2' hb3' hb4 g0 g2 g3 g4 g23 g24 g5 g6 g7 (fun _ _ _ h => h) ?_
      clear g0 g2 g3 g4 g23 g24 g5 g6 g7 hJ4
      intro ρ w5 g0 g2 g3 g4 g23 g24 g5 g6 g7 hb5x hJ5
      refine hK _ _ ?_
      clear hK K
      have hb5' := hb4'.trans hb5x
      have hFG2 := FG_if (a := 5) (l := [(S.R.getD i rd0).t]) hFG1 (by simp) (y.2.2.1 = true)
      refine cwp_seq fun K hK => ?_
      refine judge7 hJ5 hG hcm hFG2 (fun _ => by omega) hlt' hb1' hb2' hb3' hb4 g0 g2 g3 g4 g23 g24 g5 g6 g7 (fun _ _ _ h => h) hab ?_
      clear g0 g2 g3 g4 g23 g24 g5 g6 g7 hJ5
      intro ρ w6 g0 g2 g3 g4 g23 g24 g5 g6 g7 hb6x hJ6
      refine hK _ _ ?_
      clear hK K
      have hb6' := hb5'.trans hb6x
      have hFG3 := FG_if (a := 1) (l := [(S.R.getD i rd0).t, y.2.2.2]) hFG2 (by simp) (0 ≤ y.2.2.2)
      refine cwp_seq fun K hK => ?_
      refine judge8 hJ6 hG hcm hFG3 (fun _ => by omega) hlt' hb1' hb2' hb3' hb4 g0 g2 g3 g4 g23 g24 g5 g6 g7 (fun _ _ _ h => h) ?_
      clear g0 g2 g3 g4 g23 g24 g5 g6 g7 hJ6
      intro ρ w7 g0 g2 g3 g4 g23 g24 g5 g6 g7 hb7x hJ7
      refine hK _ _ ?_
      clear hK K
      have hb7' := hb6'.trans hb7x
      refine judge9 hJ7 hG hlgs hlt' hb1' hb2' g0 g2 g3 g4 g23 g24 g5 g6 (fun _ _ _ h => h) ?_
      clear g0 g2 g3 g4 g23 g24 g5 g6 g7 hJ7
      intro ρ w8 g0 g2 g3 g4 g23 g24 hb8x hJ8
      simp only [blkQ_normal, thenQ_normal]
      refine hK3 _ _ g0 g2 g23 g24 (hb7'.trans hb8x) ?_
      rw [hrun]
      exact hJ8
    · obtain rfl : i = X0.1.R.length := by omega
      exact ⟨hb, hJ⟩
  · rintro ρ wr ⟨hb, hJ⟩
    obtain ⟨lay1, c1, hL, ⟨fd1, C1, xo1, hM1, hFd1⟩, hcom1, hstm1⟩ := hJ
    exact endQ_zero rfl ⟨rfl, hb, lay1, c1, fd1, C1, xo1, (hL 0 (by omega) (by omega)).trans e0, hM1, hFd1, hcom1⟩
end Go.Proofs.Qxb6001346a
