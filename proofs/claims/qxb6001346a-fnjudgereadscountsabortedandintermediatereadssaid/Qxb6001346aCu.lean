/-
  The state in memory, turned.
-/
import Derived.Test.Qxb6001346aCp
namespace Go.Proofs.Qxb6001346a
open Fw Go.RowKit
set_option linter.unusedSimpArgs false
set_option linter.unusedVariables false

/-- An element of a row of one-cell values: read, written. -/
theorem RowV.get {lay : Nat → Nat} {c : Nat → Option AO} {r e n : Nat} {v : Value} {xs : List Value} {N : Nat} {w : World} (hS : St N w lay c) (h : RowV lay c r e 1 v n xs) {i : Nat} (hi : i < n) :
    ∃ cap, v = .slice (some ⟨lay r, 0, none⟩) n cap ∧ w.cell? ⟨lay r, i, none⟩ = xs[i]? := by
  obtain ⟨hl, h⟩ := h
  rcases h with ⟨_, h0, _⟩ | ⟨cap, cur, hv, hc, h1, h2, h3, h4⟩
  · omega
  · refine ⟨cap, hv, ?_⟩
    rw [hS.cell hc i, ← h4]
    simp only [Nat.mul_one]
    rw [List.getElem?_take, if_pos hi, Array.getElem?_toList]
theorem RowV.set {lay : Nat → Nat} {c : Nat → Option AO} {r e n : Nat} {v : Value} {xs : List Value} {N : Nat} {w : World} (hS : St N w lay c) (h : RowV lay c r e 1 v n xs) {i : Nat} (hi : i < n) :
    ∃ cap cur, v = .slice (some ⟨lay r, 0, none⟩) n cap ∧ c r = some (.inl (cur, e)) ∧ i < cur.size ∧ ∀ x : Value, RowV lay (updC c r (.inl (cur.setIfInBounds i x, e))) r e 1 v n (xs.set i x) := by
  obtain ⟨hl, h⟩ := h
  rcases h with ⟨_, h0, _⟩ | ⟨cap, cur, hv, hc, h1, h2, h3, h4⟩
  · omega
  · refine ⟨cap, cur, hv, hc, by omega, fun x => ⟨by simpa using hl, .inr ⟨cap, cur.setIfInBounds i x, hv, by simp [updC], h1, h2, by simpa using h3, ?_⟩⟩⟩
    rw [← h4, Array.toList_setIfInBounds, List.take_set]

section
variable {N : Nat} {w : World} {lay : Nat → Nat} {c : Nat → Option AO} {tv cv : Value} {fd : Nat → Option Value} {S : CSt} {C : Array Value} {ov wv iv rv lv : Value} {xo : List Value}

/-- A key's own cells turned (its name stays). -/
theorem CM.setKs (h : CM N w lay c tv cv fd S C ov wv iv rv lv xo) {w' : World} {c' : Nat → Option AO} {j : Nat} {x : KS} (hj : j < S.K.length) (hname : x.name = (S.K.getD j ks0).name) (hS : St N w' lay c') (hN : N ≤ w'.heap.size)
    (h40 : c' (40 + 2 * j) = some (.inl (ksCells lay j x, 86))) (h41 : c' (41 + 2 * j) = some (.inr (valEnts x.vals))) (ho : ∀ r, r ≠ 40 + 2 * j → r ≠ 41 + 2 * j → c' r = c r) :
    CM N w' lay c' tv cv fd { S with K := S.K.set j x } C ov wv iv rv lv xo := by
  refine { st := hS, hc := ?_, cc := h.cc, fnd := h.fnd, keys := ⟨?_, fun i hi => ?_⟩, wr := ?_, im := ?_, rd := ?_, li := ?_, od := ?_, rk := ?_, nb := hN }
  · rw [ho 0 (by omega) (by omega)]; exact h.hc
  · rw [ho 1 (by omega) (by omega), h.keys.1]
    have ents : ∀ (K : List KS) (k j : Nat) (x : KS), x.name = (K.getD j ks0).name → keyEntsFrom lay k (K.set j x) = keyEntsFrom lay k K := by
      intro K
      induction K with
      | nil => intros; rfl
      | cons y K ih =>
        intro k j x hx
        cases j with
        | zero => simp [keyEntsFrom, List.set]; simpa using hx
        | succ j => simp only [List.set_cons_succ, keyEntsFrom]; rw [ih (k + 1) j x (by simpa using hx)]
    rw [ents _ _ _ _ hname]
  · have hi' : i < S.K.length := by simpa using hi
    by_cases hij : i = j
    · subst hij
      have e : (S.K.set i x).getD i ks0 = x := by simp [List.getD_eq_getElem?_getD, hi']
      rw [e]
      exact ⟨h40, h41⟩
    · have e : (S.K.set j x).getD i ks0 = S.K.getD i ks0 := by simp [List.getD_eq_getElem?_getD, List.getElem?_set, Ne.symm hij]
      rw [e, ho _ (by omega) (by omega), ho _ (by omega) (by omega)]
      exact h.keys.2 i hi'
  · exact h.wr.congr rfl (ho 2 (by omega) (by omega))
  · exact h.im.congr rfl (ho 3 (by omega) (by omega))
  · exact h.rd.congr rfl (ho 4 (by omega) (by omega))
  · exact h.li.congr rfl (ho 5 (by omega) (by omega))
  · simp only [List.length_set]
    exact h.od.congr rfl (ho 6 (by omega) (by omega))
  · simpa using h.rk

/-- An intermediate mark set. -/
theorem CM.setI (h : CM N w lay c tv cv fd S C ov wv iv rv lv xo) {w' : World} {c' : Nat → Option AO} {i : Nat} {x : Bool} (hS : St N w' lay c') (hN : N ≤ w'.heap.size)
    (hr : RowV lay c' 3 4 1 iv S.I.length ((S.I.map .bool).set i (.bool x))) (ho : ∀ r, r ≠ 3 → c' r = c r) : CM N w' lay c' tv cv fd { S with I := S.I.set i x } C ov wv iv rv lv xo := by
  refine { st := hS, hc := ?_, cc := h.cc, fnd := h.fnd, keys := h.keys.congr (ho 1 (by omega)) fun r h1 h2 => ⟨rfl, ho r (by omega)⟩, wr := ?_, im := ?_, rd := ?_, li := ?_, od := ?_, rk := h.rk, nb := hN }
  · rw [ho 0 (by omega)]; exact h.hc
  · exact h.wr.congr rfl (ho 2 (by omega))
  · simpa [List.map_set] using hr
  · exact h.rd.congr rfl (ho 4 (by omega))
  · exact h.li.congr rfl (ho 5 (by omega))
  · exact h.od.congr rfl (ho 6 (by omega))

theorem CM.apW (h : CM N w lay c tv cv fd S C ov wv iv rv lv xo) {w' : World} {lay' : Nat → Nat} {c' : Nat → Option AO} {V : Value} (x : Int) (hS : St N w' lay' c') (hN : N ≤ w'.heap.size) (ho : ∀ s, s ≠ 2 → lay' s = lay s ∧ c' s = c s)
    (hr : RowV lay' c' 2 21 1 V (S.W.length + 1) ((S.W.map fun n => .int .i32 n) ++ [.int .i32 x])) :
    CM N (w'.setRow (lay 0) (C.setIfInBounds 4 V)) lay' (updC c' 0 (.inl (C.setIfInBounds 4 V, 74))) tv cv fd { S with W := S.W ++ [x] } (C.setIfInBounds 4 V) ov V iv rv lv xo := by
  have hc0 : c' 0 = some (.inl (C, 74)) := by rw [(ho 0 (by omega)).2]; exact h.hc
  have l0 : lay' 0 = lay 0 := (ho 0 (by omega)).1
  have hcx : ∀ s, s ≠ 2 → s ≠ 0 → updC c' 0 (.inl (C.setIfInBounds 4 V, 74)) s = c s := fun s h1 h2 => by simp only [updC, if_neg h2]; exact (ho s h1).2
  have hlx : ∀ s, s ≠ 2 → lay' s = lay s := fun s h1 => (ho s h1).1
  refine { st := ?_, hc := by simp [updC], cc := ?_, fnd := ?_, keys := ?_, wr := ?_, im := ?_, rd := ?_, li := ?_, od := ?_, rk := h.rk, nb := by simpa using hN }
  · have := hS.set hc0 (C.setIfInBounds 4 V)
    rw [l0] at this
    exact this
  · rw [hlx 1 (by omega)]; exact h.cc.set4 _
  · intro i hi
    rw [Array.getElem?_setIfInBounds_ne (by omega)]
    exact h.fnd i hi
  · exact h.keys.congr (hcx 1 (by omega) (by omega)) fun r h1 h2 => ⟨hlx r (by omega), hcx r (by omega) (by omega)⟩
  · simp only [List.length_append, List.length_cons, List.length_nil, List.map_append, List.map_cons, List.map_nil]
    exact hr.congr rfl (by simp [updC])
  · exact h.im.congr (hlx 3 (by omega)) (hcx 3 (by omega) (by omega))
  · rw [rdCells_congr h.rk fun j _ => hlx (40 + 2 * j) (by omega)]
    exact h.rd.congr (hlx 4 (by omega)) (hcx 4 (by omega) (by omega))
  · exact h.li.congr (hlx 5 (by omega)) (hcx 5 (by omega) (by omega))
  · exact h.od.congr (hlx 6 (by omega)) (hcx 6 (by omega) (by omega))

theorem CM.apI (h : CM N w lay c tv cv fd S C ov wv iv rv lv xo) {w' : World} {lay' : Nat → Nat} {c' : Nat → Option AO} {V : Value} (x : Bool) (hS : St N w' lay' c') (hN : N ≤ w'.heap.size) (ho : ∀ s, s ≠ 3 → lay' s = lay s ∧ c' s = c s)
    (hr : RowV lay' c' 3 4 1 V (S.I.length + 1) ((S.I.map .bool) ++ [.bool x])) :
    CM N (w'.setRow (lay 0) (C.setIfInBounds 5 V)) lay' (updC c' 0 (.inl (C.setIfInBounds 5 V, 74))) tv cv fd { S with I := S.I ++ [x] } (C.setIfInBounds 5 V) ov wv V rv lv xo := by
  have hc0 : c' 0 = some (.inl (C, 74)) := by rw [(ho 0 (by omega)).2]; exact h.hc
  have l0 : lay' 0 = lay 0 := (ho 0 (by omega)).1
  have hcx : ∀ s, s ≠ 3 → s ≠ 0 → updC c' 0 (.inl (C.setIfInBounds 5 V, 74)) s = c s := fun s h1 h2 => by simp only [updC, if_neg h2]; exact (ho s h1).2
  have hlx : ∀ s, s ≠ 3 → lay' s = lay s := fun s h1 => (ho s h1).1
  refine { st := ?_, hc := by simp [updC], cc := ?_, fnd := ?_, keys := ?_, wr := ?_, im := ?_, rd := ?_, li := ?_, od := ?_, rk := h.rk, nb := by simpa using hN }
  · have := hS.set hc0 (C.setIfInBounds 5 V)
    rw [l0] at this
    exact this
  · rw [hlx 1 (by omega)]; exact h.cc.set5 _
  · intro i hi
    rw [Array.getElem?_setIfInBounds_ne (by omega)]
    exact h.fnd i hi
  · exact h.keys.congr (hcx 1 (by omega) (by omega)) fun r h1 h2 => ⟨hlx r (by omega), hcx r (by omega) (by omega)⟩
  · exact h.wr.congr (hlx 2 (by omega)) (hcx 2 (by omega) (by omega))
  · simp only [List.length_append, List.length_cons, List.length_nil, List.map_append, List.map_cons, List.map_nil]
    exact hr.congr rfl (by simp [updC])
  · rw [rdCells_congr h.rk fun j _ => hlx (40 + 2 * j) (by omega)]
    exact h.rd.congr (hlx 4 (by omega)) (hcx 4 (by omega) (by omega))
  · exact h.li.congr (hlx 5 (by omega)) (hcx 5 (by omega) (by omega))
  · exact h.od.congr (hlx 6 (by omega)) (hcx 6 (by omega) (by omega))

theorem CM.apL (h : CM N w lay c tv cv fd S C ov wv iv rv lv xo) {w' : World} {lay' : Nat → Nat} {c' : Nat → Option AO} {V : Value} (x : Int) (hS : St N w' lay' c') (hN : N ≤ w'.heap.size) (ho : ∀ s, s ≠ 5 → lay' s = lay s ∧ c' s = c s)
    (hr : RowV lay' c' 5 21 1 V (S.L.length + 1) ((S.L.map fun n => .int .i32 n) ++ [.int .i32 x])) :
    CM N (w'.setRow (lay 0) (C.setIfInBounds 7 V)) lay' (updC c' 0 (.inl (C.setIfInBounds 7 V, 74))) tv cv fd { S with L := S.L ++ [x] } (C.setIfInBounds 7 V) ov wv iv rv V xo := by
  have hc0 : c' 0 = some (.inl (C, 74)) := by rw [(ho 0 (by omega)).2]; exact h.hc
  have l0 : lay' 0 = lay 0 := (ho 0 (by omega)).1
  have hcx : ∀ s, s ≠ 5 → s ≠ 0 → updC c' 0 (.inl (C.setIfInBounds 7 V, 74)) s = c s := fun s h1 h2 => by simp only [updC, if_neg h2]; exact (ho s h1).2
  have hlx : ∀ s, s ≠ 5 → lay' s = lay s := fun s h1 => (ho s h1).1
  refine { st := ?_, hc := by simp [updC], cc := ?_, fnd := ?_, keys := ?_, wr := ?_, im := ?_, rd := ?_, li := ?_, od := ?_, rk := h.rk, nb := by simpa using hN }
  · have := hS.set hc0 (C.setIfInBounds 7 V)
    rw [l0] at this
    exact this
  · rw [hlx 1 (by omega)]; exact h.cc.set7 _
  · intro i hi
    rw [Array.getElem?_setIfInBounds_ne (by omega)]
    exact h.fnd i hi
  · exact h.keys.congr (hcx 1 (by omega) (by omega)) fun r h1 h2 => ⟨hlx r (by omega), hcx r (by omega) (by omega)⟩
  · exact h.wr.congr (hlx 2 (by omega)) (hcx 2 (by omega) (by omega))
  · exact h.im.congr (hlx 3 (by omega)) (hcx 3 (by omega) (by omega))
  · rw [rdCells_congr h.rk fun j _ => hlx (40 + 2 * j) (by omega)]
    exact h.rd.congr (hlx 4 (by omega)) (hcx 4 (by omega) (by omega))
  · simp only [List.length_append, List.length_cons, List.length_nil, List.map_append, List.map_cons, List.map_nil]
    exact hr.congr rfl (by simp [updC])
  · exact h.od.congr (hlx 6 (by omega)) (hcx 6 (by omega) (by omega))

theorem CM.apR (h : CM N w lay c tv cv fd S C ov wv iv rv lv xo) {w' : World} {lay' : Nat → Nat} {c' : Nat → Option AO} {V : Value} (x : Rd) (hx : x.kj < S.K.length) (hS : St N w' lay' c') (hN : N ≤ w'.heap.size) (ho : ∀ s, s ≠ 4 → lay' s = lay s ∧ c' s = c s)
    (hr : RowV lay' c' 4 77 5 V (S.R.length + 1) ((S.R.flatMap (rdCells lay)) ++ rdCells lay x)) :
    CM N (w'.setRow (lay 0) (C.setIfInBounds 6 V)) lay' (updC c' 0 (.inl (C.setIfInBounds 6 V, 74))) tv cv fd { S with R := S.R ++ [x] } (C.setIfInBounds 6 V) ov wv iv V lv xo := by
  have hc0 : c' 0 = some (.inl (C, 74)) := by rw [(ho 0 (by omega)).2]; exact h.hc
  have l0 : lay' 0 = lay 0 := (ho 0 (by omega)).1
  have hcx : ∀ s, s ≠ 4 → s ≠ 0 → updC c' 0 (.inl (C.setIfInBounds 6 V, 74)) s = c s := fun s h1 h2 => by simp only [updC, if_neg h2]; exact (ho s h1).2
  have hlx : ∀ s, s ≠ 4 → lay' s = lay s := fun s h1 => (ho s h1).1
  have hrk : ∀ r ∈ S.R ++ [x], r.kj < S.K.length := by
    intro r hr
    simp only [List.mem_append, List.mem_cons, List.not_mem_nil, or_false] at hr
    rcases hr with hr | rfl
    · exact h.rk r hr
    · exact hx
  refine { st := ?_, hc := by simp [updC], cc := ?_, fnd := ?_, keys := ?_, wr := ?_, im := ?_, rd := ?_, li := ?_, od := ?_, rk := hrk, nb := by simpa using hN }
  · have := hS.set hc0 (C.setIfInBounds 6 V)
    rw [l0] at this
    exact this
  · rw [hlx 1 (by omega)]; exact h.cc.set6 _
  · intro i hi
    rw [Array.getElem?_setIfInBounds_ne (by omega)]
    exact h.fnd i hi
  · exact h.keys.congr (hcx 1 (by omega) (by omega)) fun r h1 h2 => ⟨hlx r (by omega), hcx r (by omega) (by omega)⟩
  · exact h.wr.congr (hlx 2 (by omega)) (hcx 2 (by omega) (by omega))
  · exact h.im.congr (hlx 3 (by omega)) (hcx 3 (by omega) (by omega))
  · rw [rdCells_congr hrk fun j _ => hlx (40 + 2 * j) (by omega)]
    simp only [List.length_append, List.length_cons, List.length_nil, List.flatMap_append, List.flatMap_cons, List.flatMap_nil, List.append_nil]
    exact hr.congr rfl (by simp [updC])
  · exact h.li.congr (hlx 5 (by omega)) (hcx 5 (by omega) (by omega))
  · exact h.od.congr (hlx 6 (by omega)) (hcx 6 (by omega) (by omega))

end

theorem fpre_len {T : List LTx} {i j : Nat} (hj : j ≤ (T.getD i tx0).ops.length) : j ≤ (fpre T i j).length := by
  simp only [fpre, List.length_append, List.length_map, List.length_take]
  omega

/-! the parts of a function's code -/
def bodyOf (fn : Func) : Code := fn.body.getD .skip
def seqL : Code → Code
  | .seq a _ => a
  | c => c
def seqR : Code → Code
  | .seq _ b => b
  | c => c
def seqN : Nat → Code → Code
  | 0, c => c
  | n + 1, c => seqN n (seqR c)
end Go.Proofs.Qxb6001346a
