/-
  Append onto a row of the call's own; guards; long regions in pieces; rows read.
-/
import Derived.Test.Qxb6001426aDa
import Derived.Test.Qxb6001426aShelf
import Derived.Maps.AppendAt
import Derived.Laws.OwnMore
namespace Go.Proofs.Qxb6001426a
open Fw Go.RowKit
set_option linter.unusedSimpArgs false
set_option linter.unusedVariables false

theorem bslK_eq {P : Program} {T n : Nat} {ps : Array (Nat × Value)} {cs : Array Value} {e : TypeId} (h : ∀ w, (Instr.buildSlice T n ps).run P w = .ok (.slice (some ⟨w.heap.size, 0, none⟩) n n) (w.alloc (.cells cs e)))
    (k : Array Value → TypeId → Prop) : bslK P T n ps k = k cs e := by
  apply propext
  constructor
  · rintro ⟨cs', e', hr, hk⟩
    have h1 := (hr default).symm.trans (h default)
    injection h1 with _ h2
    have h3 : (default : World).heap.push (.cells cs' e') = (default : World).heap.push (.cells cs e) := congrArg World.heap h2
    have h4 := Array.push_inj_right.1 h3
    injection h4 with h5 h6
    rw [← h5, ← h6]; exact hk
  · exact fun hk => ⟨cs, e, h, hk⟩
theorem bldK_eq {P : Program} {T : Nat} {ps : Array (Nat × Value)} {v : Value} (h : ∀ w, (Instr.build T ps).run P w = .ok v w) (k : Value → Prop) : bldK P T ps k = k v := by
  apply propext
  constructor
  · rintro ⟨v', hr, hk⟩
    have h1 := (hr default).symm.trans (h default)
    injection h1 with h2 _
    rw [← h2]; exact hk
  · exact fun hk => ⟨v, h, hk⟩
/-- One element appended to a row of the call's own. -/
theorem ap_one {P : Program} {N : Nat} {w : World} {lay : Nat → Nat} {c : Nat → Option AO} (h : St N w lay c) {r t ty e size bytes n : Nat} {z v : Value} {xs : List Value} (hv : RowV lay c r e size v n xs)
    (ht : slcZ P t = some (e, z, bytes, size)) (hz : z.cells.size = size) (hs0 : 0 < size) (cs : List Value) (hl : cs.length = size) (h1 : cs.all one = true) (hn : n ≤ 1073741824) (hby : bytes ≤ 4096) (hN : N ≤ w.heap.size)
    {k : Value → World → Prop} (hk : ∀ v' w' lay' c', St N w' lay' c' → RowV lay' c' r e size v' (n + 1) (xs ++ cs) → (∀ s, s ≠ r → lay' s = lay s ∧ c' s = c s) → (∃ cap, v' = .slice (some ⟨lay' r, 0, none⟩) (n + 1) cap) → Below N w w' → k v' w') :
    apK P (w.alloc (.cells cs.toArray e)) #[t, t] ty #[v, .slice (some ⟨w.heap.size, 0, none⟩) 1 1] k := by
  have hi : ∃ i, P.underlying t = some (.slice e) ∧ P.info? e = some i ∧ i.zero = some z ∧ i.size = size ∧ i.bytes = bytes := by
    unfold slcZ at ht
    split at ht
    · rename_i e' hu
      split at ht
      · rename_i i hi
        split at ht
        · rename_i z' hz'
          cases ht
          exact ⟨i, hu, hi, hz', rfl, rfl⟩
        · cases ht
      · cases ht
    · cases ht
  obtain ⟨i, hu, hi, hiz, his, hib⟩ := hi
  have hS := h.alloc (.cells cs.toArray e)
  have hb : (n + 1) * bytes ≤ 140737488355328 := Nat.le_trans (Nat.mul_le_mul (show n + 1 ≤ 1073741825 by omega) hby) (by omega)
  have hnews : ∀ j u, cs[j]? = some u → (w.alloc (.cells cs.toArray e)).cell? ((⟨w.heap.size, 0, none⟩ : Addr).add j) = some u := by
    intro j u hj
    rw [add_mk, cell_row (heap_new w _)]
    simpa using hj
  have hone : ∀ u ∈ cs, u.oneCell' = true := fun u hu => (one_eq (List.all_eq_true.1 h1 u hu)).2
  obtain ⟨v', w', hr, hown, hg, hnil, hat⟩ := run_append_own_at (P := P) (w.alloc (.cells cs.toArray e)) N t ty e i z size bytes hu hi hiz his hib hz hs0 v n xs (RowV.owns hS hv) ⟨w.heap.size, 0, none⟩ 1 1 cs (by simpa using hl) hnews hone
    (by unfold maxLen; omega) hb (by simp; omega)
  refine ⟨v', w', hr, ?_⟩
  obtain ⟨hlen, hown⟩ := hown
  rcases hown with ⟨_, h0⟩ | ⟨g, cap, cur, hv', hg1, hg2, hg3, hg4, hg5, hg6⟩
  · omega
  subst hv'
  have hvw : view w' g = some (.inl (cur, e)) := view_row.2 hg2
  have hrow : ∀ (lay' : Nat → Nat) (c' : Nat → Option AO), lay' r = g → c' r = some (.inl (cur, e)) → RowV lay' c' r e size (.slice (some ⟨g, 0, none⟩) (n + 1) cap) (n + 1) (xs ++ cs) := fun lay' c' e1 e2 =>
    ⟨hlen, .inr ⟨cap, cur, by rw [e1], e2, hg3, hg4, hg5, hg6⟩⟩
  have hbel : Below N w w' := ((Below.refl _ _).alloc hN _).grown hg (by simp; omega) (by
    intro k hk
    rcases hv.2 with ⟨rfl, _, _⟩ | ⟨cap0, cur0, rfl, hc0, _⟩
    · simp [Value.ownBlock] at hk
    · simp [Value.ownBlock] at hk; rw [← hk]; exact h.ge hc0)
  rcases hat with hat | hat
  · -- the old row had room
    rcases hv.2 with ⟨rfl, _, _⟩ | ⟨cap0, cur0, rfl, hc0, _⟩
    · simp [Value.ownBlock] at hat
    · simp [Value.ownBlock] at hat
      subst hat
      refine hk _ _ lay (updC c r (.inl (cur, e))) (h.turn hc0 hvw fun k hk1 hk2 => view_of_heap ?_) (hrow _ _ rfl (by simp [updC])) (fun s hs => ⟨rfl, by simp [updC, hs]⟩) ⟨cap, rfl⟩ hbel
      rw [hg.block k (by simp; omega) (by simp [Value.ownBlock]; exact hk2)]
      exact Below.heap_alloc _ _ _ hk1
  · -- a new row
    simp [Value.ownBlock] at hat
    refine hk _ _ (updN lay r g) (updC c r (.inl (cur, e))) (h.put r g _ hg1 (by omega) hvw fun s x hs hx => view_of_heap ?_) (hrow _ _ (by simp [updN]) (by simp [updC])) (fun s hs => ⟨by simp [updN, hs], by simp [updC, hs]⟩) ⟨cap, by simp [updN]⟩ hbel
    have hlt := h.lt hx
    rw [hg.block (lay s) (by simp; omega) ?_]
    · exact Below.heap_alloc _ _ _ hlt
    · rcases hv.2 with ⟨rfl, _, _⟩ | ⟨cap0, cur0, rfl, hc0, _⟩
      · simp [Value.ownBlock]
      · simp [Value.ownBlock]
        exact fun he => hs (h.2 _ _ _ _ hx hc0 he)
theorem RowV.congr {lay lay' : Nat → Nat} {c c' : Nat → Option AO} {r e size n : Nat} {v : Value} {xs : List Value} (h : RowV lay c r e size v n xs) (h1 : lay' r = lay r) (h2 : c' r = c r) : RowV lay' c' r e size v n xs := by
  obtain ⟨hl, h⟩ := h
  refine ⟨hl, ?_⟩
  rcases h with ⟨a, b, d⟩ | ⟨cap, cur, a, b, d⟩
  · exact .inl ⟨a, b, by rw [h2]; exact d⟩
  · exact .inr ⟨cap, cur, by rw [h1]; exact a, by rw [h2]; exact b, d⟩
/-- An element of a row of one-cell values: read, written. -/
theorem RowV.get {lay : Nat → Nat} {c : Nat → Option AO} {r e n : Nat} {v : Value} {xs : List Value} {N : Nat} {w : World} (hS : St N w lay c) (h : RowV lay c r e 1 v n xs) {i : Nat} (hi : i < n) :
    ∃ cap, v = .slice (some ⟨lay r, 0, none⟩) n cap ∧ w.cell? ⟨lay r, i, none⟩ = xs[i]? := by
  obtain ⟨hl, h⟩ := h
  rcases h with ⟨_, h0, _⟩ | ⟨cap, cur, hv, hc, h1, h2, h3, h4⟩
  · omega
  · refine ⟨cap, hv, ?_⟩
    rw [hS.cell hc i, ← h4]
    simp only [Nat.mul_one]
    rw [List.getElem?_take, if_pos hi, Array.getElem?_toList]
theorem RowV.set {lay : Nat → Nat} {c : Nat → Option AO} {r e n : Nat} {v : Value} {xs : List Value} {N : Nat} {w : World} (hS : St N w lay c) (h : RowV lay c r e 1 v n xs) {i : Nat} (hi : i < n) :
    ∃ cap cur, v = .slice (some ⟨lay r, 0, none⟩) n cap ∧ c r = some (.inl (cur, e)) ∧ i < cur.size ∧ ∀ x : Value, RowV lay (updC c r (.inl (cur.setIfInBounds i x, e))) r e 1 v n (xs.set i x) := by
  obtain ⟨hl, h⟩ := h
  rcases h with ⟨_, h0, _⟩ | ⟨cap, cur, hv, hc, h1, h2, h3, h4⟩
  · omega
  · refine ⟨cap, cur, hv, hc, by omega, fun x => ⟨by simpa using hl, .inr ⟨cap, cur.setIfInBounds i x, hv, by simp [updC], h1, h2, by simpa using h3, ?_⟩⟩⟩
    rw [← h4, Array.toList_setIfInBounds, List.take_set]
def bodyOf (fn : Func) : Code := fn.body.getD .skip
def seqL : Code → Code
  | .seq a _ => a
  | c => c
def seqR : Code → Code
  | .seq _ b => b
  | c => c
def seqN : Nat → Code → Code
  | 0, c => c
  | n + 1, c => seqN n (seqR c)
theorem St.new' {N : Nat} {w : World} {lay : Nat → Nat} {c : Nat → Option AO} (h : St N w lay c) (hN : N ≤ w.heap.size) (r : Nat) (arr : Array Value) (e : TypeId) :
    ∃ lay' c', St N (w.alloc (.cells arr e)) lay' c' ∧ lay' r = w.heap.size ∧ c' r = some (.inl (arr, e)) ∧ ∀ s, s ≠ r → lay' s = lay s ∧ c' s = c s :=
  ⟨_, _, h.new hN r arr e, by simp [updN], by simp [updC], fun s hs => ⟨by simp [updN, hs], by simp [updC, hs]⟩⟩
theorem St.set' {N : Nat} {w : World} {lay : Nat → Nat} {c : Nat → Option AO} (h : St N w lay c) {r : Nat} {arr : Array Value} {e : TypeId} (hr : c r = some (.inl (arr, e))) (arr' : Array Value) :
    ∃ c', St N (w.setRow (lay r) arr') lay c' ∧ c' r = some (.inl (arr', e)) ∧ ∀ s, s ≠ r → c' s = c s :=
  ⟨_, h.set hr arr', by simp [updC], fun s hs => by simp [updC, hs]⟩
theorem RowV.made (lay : Nat → Nat) (c : Nat → Option AO) {r e size cap : Nat} {z : Array Value} {b : Nat} (hb : lay r = b) (hc : c r = some (.inl (madeCells z (cap * size), e))) (h : cap ≤ 1000000) : RowV lay c r e size (.slice (some ⟨b, 0, none⟩) 0 cap) 0 [] :=
  ⟨by simp, .inr ⟨cap, _, by rw [hb], hc, Nat.zero_le _, by unfold maxLen; omega, size_madeCells _ _, by simp⟩⟩
namespace Fw
section
variable (P : Program) (ops l : List Oper) (w0 : World) (d : Option Nat) (op : Op) (ty : TypeId) (pos : String) (af : Array Edge) (g : Nat) (ρ : Env) (w : World) (K : Env → World → Prop)
theorem exD_gT (h : gval ops ρ g = .bool true) : exD P ops w0 (⟨d, op, ty, pos, af, some (g, true)⟩ :: l) ρ w K = (stepD (pureOp op) P w0 w ρ op ty (needOp op) fun v w' => exD P ops w0 l (updo ρ d v) w' K) := by
  rw [exD_guard, h]; simp only [gdK_bool, gdK_undef, ne_eq, true_implies, false_implies, and_true, true_and, reduceCtorEq, not_true_eq_false, not_false_eq_true, Bool.true_eq_false, Bool.false_eq_true, implies_true]
theorem exL_gT (h : gval ops ρ g = .bool true) : exL P ops (⟨d, op, ty, pos, af, some (g, true)⟩ :: l) ρ w K = (fx P w ρ op ty fun v w' => exL P ops l (updo ρ d v) w' K) := by
  rw [exL_guard, h]; simp only [gdK_bool, gdK_undef, ne_eq, true_implies, false_implies, and_true, true_and, reduceCtorEq, not_true_eq_false, not_false_eq_true, Bool.true_eq_false, Bool.false_eq_true, implies_true]
theorem exD_gTs (h : gval ops ρ g = .bool false) : exD P ops w0 (⟨d, op, ty, pos, af, some (g, true)⟩ :: l) ρ w K = (exD P ops w0 l (updo ρ d undef) w K) := by
  rw [exD_guard, h]; simp only [gdK_bool, gdK_undef, ne_eq, true_implies, false_implies, and_true, true_and, reduceCtorEq, not_true_eq_false, not_false_eq_true, Bool.true_eq_false, Bool.false_eq_true, implies_true]
theorem exL_gTs (h : gval ops ρ g = .bool false) : exL P ops (⟨d, op, ty, pos, af, some (g, true)⟩ :: l) ρ w K = (exL P ops l (updo ρ d undef) w K) := by
  rw [exL_guard, h]; simp only [gdK_bool, gdK_undef, ne_eq, true_implies, false_implies, and_true, true_and, reduceCtorEq, not_true_eq_false, not_false_eq_true, Bool.true_eq_false, Bool.false_eq_true, implies_true]
theorem exD_gTu (h : gval ops ρ g = undef) : exD P ops w0 (⟨d, op, ty, pos, af, some (g, true)⟩ :: l) ρ w K = (exD P ops w0 l (updo ρ d undef) w K) := by
  rw [exD_guard, h]; simp only [gdK_bool, gdK_undef, ne_eq, true_implies, false_implies, and_true, true_and, reduceCtorEq, not_true_eq_false, not_false_eq_true, Bool.true_eq_false, Bool.false_eq_true, implies_true]
theorem exL_gTu (h : gval ops ρ g = undef) : exL P ops (⟨d, op, ty, pos, af, some (g, true)⟩ :: l) ρ w K = (exL P ops l (updo ρ d undef) w K) := by
  rw [exL_guard, h]; simp only [gdK_bool, gdK_undef, ne_eq, true_implies, false_implies, and_true, true_and, reduceCtorEq, not_true_eq_false, not_false_eq_true, Bool.true_eq_false, Bool.false_eq_true, implies_true]
theorem exD_gF (h : gval ops ρ g = .bool false) : exD P ops w0 (⟨d, op, ty, pos, af, some (g, false)⟩ :: l) ρ w K = (stepD (pureOp op) P w0 w ρ op ty (needOp op) fun v w' => exD P ops w0 l (updo ρ d v) w' K) := by
  rw [exD_guard, h]; simp only [gdK_bool, gdK_undef, ne_eq, true_implies, false_implies, and_true, true_and, reduceCtorEq, not_true_eq_false, not_false_eq_true, Bool.true_eq_false, Bool.false_eq_true, implies_true]
theorem exL_gF (h : gval ops ρ g = .bool false) : exL P ops (⟨d, op, ty, pos, af, some (g, false)⟩ :: l) ρ w K = (fx P w ρ op ty fun v w' => exL P ops l (updo ρ d v) w' K) := by
  rw [exL_guard, h]; simp only [gdK_bool, gdK_undef, ne_eq, true_implies, false_implies, and_true, true_and, reduceCtorEq, not_true_eq_false, not_false_eq_true, Bool.true_eq_false, Bool.false_eq_true, implies_true]
theorem exD_gFs (h : gval ops ρ g = .bool true) : exD P ops w0 (⟨d, op, ty, pos, af, some (g, false)⟩ :: l) ρ w K = (exD P ops w0 l (updo ρ d undef) w K) := by
  rw [exD_guard, h]; simp only [gdK_bool, gdK_undef, ne_eq, true_implies, false_implies, and_true, true_and, reduceCtorEq, not_true_eq_false, not_false_eq_true, Bool.true_eq_false, Bool.false_eq_true, implies_true]
theorem exL_gFs (h : gval ops ρ g = .bool true) : exL P ops (⟨d, op, ty, pos, af, some (g, false)⟩ :: l) ρ w K = (exL P ops l (updo ρ d undef) w K) := by
  rw [exL_guard, h]; simp only [gdK_bool, gdK_undef, ne_eq, true_implies, false_implies, and_true, true_and, reduceCtorEq, not_true_eq_false, not_false_eq_true, Bool.true_eq_false, Bool.false_eq_true, implies_true]
theorem exD_gFu (h : gval ops ρ g = undef) : exD P ops w0 (⟨d, op, ty, pos, af, some (g, false)⟩ :: l) ρ w K = (exD P ops w0 l (updo ρ d undef) w K) := by
  rw [exD_guard, h]; simp only [gdK_bool, gdK_undef, ne_eq, true_implies, false_implies, and_true, true_and, reduceCtorEq, not_true_eq_false, not_false_eq_true, Bool.true_eq_false, Bool.false_eq_true, implies_true]
theorem exL_gFu (h : gval ops ρ g = undef) : exL P ops (⟨d, op, ty, pos, af, some (g, false)⟩ :: l) ρ w K = (exL P ops l (updo ρ d undef) w K) := by
  rw [exL_guard, h]; simp only [gdK_bool, gdK_undef, ne_eq, true_implies, false_implies, and_true, true_and, reduceCtorEq, not_true_eq_false, not_false_eq_true, Bool.true_eq_false, Bool.false_eq_true, implies_true]
end
end Fw

theorem Fw.exL_append {P : Program} {ops : List Oper} {K : Env → World → Prop} : ∀ (l1 l2 : List Oper) (ρ : Env) (w : World), exL P ops l1 ρ w (fun ρ' w' => exL P ops l2 ρ' w' K) = exL P ops (l1 ++ l2) ρ w K
  | [], l2, ρ, w => rfl
  | o :: l1, l2, ρ, w => by
    simp only [exL, List.cons_append, Fw.exL_append l1 l2]
theorem Fw.exD_append {P : Program} {ops : List Oper} {w0 : World} {K : Env → World → Prop} : ∀ (l1 l2 : List Oper) (ρ : Env) (w : World), exD P ops w0 l1 ρ w (fun ρ' w' => exD P ops w0 l2 ρ' w' K) = exD P ops w0 (l1 ++ l2) ρ w K
  | [], l2, ρ, w => rfl
  | o :: l1, l2, ρ, w => by
    simp only [exD, List.cons_append, Fw.exD_append l1 l2]
/-- A long region, a piece at a time. -/
theorem Fw.exL_cut {P : Program} {ops l : List Oper} {ρ : Env} {w : World} {K : Env → World → Prop} (n : Nat) (h : ∀ K' : Env → World → Prop, (∀ ρ w, exL P ops (l.drop n) ρ w K → K' ρ w) → exL P ops (l.take n) ρ w K') : exL P ops l ρ w K := by
  have := h _ fun _ _ h => h
  rw [exL_append, List.take_append_drop] at this
  exact this
theorem Fw.exD_cut {P : Program} {ops l : List Oper} {w0 : World} {ρ : Env} {w : World} {K : Env → World → Prop} (n : Nat) (h : ∀ K' : Env → World → Prop, (∀ ρ w, exD P ops w0 (l.drop n) ρ w K → K' ρ w) → exD P ops w0 (l.take n) ρ w K') : exD P ops w0 l ρ w K := by
  have := h _ fun _ _ h => h
  rw [exD_append, List.take_append_drop] at this
  exact this
theorem Fw.exL_forget {P : Program} {ops l : List Oper} {ρ : Env} {w : World} {K : Env → World → Prop} (L : List Nat) (h : ∀ ρ', (∀ s, s ∈ L → ρ' s = ρ s) → exL P ops l ρ' w K) : exL P ops l ρ w K := h ρ fun _ _ => rfl
theorem Fw.exD_forget {P : Program} {ops l : List Oper} {w0 : World} {ρ : Env} {w : World} {K : Env → World → Prop} (L : List Nat) (h : ∀ ρ', (∀ s, s ∈ L → ρ' s = ρ s) → exD P ops w0 l ρ' w K) : exD P ops w0 l ρ w K := h ρ fun _ _ => rfl

/-- The row that guards look into, by what is asked of it. -/
theorem Fw.exL_abs {P : Program} {ops0 l : List Oper} {ρ : Env} {w : World} {K : Env → World → Prop} (h : ∀ ops, (∀ ρ g, gval ops ρ g = gval ops0 ρ g) → exL P ops l ρ w K) : exL P ops0 l ρ w K := h ops0 fun _ _ => rfl
theorem Fw.exD_abs {P : Program} {ops0 l : List Oper} {w0 : World} {ρ : Env} {w : World} {K : Env → World → Prop} (h : ∀ ops, (∀ ρ g, gval ops ρ g = gval ops0 ρ g) → exD P ops w0 l ρ w K) : exD P ops0 w0 l ρ w K := h ops0 fun _ _ => rfl

theorem RowV.vals {N : Nat} {w : World} {lay : Nat → Nat} {c : Nat → Option AO} {r e n : Nat} {v : Value} {xs : List Value} (hS : St N w lay c) (h : RowV lay c r e 1 v n xs) : ValsAt N w v xs := by
  have hl : xs.length = n := by have := h.1; omega
  rcases h.2 with ⟨h1, h2, _⟩ | ⟨cap, cur, h1, h2, h3, h4, h5, h6⟩
  · have : xs = [] := List.length_eq_zero_iff.1 (by omega)
    subst this
    exact ⟨none, 0, by rw [h1]; rfl, .inl rfl⟩
  · refine ⟨some ⟨lay r, 0, none⟩, cap, by rw [h1, hl], .inr ⟨lay r, 0, rfl, hS.ge h2, fun i hi => ?_⟩⟩
    obtain ⟨_, _, hc⟩ := h.get hS (i := i) (by omega)
    rw [Nat.zero_add, hc, List.getD_eq_getElem?_getD, List.getElem?_eq_getElem hi]
    rfl
theorem filled {α : Type} {xs ys : List α} {d : α} {n : Nat} (hx : xs.length = n) (hy : ys.length = n) (h : ∀ k, k < n → xs.getD k d = ys.getD k d) : xs = ys := by
  refine List.ext_getElem (by omega) fun k h1 h2 => ?_
  have := h k (by omega)
  rw [List.getD_eq_getElem?_getD, List.getD_eq_getElem?_getD, List.getElem?_eq_getElem h1, List.getElem?_eq_getElem h2] at this
  simpa using this
theorem set_fill {α : Type} {xs : List α} {d x : α} {n i : Nat} {f : Nat → α} (hx : xs.length = n) (hi : i < n) (h : ∀ k, k < i → xs.getD k d = f k) (hxi : x = f i) : (xs.set i x).length = n ∧ ∀ k, k < i + 1 → (xs.set i x).getD k d = f k := by
  refine ⟨by simpa using hx, fun k hk => ?_⟩
  by_cases hki : k = i
  · subst hki
    simp [List.getD_eq_getElem?_getD, hx, hi, hxi]
  · rw [← h k (by omega)]
    simp [List.getD_eq_getElem?_getD, List.getElem?_set, Ne.symm hki]
theorem ValsAt.get {N : Nat} {w : World} {v : Value} {vs : List Value} (h : ValsAt N w v vs) {i : Nat} (hi : i < vs.length) : ∃ a o cap, v = .slice (some ⟨a, o, none⟩) vs.length cap ∧ w.cell? ⟨a, o + i, none⟩ = some (vs.getD i undef) := by
  obtain ⟨a, cap, rfl, hf⟩ := h.form
  obtain ⟨b, o, rfl, hc⟩ := hf i hi
  exact ⟨b, o, cap, rfl, hc⟩
theorem ValsAt.at {N : Nat} {w : World} {v : Value} {vs : List Value} (h : ValsAt N w v vs) {n : Nat} (hn : vs.length = n) : ∃ a cap, v = .slice a n cap ∧ (0 < n → ∃ b o, a = some ⟨b, o, none⟩ ∧ ∀ i, i < n → w.cell? ⟨b, o + i, none⟩ = some (vs.getD i undef)) := by
  subst hn
  obtain ⟨a, cap, rfl, h⟩ := h
  refine ⟨a, cap, rfl, fun hp => ?_⟩
  rcases h with h | ⟨b, o, ha, _, h⟩
  · subst h; simp at hp
  · exact ⟨b, o, ha, h⟩
theorem cell_of_heap {w w' : World} (h : w'.heap = w.heap) (a : Addr) : w'.cell? a = w.cell? a := by simp only [World.cell?, h]
theorem mapD {α : Type} {f : α → Value} {l : List α} {i : Nat} (d : α) (h : i < l.length) : (l.map f).getD i undef = f (l.getD i d) := by simp [List.getD_eq_getElem?_getD, h]
theorem ValsAt.heap {N : Nat} {w w' : World} {v : Value} {vs : List Value} (h : ValsAt N w v vs) (hh : w'.heap = w.heap) : ValsAt N w' v vs := h.keep fun b o x _ hc => (cell_of_heap hh _).trans hc
def vS (l : List ByteArray) : List Value := l.map .string
theorem ValsAt.strs {N : Nat} {w : World} {v : Value} {l : List ByteArray} {n : Nat} (h : ValsAt N w v (vS l)) (hn : l.length = n) : ∃ a cap, v = .slice a n cap ∧ (0 < n → ∃ b o, a = some ⟨b, o, none⟩ ∧ ∀ i, i < n → w.cell? ⟨b, o + i, none⟩ = some (.string (l.getD i ByteArray.empty))) := by
  obtain ⟨a, cap, hv, hc⟩ := h.at (n := n) (by simp [vS, hn])
  refine ⟨a, cap, hv, fun h0 => ?_⟩
  obtain ⟨b, o, ha, hcc⟩ := hc h0
  exact ⟨b, o, ha, fun i hi => by rw [hcc i hi]; simp [vS, List.getD_eq_getElem?_getD, hn, hi]⟩
theorem RowV.slice {lay : Nat → Nat} {c : Nat → Option AO} {r e n : Nat} {v : Value} {xs : List Value} (h : RowV lay c r e 1 v n xs) : ∃ a cap, v = .slice a n cap := by
  rcases h.2 with ⟨h1, h2, _⟩ | ⟨cap, cur, h1, _⟩
  · exact ⟨none, 0, by rw [h1, h2]⟩
  · exact ⟨_, _, h1⟩
namespace Bd
theorem s22 (k : Array Value → TypeId → Prop) (x : ByteArray) : bslK Try.prog 22 1 #[(0, .string x)] k = k #[.string x] 9 := bslK_eq (fun w => by kernel_rfl) k
theorem b45 (k : Value → Prop) (a : Option Addr) (n c : Nat) : bldK Try.prog 45 #[(0, .slice a n c)] k = k (.agg #[.slice a n c, .map none]) := bldK_eq (fun w => by kernel_rfl) k
end Bd
theorem endQ_two {P : Program} {fn : Func} {R : Value → World → Prop} {ρ : Env} {w : World} {a b : Nat} {va vb : Value} (h : fn.results = #[.tmp a, .tmp b]) (ha : ρ a = va) (hb : ρ b = vb)
    (hR : R (.tuple #[va, vb]) w) : endQ fn P R .ret ρ w :=
  ⟨_, fun tmps ht => by rw [results_tmp2 h]; simp only [ht, ha, hb], hR⟩
end Go.Proofs.Qxb6001426a
