/-
  The data that the roads meet: transactions as plain lists, and how they lie in memory; a frame of named blocks.
-/
import Derived.Test.Qxb6001426aTy
namespace Go.Proofs.Qxb6001426a
open Fw Go.RowKit
set_option linter.unusedSimpArgs false
set_option linter.unusedVariables false

structure LOp where
  app : Bool
  key : ByteArray
  val : ByteArray
  list : List ByteArray
structure LTx where
  out : Int
  ops : List LOp
def op0 : LOp := ⟨false, ByteArray.empty, ByteArray.empty, []⟩
def tx0 : LTx := ⟨0, []⟩

/-- A slice of one-cell values, in a block from N on. -/
def ValsAt (N : Nat) (w : World) (v : Value) (vs : List Value) : Prop :=
  ∃ a cap, v = .slice a vs.length cap ∧ (vs = [] ∨ ∃ b o, a = some ⟨b, o, none⟩ ∧ N ≤ b ∧ ∀ i, i < vs.length → w.cell? ⟨b, o + i, none⟩ = some (vs.getD i undef))
def StrsAt (N : Nat) (w : World) (v : Value) (l : List ByteArray) : Prop := ValsAt N w v (l.map .string)
def OpAt (N : Nat) (w : World) (b o : Nat) (p : LOp) : Prop :=
  w.cell? ⟨b, o, none⟩ = some (.bool p.app) ∧ w.cell? ⟨b, o + 1, none⟩ = some (.string p.key) ∧ w.cell? ⟨b, o + 2, none⟩ = some (.string p.val) ∧
    ∃ lv, w.cell? ⟨b, o + 3, none⟩ = some lv ∧ StrsAt N w lv p.list
def OpsAt (N : Nat) (w : World) (v : Value) (l : List LOp) : Prop :=
  ∃ a cap, v = .slice a l.length cap ∧ (l = [] ∨ ∃ b o, a = some ⟨b, o, none⟩ ∧ N ≤ b ∧ ∀ i, i < l.length → OpAt N w b (o + i * 4) (l.getD i op0))
/-- []LTxn (sz = 2, at = 0), []history.Txn (sz = 5, at = 2): the outcome at 'at', the operations at 1. -/
def TxsAt (sz at_ : Nat) (N : Nat) (w : World) (v : Value) (T : List LTx) : Prop :=
  ∃ a cap, v = .slice a T.length cap ∧ (T = [] ∨ ∃ b o, a = some ⟨b, o, none⟩ ∧ N ≤ b ∧ ∀ i, i < T.length →
    w.cell? ⟨b, o + i * sz + at_, none⟩ = some (.int .i64 (T.getD i tx0).out) ∧ ∃ ov, w.cell? ⟨b, o + i * sz + 1, none⟩ = some ov ∧ OpsAt N w ov (T.getD i tx0).ops)
def TxnsAt (N : Nat) (w : World) (v : Value) (T : List LTx) : Prop := TxsAt 2 0 N w v T
def HTxnsAt (N : Nat) (w : World) (v : Value) (T : List LTx) : Prop := TxsAt 5 2 N w v T

/-- Whatever leaves the cells of the blocks from N on that are met. -/
def Keeps (N : Nat) (w w' : World) : Prop := ∀ b o v, N ≤ b → w.cell? ⟨b, o, none⟩ = some v → w'.cell? ⟨b, o, none⟩ = some v
theorem Keeps.of_below {N : Nat} {w w' : World} (hb : Below w.heap.size w w') : Keeps N w w' := fun b o v _ h => below_up hb h
theorem Keeps.of_setRow {N g : Nat} {w : World} {arr : Array Value} (hg : g < N) : Keeps N w (w.setRow g arr) := fun b o v hb h => by
  rw [cell_setRow_other _ _ _ _ (show b ≠ g by omega)]; exact h

section
variable {N : Nat} {w w' : World}
theorem ValsAt.keep {v : Value} {vs : List Value} (h : ValsAt N w v vs) (hk : Keeps N w w') : ValsAt N w' v vs := by
  obtain ⟨a, cap, rfl, h⟩ := h
  refine ⟨a, cap, rfl, ?_⟩
  rcases h with h | ⟨b, o, ha, hN, h⟩
  · exact .inl h
  · exact .inr ⟨b, o, ha, hN, fun i hi => hk _ _ _ hN (h i hi)⟩
theorem StrsAt.keep {v : Value} {l : List ByteArray} (h : StrsAt N w v l) (hk : Keeps N w w') : StrsAt N w' v l := ValsAt.keep h hk
theorem OpAt.keep {b o : Nat} {p : LOp} (h : OpAt N w b o p) (hN : N ≤ b) (hk : Keeps N w w') : OpAt N w' b o p := by
  obtain ⟨h0, h1, h2, lv, h3, h4⟩ := h
  exact ⟨hk _ _ _ hN h0, hk _ _ _ hN h1, hk _ _ _ hN h2, lv, hk _ _ _ hN h3, h4.keep hk⟩
theorem OpsAt.keep {v : Value} {l : List LOp} (h : OpsAt N w v l) (hk : Keeps N w w') : OpsAt N w' v l := by
  obtain ⟨a, cap, rfl, h⟩ := h
  refine ⟨a, cap, rfl, ?_⟩
  rcases h with h | ⟨b, o, ha, hN, h⟩
  · exact .inl h
  · exact .inr ⟨b, o, ha, hN, fun i hi => (h i hi).keep hN hk⟩
theorem TxsAt.keep {sz at_ : Nat} {v : Value} {T : List LTx} (h : TxsAt sz at_ N w v T) (hk : Keeps N w w') : TxsAt sz at_ N w' v T := by
  obtain ⟨a, cap, rfl, h⟩ := h
  refine ⟨a, cap, rfl, ?_⟩
  rcases h with h | ⟨b, o, ha, hN, h⟩
  · exact .inl h
  · refine .inr ⟨b, o, ha, hN, fun i hi => ?_⟩
    obtain ⟨h0, ov, h1, h2⟩ := h i hi
    exact ⟨hk _ _ _ hN h0, ov, hk _ _ _ hN h1, h2.keep hk⟩
theorem ValsAt.up {v : Value} {vs : List Value} (h : ValsAt N w v vs) (hb : Below w.heap.size w w') : ValsAt N w' v vs := h.keep (.of_below hb)
theorem StrsAt.up {v : Value} {l : List ByteArray} (h : StrsAt N w v l) (hb : Below w.heap.size w w') : StrsAt N w' v l := ValsAt.keep h (.of_below hb)
theorem OpAt.up {b o : Nat} {p : LOp} (h : OpAt N w b o p) (hb : Below w.heap.size w w') : OpAt N w' b o p := by
  obtain ⟨h0, h1, h2, lv, h3, h4⟩ := h
  exact ⟨below_up hb h0, below_up hb h1, below_up hb h2, lv, below_up hb h3, h4.up hb⟩
theorem OpsAt.up {v : Value} {l : List LOp} (h : OpsAt N w v l) (hb : Below w.heap.size w w') : OpsAt N w' v l := h.keep (.of_below hb)
theorem TxnsAt.up {v : Value} {T : List LTx} (h : TxnsAt N w v T) (hb : Below w.heap.size w w') : TxnsAt N w' v T := TxsAt.keep h (.of_below hb)
theorem HTxnsAt.up {v : Value} {T : List LTx} (h : HTxnsAt N w v T) (hb : Below w.heap.size w w') : HTxnsAt N w' v T := TxsAt.keep h (.of_below hb)
theorem ValsAt.mono {N' : Nat} {v : Value} {vs : List Value} (h : ValsAt N w v vs) (hN : N' ≤ N) : ValsAt N' w v vs := by
  obtain ⟨a, cap, rfl, h⟩ := h
  refine ⟨a, cap, rfl, ?_⟩
  rcases h with h | ⟨b, o, ha, h1, h⟩
  · exact .inl h
  · exact .inr ⟨b, o, ha, by omega, h⟩
theorem StrsAt.mono {N' : Nat} {v : Value} {l : List ByteArray} (h : StrsAt N w v l) (hN : N' ≤ N) : StrsAt N' w v l := ValsAt.mono h hN
theorem OpAt.mono {N' b o : Nat} {p : LOp} (h : OpAt N w b o p) (hN : N' ≤ N) : OpAt N' w b o p := by
  obtain ⟨h0, h1, h2, lv, h3, h4⟩ := h
  exact ⟨h0, h1, h2, lv, h3, h4.mono hN⟩
theorem OpsAt.mono {N' : Nat} {v : Value} {l : List LOp} (h : OpsAt N w v l) (hN : N' ≤ N) : OpsAt N' w v l := by
  obtain ⟨a, cap, rfl, h⟩ := h
  refine ⟨a, cap, rfl, ?_⟩
  rcases h with h | ⟨b, o, ha, h1, h⟩
  · exact .inl h
  · exact .inr ⟨b, o, ha, by omega, fun i hi => (h i hi).mono hN⟩

theorem getD_map_string (l : List ByteArray) (i : Nat) (h : i < l.length) : (l.map Value.string).getD i undef = .string (l.getD i ByteArray.empty) := by
  simp [List.getD_eq_getElem?_getD, h]
/-- A slice read at a place. -/
theorem ValsAt.form {v : Value} {vs : List Value} (h : ValsAt N w v vs) : ∃ a cap, v = .slice a vs.length cap ∧ ∀ i, i < vs.length → ∃ b o, a = some ⟨b, o, none⟩ ∧ w.cell? ⟨b, o + i, none⟩ = some (vs.getD i undef) := by
  obtain ⟨a, cap, he, h⟩ := h
  refine ⟨a, cap, he, fun i hi => ?_⟩
  rcases h with h | ⟨b, o, ha, _, h⟩
  · subst h; simp at hi
  · exact ⟨b, o, ha, h i hi⟩
theorem StrsAt.form {v : Value} {l : List ByteArray} (h : StrsAt N w v l) : ∃ a cap, v = .slice a l.length cap ∧ ∀ i, i < l.length → ∃ b o, a = some ⟨b, o, none⟩ ∧ w.cell? ⟨b, o + i, none⟩ = some (.string (l.getD i ByteArray.empty)) := by
  obtain ⟨a, cap, he, h⟩ := ValsAt.form h
  refine ⟨a, cap, by simpa using he, fun i hi => ?_⟩
  obtain ⟨b, o, ha, h⟩ := h i (by simpa using hi)
  exact ⟨b, o, ha, by rw [h, getD_map_string l i hi]⟩
theorem OpsAt.form {v : Value} {l : List LOp} (h : OpsAt N w v l) : ∃ a cap, v = .slice a l.length cap ∧ ∀ i, i < l.length → ∃ b o, a = some ⟨b, o, none⟩ ∧ OpAt N w b (o + i * 4) (l.getD i op0) := by
  obtain ⟨a, cap, he, h⟩ := h
  refine ⟨a, cap, he, fun i hi => ?_⟩
  rcases h with h | ⟨b, o, ha, _, h⟩
  · subst h; simp at hi
  · exact ⟨b, o, ha, h i hi⟩
theorem TxsAt.form {sz at_ : Nat} {v : Value} {T : List LTx} (h : TxsAt sz at_ N w v T) : ∃ a cap, v = .slice a T.length cap ∧ ∀ i, i < T.length → ∃ b o, a = some ⟨b, o, none⟩ ∧
    w.cell? ⟨b, o + i * sz + at_, none⟩ = some (.int .i64 (T.getD i tx0).out) ∧ ∃ ov, w.cell? ⟨b, o + i * sz + 1, none⟩ = some ov ∧ OpsAt N w ov (T.getD i tx0).ops := by
  obtain ⟨a, cap, he, h⟩ := h
  refine ⟨a, cap, he, fun i hi => ?_⟩
  rcases h with h | ⟨b, o, ha, _, h⟩
  · subst h; simp at hi
  · exact ⟨b, o, ha, h i hi⟩
theorem TxnsAt.form {v : Value} {T : List LTx} (h : TxnsAt N w v T) : ∃ a cap, v = .slice a T.length cap ∧ ∀ i, i < T.length → ∃ b o, a = some ⟨b, o, none⟩ ∧
    w.cell? ⟨b, o + i * 2, none⟩ = some (.int .i64 (T.getD i tx0).out) ∧ ∃ ov, w.cell? ⟨b, o + i * 2 + 1, none⟩ = some ov ∧ OpsAt N w ov (T.getD i tx0).ops := TxsAt.form h
theorem HTxnsAt.form {v : Value} {T : List LTx} (h : HTxnsAt N w v T) : ∃ a cap, v = .slice a T.length cap ∧ ∀ i, i < T.length → ∃ b o, a = some ⟨b, o, none⟩ ∧
    w.cell? ⟨b, o + i * 5 + 2, none⟩ = some (.int .i64 (T.getD i tx0).out) ∧ ∃ ov, w.cell? ⟨b, o + i * 5 + 1, none⟩ = some ov ∧ OpsAt N w ov (T.getD i tx0).ops := TxsAt.form h
end

theorem ow_get (arr : Array Value) (o i : Nat) (l : List Value) (h : o + l.length ≤ arr.size) : (ow arr o l)[i]? = if i < o then arr[i]? else if i < o + l.length then l[i - o]? else arr[i]? := by
  unfold ow
  rw [List.getElem?_toArray]
  by_cases h1 : i < o
  · rw [if_pos h1, List.append_assoc, List.getElem?_append_left (by simp; omega)]
    simp [h1]
  · rw [if_neg h1]
    by_cases h2 : i < o + l.length
    · rw [if_pos h2, List.getElem?_append_left (by simp; omega), List.getElem?_append_right (by simp; omega)]
      simp
      rw [show i - min o arr.size = i - o by omega]
    · rw [if_neg h2, List.getElem?_append_right (by simp; omega)]
      simp
      rw [show o + l.length + (i - (min o arr.size + l.length)) = i by omega]
theorem ow_size (arr : Array Value) (o : Nat) (l : List Value) (h : o + l.length ≤ arr.size) : (ow arr o l).size = arr.size := by
  unfold ow; simp; omega

def smallOp (p : LOp) : Prop := p.list.length ≤ 1048576
def smallTx (t : LTx) : Prop := t.ops.length ≤ 1048576 ∧ ∀ i, i < t.ops.length → smallOp (t.ops.getD i op0)
def small (T : List LTx) : Prop := T.length ≤ 1048576 ∧ ∀ i, i < T.length → smallTx (T.getD i tx0)

/-! ### blocks by names -/
abbrev AO := Sum (Array Value × TypeId) (List (Value × Value))
/-- A block as a row that may be written, or as a map's entries. -/
def view (w : World) (b : Nat) : Option AO :=
  match w.heap[b]? with
  | some (.cells arr e (0, 0)) => some (.inl (arr, e))
  | some (.map es _) => some (.inr (es.toList.map fun e => (e.key, e.val)))
  | _ => none
def updN (lay : Nat → Nat) (r x : Nat) : Nat → Nat := fun s => if s = r then x else lay s
def updC (c : Nat → Option AO) (r : Nat) (o : AO) : Nat → Option AO := fun s => if s = r then some o else c s

theorem view_lt {w : World} {b : Nat} {o : AO} (h : view w b = some o) : b < w.heap.size := by
  rcases Nat.lt_or_ge b w.heap.size with h' | h'
  · exact h'
  · simp [view, Array.getElem?_eq_none h'] at h
theorem view_row {w : World} {b : Nat} {arr : Array Value} {e : TypeId} : view w b = some (.inl (arr, e)) ↔ w.heap[b]? = some (.cells arr e (0, 0)) := by
  unfold view
  constructor
  · intro h
    split at h
    · rename_i arr' e' hh; simp at h; rw [hh, h.1, h.2]
    · simp at h
    · cases h
  · intro h; simp [h]
theorem view_map {w : World} {b : Nat} {l : List (Value × Value)} (h : view w b = some (.inr l)) : mapAt w b = some l := by
  unfold view at h
  split at h
  · simp at h
  · rename_i es clk hh; simp at h; simp [mapAt, hh, h]
  · cases h
theorem view_of_heap {w w' : World} {b : Nat} (h : w'.heap[b]? = w.heap[b]?) : view w' b = view w b := by simp only [view, h]

/-- The blocks of the call's own, by names: lay says where a named block lies, c what it holds. -/
def St (N : Nat) (w : World) (lay : Nat → Nat) (c : Nat → Option AO) : Prop :=
  (∀ r o, c r = some o → N ≤ lay r ∧ view w (lay r) = some o) ∧ (∀ r r' o o', c r = some o → c r' = some o' → lay r = lay r' → r = r')

section
variable {N : Nat} {w : World} {lay : Nat → Nat} {c : Nat → Option AO}

theorem St.heap (h : St N w lay c) {r : Nat} {arr : Array Value} {e : TypeId} (hr : c r = some (.inl (arr, e))) : w.heap[lay r]? = some (.cells arr e (0, 0)) := view_row.1 (h.1 r _ hr).2
theorem St.row (h : St N w lay c) {r : Nat} {arr : Array Value} {e : TypeId} (hr : c r = some (.inl (arr, e))) : Fw.rowAt w (lay r) = some arr := rowAt_of (h.heap hr)
theorem St.cell (h : St N w lay c) {r : Nat} {arr : Array Value} {e : TypeId} (hr : c r = some (.inl (arr, e))) (o : Nat) : w.cell? ⟨lay r, o, none⟩ = arr[o]? := cell_row (h.heap hr) o
theorem St.map (h : St N w lay c) {r : Nat} {l : List (Value × Value)} (hr : c r = some (.inr l)) : mapAt w (lay r) = some l := view_map (h.1 r _ hr).2
theorem St.ge (h : St N w lay c) {r : Nat} {o : AO} (hr : c r = some o) : N ≤ lay r := (h.1 r _ hr).1
theorem St.lt (h : St N w lay c) {r : Nat} {o : AO} (hr : c r = some o) : lay r < w.heap.size := view_lt (h.1 r _ hr).2

/-- One named block turned; all else as it was. -/
theorem St.turn (h : St N w lay c) {w' : World} {r : Nat} {o o' : AO} (hr : c r = some o) (hv : view w' (lay r) = some o') (hk : ∀ k, k < w.heap.size → k ≠ lay r → view w' k = view w k) : St N w' lay (updC c r o') := by
  constructor
  · intro s x hs
    unfold updC at hs
    split at hs
    · cases hs; subst s; exact ⟨h.ge hr, hv⟩
    · rename_i hne
      have h1 := h.1 s x hs
      refine ⟨h1.1, ?_⟩
      rw [hk _ (view_lt h1.2) (fun e => hne (h.2 _ _ _ _ hs hr e))]
      exact h1.2
  · intro s s' x x' hs hs' he
    have f : ∀ t y, updC c r o' t = some y → ∃ z, c t = some z := by
      intro t y ht
      unfold updC at ht
      split at ht
      · subst t; exact ⟨_, hr⟩
      · exact ⟨_, ht⟩
    obtain ⟨z, hz⟩ := f s x hs
    obtain ⟨z', hz'⟩ := f s' x' hs'
    exact h.2 _ _ _ _ hz hz' he
theorem St.set (h : St N w lay c) {r : Nat} {arr : Array Value} {e : TypeId} (hr : c r = some (.inl (arr, e))) (arr' : Array Value) : St N (w.setRow (lay r) arr') lay (updC c r (.inl (arr', e))) :=
  h.turn hr (view_row.2 (setRow_heap _ _ _ _ _ _ (h.heap hr))) fun k _ hk => view_of_heap (setRow_other _ _ _ _ hk)
/-- A new block, under a name (whatever the name stood for before). -/
theorem St.put (h : St N w lay c) {w' : World} (r b : Nat) (o : AO) (hN : N ≤ b) (hb : w.heap.size ≤ b) (hv : view w' b = some o) (hk : ∀ s x, s ≠ r → c s = some x → view w' (lay s) = view w (lay s)) : St N w' (updN lay r b) (updC c r o) := by
  constructor
  · intro s x hs
    unfold updC at hs
    unfold updN
    split at hs
    · cases hs; subst s; simp; exact ⟨hN, hv⟩
    · rename_i hne
      rw [if_neg hne]
      have h1 := h.1 s x hs
      exact ⟨h1.1, by rw [hk s x hne hs]; exact h1.2⟩
  · intro s s' x x' hs hs' he
    unfold updC at hs hs'
    unfold updN at he
    split at hs <;> split at hs'
    · rename_i h1 h2; rw [h1, h2]
    · rename_i h1 h2
      rw [if_pos h1, if_neg h2] at he
      have := h.lt hs'
      omega
    · rename_i h1 h2
      rw [if_neg h1, if_pos h2] at he
      have := h.lt hs
      omega
    · rename_i h1 h2
      rw [if_neg h1, if_neg h2] at he
      exact h.2 _ _ _ _ hs hs' he
theorem St.new (h : St N w lay c) (hN : N ≤ w.heap.size) (r : Nat) (arr : Array Value) (e : TypeId) : St N (w.alloc (.cells arr e)) (updN lay r w.heap.size) (updC c r (.inl (arr, e))) :=
  h.put r _ _ hN (Nat.le_refl _) (view_row.2 (heap_new _ _)) fun s x _ hs => view_of_heap (Below.heap_alloc _ _ _ (h.lt hs))
theorem St.newMap (h : St N w lay c) (hN : N ≤ w.heap.size) (r : Nat) : St N (w.alloc (.map #[] 0)) (updN lay r w.heap.size) (updC c r (.inr [])) :=
  h.put r _ _ hN (Nat.le_refl _) (by simp only [view, heap_new]; rfl) fun s x _ hs => view_of_heap (Below.heap_alloc _ _ _ (h.lt hs))
theorem St.below (h : St N w lay c) {w' : World} (hb : Below w.heap.size w w') : St N w' lay c := by
  refine ⟨fun r o hr => ⟨h.ge hr, ?_⟩, h.2⟩
  rw [view_of_heap (hb.block _ (h.lt hr))]
  exact (h.1 r _ hr).2
theorem St.alloc (h : St N w lay c) (o : Obj) : St N (w.alloc o) lay c := h.below ((Below.refl _ _).alloc (Nat.le_refl _) o)
theorem St.drew (h : St N w lay c) : St N w.drew lay c := h
theorem St.pushed (h : St N w lay c) {r : Nat} {l : List (Value × Value)} (hr : c r = some (.inr l)) (k v : Value) : St N (pushMap w (lay r) k v) lay (updC c r (.inr (l ++ [(k, v)]))) := by
  have hv := (h.1 r _ hr).2
  have hlt := view_lt hv
  unfold view at hv
  split at hv
  · simp at hv
  · rename_i es clk hh
    simp at hv
    have e : pushMap w (lay r) k v = { w with heap := w.heap.setIfInBounds (lay r) (.map (es.push { key := k, val := v, born := clk }) (clk + 1)) } := by simp only [pushMap, hh]
    rw [e]
    refine h.turn hr ?_ fun j _ hj => view_of_heap ?_
    · simp [view, hlt, hv]
    · simp only [Array.getElem?_setIfInBounds_ne (Ne.symm hj)]
  · cases hv
theorem below_push {w : World} {r : Nat} {k v : Value} (hN : N ≤ r) : Below N w (pushMap w r k v) := by
  unfold pushMap
  split
  · refine ⟨rfl, rfl, rfl, by simp, fun j hj => ?_⟩
    simp only [Array.getElem?_setIfInBounds_ne (show r ≠ j by omega)]
  · exact Below.refl _ _
theorem St.weaken (h : St N w lay c) {c' : Nat → Option AO} (hc : ∀ r o, c' r = some o → c r = some o) : St N w lay c' :=
  ⟨fun r o hr => h.1 r o (hc r o hr), fun r r' o o' hr hr' => h.2 r r' o o' (hc _ _ hr) (hc _ _ hr')⟩

/-- A slice of the call's own whose elements (of 'size' cells) are xs, in the block named r (none: nil). -/
def RowV (lay : Nat → Nat) (c : Nat → Option AO) (r : Nat) (e : TypeId) (size : Nat) (v : Value) (n : Nat) (xs : List Value) : Prop :=
  xs.length = n * size ∧ ((v = .slice none 0 0 ∧ n = 0 ∧ c r = none) ∨
    ∃ cap cur, v = .slice (some ⟨lay r, 0, none⟩) n cap ∧ c r = some (.inl (cur, e)) ∧ n ≤ cap ∧ cap ≤ maxLen ∧ cur.size = cap * size ∧ cur.toList.take (n * size) = xs)

theorem RowV.owns (h : St N w lay c) {r e size n : Nat} {v : Value} {xs : List Value} (hv : RowV lay c r e size v n xs) : w.ownsRow N e size v n xs := by
  obtain ⟨hl, hv⟩ := hv
  refine ⟨hl, ?_⟩
  rcases hv with ⟨h1, h2, _⟩ | ⟨cap, cur, h1, h2, h3, h4, h5, h6⟩
  · exact .inl ⟨h1, h2⟩
  · exact .inr ⟨lay r, cap, cur, h1, h.ge h2, h.heap h2, h3, h4, h5, h6⟩
end
end Go.Proofs.Qxb6001426a
