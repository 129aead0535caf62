/-
  Plain lists: the operations of a history in one row.
-/
import Derived.Test.Qxb6001346aBd
namespace Go.Proofs.Qxb6001346a
set_option linter.unusedSimpArgs false
set_option linter.unusedVariables false

def flFrom : Nat → List LTx → List (Nat × LOp)
  | _, [] => []
  | k, t :: T => t.ops.map (fun p => (k, p)) ++ flFrom (k + 1) T
/-- Every operation with its transaction's number, in the history's order. -/
def fl (T : List LTx) : List (Nat × LOp) := flFrom 0 T
/-- Those ahead of operation j of transaction i. -/
def fpre (T : List LTx) (i j : Nat) : List (Nat × LOp) := fl (T.take i) ++ ((T.getD i tx0).ops.take j).map (fun p => (i, p))

theorem flFrom_append : ∀ (A B : List LTx) (k : Nat), flFrom k (A ++ B) = flFrom k A ++ flFrom (k + A.length) B
  | [], B, k => by simp [flFrom]
  | t :: A, B, k => by
    simp only [List.cons_append, flFrom, flFrom_append A B (k + 1), List.append_assoc, List.length_cons]
    rw [show k + 1 + A.length = k + (A.length + 1) by omega]

theorem fl_take_succ {T : List LTx} {i : Nat} (h : i < T.length) : fl (T.take (i + 1)) = fl (T.take i) ++ (T.getD i tx0).ops.map (fun p => (i, p)) := by
  have e : T.take (i + 1) = T.take i ++ [T.getD i tx0] := by
    rw [List.take_succ_eq_append_getElem h]
    simp [List.getD_eq_getElem?_getD, h]
  rw [e, fl, flFrom_append]
  simp only [flFrom, List.append_nil, fl]
  rw [List.length_take, Nat.zero_add, Nat.min_eq_left (by omega)]

theorem fpre_zero (T : List LTx) : fpre T 0 0 = [] := by simp [fpre, fl, flFrom]
theorem fpre_i_zero (T : List LTx) (i : Nat) : fpre T i 0 = fl (T.take i) := by simp [fpre]
theorem fpre_step {T : List LTx} {i j : Nat} (hj : j < (T.getD i tx0).ops.length) : fpre T i (j + 1) = fpre T i j ++ [(i, (T.getD i tx0).ops.getD j op0)] := by
  unfold fpre
  rw [List.take_succ_eq_append_getElem hj, List.map_append, ← List.append_assoc, List.getD_eq_getElem?_getD (l := (T.getD i tx0).ops), List.getElem?_eq_getElem hj]
  rfl
theorem fpre_next {T : List LTx} {i : Nat} (h : i < T.length) : fpre T i (T.getD i tx0).ops.length = fpre T (i + 1) 0 := by
  rw [fpre_i_zero, fl_take_succ h]
  simp [fpre]
theorem fpre_end (T : List LTx) : fpre T T.length 0 = fl T := by rw [fpre_i_zero, List.take_length]

theorem fl_split {T : List LTx} {i : Nat} (h : i ≤ T.length) : fl T = fl (T.take i) ++ flFrom i (T.drop i) := by
  conv => lhs; rw [← List.take_append_drop i T]
  rw [fl, flFrom_append]
  simp only [fl]
  rw [List.length_take, Nat.zero_add, Nat.min_eq_left h]
/-- What is ahead of a place is a beginning of the whole. -/
theorem fpre_pre {T : List LTx} {i j : Nat} (h : i < T.length) : ∃ r, fl T = fpre T i j ++ r := by
  rw [fl_split (show i + 1 ≤ T.length from h), fl_take_succ h]
  refine ⟨((T.getD i tx0).ops.drop j).map (fun p => (i, p)) ++ flFrom (i + 1) (T.drop (i + 1)), ?_⟩
  unfold fpre
  rw [List.append_assoc, List.append_assoc, ← List.append_assoc (List.map _ (List.take j _)), ← List.map_append, List.take_append_drop]

def sumL (l : List (Nat × LOp)) : Nat := (l.map fun x => x.2.list.length).sum
theorem sumL_append (a b : List (Nat × LOp)) : sumL (a ++ b) = sumL a + sumL b := by simp [sumL]
theorem sumL_one (x : Nat × LOp) : sumL [x] = x.2.list.length := by simp [sumL]

/-- The bound that txnsFit says. -/
def fits (T : List LTx) : Prop := T.length ≤ 4096 ∧ (fl T).length ≤ 4096 ∧ sumL (fl T) ≤ 4096

theorem fl_mem_lt {T : List LTx} : ∀ (k : Nat) (x : Nat × LOp), x ∈ flFrom k T → k ≤ x.1 ∧ x.1 < k + T.length := by
  induction T with
  | nil => intro k x h; simp [flFrom] at h
  | cons t T ih =>
    intro k x h
    simp only [flFrom, List.mem_append, List.mem_map] at h
    rcases h with ⟨p, _, rfl⟩ | h
    · simp
    · have := ih _ _ h
      simp only [List.length_cons]
      omega
end Go.Proofs.Qxb6001346a
