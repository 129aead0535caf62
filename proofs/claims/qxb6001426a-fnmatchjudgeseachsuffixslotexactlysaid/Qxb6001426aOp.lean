/-
  The argument opened: a slice of strings; the row's end.
-/
import Derived.Test.Qxb6001426aDa
import Derived.Test.Qxb6001426aRows
import Derived.ProofKit
import Derived.Carry
import Derived.Deep.Slices
namespace Go.Proofs.Qxb6001426a
open Go.ChangeShapes Go.WideShapes Go.ChangeAt Go.RowKit Fw
set_option linter.unusedSimpArgs false
set_option linter.unusedVariables false

theorem Try.own : ownKnob Try.prog.godebug = none := by kernel_rfl
theorem Try.laidOut : laidOutB Try.prog = true := by kernel_rfl
theorem Try.cells9 : Try.prog.cellsOf 9 = 1 := by kernel_rfl

section
variable {H : Type} {enc : TypeId × Value → H} {w : World} {spare : Nat → Bool} {held : Bool} {fuel : Nat} {x : DataW H × List MemPlace}

theorem choose_list {α : Type} (d : α) {p : Nat → α → Prop} : ∀ n : Nat, (∀ i, i < n → ∃ x, p i x) → ∃ l : List α, l.length = n ∧ ∀ i, i < n → p i (l.getD i d)
  | 0, _ => ⟨[], rfl, fun i hi => by omega⟩
  | n + 1, h => by
    obtain ⟨l, hl, hp⟩ := choose_list d n fun i hi => h i (by omega)
    obtain ⟨x, hx⟩ := h n (by omega)
    refine ⟨l ++ [x], by simp [hl], fun i hi => ?_⟩
    by_cases hin : i = n
    · subst hin
      rw [← hl] at hx ⊢
      simpa [List.getD_eq_getElem?_getD] using hx
    · have := hp i (by omega)
      simpa [List.getD_eq_getElem?_getD, List.getElem?_append_left (show i < l.length by omega)] using this
theorem cell_add {a : Addr} {i : Nat} {v : Value} (h : w.cell? (a.add i) = some v) : w.cell? ⟨a.block, a.off + i, none⟩ = some v := by
  unfold Addr.add at h
  split at h
  · rename_i h0
    subst h0
    unfold World.cell? at h ⊢
    split at h
    · rename_i hh
      split at h
      · cases h
      · simp only [hh, Nat.add_zero]; simpa using h
    · cases h
  · exact h
theorem addr_none {a : Addr} {v : Value} (h : w.cell? (a.add 0) = some v) : a = ⟨a.block, a.off, none⟩ := by
  obtain ⟨b, o, s⟩ := a
  cases s with
  | none => rfl
  | some s =>
    simp only [Addr.add, if_true] at h
    unfold World.cell? at h
    split at h
    · simp at h
    · cases h

theorem open_strs {v : Value} (h : DataW.trod enc Try.prog w 0 spare held fuel 22 [v] = some x) : ∃ l, StrsAt 0 w v l := by
  rcases Go.Deep.open_slice1 Try.underlying22 Try.cells9 h with ⟨h1, _⟩ | ⟨a, len, cap, m, n, V, D, Pl, h1, _, hl, _, hm, _, hx⟩
  · simp only [List.cons.injEq, and_true] at h1
    exact ⟨[], none, 0, by rw [h1]; rfl, .inl rfl⟩
  · simp only [List.cons.injEq, and_true] at h1
    have hlm : len ≤ m := by rw [hm]; split <;> omega
    have hs : ∀ i, i < len → ∃ s, V i = .string s := fun i hi => by
      obtain ⟨s, h2, _⟩ := DataW.trod_string Try.underlying9 (hx i (by omega)).2
      simp only [List.cons.injEq, and_true] at h2
      exact ⟨s, h2⟩
    obtain ⟨l, hll, hf⟩ := choose_list ByteArray.empty (p := fun i s => V i = .string s) len hs
    subst hll
    refine ⟨l, some a, cap, by rw [h1]; simp, ?_⟩
    rcases Nat.eq_zero_or_pos l.length with h0 | h0
    · have : l = [] := List.length_eq_zero_iff.1 h0
      subst this; exact .inl rfl
    · refine .inr ⟨a.block, a.off, congrArg some (addr_none (hx 0 (by omega)).1), Nat.zero_le _, fun i hi => ?_⟩
      have hi' : i < l.length := by simpa using hi
      rw [cell_add (hx i (by omega)).1, hf i hi', getD_map_string l i hi']

end
end Go.Proofs.Qxb6001426a
