/-
  The argument opened: a slice of transactions; the row's end.
-/
import Derived.Test.Qxb6001346aDa
import Derived.Test.Qxb6001346aRows
import Derived.ProofKit
import Derived.Deep.Slices
namespace Go.Proofs.Qxb6001346a
open Go.ChangeShapes Go.WideShapes Go.ChangeAt Go.RowKit Fw
set_option linter.unusedSimpArgs false
set_option linter.unusedVariables false

theorem Try.own : ownKnob Try.prog.godebug = none := by kernel_rfl
theorem Try.laidOut : laidOutB Try.prog = true := by kernel_rfl
theorem Try.cells9 : Try.prog.cellsOf 9 = 1 := by kernel_rfl
theorem Try.cells4 : Try.prog.cellsOf 4 = 1 := by kernel_rfl
theorem Try.cells3 : Try.prog.cellsOf 3 = 1 := by kernel_rfl
theorem Try.cells42 : Try.prog.cellsOf 42 = 1 := by kernel_rfl
theorem Try.cells47 : Try.prog.cellsOf 47 = 1 := by kernel_rfl
theorem Try.cells54 : Try.prog.cellsOf 54 = 4 := by kernel_rfl
theorem Try.cells49 : Try.prog.cellsOf 49 = 2 := by kernel_rfl

section
variable {H : Type} {enc : TypeId × Value → H} {w : World} {spare : Nat → Bool} {held : Bool} {fuel : Nat} {x : DataW H × List MemPlace}

theorem choose_list {α : Type} (d : α) {p : Nat → α → Prop} : ∀ n : Nat, (∀ i, i < n → ∃ x, p i x) → ∃ l : List α, l.length = n ∧ ∀ i, i < n → p i (l.getD i d)
  | 0, _ => ⟨[], rfl, fun i hi => by omega⟩
  | n + 1, h => by
    obtain ⟨l, hl, hp⟩ := choose_list d n fun i hi => h i (by omega)
    obtain ⟨x, hx⟩ := h n (by omega)
    refine ⟨l ++ [x], by simp [hl], fun i hi => ?_⟩
    by_cases hin : i = n
    · subst hin
      rw [← hl] at hx ⊢
      simpa [List.getD_eq_getElem?_getD] using hx
    · have := hp i (by omega)
      simpa [List.getD_eq_getElem?_getD, List.getElem?_append_left (show i < l.length by omega)] using this
theorem cell_add {a : Addr} {i : Nat} {v : Value} (h : w.cell? (a.add i) = some v) : w.cell? ⟨a.block, a.off + i, none⟩ = some v := by
  unfold Addr.add at h
  split at h
  · rename_i h0
    subst h0
    unfold World.cell? at h ⊢
    split at h
    · rename_i hh
      split at h
      · cases h
      · simp only [hh, Nat.add_zero]; simpa using h
    · cases h
  · exact h
theorem addr_none {a : Addr} {v : Value} (h : w.cell? (a.add 0) = some v) : a = ⟨a.block, a.off, none⟩ := by
  obtain ⟨b, o, s⟩ := a
  cases s with
  | none => rfl
  | some s =>
    simp only [Addr.add, if_true] at h
    unfold World.cell? at h
    split at h
    · simp at h
    · cases h

theorem open_strs {v : Value} (h : DataW.trod enc Try.prog w 0 spare held fuel 42 [v] = some x) : ∃ l, StrsAt 0 w v l := by
  rcases Go.Deep.open_slice1 Try.underlying42 Try.cells9 h with ⟨h1, _⟩ | ⟨a, len, cap, m, n, V, D, Pl, h1, _, hl, _, hm, _, hx⟩
  · simp only [List.cons.injEq, and_true] at h1
    exact ⟨[], none, 0, by rw [h1]; rfl, .inl rfl⟩
  · simp only [List.cons.injEq, and_true] at h1
    have hlm : len ≤ m := by rw [hm]; split <;> omega
    have hs : ∀ i, i < len → ∃ s, V i = .string s := fun i hi => by
      obtain ⟨s, h2, _⟩ := DataW.trod_string Try.underlying9 (hx i (by omega)).2
      simp only [List.cons.injEq, and_true] at h2
      exact ⟨s, h2⟩
    obtain ⟨l, hll, hf⟩ := choose_list ByteArray.empty (p := fun i s => V i = .string s) len hs
    subst hll
    refine ⟨l, some a, cap, by rw [h1]; simp, ?_⟩
    rcases Nat.eq_zero_or_pos l.length with h0 | h0
    · have : l = [] := List.length_eq_zero_iff.1 h0
      subst this; exact .inl rfl
    · refine .inr ⟨a.block, a.off, congrArg some (addr_none (hx 0 (by omega)).1), Nat.zero_le _, fun i hi => ?_⟩
      have hi' : i < l.length := by simpa using hi
      rw [cell_add (hx i (by omega)).1, hf i hi', getD_map_string l i hi']

theorem open_op {b o : Nat} {cs : List Value} (hc : ∀ i, i < 4 → w.cell? ⟨b, o + i, none⟩ = cs[i]?) (hl : cs.length = 4) (h : DataW.trod enc Try.prog w 0 spare held fuel 54 cs = some x) : ∃ p, OpAt 0 w b o p := by
  match cs, hl with
  | [c0, c1, c2, c3], _ =>
    obtain ⟨xs, n, _, _, _, hlen, hf⟩ := DataW.trod_struct Try.underlying54 h
    obtain ⟨y0, e0⟩ : ∃ y, xs[0]? = some y := ⟨xs[0]'(by rw [hlen]; decide), by simp⟩
    obtain ⟨y1, e1⟩ : ∃ y, xs[1]? = some y := ⟨xs[1]'(by rw [hlen]; decide), by simp⟩
    obtain ⟨y2, e2⟩ : ∃ y, xs[2]? = some y := ⟨xs[2]'(by rw [hlen]; decide), by simp⟩
    obtain ⟨y3, e3⟩ : ∃ y, xs[3]? = some y := ⟨xs[3]'(by rw [hlen]; decide), by simp⟩
    have f0 := hf 0 { name := "Append", type := 4, offset := 0, embedded := false, tag := "", pkgPath := "", byteOffset := 0 } rfl
    have f1 := hf 1 { name := "Key", type := 9, offset := 1, embedded := false, tag := "", pkgPath := "", byteOffset := 8 } rfl
    have f2 := hf 2 { name := "Value", type := 9, offset := 2, embedded := false, tag := "", pkgPath := "", byteOffset := 24 } rfl
    have f3 := hf 3 { name := "List", type := 42, offset := 3, embedded := false, tag := "", pkgPath := "", byteOffset := 40 } rfl
    simp only [Try.cells4, Try.cells9, Try.cells42, List.drop_zero, List.drop_succ_cons, List.take_succ_cons, List.take_zero, e0, e1, e2, e3] at f0 f1 f2 f3
    obtain ⟨p0, g0, _⟩ := DataW.trod_bool Try.underlying4 f0
    obtain ⟨p1, g1, _⟩ := DataW.trod_string Try.underlying9 f1
    obtain ⟨p2, g2, _⟩ := DataW.trod_string Try.underlying9 f2
    obtain ⟨l, hl⟩ := open_strs f3
    simp only [List.cons.injEq, and_true] at g0 g1 g2
    exact ⟨⟨p0, p1, p2, l⟩, by rw [← g0]; exact hc 0 (by omega), by rw [← g1]; exact hc 1 (by omega), by rw [← g2]; exact hc 2 (by omega), c3, hc 3 (by omega), hl⟩

theorem open_ops {v : Value} (h : DataW.trod enc Try.prog w 0 spare held fuel 47 [v] = some x) : ∃ l, OpsAt 0 w v l := by
  rcases Go.Deep.open_slice Try.underlying47 h with ⟨h1, _⟩ | ⟨a, len, cap, m, n, D, Pl, h1, _, hl, _, hm, _, hx⟩
  · simp only [List.cons.injEq, and_true] at h1
    exact ⟨[], none, 0, by rw [h1]; rfl, .inl rfl⟩
  · simp only [List.cons.injEq, and_true] at h1
    have hlm : len ≤ m := by rw [hm]; split <;> omega
    rw [Try.cells54] at hx
    have cells : ∀ i, i < len → ∃ cs', cs'.length = 4 ∧ (∀ j, j < 4 → w.cell? ⟨a.block, a.off + i * 4 + j, none⟩ = cs'[j]?) ∧ DataW.trod enc Try.prog w 0 spare held n 54 cs' = some (D i, Pl i) := fun i hi => by
      obtain ⟨cs', h2, h3⟩ := hx i (by omega)
      obtain ⟨_, h4, h5⟩ := World.cells?_some h2
      refine ⟨cs', h4, fun j hj => ?_, h3⟩
      have := h5 j hj
      rw [List.getElem?_eq_getElem (by omega)] at this ⊢
      rw [Go.Deep.add_add] at this
      have := cell_add this
      rw [Nat.add_assoc]
      exact this
    have hs : ∀ i, i < len → ∃ p, OpAt 0 w a.block (a.off + i * 4) p := fun i hi => by
      obtain ⟨cs', h4, h5, h3⟩ := cells i hi
      exact open_op h5 h4 h3
    obtain ⟨l, hll, hf⟩ := choose_list op0 (p := fun i s => OpAt 0 w a.block (a.off + i * 4) s) len hs
    subst hll
    refine ⟨l, some a, cap, by rw [h1], ?_⟩
    rcases Nat.eq_zero_or_pos l.length with h0 | h0
    · exact .inl (List.length_eq_zero_iff.1 h0)
    · obtain ⟨cs', h2, _⟩ := hx 0 (by omega)
      obtain ⟨_, h4, h5⟩ := World.cells?_some h2
      have := h5 0 (by omega)
      rw [List.getElem?_eq_getElem (by omega), Go.Deep.add_add] at this
      exact .inr ⟨a.block, a.off, congrArg some (addr_none this), Nat.zero_le _, hf⟩

theorem open_txs {v : Value} (h : DataW.trod enc Try.prog w 0 spare held fuel 32 [v] = some x) : ∃ T, TxnsAt 0 w v T := by
  rcases Go.Deep.open_slice Try.underlying32 h with ⟨h1, _⟩ | ⟨a, len, cap, m, n, D, Pl, h1, _, hl, _, hm, _, hx⟩
  · simp only [List.cons.injEq, and_true] at h1
    exact ⟨[], none, 0, by rw [h1]; rfl, .inl rfl⟩
  · simp only [List.cons.injEq, and_true] at h1
    have hlm : len ≤ m := by rw [hm]; split <;> omega
    rw [Try.cells49] at hx
    have hs : ∀ i, i < len → ∃ t : LTx, w.cell? ⟨a.block, a.off + i * 2 + 0, none⟩ = some (.int .i64 t.out) ∧ ∃ ov, w.cell? ⟨a.block, a.off + i * 2 + 1, none⟩ = some ov ∧ OpsAt 0 w ov t.ops := fun i hi => by
      obtain ⟨cs', h2, h3⟩ := hx i (by omega)
      obtain ⟨_, h4, h5⟩ := World.cells?_some h2
      match cs', h4 with
      | [c0, c1], _ =>
        have k0 := h5 0 (by omega)
        have k1 := h5 1 (by omega)
        simp only [List.getElem?_cons_zero, List.getElem?_cons_succ, Go.Deep.add_add] at k0 k1
        have k0 := cell_add k0
        have k1 := cell_add k1
        obtain ⟨xs, n', _, _, _, hlen, hf⟩ := DataW.trod_struct Try.underlying49 h3
        obtain ⟨y0, e0⟩ : ∃ y, xs[0]? = some y := ⟨xs[0]'(by rw [hlen]; decide), by simp⟩
        obtain ⟨y1, e1⟩ : ∃ y, xs[1]? = some y := ⟨xs[1]'(by rw [hlen]; decide), by simp⟩
        have f0 := hf 0 { name := "Outcome", type := 3, offset := 0, embedded := false, tag := "", pkgPath := "", byteOffset := 0 } rfl
        have f1 := hf 1 { name := "Ops", type := 47, offset := 1, embedded := false, tag := "", pkgPath := "", byteOffset := 8 } rfl
        simp only [Try.cells3, Try.cells47, List.drop_zero, List.drop_succ_cons, List.take_succ_cons, List.take_zero, e0, e1] at f0 f1
        obtain ⟨z, g0, _⟩ := DataW.trod_int Try.underlying3 f0
        obtain ⟨ops, ho⟩ := open_ops f1
        simp only [List.cons.injEq, and_true] at g0
        exact ⟨⟨z, ops⟩, by rw [← g0, Nat.add_assoc]; exact k0, c1, by rw [Nat.add_assoc]; exact k1, ho⟩
    obtain ⟨l, hll, hf⟩ := choose_list tx0 (p := fun i (t : LTx) => w.cell? ⟨a.block, a.off + i * 2 + 0, none⟩ = some (.int .i64 t.out) ∧ ∃ ov, w.cell? ⟨a.block, a.off + i * 2 + 1, none⟩ = some ov ∧ OpsAt 0 w ov t.ops) len hs
    subst hll
    refine ⟨l, some a, cap, by rw [h1], ?_⟩
    rcases Nat.eq_zero_or_pos l.length with h0 | h0
    · exact .inl (List.length_eq_zero_iff.1 h0)
    · obtain ⟨cs', h2, _⟩ := hx 0 (by omega)
      obtain ⟨_, h4, h5⟩ := World.cells?_some h2
      have := h5 0 (by omega)
      rw [List.getElem?_eq_getElem (by omega), Go.Deep.add_add] at this
      exact .inr ⟨a.block, a.off, congrArg some (addr_none this), Nat.zero_le _, hf⟩
end
end Go.Proofs.Qxb6001346a
