/-
  What is built of parts; append onto a row of the call's own.
-/
import Derived.Test.Qxb6001346aDa
import Derived.Maps.AppendAt
namespace Go.Proofs.Qxb6001346a
open Fw Go.RowKit
set_option linter.unusedSimpArgs false
set_option linter.unusedVariables false

theorem bslK_eq {P : Program} {T n : Nat} {ps : Array (Nat × Value)} {cs : Array Value} {e : TypeId} (h : ∀ w, (Instr.buildSlice T n ps).run P w = .ok (.slice (some ⟨w.heap.size, 0, none⟩) n n) (w.alloc (.cells cs e)))
    (k : Array Value → TypeId → Prop) : bslK P T n ps k = k cs e := by
  apply propext
  constructor
  · rintro ⟨cs', e', hr, hk⟩
    have h1 := (hr default).symm.trans (h default)
    injection h1 with _ h2
    have h3 : (default : World).heap.push (.cells cs' e') = (default : World).heap.push (.cells cs e) := congrArg World.heap h2
    have h4 := Array.push_inj_right.1 h3
    injection h4 with h5 h6
    rw [← h5, ← h6]; exact hk
  · exact fun hk => ⟨cs, e, h, hk⟩
theorem bldK_eq {P : Program} {T : Nat} {ps : Array (Nat × Value)} {v : Value} (h : ∀ w, (Instr.build T ps).run P w = .ok v w) (k : Value → Prop) : bldK P T ps k = k v := by
  apply propext
  constructor
  · rintro ⟨v', hr, hk⟩
    have h1 := (hr default).symm.trans (h default)
    injection h1 with h2 _
    rw [← h2]; exact hk
  · exact fun hk => ⟨v, h, hk⟩

namespace Bd
section
variable (k : Array Value → TypeId → Prop)
theorem s22 (x : Int) : bslK Try.prog 22 1 #[(0, .int .i32 x)] k = k #[.int .i32 x] 21 := bslK_eq (fun w => by kernel_rfl) k
theorem s22b (x y : Int) : bslK Try.prog 22 2 #[(0, .int .i32 x), (1, .int .i32 y)] k = k #[.int .i32 x, .int .i32 y] 21 := bslK_eq (fun w => by kernel_rfl) k
theorem s31 (x : Bool) : bslK Try.prog 31 1 #[(0, .bool x)] k = k #[.bool x] 4 := bslK_eq (fun w => by kernel_rfl) k
theorem s30 (x : Int) : bslK Try.prog 30 1 #[(0, .int .i64 x)] k = k #[.int .i64 x] 3 := bslK_eq (fun w => by kernel_rfl) k
theorem s30b (x y : Int) : bslK Try.prog 30 2 #[(0, .int .i64 x), (1, .int .i64 y)] k = k #[.int .i64 x, .int .i64 y] 3 := bslK_eq (fun w => by kernel_rfl) k
theorem s30e (a b c d e : Int) : bslK Try.prog 30 5 #[(0, .int .i64 a), (1, .int .i64 b), (2, .int .i64 c), (3, .int .i64 d), (4, .int .i64 e)] k = k #[.int .i64 a, .int .i64 b, .int .i64 c, .int .i64 d, .int .i64 e] 3 := bslK_eq (fun w => by kernel_rfl) k
theorem s42 (x : ByteArray) : bslK Try.prog 42 1 #[(0, .string x)] k = k #[.string x] 9 := bslK_eq (fun w => by kernel_rfl) k
theorem s66 (x : Option Addr) : bslK Try.prog 66 1 #[(0, .pointer x)] k = k #[.pointer x] 75 := bslK_eq (fun w => by kernel_rfl) k
theorem s67 (a b c d e : Value) : bslK Try.prog 67 1 #[(0, .agg #[a, b, c, d, e])] k = k #[a, b, c, d, e] 77 := bslK_eq (fun w => by kernel_rfl) k
end
section
variable (k : Value → Prop)
theorem b49 (x : Int) (a : Option Addr) (n c : Nat) : bldK Try.prog 49 #[(0, .int .i64 x), (1, .slice a n c)] k = k (.agg #[.int .i64 x, .slice a n c]) := bldK_eq (fun w => by kernel_rfl) k
theorem b54 (x : Bool) (s t : ByteArray) (a : Option Addr) (n c : Nat) : bldK Try.prog 54 #[(0, .bool x), (1, .string s), (2, .string t), (3, .slice a n c)] k = k (.agg #[.bool x, .string s, .string t, .slice a n c]) := bldK_eq (fun w => by kernel_rfl) k
theorem b79 (x : Bool) (s t : ByteArray) (a : Option Addr) (n c : Nat) : bldK Try.prog 79 #[(0, .bool x), (1, .string s), (2, .string t), (3, .slice a n c)] k = k (.agg #[.bool x, .string s, .string t, .slice a n c]) := bldK_eq (fun w => by kernel_rfl) k
theorem b82 (x : Int) (a : Option Addr) (n c : Nat) : bldK Try.prog 82 #[(1, .slice a n c), (2, .int .i64 x)] k = k (.agg #[.int .i64 0, .slice a n c, .int .i64 x, .int .i64 0, .int .i64 0]) := bldK_eq (fun w => by kernel_rfl) k
theorem b77 (x : Int) (p : Option Addr) (y : Int) : bldK Try.prog 77 #[(0, .int .i32 x), (1, .pointer p), (2, .int .i32 y)] k = k (.agg #[.int .i32 x, .pointer p, .int .i32 y, .int .i32 0, .bool false]) := bldK_eq (fun w => by kernel_rfl) k
theorem b86 (m : Option Nat) (x y z : Int) : bldK Try.prog 86 #[(0, .map m), (1, .int .i32 x), (2, .int .i32 y), (3, .int .i32 z)] k = k (.agg #[.map m, .int .i32 x, .int .i32 y, .int .i32 z, .slice none 0 0, .slice none 0 0, .slice none 0 0]) := bldK_eq (fun w => by kernel_rfl) k
theorem b74 (a : Option Addr) (n c : Nat) (m : Option Nat) : bldK Try.prog 74 #[(0, .slice a n c), (2, .map m)] k = k (.agg #[.slice a n c, .slice none 0 0, .map m, .slice none 0 0, .slice none 0 0, .slice none 0 0, .slice none 0 0, .slice none 0 0,
    .int .i64 0, .int .i64 0, .slice none 0 0, .int .i64 0, .int .i64 0, .slice none 0 0, .int .i64 0, .int .i64 0, .slice none 0 0, .int .i64 0, .int .i64 0, .slice none 0 0, .int .i64 0, .int .i64 0, .slice none 0 0,
    .int .i64 0, .int .i64 0, .slice none 0 0, .int .i64 0, .int .i64 0, .slice none 0 0, .int .i64 0, .int .i64 0, .slice none 0 0, .int .i64 0, .int .i64 0, .slice none 0 0, .slice none 0 0]) := bldK_eq (fun w => by kernel_rfl) k
end
end Bd

/-- One element appended to a row of the call's own. -/
theorem ap_one {P : Program} {N : Nat} {w : World} {lay : Nat → Nat} {c : Nat → Option AO} (h : St N w lay c) {r t ty e size bytes n : Nat} {z v : Value} {xs : List Value} (hv : RowV lay c r e size v n xs)
    (ht : slcZ P t = some (e, z, bytes, size)) (hz : z.cells.size = size) (hs0 : 0 < size) (cs : List Value) (hl : cs.length = size) (h1 : cs.all one = true) (hn : n ≤ 1073741824) (hby : bytes ≤ 4096) (hN : N ≤ w.heap.size)
    {k : Value → World → Prop} (hk : ∀ v' w' lay' c', St N w' lay' c' → RowV lay' c' r e size v' (n + 1) (xs ++ cs) → (∀ s, s ≠ r → lay' s = lay s ∧ c' s = c s) → (∃ cap, v' = .slice (some ⟨lay' r, 0, none⟩) (n + 1) cap) → Below N w w' → k v' w') :
    apK P (w.alloc (.cells cs.toArray e)) #[t, t] ty #[v, .slice (some ⟨w.heap.size, 0, none⟩) 1 1] k := by
  have hi : ∃ i, P.underlying t = some (.slice e) ∧ P.info? e = some i ∧ i.zero = some z ∧ i.size = size ∧ i.bytes = bytes := by
    unfold slcZ at ht
    split at ht
    · rename_i e' hu
      split at ht
      · rename_i i hi
        split at ht
        · rename_i z' hz'
          cases ht
          exact ⟨i, hu, hi, hz', rfl, rfl⟩
        · cases ht
      · cases ht
    · cases ht
  obtain ⟨i, hu, hi, hiz, his, hib⟩ := hi
  have hS := h.alloc (.cells cs.toArray e)
  have hb : (n + 1) * bytes ≤ 140737488355328 := Nat.le_trans (Nat.mul_le_mul (show n + 1 ≤ 1073741825 by omega) hby) (by omega)
  have hnews : ∀ j u, cs[j]? = some u → (w.alloc (.cells cs.toArray e)).cell? ((⟨w.heap.size, 0, none⟩ : Addr).add j) = some u := by
    intro j u hj
    rw [add_mk, cell_row (heap_new w _)]
    simpa using hj
  have hone : ∀ u ∈ cs, u.oneCell' = true := fun u hu => (one_eq (List.all_eq_true.1 h1 u hu)).2
  obtain ⟨v', w', hr, hown, hg, hnil, hat⟩ := run_append_own_at (P := P) (w.alloc (.cells cs.toArray e)) N t ty e i z size bytes hu hi hiz his hib hz hs0 v n xs (RowV.owns hS hv) ⟨w.heap.size, 0, none⟩ 1 1 cs (by simpa using hl) hnews hone
    (by unfold maxLen; omega) hb (by simp; omega)
  refine ⟨v', w', hr, ?_⟩
  obtain ⟨hlen, hown⟩ := hown
  rcases hown with ⟨_, h0⟩ | ⟨g, cap, cur, hv', hg1, hg2, hg3, hg4, hg5, hg6⟩
  · omega
  subst hv'
  have hvw : view w' g = some (.inl (cur, e)) := view_row.2 hg2
  have hrow : ∀ (lay' : Nat → Nat) (c' : Nat → Option AO), lay' r = g → c' r = some (.inl (cur, e)) → RowV lay' c' r e size (.slice (some ⟨g, 0, none⟩) (n + 1) cap) (n + 1) (xs ++ cs) := fun lay' c' e1 e2 =>
    ⟨hlen, .inr ⟨cap, cur, by rw [e1], e2, hg3, hg4, hg5, hg6⟩⟩
  have hbel : Below N w w' := ((Below.refl _ _).alloc hN _).grown hg (by simp; omega) (by
    intro k hk
    rcases hv.2 with ⟨rfl, _, _⟩ | ⟨cap0, cur0, rfl, hc0, _⟩
    · simp [Value.ownBlock] at hk
    · simp [Value.ownBlock] at hk; rw [← hk]; exact h.ge hc0)
  rcases hat with hat | hat
  · -- the old row had room
    rcases hv.2 with ⟨rfl, _, _⟩ | ⟨cap0, cur0, rfl, hc0, _⟩
    · simp [Value.ownBlock] at hat
    · simp [Value.ownBlock] at hat
      subst hat
      refine hk _ _ lay (updC c r (.inl (cur, e))) (h.turn hc0 hvw fun k hk1 hk2 => view_of_heap ?_) (hrow _ _ rfl (by simp [updC])) (fun s hs => ⟨rfl, by simp [updC, hs]⟩) ⟨cap, rfl⟩ hbel
      rw [hg.block k (by simp; omega) (by simp [Value.ownBlock]; exact hk2)]
      exact Below.heap_alloc _ _ _ hk1
  · -- a new row
    simp [Value.ownBlock] at hat
    refine hk _ _ (updN lay r g) (updC c r (.inl (cur, e))) (h.put r g _ hg1 (by omega) hvw fun s x hs hx => view_of_heap ?_) (hrow _ _ (by simp [updN]) (by simp [updC])) (fun s hs => ⟨by simp [updN, hs], by simp [updC, hs]⟩) ⟨cap, by simp [updN]⟩ hbel
    have hlt := h.lt hx
    rw [hg.block (lay s) (by simp; omega) ?_]
    · exact Below.heap_alloc _ _ _ hlt
    · rcases hv.2 with ⟨rfl, _, _⟩ | ⟨cap0, cur0, rfl, hc0, _⟩
      · simp [Value.ownBlock]
      · simp [Value.ownBlock]
        exact fun he => hs (h.2 _ _ _ _ hx hc0 he)
end Go.Proofs.Qxb6001346a
