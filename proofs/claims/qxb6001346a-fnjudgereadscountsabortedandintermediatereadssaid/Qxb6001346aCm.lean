/-
  The check's state: as plain lists, and how it lies in memory.
-/
import Derived.Test.Qxb6001346aPl
namespace Go.Proofs.Qxb6001346a
open Fw Go.RowKit
set_option linter.unusedSimpArgs false
set_option linter.unusedVariables false

structure KS where
  name : ByteArray
  vals : List (ByteArray × Int)
  last : Int
  lastT : Int
  lg : Int
structure Rd where
  t : Int
  kj : Nat
  s : Int
  e : Int
  cl : Bool
structure CSt where
  K : List KS
  W : List Int
  I : List Bool
  L : List Int
  R : List Rd
def ks0 : KS := ⟨ByteArray.empty, [], -1, -1, -1⟩
def rd0 : Rd := ⟨0, 0, 0, 0, false⟩

def keyIdx (K : List KS) (name : ByteArray) : Option Nat := K.findIdx? fun x => decide (x.name = name)
def newKS (name : ByteArray) : KS := ⟨name, [], -1, -1, -1⟩
def addKey (K : List KS) (name : ByteArray) : List KS := match keyIdx K name with | some _ => K | none => K ++ [newKS name]
def assoc (l : List (ByteArray × Int)) (v : ByteArray) : Option Int := (l.find? fun p => decide (p.1 = v)).map (·.2)

def kptr (lay : Nat → Nat) (j : Nat) : Value := .pointer (some ⟨lay (40 + 2 * j), 0, none⟩)
def keyEntsFrom (lay : Nat → Nat) : Nat → List KS → List (Value × Value)
  | _, [] => []
  | j, x :: K => (.string x.name, kptr lay j) :: keyEntsFrom lay (j + 1) K
def valEnts (l : List (ByteArray × Int)) : List (Value × Value) := l.map fun p => (.string p.1, .int .i32 p.2)
def ksCells (lay : Nat → Nat) (j : Nat) (x : KS) : Array Value :=
  #[.map (some (lay (41 + 2 * j))), .int .i32 x.last, .int .i32 x.lastT, .int .i32 x.lg, .slice none 0 0, .slice none 0 0, .slice none 0 0]
def rdCells (lay : Nat → Nat) (r : Rd) : List Value := [.int .i32 r.t, kptr lay r.kj, .int .i32 r.s, .int .i32 r.e, .bool r.cl]

theorem keyEnts_append (lay : Nat → Nat) : ∀ (A B : List KS) (j : Nat), keyEntsFrom lay j (A ++ B) = keyEntsFrom lay j A ++ keyEntsFrom lay (j + A.length) B
  | [], B, j => by simp [keyEntsFrom]
  | x :: A, B, j => by
    simp only [List.cons_append, keyEntsFrom, keyEnts_append lay A B (j + 1), List.length_cons]
    rw [show j + 1 + A.length = j + (A.length + 1) by omega]
theorem keyEnts_congr {lay lay' : Nat → Nat} : ∀ (K : List KS) (j : Nat), (∀ i, j ≤ i → i < j + K.length → lay' (40 + 2 * i) = lay (40 + 2 * i)) → keyEntsFrom lay' j K = keyEntsFrom lay j K
  | [], j, _ => rfl
  | x :: K, j, h => by
    simp only [keyEntsFrom]
    rw [keyEnts_congr K (j + 1) (fun i h1 h2 => h i (by omega) (by simp; omega))]
    simp only [kptr]
    rw [h j (Nat.le_refl _) (by simp)]
theorem findS_keys (lay : Nat → Nat) (name : ByteArray) : ∀ (K : List KS) (j : Nat), findS (keyEntsFrom lay j K) name = some ((keyIdx K name).map fun i => kptr lay (j + i))
  | [], j => by simp [keyEntsFrom, findS, keyIdx]
  | x :: K, j => by
    simp only [keyEntsFrom, findS, ba_beq]
    by_cases h : name = x.name
    · subst h
      simp [keyIdx, List.findIdx?_cons]
    · have ih := findS_keys lay name K (j + 1)
      have h' : ¬ x.name = name := fun e => h e.symm
      simp only [h, decide_false, Bool.false_eq_true, if_false, ih, keyIdx, List.findIdx?_cons, h', Option.map_map]
      congr 2
      funext i
      simp only [Function.comp]
      rw [show j + 1 + i = j + (i + 1) by omega]
theorem findS_vals (v : ByteArray) : ∀ (l : List (ByteArray × Int)), findS (valEnts l) v = some ((assoc l v).map fun n => .int .i32 n)
  | [] => by simp [valEnts, findS, assoc]
  | p :: l => by
    have ih := findS_vals v l
    simp only [valEnts, List.map_cons, findS, ba_beq] at ih ⊢
    by_cases h : v = p.1
    · subst h; simp [assoc]
    · have h' : ¬ p.1 = v := fun e => h e.symm
      simp only [h, decide_false, Bool.false_eq_true, if_false, ih, assoc, List.find?_cons, h']

theorem keyIdx_lt {K : List KS} {name : ByteArray} {j : Nat} (h : keyIdx K name = some j) : j < K.length ∧ (K.getD j ks0).name = name := by
  obtain ⟨h1, h2, _⟩ := List.findIdx?_eq_some_iff_getElem.1 h
  refine ⟨h1, ?_⟩
  simpa [List.getD_eq_getElem?_getD, h1] using h2
theorem keyIdx_none {K : List KS} {name : ByteArray} (h : keyIdx K name = none) : ∀ x ∈ K, x.name ≠ name := by
  simpa [keyIdx] using h
theorem keyIdx_add_some {K : List KS} {name : ByteArray} {j : Nat} (h : keyIdx K name = some j) : addKey K name = K := by simp [addKey, h]
theorem keyIdx_add_none {K : List KS} {name : ByteArray} (h : keyIdx K name = none) : addKey K name = K ++ [newKS name] ∧ keyIdx (addKey K name) name = some K.length := by
  have e : addKey K name = K ++ [newKS name] := by simp [addKey, h]
  refine ⟨e, ?_⟩
  rw [e]
  unfold keyIdx at h ⊢
  rw [List.findIdx?_append, h]
  simp [newKS]

/-- The check's struct: the eight fields ahead of 'found'. -/
def CC (C : Array Value) (tv cv kv ov wv iv rv lv : Value) : Prop :=
  C.size = 36 ∧ C[0]? = some tv ∧ C[1]? = some cv ∧ C[2]? = some kv ∧ C[3]? = some ov ∧ C[4]? = some wv ∧ C[5]? = some iv ∧ C[6]? = some rv ∧ C[7]? = some lv

section
variable {C : Array Value} {tv cv kv ov wv iv rv lv : Value}
theorem CC.set1 (h : CC C tv cv kv ov wv iv rv lv) (v : Value) : CC (C.setIfInBounds 1 v) tv v kv ov wv iv rv lv := by
  obtain ⟨h0, h1, h2, h3, h4, h5, h6, h7, h8⟩ := h
  refine ⟨by simpa using h0, ?_, ?_, ?_, ?_, ?_, ?_, ?_, ?_⟩ <;> first | (rw [Array.getElem?_setIfInBounds_ne (by omega)]; assumption) | (rw [Array.getElem?_setIfInBounds_self_of_lt (by omega)])
theorem CC.set3 (h : CC C tv cv kv ov wv iv rv lv) (v : Value) : CC (C.setIfInBounds 3 v) tv cv kv v wv iv rv lv := by
  obtain ⟨h0, h1, h2, h3, h4, h5, h6, h7, h8⟩ := h
  refine ⟨by simpa using h0, ?_, ?_, ?_, ?_, ?_, ?_, ?_, ?_⟩ <;> first | (rw [Array.getElem?_setIfInBounds_ne (by omega)]; assumption) | (rw [Array.getElem?_setIfInBounds_self_of_lt (by omega)])
theorem CC.set4 (h : CC C tv cv kv ov wv iv rv lv) (v : Value) : CC (C.setIfInBounds 4 v) tv cv kv ov v iv rv lv := by
  obtain ⟨h0, h1, h2, h3, h4, h5, h6, h7, h8⟩ := h
  refine ⟨by simpa using h0, ?_, ?_, ?_, ?_, ?_, ?_, ?_, ?_⟩ <;> first | (rw [Array.getElem?_setIfInBounds_ne (by omega)]; assumption) | (rw [Array.getElem?_setIfInBounds_self_of_lt (by omega)])
theorem CC.set5 (h : CC C tv cv kv ov wv iv rv lv) (v : Value) : CC (C.setIfInBounds 5 v) tv cv kv ov wv v rv lv := by
  obtain ⟨h0, h1, h2, h3, h4, h5, h6, h7, h8⟩ := h
  refine ⟨by simpa using h0, ?_, ?_, ?_, ?_, ?_, ?_, ?_, ?_⟩ <;> first | (rw [Array.getElem?_setIfInBounds_ne (by omega)]; assumption) | (rw [Array.getElem?_setIfInBounds_self_of_lt (by omega)])
theorem CC.set6 (h : CC C tv cv kv ov wv iv rv lv) (v : Value) : CC (C.setIfInBounds 6 v) tv cv kv ov wv iv v lv := by
  obtain ⟨h0, h1, h2, h3, h4, h5, h6, h7, h8⟩ := h
  refine ⟨by simpa using h0, ?_, ?_, ?_, ?_, ?_, ?_, ?_, ?_⟩ <;> first | (rw [Array.getElem?_setIfInBounds_ne (by omega)]; assumption) | (rw [Array.getElem?_setIfInBounds_self_of_lt (by omega)])
theorem CC.set7 (h : CC C tv cv kv ov wv iv rv lv) (v : Value) : CC (C.setIfInBounds 7 v) tv cv kv ov wv iv rv v := by
  obtain ⟨h0, h1, h2, h3, h4, h5, h6, h7, h8⟩ := h
  refine ⟨by simpa using h0, ?_, ?_, ?_, ?_, ?_, ?_, ?_, ?_⟩ <;> first | (rw [Array.getElem?_setIfInBounds_ne (by omega)]; assumption) | (rw [Array.getElem?_setIfInBounds_self_of_lt (by omega)])
end

/-- The keys in memory. -/
def KeysC (lay : Nat → Nat) (c : Nat → Option AO) (K : List KS) : Prop :=
  c 1 = some (.inr (keyEntsFrom lay 0 K)) ∧ ∀ j, j < K.length → c (40 + 2 * j) = some (.inl (ksCells lay j (K.getD j ks0), 86)) ∧ c (41 + 2 * j) = some (.inr (valEnts (K.getD j ks0).vals))

structure CM (N : Nat) (w : World) (lay : Nat → Nat) (c : Nat → Option AO) (tv cv : Value) (fd : Nat → Option Value) (S : CSt) (C : Array Value) (ov wv iv rv lv : Value) (xo : List Value) : Prop where
  st : St N w lay c
  hc : c 0 = some (.inl (C, 74))
  cc : CC C tv cv (.map (some (lay 1))) ov wv iv rv lv
  fnd : ∀ i, i < 27 → C[8 + i]? = fd i
  keys : KeysC lay c S.K
  wr : RowV lay c 2 21 1 wv S.W.length (S.W.map fun n => .int .i32 n)
  im : RowV lay c 3 4 1 iv S.I.length (S.I.map .bool)
  rd : RowV lay c 4 77 5 rv S.R.length (S.R.flatMap (rdCells lay))
  li : RowV lay c 5 21 1 lv S.L.length (S.L.map fun n => .int .i32 n)
  od : RowV lay c 6 75 1 ov S.K.length xo
  rk : ∀ r ∈ S.R, r.kj < S.K.length
  nb : N ≤ w.heap.size

theorem RowV.congr {lay lay' : Nat → Nat} {c c' : Nat → Option AO} {r e size n : Nat} {v : Value} {xs : List Value} (h : RowV lay c r e size v n xs) (h1 : lay' r = lay r) (h2 : c' r = c r) : RowV lay' c' r e size v n xs := by
  obtain ⟨hl, h⟩ := h
  refine ⟨hl, ?_⟩
  rcases h with ⟨a, b, d⟩ | ⟨cap, cur, a, b, d⟩
  · exact .inl ⟨a, b, by rw [h2]; exact d⟩
  · exact .inr ⟨cap, cur, by rw [h1]; exact a, by rw [h2]; exact b, d⟩
theorem KeysC.congr {lay lay' : Nat → Nat} {c c' : Nat → Option AO} {K : List KS} (h : KeysC lay c K) (h1 : c' 1 = c 1) (h2 : ∀ r, 40 ≤ r → r < 40 + 2 * K.length → lay' r = lay r ∧ c' r = c r) : KeysC lay' c' K := by
  refine ⟨?_, fun j hj => ?_⟩
  · rw [h1, h.1, keyEnts_congr K 0 (fun i _ hi => (h2 _ (by omega) (by omega)).1)]
  · obtain ⟨a, b⟩ := h.2 j hj
    rw [(h2 (40 + 2 * j) (by omega) (by omega)).2, (h2 (41 + 2 * j) (by omega) (by omega)).2]
    refine ⟨?_, b⟩
    rw [a]
    simp only [ksCells]
    rw [(h2 (41 + 2 * j) (by omega) (by omega)).1]
theorem rdCells_congr {lay lay' : Nat → Nat} {R : List Rd} {n : Nat} (hk : ∀ r ∈ R, r.kj < n) (h2 : ∀ j, j < n → lay' (40 + 2 * j) = lay (40 + 2 * j)) : R.flatMap (rdCells lay') = R.flatMap (rdCells lay) := by
  induction R with
  | nil => rfl
  | cons r R ih =>
    simp only [List.flatMap_cons]
    rw [ih (fun r hr => hk r (List.mem_cons_of_mem _ hr))]
    simp only [rdCells, kptr]
    rw [h2 r.kj (hk r (List.mem_cons_self ..))]

/-- A world, a layout and contents that agree with the old ones where the state lies. -/
theorem CM.move {N : Nat} {w w' : World} {lay lay' : Nat → Nat} {c c' : Nat → Option AO} {tv cv : Value} {fd : Nat → Option Value} {S : CSt} {C : Array Value} {ov wv iv rv lv : Value} {xo : List Value}
    (h : CM N w lay c tv cv fd S C ov wv iv rv lv xo) (hS : St N w' lay' c') (hN : N ≤ w'.heap.size) (ha : ∀ r, r < 7 ∨ 40 ≤ r → lay' r = lay r ∧ c' r = c r) : CM N w' lay' c' tv cv fd S C ov wv iv rv lv xo where
  st := hS
  hc := by rw [(ha 0 (by omega)).2]; exact h.hc
  cc := by rw [(ha 1 (by omega)).1]; exact h.cc
  fnd := h.fnd
  keys := h.keys.congr (ha 1 (by omega)).2 fun r hr _ => ha r (by omega)
  wr := h.wr.congr (ha 2 (by omega)).1 (ha 2 (by omega)).2
  im := h.im.congr (ha 3 (by omega)).1 (ha 3 (by omega)).2
  rd := by
    rw [rdCells_congr h.rk fun j _ => (ha (40 + 2 * j) (by omega)).1]
    exact h.rd.congr (ha 4 (by omega)).1 (ha 4 (by omega)).2
  li := h.li.congr (ha 5 (by omega)).1 (ha 5 (by omega)).2
  od := h.od.congr (ha 6 (by omega)).1 (ha 6 (by omega)).2
  rk := h.rk
  nb := hN
end Go.Proofs.Qxb6001346a
