/-
  What collect computes, as plain functions over lists.
-/
import Derived.Test.Qxb6001346aCm
namespace Go.Proofs.Qxb6001346a
open Fw Go.RowKit
set_option linter.unusedSimpArgs false
set_option linter.unusedVariables false

def s0 : CSt := ⟨[], [], [], [], []⟩
def kix (K : List KS) (name : ByteArray) : Nat := (keyIdx K name).getD 0

/-- One operation, in the first round. -/
def stepA (S : CSt) (x : Nat × LOp) : CSt :=
  if x.2.app = false then S else
  let K1 := addKey S.K x.2.key
  let j := kix K1 x.2.key
  let k := K1.getD j ks0
  match assoc k.vals x.2.val with
  | some _ => { S with K := K1 }
  | none => { S with K := K1.set j { k with vals := k.vals ++ [(x.2.val, (S.W.length : Int))], last := S.W.length, lastT := x.1 },
                     W := S.W ++ [(x.1 : Int)], I := (if k.lastT = x.1 then S.I.set k.last.toNat true else S.I) ++ [false] }
def phA (l : List (Nat × LOp)) : CSt := l.foldl stepA s0

/-- The number of value v of key j: known, or new. -/
def numV (S : CSt) (j : Nat) (v : ByteArray) : Int × CSt :=
  let k := S.K.getD j ks0
  match assoc k.vals v with
  | some n => (n, S)
  | none => (S.W.length, { S with K := S.K.set j { k with vals := k.vals ++ [(v, (S.W.length : Int))] }, W := S.W ++ [-1], I := S.I ++ [false] })
/-- One value of a read. -/
def stepV (i j : Nat) (X : CSt × List Bool) (v : ByteArray) : CSt × List Bool :=
  let Y := numV X.1 j v
  let wn := Y.2.W.getD Y.1.toNat 0
  ({ Y.2 with L := Y.2.L ++ [Y.1] }, if 0 ≤ wn ∧ wn ≠ (i : Int) then X.2.set wn.toNat true else X.2)
/-- One operation, in the second round. -/
def stepR (X : CSt × List Bool) (x : Nat × LOp) : CSt × List Bool :=
  if x.2.app = true then X else
  let K1 := addKey X.1.K x.2.key
  let j := kix K1 x.2.key
  let Y := x.2.list.foldl (stepV x.1 j) ({ X.1 with K := K1 }, X.2)
  ({ Y.1 with R := Y.1.R ++ [⟨x.1, j, X.1.L.length, Y.1.L.length, false⟩] }, Y.2)
def phR (S : CSt) (m : Nat) (l : List (Nat × LOp)) : CSt × List Bool := l.foldl stepR (S, List.replicate m false)
def colS (T : List LTx) : CSt × List Bool := phR (phA (fl T)) T.length (fl T)
def comm (T : List LTx) (seen : List Bool) : List Bool := (List.range T.length).map fun i => decide ((T.getD i tx0).out = 1) || (decide ((T.getD i tx0).out = 3) && seen.getD i false)

structure Good (m : Nat) (S : CSt) : Prop where
  il : S.I.length = S.W.length
  lt : ∀ k ∈ S.K, 0 ≤ k.lastT → 0 ≤ k.last ∧ k.last < S.W.length
  va : ∀ k ∈ S.K, ∀ p ∈ k.vals, 0 ≤ p.2 ∧ p.2 < S.W.length
  wm : ∀ x ∈ S.W, -1 ≤ x ∧ x < m
  rk : ∀ r ∈ S.R, r.kj < S.K.length
  rt : ∀ r ∈ S.R, 0 ≤ r.t ∧ r.t < m
  rs : ∀ r ∈ S.R, 0 ≤ r.s ∧ r.s ≤ r.e ∧ r.e ≤ S.L.length
  ll : ∀ n ∈ S.L, 0 ≤ n ∧ n < S.W.length

theorem getD_mem {α : Type} {l : List α} {i : Nat} {d : α} (h : i < l.length) : l.getD i d ∈ l := by
  rw [List.getD_eq_getElem?_getD, List.getElem?_eq_getElem h]
  exact List.getElem_mem h
theorem assoc_mem {l : List (ByteArray × Int)} {v : ByteArray} {n : Int} (h : assoc l v = some n) : (v, n) ∈ l := by
  unfold assoc at h
  obtain ⟨p, hp, hn⟩ := Option.map_eq_some_iff.1 h
  have h1 := List.find?_some hp
  have h2 := List.mem_of_find?_eq_some hp
  simp only [decide_eq_true_eq] at h1
  rw [← h1, ← hn]
  exact h2
theorem kix_lt {K : List KS} {name : ByteArray} : kix (addKey K name) name < (addKey K name).length ∧ keyIdx (addKey K name) name = some (kix (addKey K name) name) := by
  have : ∃ j, keyIdx (addKey K name) name = some j := by
    cases h : keyIdx K name with
    | some j => exact ⟨j, by rw [keyIdx_add_some h]; exact h⟩
    | none => exact ⟨_, (keyIdx_add_none h).2⟩
  obtain ⟨j, hj⟩ := this
  have := (keyIdx_lt hj).1
  simp only [kix, hj, Option.getD_some]
  exact ⟨this, trivial⟩
theorem addKey_len (K : List KS) (name : ByteArray) : K.length ≤ (addKey K name).length ∧ (addKey K name).length ≤ K.length + 1 := by
  unfold addKey
  split <;> simp
theorem addKey_mem {K : List KS} {name : ByteArray} {k : KS} (h : k ∈ addKey K name) : k ∈ K ∨ k = newKS name := by
  unfold addKey at h
  split at h
  · exact .inl h
  · simpa using h

theorem Good.addKey {m : Nat} {S : CSt} (h : Good m S) (name : ByteArray) : Good m { S with K := addKey S.K name } where
  il := h.il
  lt := fun k hk h0 => by
    rcases addKey_mem hk with hk | rfl
    · exact h.lt k hk h0
    · simp [newKS] at h0
  va := fun k hk p hp => by
    rcases addKey_mem hk with hk | rfl
    · exact h.va k hk p hp
    · simp [newKS] at hp
  wm := h.wm
  rk := fun r hr => Nat.lt_of_lt_of_le (h.rk r hr) (addKey_len _ _).1
  rt := h.rt
  rs := h.rs
  ll := h.ll

/-- A new value's number, whatever the rest of its key is then. -/
theorem Good.newV {m : Nat} {S : CSt} (h : Good m S) {j : Nat} {v : ByteArray} {x : KS} {i : Int} {I' : List Bool} (hI : I'.length = S.I.length) (hi : -1 ≤ i ∧ i < m)
    (hv : x.vals = (S.K.getD j ks0).vals ++ [(v, (S.W.length : Int))]) (hj : j < S.K.length) (hl : 0 ≤ x.lastT → 0 ≤ x.last ∧ x.last < (S.W.length : Int) + 1) :
    Good m { S with K := S.K.set j x, W := S.W ++ [i], I := I' ++ [false] } where
  il := by simp [h.il, hI]
  lt := fun k hk h0 => by
    simp only [List.length_append, List.length_cons, List.length_nil]
    rcases List.mem_or_eq_of_mem_set hk with hk | rfl
    · have := h.lt k hk h0; omega
    · have := hl h0; omega
  va := fun k hk p hp => by
    simp only [List.length_append, List.length_cons, List.length_nil]
    rcases List.mem_or_eq_of_mem_set hk with hk | rfl
    · have := h.va k hk p hp; omega
    · rw [hv] at hp
      simp only [List.mem_append, List.mem_cons, List.not_mem_nil, or_false] at hp
      rcases hp with hp | rfl
      · have := h.va _ (getD_mem hj) p hp; omega
      · simp only; omega
  wm := fun y hy => by
    simp only [List.mem_append, List.mem_cons, List.not_mem_nil, or_false] at hy
    rcases hy with hy | rfl
    · exact h.wm y hy
    · exact hi
  rk := fun r hr => by simpa using h.rk r hr
  rt := h.rt
  rs := h.rs
  ll := fun n hn => by
    have := h.ll n hn
    simp only [List.length_append, List.length_cons, List.length_nil]
    omega

theorem good_stepA {m : Nat} {S : CSt} (h : Good m S) {x : Nat × LOp} (hx : x.1 < m) : Good m (stepA S x) := by
  unfold stepA
  split
  · exact h
  · simp only
    have h1 := h.addKey x.2.key
    split
    · exact h1
    · refine h1.newV (S := { S with K := addKey S.K x.2.key }) (v := x.2.val) ?_ (by omega) rfl kix_lt.1 (fun _ => by simp only; omega)
      split <;> simp
theorem good_s0 (m : Nat) : Good m s0 := by
  constructor <;> simp [s0]
theorem good_phA {m : Nat} : ∀ (l : List (Nat × LOp)) (S : CSt), Good m S → (∀ x ∈ l, x.1 < m) → Good m (l.foldl stepA S)
  | [], S, h, _ => h
  | x :: l, S, h, hl => good_phA l _ (good_stepA h (hl x (List.mem_cons_self ..))) fun y hy => hl y (List.mem_cons_of_mem _ hy)

theorem numV_good {m : Nat} {S : CSt} (h : Good m S) {j : Nat} {v : ByteArray} (hj : j < S.K.length) : Good m (numV S j v).2 ∧ 0 ≤ (numV S j v).1 ∧ (numV S j v).1 < (numV S j v).2.W.length ∧ (numV S j v).2.K.length = S.K.length := by
  unfold numV
  simp only
  split
  · rename_i n hn
    have := h.va _ (getD_mem hj) _ (assoc_mem hn)
    exact ⟨h, this.1, this.2, rfl⟩
  · refine ⟨h.newV (v := v) rfl (by omega) rfl hj (fun h0 => ?_), by simp, by simp; omega, by simp⟩
    have := h.lt _ (getD_mem hj) h0
    simp only
    omega
theorem stepV_good {m i j : Nat} {X : CSt × List Bool} (h : Good m X.1) {v : ByteArray} (hj : j < X.1.K.length) : Good m (stepV i j X v).1 ∧ (stepV i j X v).1.K.length = X.1.K.length ∧ (stepV i j X v).2.length = X.2.length := by
  obtain ⟨h1, h2, h3, h4⟩ := numV_good h (v := v) hj
  unfold stepV
  simp only
  refine ⟨⟨h1.il, h1.lt, h1.va, h1.wm, h1.rk, h1.rt, fun r hr => ?_, fun n hn => ?_⟩, h4, by split <;> simp⟩
  · have := h1.rs r hr
    simp only [List.length_append, List.length_cons, List.length_nil]
    omega
  · simp only [List.mem_append, List.mem_cons, List.not_mem_nil, or_false] at hn
    rcases hn with hn | rfl
    · exact h1.ll n hn
    · exact ⟨h2, h3⟩
theorem foldV_good {m i j : Nat} : ∀ (l : List ByteArray) (X : CSt × List Bool), Good m X.1 → j < X.1.K.length →
    Good m (l.foldl (stepV i j) X).1 ∧ (l.foldl (stepV i j) X).1.K.length = X.1.K.length ∧ (l.foldl (stepV i j) X).2.length = X.2.length
  | [], X, h, _ => ⟨h, rfl, rfl⟩
  | v :: l, X, h, hj => by
    obtain ⟨h1, h2, h3⟩ := stepV_good h (i := i) (v := v) hj
    obtain ⟨h4, h5, h6⟩ := foldV_good l _ h1 (h2 ▸ hj)
    exact ⟨h4, h5.trans h2, h6.trans h3⟩
theorem numV_len (S : CSt) (j : Nat) (v : ByteArray) : (numV S j v).2.W.length ≤ S.W.length + 1 ∧ S.W.length ≤ (numV S j v).2.W.length ∧ (numV S j v).2.L = S.L ∧ (numV S j v).2.R = S.R := by
  unfold numV
  simp only
  split <;> simp
theorem stepV_len (i j : Nat) (X : CSt × List Bool) (v : ByteArray) : (stepV i j X v).1.W.length ≤ X.1.W.length + 1 ∧ (stepV i j X v).1.L.length = X.1.L.length + 1 ∧ (stepV i j X v).1.R = X.1.R := by
  obtain ⟨h1, h2, h3, h4⟩ := numV_len X.1 j v
  unfold stepV
  simp [h3, h4, h1]
theorem foldV_len (i j : Nat) : ∀ (l : List ByteArray) (X : CSt × List Bool), (l.foldl (stepV i j) X).1.W.length ≤ X.1.W.length + l.length ∧ (l.foldl (stepV i j) X).1.L.length = X.1.L.length + l.length ∧ (l.foldl (stepV i j) X).1.R = X.1.R
  | [], X => by simp
  | v :: l, X => by
    obtain ⟨h1, h2, h3⟩ := stepV_len i j X v
    obtain ⟨h4, h5, h6⟩ := foldV_len i j l (stepV i j X v)
    simp only [List.foldl_cons, List.length_cons]
    exact ⟨by omega, by omega, h6.trans h3⟩
theorem good_stepR {m : Nat} {X : CSt × List Bool} (h : Good m X.1) {x : Nat × LOp} (hx : x.1 < m) : Good m (stepR X x).1 ∧ (stepR X x).2.length = X.2.length := by
  unfold stepR
  split
  · exact ⟨h, rfl⟩
  · simp only
    have h1 := h.addKey x.2.key
    obtain ⟨h2, h3, h4⟩ := foldV_good (m := m) (i := x.1) (j := kix (addKey X.1.K x.2.key) x.2.key) x.2.list ({ X.1 with K := addKey X.1.K x.2.key }, X.2) h1 kix_lt.1
    obtain ⟨h5, h6, h7⟩ := foldV_len x.1 (kix (addKey X.1.K x.2.key) x.2.key) x.2.list ({ X.1 with K := addKey X.1.K x.2.key }, X.2)
    refine ⟨⟨h2.il, h2.lt, h2.va, h2.wm, fun r hr => ?_, fun r hr => ?_, fun r hr => ?_, h2.ll⟩, h4⟩
    · simp only [List.mem_append, List.mem_cons, List.not_mem_nil, or_false] at hr
      rcases hr with hr | rfl
      · exact h2.rk r hr
      · simp only
        rw [h3]
        exact kix_lt.1
    · simp only [List.mem_append, List.mem_cons, List.not_mem_nil, or_false] at hr
      rcases hr with hr | rfl
      · exact h2.rt r hr
      · simp only; omega
    · simp only [List.mem_append, List.mem_cons, List.not_mem_nil, or_false] at hr
      rcases hr with hr | rfl
      · exact h2.rs r hr
      · simp only at h6 ⊢; omega
theorem good_phR {m : Nat} : ∀ (l : List (Nat × LOp)) (X : CSt × List Bool), Good m X.1 → (∀ x ∈ l, x.1 < m) → Good m (l.foldl stepR X).1 ∧ (l.foldl stepR X).2.length = X.2.length
  | [], X, h, _ => ⟨h, rfl⟩
  | x :: l, X, h, hl => by
    obtain ⟨h1, h2⟩ := good_stepR h (hl x (List.mem_cons_self ..))
    obtain ⟨h3, h4⟩ := good_phR l _ h1 fun y hy => hl y (List.mem_cons_of_mem _ hy)
    exact ⟨h3, h4.trans h2⟩

/-! how long the lists get -/
theorem stepA_len (S : CSt) (x : Nat × LOp) : (stepA S x).K.length ≤ S.K.length + 1 ∧ (stepA S x).W.length ≤ S.W.length + 1 ∧ (stepA S x).L = S.L ∧ (stepA S x).R = S.R := by
  have := (addKey_len S.K x.2.key).2
  unfold stepA
  simp only
  split
  · simp
  · split
    · exact ⟨this, Nat.le_succ _, rfl, rfl⟩
    · simp; exact this
theorem phA_len : ∀ (l : List (Nat × LOp)) (S : CSt), (l.foldl stepA S).K.length ≤ S.K.length + l.length ∧ (l.foldl stepA S).W.length ≤ S.W.length + l.length ∧ (l.foldl stepA S).L = S.L ∧ (l.foldl stepA S).R = S.R
  | [], S => by simp
  | x :: l, S => by
    obtain ⟨h1, h2, h3, h4⟩ := stepA_len S x
    obtain ⟨h5, h6, h7, h8⟩ := phA_len l (stepA S x)
    simp only [List.foldl_cons, List.length_cons]
    exact ⟨by omega, by omega, h7.trans h3, h8.trans h4⟩
theorem foldV_K (i j : Nat) : ∀ (l : List ByteArray) (X : CSt × List Bool), (l.foldl (stepV i j) X).1.K.length = X.1.K.length
  | [], X => rfl
  | v :: l, X => by
    simp only [List.foldl_cons]
    rw [foldV_K i j l]
    unfold stepV numV
    simp only
    split <;> simp
theorem stepR_len (X : CSt × List Bool) (x : Nat × LOp) : (stepR X x).1.K.length ≤ X.1.K.length + 1 ∧ (stepR X x).1.W.length ≤ X.1.W.length + x.2.list.length ∧ (stepR X x).1.L.length ≤ X.1.L.length + x.2.list.length ∧ (stepR X x).1.R.length ≤ X.1.R.length + 1 := by
  have := (addKey_len X.1.K x.2.key).2
  unfold stepR
  simp only
  split
  · simp
  · obtain ⟨h5, h6, h7⟩ := foldV_len x.1 (kix (addKey X.1.K x.2.key) x.2.key) x.2.list ({ X.1 with K := addKey X.1.K x.2.key }, X.2)
    have h8 := foldV_K x.1 (kix (addKey X.1.K x.2.key) x.2.key) x.2.list ({ X.1 with K := addKey X.1.K x.2.key }, X.2)
    simp only at h5 h6 h7 h8 ⊢
    refine ⟨by omega, h5, by omega, by rw [h7]; simp⟩
theorem phR_len : ∀ (l : List (Nat × LOp)) (X : CSt × List Bool), (l.foldl stepR X).1.K.length ≤ X.1.K.length + l.length ∧ (l.foldl stepR X).1.W.length ≤ X.1.W.length + sumL l ∧ (l.foldl stepR X).1.L.length ≤ X.1.L.length + sumL l ∧ (l.foldl stepR X).1.R.length ≤ X.1.R.length + l.length
  | [], X => by simp [sumL]
  | x :: l, X => by
    obtain ⟨h1, h2, h3, h4⟩ := stepR_len X x
    obtain ⟨h5, h6, h7, h8⟩ := phR_len l (stepR X x)
    have : sumL (x :: l) = x.2.list.length + sumL l := by simp [sumL]
    simp only [List.foldl_cons, List.length_cons]
    exact ⟨by omega, by omega, by omega, by omega⟩
end Go.Proofs.Qxb6001346a
