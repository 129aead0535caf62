/-
  What judgeReads computes, as plain functions; its rows in memory.
-/
import Derived.Test.Qxb6001346aJa
namespace Go.Proofs.Qxb6001346a
open Fw Go.RowKit
set_option linter.unusedSimpArgs false
set_option linter.unusedVariables false

abbrev NSt := List Int × Bool × Bool × Int
abbrev JSt := CSt × (Nat → Int × List Int) × List Int
/-- One value of a read: the stamps, 'duplicate', 'garbage', 'aborted'. -/
def stepN (i : Nat) (W : List Int) (com : List Bool) (x : NSt) (n : Int) : NSt :=
  (x.1.set n.toNat ((i : Int) + 1), x.2.1 || decide (x.1.getD n.toNat 0 = (i : Int) + 1), x.2.2.1 || decide (W.getD n.toNat 0 < 0),
    if 0 ≤ W.getD n.toNat 0 ∧ com.getD (W.getD n.toNat 0).toNat false = false ∧ x.2.2.2 < 0 then W.getD n.toNat 0 else x.2.2.2)
def rdL (S : CSt) (r : Rd) : List Int := (S.L.drop r.s.toNat).take (r.e - r.s).toNat
def lastW (S : CSt) (r : Rd) : Int := S.W.getD (S.L.getD (r.e - 1).toNat 0).toNat 0
def g1b (com : List Bool) (S : CSt) (r : Rd) : Bool :=
  decide (r.s < r.e) && (decide (0 ≤ lastW S r) && (decide (lastW S r ≠ r.t) && (com.getD (lastW S r).toNat false && S.I.getD (S.L.getD (r.e - 1).toNat 0).toNat false)))
def stepF (com : List Bool) (S : CSt) (r : Rd) (y : NSt) (F : Nat → Int × List Int) : Nat → Int × List Int :=
  let F1 := if y.2.1 = true then updF F 4 (noteF (F 4) [r.t]) else F
  let F2 := if y.2.2.1 = true then updF F1 5 (noteF (F1 5) [r.t]) else F1
  let F3 := if 0 ≤ y.2.2.2 then updF F2 1 (noteF (F2 1) [r.t, y.2.2.2]) else F2
  if g1b com S r = true then updF F3 2 (noteF (F3 2) [r.t, lastW S r]) else F3
def setCl (R : List Rd) (i : Nat) (b : Bool) : List Rd := R.set i { (R.getD i rd0) with cl := b }
def better (K : List KS) (R : List Rd) (r : Rd) : Bool :=
  decide ((K.getD r.kj ks0).lg < 0) || decide ((R.getD (K.getD r.kj ks0).lg.toNat rd0).e - (R.getD (K.getD r.kj ks0).lg.toNat rd0).s < r.e - r.s)
def setLg (K : List KS) (j i : Nat) : List KS := K.set j { (K.getD j ks0) with lg := (i : Int) }
/-- One read. -/
def stepJ (com : List Bool) (X : JSt) (i : Nat) : JSt :=
  let S := X.1
  let r := S.R.getD i rd0
  if com.getD r.t.toNat false = false then X else
  let y := (rdL S r).foldl (stepN i S.W com) (X.2.2, false, false, -1)
  let b := !y.2.1 && !y.2.2.1
  let R' := setCl S.R i b
  ({ S with R := R', K := if b = true ∧ better S.K R' r = true then setLg S.K r.kj i else S.K }, stepF com S r y X.2.1, y.1)
def judS (T : List LTx) : JSt :=
  (List.range (colS T).1.R.length).foldl (stepJ (comm T (colS T).2)) ((colS T).1, fun _ => (0, []), List.replicate (colS T).1.W.length 0)

structure JG (m : Nat) (X : JSt) (i : Nat) : Prop where
  g : Good m X.1
  lg : ∀ k ∈ X.1.K, -1 ≤ k.lg ∧ k.lg < X.1.R.length
  fc : ∀ a, 0 ≤ (X.2.1 a).1 ∧ (X.2.1 a).1 ≤ i
  ft : ∀ a, (X.2.1 a).2.length ≤ 2
  st : X.2.2.length = X.1.W.length

theorem setCl_len (R : List Rd) (i : Nat) (b : Bool) : (setCl R i b).length = R.length := by simp [setCl]
theorem setLg_len (K : List KS) (j i : Nat) : (setLg K j i).length = K.length := by simp [setLg]
theorem mem_setCl {R : List Rd} {i : Nat} {b : Bool} {r : Rd} (h : r ∈ setCl R i b) (hi : i < R.length) : ∃ r0 ∈ R, r.t = r0.t ∧ r.kj = r0.kj ∧ r.s = r0.s ∧ r.e = r0.e := by
  rcases List.mem_or_eq_of_mem_set h with h | rfl
  · exact ⟨r, h, rfl, rfl, rfl, rfl⟩
  · exact ⟨_, getD_mem hi, rfl, rfl, rfl, rfl⟩
theorem mem_setLg {K : List KS} {j i : Nat} {k : KS} (h : k ∈ setLg K j i) (hj : j < K.length) : ∃ k0 ∈ K, k.vals = k0.vals ∧ k.last = k0.last ∧ k.lastT = k0.lastT ∧ (k.lg = k0.lg ∨ k.lg = (i : Int)) := by
  rcases List.mem_or_eq_of_mem_set h with h | rfl
  · exact ⟨k, h, rfl, rfl, rfl, .inl rfl⟩
  · exact ⟨_, getD_mem hj, rfl, rfl, rfl, .inr rfl⟩

theorem stepN_len (i : Nat) (W : List Int) (com : List Bool) : ∀ (l : List Int) (x : NSt), (l.foldl (stepN i W com) x).1.length = x.1.length
  | [], x => rfl
  | n :: l, x => by rw [List.foldl_cons, stepN_len i W com l]; simp [stepN]

theorem noteF_ok {x : Int × List Int} {l : List Int} {n : Nat} (h1 : 0 ≤ x.1) (h2 : x.1 ≤ n) (h3 : x.2.length ≤ 2) (h4 : x.1 = 0 → x.2 = []) (hl : l.length ≤ 2) :
    0 ≤ (noteF x l).1 ∧ (noteF x l).1 ≤ (n : Int) + 1 ∧ (noteF x l).2.length ≤ 2 ∧ ((noteF x l).1 = 0 → (noteF x l).2 = []) := by
  have := ndTo_len l l.length
  refine ⟨by simp only [noteF]; omega, by simp only [noteF]; omega, ?_, fun h => by simp only [noteF] at h; omega⟩
  simp only [noteF]
  split
  · exact h3
  · rw [h4 (by omega)]
    simp
    omega

/-- What 'found' may hold. -/
def FG (F : Nat → Int × List Int) (n : Nat → Nat) : Prop := ∀ a, 0 ≤ (F a).1 ∧ (F a).1 ≤ n a ∧ (F a).2.length ≤ 2 ∧ ((F a).1 = 0 → (F a).2 = [])
theorem FG.note {F : Nat → Int × List Int} {n : Nat → Nat} (h : FG F n) (a : Nat) {l : List Int} (hl : l.length ≤ 2) : FG (updF F a (noteF (F a) l)) (fun b => if b = a then n b + 1 else n b) := by
  intro b
  by_cases hb : b = a
  · subst hb
    obtain ⟨h1, h2, h3, h4⟩ := h b
    have := noteF_ok h1 h2 h3 h4 hl
    simp only [updF, if_true]
    refine ⟨this.1, by have := this.2.1; omega, this.2.2.1, this.2.2.2⟩
  · simp only [updF, if_neg hb]
    exact h b
theorem FG.mono {F : Nat → Int × List Int} {n n' : Nat → Nat} (h : FG F n) (hn : ∀ a, n a ≤ n' a) : FG F n' := fun a => by
  obtain ⟨h1, h2, h3, h4⟩ := h a
  exact ⟨h1, by have := hn a; omega, h3, h4⟩

/-! rows of five cells -/
theorem flat5 {lay : Nat → Nat} : ∀ (R : List Rd) (i q : Nat), i < R.length → q < 5 → (R.flatMap (rdCells lay))[i * 5 + q]? = (rdCells lay (R.getD i rd0))[q]?
  | [], i, q, h, _ => by simp at h
  | r :: R, 0, q, h, hq => by
    rw [List.flatMap_cons, List.getElem?_append_left (by simp [rdCells]; omega)]
    simp
  | r :: R, i + 1, q, h, hq => by
    rw [List.flatMap_cons, List.getElem?_append_right (by simp [rdCells]; omega)]
    have := flat5 (lay := lay) R i q (by simpa using h) hq
    rw [show (i + 1) * 5 + q - (rdCells lay r).length = i * 5 + q by simp [rdCells]; omega, this]
    simp
theorem flat5_set {lay : Nat → Nat} (b : Bool) : ∀ (R : List Rd) (i : Nat), i < R.length → (R.flatMap (rdCells lay)).set (i * 5 + 4) (.bool b) = (setCl R i b).flatMap (rdCells lay)
  | [], i, h => by simp at h
  | r :: R, 0, h => by
    simp only [setCl, List.flatMap_cons, rdCells]
    simp [rdCells]
  | r :: R, i + 1, h => by
    have := flat5_set (lay := lay) b R i (by simpa using h)
    simp only [setCl, List.flatMap_cons] at this ⊢
    rw [List.set_append_right _ _ (by simp [rdCells]; omega), show (i + 1) * 5 + 4 - (rdCells lay r).length = i * 5 + 4 by simp [rdCells]; omega, this]
    simp [List.flatMap_cons]
theorem RowV.get5 {lay : Nat → Nat} {c : Nat → Option AO} {r e n : Nat} {v : Value} {xs : List Value} {N : Nat} {w : World} (hS : St N w lay c) (h : RowV lay c r e 5 v n xs) {i : Nat} (hi : i < n) :
    ∃ cap, v = .slice (some ⟨lay r, 0, none⟩) n cap ∧ ∀ q, q < 5 → w.cell? ⟨lay r, i * 5 + q, none⟩ = xs[i * 5 + q]? := by
  obtain ⟨hl, h⟩ := h
  rcases h with ⟨_, h0, _⟩ | ⟨cap, cur, hv, hc, h1, h2, h3, h4⟩
  · omega
  · refine ⟨cap, hv, fun q hq => ?_⟩
    rw [hS.cell hc (i * 5 + q), ← h4, List.getElem?_take, if_pos (by omega), Array.getElem?_toList]
theorem RowV.set5 {lay : Nat → Nat} {c : Nat → Option AO} {r e n : Nat} {v : Value} {xs : List Value} {N : Nat} {w : World} (hS : St N w lay c) (h : RowV lay c r e 5 v n xs) {i q : Nat} (hi : i < n) (hq : q < 5) :
    ∃ cur, c r = some (.inl (cur, e)) ∧ i * 5 + q < cur.size ∧ ∀ x : Value, RowV lay (updC c r (.inl (cur.setIfInBounds (i * 5 + q) x, e))) r e 5 v n (xs.set (i * 5 + q) x) := by
  obtain ⟨hl, h⟩ := h
  rcases h with ⟨_, h0, _⟩ | ⟨cap, cur, hv, hc, h1, h2, h3, h4⟩
  · omega
  · refine ⟨cur, hc, by omega, fun x => ⟨by simpa using hl, .inr ⟨cap, cur.setIfInBounds (i * 5 + q) x, hv, by simp [updC], h1, h2, by simpa using h3, ?_⟩⟩⟩
    rw [← h4, Array.toList_setIfInBounds, List.take_set]

/-- A read's 'clean' set. -/
theorem CM.setR {N : Nat} {w : World} {lay : Nat → Nat} {c : Nat → Option AO} {tv cv : Value} {fd : Nat → Option Value} {S : CSt} {C : Array Value} {ov wv iv rv lv : Value} {xo : List Value} (h : CM N w lay c tv cv fd S C ov wv iv rv lv xo) {w' : World} {c' : Nat → Option AO} {i : Nat} {x : Bool} (hi : i < S.R.length) (hS : St N w' lay c') (hN : N ≤ w'.heap.size)
    (hr : RowV lay c' 4 77 5 rv S.R.length ((S.R.flatMap (rdCells lay)).set (i * 5 + 4) (.bool x))) (ho : ∀ r, r ≠ 4 → c' r = c r) : CM N w' lay c' tv cv fd { S with R := setCl S.R i x } C ov wv iv rv lv xo := by
  refine { st := hS, hc := ?_, cc := h.cc, fnd := h.fnd, keys := h.keys.congr (ho 1 (by omega)) fun r h1 h2 => ⟨rfl, ho r (by omega)⟩, wr := ?_, im := ?_, rd := ?_, li := ?_, od := ?_, rk := ?_, nb := hN }
  · rw [ho 0 (by omega)]; exact h.hc
  · exact h.wr.congr rfl (ho 2 (by omega))
  · exact h.im.congr rfl (ho 3 (by omega))
  · rw [flat5_set x S.R i hi] at hr
    simpa [setCl_len] using hr
  · exact h.li.congr rfl (ho 5 (by omega))
  · exact h.od.congr rfl (ho 6 (by omega))
  · intro r hr
    obtain ⟨r0, h0, _, h2, _⟩ := mem_setCl hr hi
    rw [h2]
    exact h.rk r0 h0

/-! collect leaves no longest read -/
theorem lg_addKey {K : List KS} (h : ∀ k ∈ K, k.lg = -1) (name : ByteArray) : ∀ k ∈ addKey K name, k.lg = -1 := fun k hk => by
  rcases addKey_mem hk with hk | rfl
  · exact h k hk
  · rfl
theorem lg_set {K : List KS} (h : ∀ k ∈ K, k.lg = -1) {j : Nat} {x : KS} (hx : x.lg = -1) : ∀ k ∈ K.set j x, k.lg = -1 := fun k hk => by
  rcases List.mem_or_eq_of_mem_set hk with hk | rfl
  · exact h k hk
  · exact hx
theorem lg_getD {K : List KS} (h : ∀ k ∈ K, k.lg = -1) (j : Nat) : (K.getD j ks0).lg = -1 := by
  by_cases hj : j < K.length
  · exact h _ (getD_mem hj)
  · rw [List.getD_eq_getElem?_getD, List.getElem?_eq_none (by omega)]
    rfl
theorem lg_stepA {S : CSt} (h : ∀ k ∈ S.K, k.lg = -1) (x : Nat × LOp) : ∀ k ∈ (stepA S x).K, k.lg = -1 := by
  unfold stepA
  simp only
  split
  · exact h
  · split
    · exact lg_addKey h _
    · exact lg_set (lg_addKey h _) (lg_getD (lg_addKey h _) _)
theorem lg_numV {S : CSt} (h : ∀ k ∈ S.K, k.lg = -1) (j : Nat) (v : ByteArray) : ∀ k ∈ (numV S j v).2.K, k.lg = -1 := by
  unfold numV
  simp only
  split
  · exact h
  · exact lg_set h (lg_getD h _)
theorem lg_foldV (i j : Nat) : ∀ (l : List ByteArray) (X : CSt × List Bool), (∀ k ∈ X.1.K, k.lg = -1) → ∀ k ∈ (l.foldl (stepV i j) X).1.K, k.lg = -1
  | [], X, h => h
  | v :: l, X, h => lg_foldV i j l _ (lg_numV h j v)
theorem lg_stepR {X : CSt × List Bool} (h : ∀ k ∈ X.1.K, k.lg = -1) (x : Nat × LOp) : ∀ k ∈ (stepR X x).1.K, k.lg = -1 := by
  unfold stepR
  simp only
  split
  · exact h
  · exact lg_foldV _ _ _ _ (lg_addKey h _)
theorem lg_phA : ∀ (l : List (Nat × LOp)) (S : CSt), (∀ k ∈ S.K, k.lg = -1) → ∀ k ∈ (l.foldl stepA S).K, k.lg = -1
  | [], _, h => h
  | x :: l, S, h => lg_phA l _ (lg_stepA h x)
theorem lg_phR : ∀ (l : List (Nat × LOp)) (X : CSt × List Bool), (∀ k ∈ X.1.K, k.lg = -1) → ∀ k ∈ (l.foldl stepR X).1.K, k.lg = -1
  | [], _, h => h
  | x :: l, X, h => lg_phR l _ (lg_stepR h x)
theorem lg_colS (T : List LTx) : ∀ k ∈ (colS T).1.K, k.lg = -1 := lg_phR _ _ (lg_phA _ _ (by simp [s0]))
end Go.Proofs.Qxb6001346a
