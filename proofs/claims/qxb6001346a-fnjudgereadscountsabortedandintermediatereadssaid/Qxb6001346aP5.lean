/-
  Plain facts: what judgeReads notes.
-/
import Derived.Test.Qxb6001346aP2
import Derived.Test.Qxb6001346aL8
namespace Go.Proofs.Qxb6001346a
set_option linter.unusedSimpArgs false
set_option linter.unusedVariables false

/-! ### the values of one read -/
theorem ents_at : ∀ (R : List (Nat × LOp)) (q a : Nat), q < R.length → a < (xat R q).2.list.length →
    (R.flatMap fun x => x.2.list.map fun v => (x.1, x.2.key, v))[sumL (R.take q) + a]? = some ((xat R q).1, (xat R q).2.key, (xat R q).2.list.getD a ByteArray.empty)
  | [], q, a, h, _ => by simp at h
  | x :: R, 0, a, _, ha => by
    have ha' : a < x.2.list.length := ha
    rw [List.flatMap_cons, List.take_zero, show sumL [] + a = a by simp [sumL], List.getElem?_append_left (by simpa using ha')]
    simp [xat, List.getD_eq_getElem?_getD, ha']
  | x :: R, q + 1, a, h, ha => by
    have e : xat (x :: R) (q + 1) = xat R q := by simp [xat]
    rw [e] at ha ⊢
    have ih := ents_at R q a (by simpa using h) ha
    have e2 : sumL ((x :: R).take (q + 1)) = x.2.list.length + sumL (R.take q) := by simp [sumL]
    rw [List.flatMap_cons, e2, List.getElem?_append_right (by simp; omega), ← ih]
    congr 1
    simp
    omega

def nuV (T : List LTx) (k v : ByteArray) : Int := (num (colS T).1.K k v).getD 0
/-- The numbers of read q. -/
theorem read_nums (T : List LTx) {q : Nat} (hq : q < (rds (fl T)).length) : ∀ a, a < (xat (rds (fl T)) q).2.list.length →
    num (colS T).1.K (xat (rds (fl T)) q).2.key ((xat (rds (fl T)) q).2.list.getD a ByteArray.empty) = some (nuV T (xat (rds (fl T)) q).2.key ((xat (rds (fl T)) q).2.list.getD a ByteArray.empty)) ∧
    (colS T).1.L.getD (sumL ((rds (fl T)).take q) + a) 0 = nuV T (xat (rds (fl T)) q).2.key ((xat (rds (fl T)) q).2.list.getD a ByteArray.empty) ∧ sumL ((rds (fl T)).take q) + a < (colS T).1.L.length := by
  intro a ha
  have h := colS_RI T
  have he := ents_at (rds (fl T)) q a hq ha
  have hlt : sumL ((rds (fl T)).take q) + a < (ents (fl T)).length := (List.getElem?_eq_some_iff.1 he).1
  have hl := h.l _ hlt
  have e1 : (ents (fl T)).getD (sumL ((rds (fl T)).take q) + a) (0, ByteArray.empty, ByteArray.empty) = ((xat (rds (fl T)) q).1, (xat (rds (fl T)) q).2.key, (xat (rds (fl T)) q).2.list.getD a ByteArray.empty) := by
    rw [List.getD_eq_getElem?_getD, show (ents (fl T))[sumL ((rds (fl T)).take q) + a]? = _ from he]
    rfl
  rw [e1] at hl
  simp only at hl
  refine ⟨?_, ?_, by rw [h.ll]; exact hlt⟩
  · unfold nuV; rw [hl]; rfl
  · unfold nuV; rw [hl]; rfl
theorem rdL_eq (T : List LTx) {q : Nat} (hq : q < (rds (fl T)).length) {S : CSt} {r : Rd} (hL : S.L = (colS T).1.L) (hs : r.s = sumL ((rds (fl T)).take q)) (he : r.e = r.s + (xat (rds (fl T)) q).2.list.length) :
    rdL S r = (xat (rds (fl T)) q).2.list.map (nuV T (xat (rds (fl T)) q).2.key) := by
  have hn := read_nums T hq
  have h1 : r.s.toNat = sumL ((rds (fl T)).take q) := by omega
  have h2 : (r.e - r.s).toNat = (xat (rds (fl T)) q).2.list.length := by omega
  unfold rdL
  rw [h1, h2, hL]
  have hle : (xat (rds (fl T)) q).2.list.length ≤ ((colS T).1.L.drop (sumL ((rds (fl T)).take q))).length := by
    rw [List.length_drop]
    by_cases h0 : (xat (rds (fl T)) q).2.list.length = 0
    · omega
    · have := (hn ((xat (rds (fl T)) q).2.list.length - 1) (by omega)).2.2
      omega
  refine List.ext_getElem (by rw [List.length_take, List.length_map]; omega) fun a g1 g2 => ?_
  rw [List.length_map] at g2
  obtain ⟨_, e1, e2⟩ := hn a g2
  rw [List.getElem_take, List.getElem_drop, List.getElem_map]
  rw [List.getD_eq_getElem?_getD, List.getElem?_eq_getElem e2, List.getD_eq_getElem?_getD, List.getElem?_eq_getElem g2] at e1
  exact e1
theorem nuV_facts (T : List LTx) {q a : Nat} (hq : q < (rds (fl T)).length) (ha : a < (xat (rds (fl T)) q).2.list.length) :
    0 ≤ nuV T (xat (rds (fl T)) q).2.key ((xat (rds (fl T)) q).2.list.getD a ByteArray.empty) ∧ nuV T (xat (rds (fl T)) q).2.key ((xat (rds (fl T)) q).2.list.getD a ByteArray.empty) < (colS T).1.W.length ∧
    (colS T).1.W.getD (nuV T (xat (rds (fl T)) q).2.key ((xat (rds (fl T)) q).2.list.getD a ByteArray.empty)).toNat 0 = wOf (fl T) (xat (rds (fl T)) q).2.key ((xat (rds (fl T)) q).2.list.getD a ByteArray.empty) ∧
    ((fapp (fl T)).map pr ++ gOf ((fapp (fl T)).map pr) (ents (fl T)))[(nuV T (xat (rds (fl T)) q).2.key ((xat (rds (fl T)) q).2.list.getD a ByteArray.empty)).toNat]? = some ((xat (rds (fl T)) q).2.key, (xat (rds (fl T)) q).2.list.getD a ByteArray.empty) := by
  have h := colS_RI T
  obtain ⟨h1, _⟩ := read_nums T hq a ha
  obtain ⟨h2, h3⟩ := (h.nu _ _ _).1 h1
  have hW : (colS T).1.W.length = ((fapp (fl T)).map pr ++ gOf ((fapp (fl T)).map pr) (ents (fl T))).length := by rw [h.w]; simp
  have h4 := (List.getElem?_eq_some_iff.1 h3).1
  refine ⟨h2, by rw [hW]; omega, ?_, h3⟩
  rw [List.getD_eq_getElem?_getD, h.w, writer_at h3]
  rfl

/-! ### the stamps of one read -/
def gv (l : List ByteArray) (a : Nat) : ByteArray := l.getD a ByteArray.empty
def abAt (O : List (Nat × LOp)) (com : List Bool) (k : ByteArray) (l : List ByteArray) : Nat → Int
  | 0 => -1
  | a + 1 => if 0 ≤ wOf O k (gv l a) ∧ com.getD (wOf O k (gv l a)).toNat false = false ∧ abAt O com k l a < 0 then wOf O k (gv l a) else abAt O com k l a
structure YI (O : List (Nat × LOp)) (com : List Bool) (k : ByteArray) (l : List ByteArray) (nu : ByteArray → Int) (m q n : Nat) (y : NSt) : Prop where
  len : y.1.length = m
  st : ∀ z, z < m → (y.1.getD z 0 = (q : Int) + 1 ↔ ∃ a, a < n ∧ nu (gv l a) = (z : Int))
  le : ∀ z, y.1.getD z 0 ≤ (q : Int) + 1
  dup : y.2.1 = true ↔ ∃ a b, a < b ∧ b < n ∧ gv l a = gv l b
  gar : y.2.2.1 = true ↔ ∃ a, a < n ∧ wOf O k (gv l a) < 0
  ab : y.2.2.2 = abAt O com k l n
theorem YI.step {O : List (Nat × LOp)} {com : List Bool} {k : ByteArray} {l : List ByteArray} {nu : ByteArray → Int} {W : List Int} {q n : Nat} {y : NSt} (h : YI O com k l nu W.length q n y) (hn : n < l.length)
    (hr : ∀ a, a < l.length → 0 ≤ nu (gv l a) ∧ nu (gv l a) < W.length ∧ W.getD (nu (gv l a)).toNat 0 = wOf O k (gv l a)) (hi : ∀ a b, a < l.length → b < l.length → nu (gv l a) = nu (gv l b) → gv l a = gv l b) :
    YI O com k l nu W.length q (n + 1) (stepN q W com y (nu (gv l n))) := by
  obtain ⟨r1, r2, r3⟩ := hr n hn
  have hz : (nu (gv l n)).toNat < W.length := by omega
  refine ⟨?_, ?_, ?_, ?_, ?_, ?_⟩
  · simp only [stepN, List.length_set]; exact h.len
  · intro z hzm
    simp only [stepN]
    by_cases he : (nu (gv l n)).toNat = z
    · have : (y.1.set (nu (gv l n)).toNat ((q : Int) + 1)).getD z 0 = (q : Int) + 1 := by simp [List.getD_eq_getElem?_getD, he, h.len, hzm]
      rw [this]
      exact ⟨fun _ => ⟨n, by omega, by omega⟩, fun _ => rfl⟩
    · have : (y.1.set (nu (gv l n)).toNat ((q : Int) + 1)).getD z 0 = y.1.getD z 0 := by simp [List.getD_eq_getElem?_getD, List.getElem?_set, he]
      rw [this, h.st z hzm]
      constructor
      · rintro ⟨a, h1, h2⟩; exact ⟨a, by omega, h2⟩
      · rintro ⟨a, h1, h2⟩
        by_cases han : a = n
        · subst han; omega
        · exact ⟨a, by omega, h2⟩
  · intro z
    simp only [stepN]
    by_cases he : (nu (gv l n)).toNat = z
    · have : (y.1.set (nu (gv l n)).toNat ((q : Int) + 1)).getD z 0 = (q : Int) + 1 := by simp [List.getD_eq_getElem?_getD, he, h.len, show z < W.length by omega]
      omega
    · have : (y.1.set (nu (gv l n)).toNat ((q : Int) + 1)).getD z 0 = y.1.getD z 0 := by simp [List.getD_eq_getElem?_getD, List.getElem?_set, he]
      rw [this]; exact h.le z
  · simp only [stepN, Bool.or_eq_true, decide_eq_true_eq]
    rw [h.dup, h.st _ hz]
    constructor
    · rintro (⟨a, b, h1, h2, h3⟩ | ⟨a, h1, h2⟩)
      · exact ⟨a, b, h1, by omega, h3⟩
      · exact ⟨a, n, h1, by omega, hi a n (by omega) hn (by omega)⟩
    · rintro ⟨a, b, h1, h2, h3⟩
      by_cases hb : b = n
      · subst hb
        exact .inr ⟨a, h1, by rw [h3]; omega⟩
      · exact .inl ⟨a, b, h1, by omega, h3⟩
  · simp only [stepN, Bool.or_eq_true, decide_eq_true_eq]
    rw [h.gar, r3]
    constructor
    · rintro (⟨a, h1, h2⟩ | h2)
      · exact ⟨a, by omega, h2⟩
      · exact ⟨n, by omega, h2⟩
    · rintro ⟨a, h1, h2⟩
      by_cases hb : a = n
      · subst hb; exact .inr h2
      · exact .inl ⟨a, by omega, h2⟩
  · simp only [stepN, abAt, r3, h.ab]
theorem YI.all {O : List (Nat × LOp)} {com : List Bool} {k : ByteArray} {l : List ByteArray} {nu : ByteArray → Int} {W : List Int} {q : Nat} {st : List Int} (hl : st.length = W.length) (hst : ∀ z, st.getD z 0 ≤ (q : Int))
    (hr : ∀ a, a < l.length → 0 ≤ nu (gv l a) ∧ nu (gv l a) < W.length ∧ W.getD (nu (gv l a)).toNat 0 = wOf O k (gv l a)) (hi : ∀ a b, a < l.length → b < l.length → nu (gv l a) = nu (gv l b) → gv l a = gv l b) :
    ∀ n, n ≤ l.length → YI O com k l nu W.length q n (((l.take n).map nu).foldl (stepN q W com) (st, false, false, -1))
  | 0, _ => by
    refine ⟨hl, fun z hz => ⟨fun h => ?_, fun ⟨a, h, _⟩ => by omega⟩, fun z => ?_, ⟨fun h => (by cases h), fun ⟨a, b, h1, h2, _⟩ => by omega⟩, ⟨fun h => (by cases h), fun ⟨a, h1, _⟩ => by omega⟩, rfl⟩
    · have := hst z
      simp only [List.take_zero, List.map_nil, List.foldl_nil] at h
      omega
    · have := hst z
      simp only [List.take_zero, List.map_nil, List.foldl_nil]
      omega
  | n + 1, hn => by
    have ih := YI.all (com := com) hl hst hr hi n (by omega)
    have e : l.take (n + 1) = l.take n ++ [gv l n] := by
      rw [List.take_succ_eq_append_getElem hn]
      simp [gv, List.getD_eq_getElem?_getD, show n < l.length from hn]
    rw [e, List.map_append, List.foldl_append]
    exact ih.step hn hr hi

/-! ### counting -/
def fcount (f : Nat → Bool) (k : Nat) : Nat := ((List.range k).filter f).length
theorem fcount_succ (f : Nat → Bool) (k : Nat) : fcount f (k + 1) = fcount f k + if f k then 1 else 0 := by
  unfold fcount
  rw [List.range_succ, List.filter_append, List.length_append]
  cases h : f k <;> simp [h]
theorem fcount_le (f : Nat → Bool) (k : Nat) : fcount f k ≤ k := by
  have := List.length_filter_le f (List.range k)
  simpa [fcount] using this
/-- The first of them: what it says; else d. -/
def ffst {α : Type} (f : Nat → Bool) (g : Nat → α) (d : α) : Nat → α
  | 0 => d
  | k + 1 => if f k = true ∧ fcount f k = 0 then g k else ffst f g d k
theorem ffst_none {α : Type} {f : Nat → Bool} {g : Nat → α} {d : α} : ∀ {k : Nat}, fcount f k = 0 → ffst f g d k = d
  | 0, _ => rfl
  | k + 1, h => by
    rw [fcount_succ] at h
    cases hf : f k with
    | true => rw [hf] at h; simp at h
    | false => rw [hf] at h; simp only [ffst, hf, Bool.false_eq_true, false_and, if_false]; exact ffst_none (by simpa using h)
/-- Of the first of them: a fact. -/
theorem ffst_some {α : Type} {f : Nat → Bool} {g : Nat → α} {d : α} {P : α → Prop} (hP : ∀ q, f q = true → P (g q)) : ∀ {k : Nat}, fcount f k ≠ 0 → P (ffst f g d k)
  | 0, h => by simp [fcount] at h
  | k + 1, h => by
    by_cases hc : f k = true ∧ fcount f k = 0
    · simp only [ffst, hc, and_self, if_true]; exact hP k hc.1
    · have : ffst f g d (k + 1) = ffst f g d k := by simp only [ffst, if_neg hc]
      rw [this]
      refine ffst_some hP ?_
      rw [fcount_succ] at h
      cases hf : f k with
      | true => exact fun h0 => hc ⟨hf, h0⟩
      | false => rw [hf] at h; simpa using h
theorem noteF_step {f : Nat → Bool} {g : Nat → List Int} {k : Nat} {x : Int × List Int} (h : x = (((fcount f k : Nat) : Int), ffst f g [] k)) (hg : f k = true → ndTo (g k) (g k).length = g k) :
    (if f k = true then noteF x (g k) else x) = (((fcount f (k + 1) : Nat) : Int), ffst f g [] (k + 1)) := by
  rw [fcount_succ]
  cases hf : f k with
  | false => simp only [Bool.false_eq_true, if_false, ffst, hf, false_and, Nat.add_zero]; exact h
  | true =>
    simp only [if_true, ffst, hf, true_and, noteF, h]
    by_cases h0 : fcount f k = 0
    · rw [ffst_none h0, hg hf]
      simp [h0]
    · rw [if_neg h0, if_pos (by omega)]
      simp
theorem nd1 (a : Int) : ndTo [a] 1 = [a] := by simp [ndTo, List.range_succ]
theorem nd2 {a b : Int} (h : a ≠ b) : ndTo [a, b] 2 = [a, b] := by simp [ndTo, List.range_succ, Ne.symm h]

/-! ### what is noted -/
def tq (T : List LTx) (q : Nat) : Nat := (xat (rds (fl T)) q).1
def kq (T : List LTx) (q : Nat) : ByteArray := (xat (rds (fl T)) q).2.key
def lq (T : List LTx) (q : Nat) : List ByteArray := (xat (rds (fl T)) q).2.list
def cT (T : List LTx) : List Bool := comm T (colS T).2
def comB (T : List LTx) (q : Nat) : Bool := (cT T).getD (tq T q) false
def dupB (l : List ByteArray) : Bool := (List.range l.length).any fun b => (List.range b).any fun a => decide (gv l a = gv l b)
theorem dupB_true {l : List ByteArray} : dupB l = true ↔ ∃ a b, a < b ∧ b < l.length ∧ gv l a = gv l b := by
  unfold dupB
  rw [List.any_eq_true]
  constructor
  · rintro ⟨b, hb, h⟩
    rw [List.any_eq_true] at h
    obtain ⟨a, ha, h⟩ := h
    exact ⟨a, b, by simpa using ha, by simpa using hb, by simpa using h⟩
  · rintro ⟨a, b, h1, h2, h3⟩
    refine ⟨b, by simpa using h2, ?_⟩
    rw [List.any_eq_true]
    exact ⟨a, by simpa using h1, by simpa using h3⟩
def garB (O : List (Nat × LOp)) (k : ByteArray) (l : List ByteArray) : Bool := (List.range l.length).any fun a => decide (wOf O k (gv l a) < 0)
theorem garB_true {O : List (Nat × LOp)} {k : ByteArray} {l : List ByteArray} : garB O k l = true ↔ ∃ a, a < l.length ∧ wOf O k (gv l a) < 0 := by
  unfold garB
  rw [List.any_eq_true]
  constructor
  · rintro ⟨a, ha, h⟩
    exact ⟨a, by simpa using ha, by simpa using h⟩
  · rintro ⟨a, h1, h2⟩
    exact ⟨a, by simpa using h1, by simpa using h2⟩
def lastV (l : List ByteArray) : ByteArray := gv l (l.length - 1)
def g1B (O : List (Nat × LOp)) (com : List Bool) (t : Nat) (k : ByteArray) (l : List ByteArray) : Bool :=
  decide (0 < l.length) && (decide (0 ≤ fAt O k (lastV l)) && (decide ((xat O (fAt O k (lastV l)).toNat).1 ≠ t) && (com.getD (xat O (fAt O k (lastV l)).toNat).1 false && laterB O (fAt O k (lastV l)).toNat)))
def fB (T : List LTx) (a q : Nat) : Bool := comB T q && (if a = 4 then dupB (lq T q) else if a = 5 then garB (fl T) (kq T q) (lq T q) else if a = 1 then decide (0 ≤ abAt (fl T) (cT T) (kq T q) (lq T q) (lq T q).length) else if a = 2 then g1B (fl T) (cT T) (tq T q) (kq T q) (lq T q) else false)
def gB (T : List LTx) (a q : Nat) : List Int := if a = 4 then [(tq T q : Int)] else if a = 5 then [(tq T q : Int)] else if a = 1 then [(tq T q : Int), abAt (fl T) (cT T) (kq T q) (lq T q) (lq T q).length] else [(tq T q : Int), wOf (fl T) (kq T q) (lastV (lq T q))]

theorem abAt_com {O : List (Nat × LOp)} {com : List Bool} {k : ByteArray} {l : List ByteArray} : ∀ n, 0 ≤ abAt O com k l n → com.getD (abAt O com k l n).toNat false = false
  | 0, h => by simp [abAt] at h
  | n + 1, h => by
    by_cases hc : 0 ≤ wOf O k (gv l n) ∧ com.getD (wOf O k (gv l n)).toNat false = false ∧ abAt O com k l n < 0
    · have e : abAt O com k l (n + 1) = wOf O k (gv l n) := by simp only [abAt, if_pos hc]
      rw [e]; exact hc.2.1
    · have e : abAt O com k l (n + 1) = abAt O com k l n := by simp only [abAt, if_neg hc]
      rw [e] at h ⊢
      exact abAt_com n h
theorem stepF_at (com : List Bool) (S : CSt) (r : Rd) (y : NSt) (F : Nat → Int × List Int) :
    stepF com S r y F 4 = (if y.2.1 = true then noteF (F 4) [r.t] else F 4) ∧ stepF com S r y F 5 = (if y.2.2.1 = true then noteF (F 5) [r.t] else F 5) ∧ stepF com S r y F 1 = (if 0 ≤ y.2.2.2 then noteF (F 1) [r.t, y.2.2.2] else F 1) ∧
    stepF com S r y F 2 = (if g1b com S r = true then noteF (F 2) [r.t, lastW S r] else F 2) ∧ ∀ a, a ≠ 4 → a ≠ 5 → a ≠ 1 → a ≠ 2 → stepF com S r y F a = F a := by
  unfold stepF
  by_cases h1 : y.2.1 = true <;> by_cases h2 : y.2.2.1 = true <;> by_cases h3 : 0 ≤ y.2.2.2 <;> by_cases h4 : g1b com S r = true <;>
    simp only [h1, h2, h3, h4, if_true, if_false, updF, Nat.reduceEqDiff, true_and, Bool.false_eq_true, implies_true] <;> (intro a a1 a2 a3 a4; simp only [a1, a2, a3, a4, if_false])

theorem nuV_cnt (T : List LTx) {k v : ByteArray} {p : Nat} (hp : p < (fl T).length) (hf : firstB (fl T) p = true) (he : pr (xat (fl T) p) = (k, v)) : nuV T k v = (cnt (fl T) p : Nat) := by
  have h := colS_RI T
  have hpl := places_at hp hf
  have h1 : ((fapp (fl T)).map pr ++ gOf ((fapp (fl T)).map pr) (ents (fl T)))[cnt (fl T) p]? = some (k, v) := by
    have hlt := (List.getElem?_eq_some_iff.1 hpl).1
    rw [List.getElem?_append_left (by rw [fapp_places]; simpa using hlt), fapp_places]
    simp [hpl, he]
  have h2 := (h.nu k v (cnt (fl T) p : Nat)).2 ⟨by omega, by rw [Int.toNat_natCast]; exact h1⟩
  unfold nuV
  rw [h2]
  rfl

structure JN (T : List LTx) (k : Nat) (X : JSt) : Prop where
  st : ∀ z, X.2.2.getD z 0 ≤ (k : Int)
  cl : ∀ q, q < k → (R_ X q).cl = (comB T q && (!dupB (lq T q) && !garB (fl T) (kq T q) (lq T q)))
  f : ∀ a, X.2.1 a = (((fcount (fB T a) k : Nat) : Int), ffst (fB T a) (gB T a) [] k)

theorem judge_notes {T : List LTx} (hf : fits T) : ∀ k, k ≤ (rds (fl T)).length → JN T k ((List.range k).foldl (stepJ (cT T)) (J0 T))
  | 0, _ => by
    refine ⟨fun z => ?_, fun q hq => by omega, fun a => ?_⟩
    · simp only [List.range_zero, List.foldl_nil, J0]
      rw [List.getD_eq_getElem?_getD, List.getElem?_replicate]
      split <;> simp
    · simp [J0, fcount, ffst]
  | k + 1, hk => by
    have ih := judge_notes hf k (by omega)
    have hk' : k < (rds (fl T)).length := hk
    obtain ⟨hRl, hrd⟩ := colS_read T
    obtain ⟨hJH, hW, hL, hI, hRl2, _⟩ := (J0_ok hf).all (com := cT T) k (show k ≤ (colS T).1.R.length by omega)
    obtain ⟨hLI, _, hsame⟩ := judge_all (com := cT T) (J0_ok hf) (J0_li T) k (show k ≤ (colS T).1.R.length by omega)
    rw [List.range_succ, List.foldl_append]
    simp only [List.foldl_cons, List.foldl_nil]
    generalize (List.range k).foldl (stepJ (cT T)) (J0 T) = X at *
    obtain ⟨s1, s2, s3, s4⟩ := hsame k
    obtain ⟨r1, _, r3, r4, _⟩ := hrd k hk'
    change (R_ (J0 T) k).t = _ at r1
    change (R_ (J0 T) k).s = _ at r3
    change (R_ (J0 T) k).e = (R_ (J0 T) k).s + _ at r4
    have ht : (R_ X k).t = (tq T k : Int) := s1.trans r1
    have hs : (R_ X k).s = (sumL ((rds (fl T)).take k) : Nat) := s3.trans r3
    have he : (R_ X k).e = (R_ X k).s + ((lq T k).length : Nat) := by rw [s4, r4, s3]; rfl
    change X.1.W = (colS T).1.W at hW
    change X.1.L = (colS T).1.L at hL
    change X.1.I = (colS T).1.I at hI
    have hXR : X.1.R.length = (rds (fl T)).length := by
      change X.1.R.length = (colS T).1.R.length at hRl2
      omega
    have hcB : (cT T).getD (X.1.R.getD k rd0).t.toNat false = comB T k := by
      change (cT T).getD (R_ X k).t.toNat false = _
      rw [ht, Int.toNat_natCast]
      rfl
    cases hc : comB T k with
    | false =>
      rw [stepJ_skip (hcB.trans hc)]
      have hfB : ∀ a, fB T a k = false := fun a => by unfold fB; rw [hc]; rfl
      refine ⟨fun z => by have := ih.st z; omega, fun q hq => ?_, fun a => ?_⟩
      · by_cases hqk : q = k
        · subst hqk
          rw [hLI.rest q (Nat.le_refl _), hc]
          rfl
        · exact ih.cl q (by omega)
      · have := noteF_step (ih.f a) (fun h => by rw [hfB a] at h; cases h)
        rw [hfB a] at this
        simpa using this
    | true =>
      rw [stepJ_run (hcB.trans hc)]
      have hrdL : rdL X.1 (X.1.R.getD k rd0) = (lq T k).map (nuV T (kq T k)) := rdL_eq T hk' hL hs he
      have hY := YI.all (O := fl T) (com := cT T) (k := kq T k) (l := lq T k) (nu := nuV T (kq T k)) (W := (colS T).1.W) (q := k) (st := X.2.2) (by rw [hJH.st, hW]) ih.st
        (fun a ha => by obtain ⟨a1, a2, a3, _⟩ := nuV_facts T hk' ha; exact ⟨a1, a2, a3⟩)
        (fun a b ha hb hab => by
          obtain ⟨_, _, _, a4⟩ := nuV_facts T hk' ha
          obtain ⟨_, _, _, b4⟩ := nuV_facts T hk' hb
          have e : nuV T (xat (rds (fl T)) k).2.key ((xat (rds (fl T)) k).2.list.getD a ByteArray.empty) = nuV T (xat (rds (fl T)) k).2.key ((xat (rds (fl T)) k).2.list.getD b ByteArray.empty) := hab
          rw [e, b4] at a4
          simp only [Option.some.injEq, Prod.mk.injEq, true_and] at a4
          exact a4.symm) (lq T k).length (Nat.le_refl _)
      rw [List.take_length] at hY
      rw [hrdL, hW]
      generalize ((lq T k).map (nuV T (kq T k))).foldl (stepN k (colS T).1.W (cT T)) (X.2.2, false, false, -1) = y at *
      have yd : y.2.1 = dupB (lq T k) := by rw [Bool.eq_iff_iff, hY.dup, dupB_true]
      have yg : y.2.2.1 = garB (fl T) (kq T k) (lq T k) := by rw [Bool.eq_iff_iff, hY.gar, garB_true]
      have ya := hY.ab
      have hgl : g1b (cT T) X.1 (X.1.R.getD k rd0) = g1B (fl T) (cT T) (tq T k) (kq T k) (lq T k) ∧ (0 < (lq T k).length → lastW X.1 (X.1.R.getD k rd0) = wOf (fl T) (kq T k) (lastV (lq T k))) := by
        change g1b (cT T) X.1 (R_ X k) = _ ∧ (_ → lastW X.1 (R_ X k) = _)
        by_cases h0 : 0 < (lq T k).length
        · have hlt : (lq T k).length - 1 < (lq T k).length := by omega
          obtain ⟨_, n2, _⟩ := read_nums T hk' _ hlt
          obtain ⟨n4, n5, n6, n7⟩ := nuV_facts T hk' hlt
          have e1 : X.1.L.getD ((R_ X k).e - 1).toNat 0 = nuV T (kq T k) (lastV (lq T k)) := by
            rw [hL, show ((R_ X k).e - 1).toNat = sumL ((rds (fl T)).take k) + ((lq T k).length - 1) by omega]
            exact n2
          have e2 : lastW X.1 (R_ X k) = wOf (fl T) (kq T k) (lastV (lq T k)) := by
            unfold lastW
            rw [e1, hW]
            exact n6
          refine ⟨?_, fun _ => e2⟩
          unfold g1b g1B
          rw [e2, e1, ht, hI, decide_eq_true h0, decide_eq_true (show (R_ X k).s < (R_ X k).e by omega)]
          by_cases hm : (kq T k, lastV (lq T k)) ∈ (fapp (fl T)).map pr
          · obtain ⟨w1, p, w2, w3, w4, w5, w6⟩ := wOf_yes hm
            rw [nuV_cnt T w2 w4 w5, Int.toNat_natCast, ((plain8 T).at_ p w2 w4).2.2, w6, w3, Int.toNat_natCast, Int.toNat_natCast]
            rw [decide_eq_true (show (0 : Int) ≤ ((xat (fl T) p).1 : Nat) by omega), decide_eq_true (show (0 : Int) ≤ (p : Nat) by omega)]
            congr 3
            rw [decide_eq_decide]
            omega
          · rw [wOf_no hm, fAt_no hm]
            rfl
        · refine ⟨?_, fun h => absurd h h0⟩
          unfold g1b g1B
          rw [decide_eq_false h0, decide_eq_false (show ¬ (R_ X k).s < (R_ X k).e by omega)]
          rfl
      obtain ⟨F4, F5, F1, F2, Fo⟩ := stepF_at (cT T) X.1 (X.1.R.getD k rd0) y X.2.1
      have ht' : (X.1.R.getD k rd0).t = (tq T k : Int) := ht
      refine ⟨hY.le, fun q hq => ?_, fun a => ?_⟩
      · unfold R_
        dsimp only
        rw [setCl_get (by omega)]
        by_cases hqk : q = k
        · subst hqk
          rw [if_pos rfl, hc, yd, yg]
          rfl
        · rw [if_neg hqk]
          exact ih.cl q (by omega)
      · dsimp only
        by_cases a4 : a = 4
        · subst a4
          have hfb : fB T 4 k = dupB (lq T k) := by simp only [fB, hc, Bool.true_and, if_true]
          have := noteF_step (ih.f 4) (fun _ => by simp only [gB, if_true, List.length_cons, List.length_nil]; exact nd1 _)
          rw [← this, F4, yd, hfb, ht']
          rfl
        · by_cases a5 : a = 5
          · subst a5
            have hfb : fB T 5 k = garB (fl T) (kq T k) (lq T k) := by simp only [fB, hc, Bool.true_and, if_true, Nat.reduceEqDiff, if_false]
            have := noteF_step (ih.f 5) (fun _ => by simp only [gB, if_true, Nat.reduceEqDiff, if_false, List.length_cons, List.length_nil]; exact nd1 _)
            rw [← this, F5, yg, hfb, ht']
            rfl
          · by_cases a1 : a = 1
            · subst a1
              have hfb : fB T 1 k = decide (0 ≤ abAt (fl T) (cT T) (kq T k) (lq T k) (lq T k).length) := by simp only [fB, hc, Bool.true_and, if_true, Nat.reduceEqDiff, if_false]
              have hg : gB T 1 k = [(tq T k : Int), abAt (fl T) (cT T) (kq T k) (lq T k) (lq T k).length] := by simp only [gB, if_true, Nat.reduceEqDiff, if_false]
              have := noteF_step (ih.f 1) (fun h => by
                rw [hfb, decide_eq_true_eq] at h
                rw [hg]
                refine nd2 fun e => ?_
                have h1 := abAt_com _ h
                rw [← e, Int.toNat_natCast] at h1
                have h2 : (cT T).getD (tq T k) false = true := hc
                rw [h1] at h2
                cases h2)
              rw [← this, F1, ya, hfb, hg, ht']
              by_cases h0 : 0 ≤ abAt (fl T) (cT T) (kq T k) (lq T k) (lq T k).length
              · rw [if_pos h0, decide_eq_true h0, if_pos rfl]
              · rw [if_neg h0, decide_eq_false h0, if_neg (by simp)]
            · by_cases a2 : a = 2
              · subst a2
                have hfb : fB T 2 k = g1B (fl T) (cT T) (tq T k) (kq T k) (lq T k) := by simp only [fB, hc, Bool.true_and, if_true, Nat.reduceEqDiff, if_false]
                have hg : gB T 2 k = [(tq T k : Int), wOf (fl T) (kq T k) (lastV (lq T k))] := by simp only [gB, Nat.reduceEqDiff, if_false]
                have hlen : g1B (fl T) (cT T) (tq T k) (kq T k) (lq T k) = true → 0 < (lq T k).length := fun h => by
                  unfold g1B at h
                  simp only [Bool.and_eq_true, decide_eq_true_eq] at h
                  exact h.1
                have := noteF_step (ih.f 2) (fun h => by
                  rw [hfb] at h
                  rw [hg]
                  refine nd2 fun e => ?_
                  have h1 := h
                  rw [← hgl.1] at h1
                  unfold g1b at h1
                  simp only [Bool.and_eq_true, decide_eq_true_eq] at h1
                  have h2 := h1.2.2.1
                  rw [hgl.2 (hlen h), ht'] at h2
                  exact h2 e.symm)
                rw [← this, F2, hgl.1, hfb, hg, ht']
                cases hgg : g1B (fl T) (cT T) (tq T k) (kq T k) (lq T k) with
                | false => rfl
                | true => rw [hgl.2 (hlen hgg)]
              · rw [Fo a a4 a5 a1 a2]
                have hfb : fB T a k = false := by simp only [fB, a4, a5, a1, a2, if_false, Bool.and_false]
                have := noteF_step (ih.f a) (fun h => by rw [hfb] at h; cases h)
                rw [hfb] at this
                simpa using this
theorem judS_JN {T : List LTx} (hf : fits T) : JN T (rds (fl T)).length (judS T) := by
  have := judge_notes hf (rds (fl T)).length (Nat.le_refl _)
  rw [← (colS_read T).1] at this ⊢
  exact this
theorem judS_len {T : List LTx} (hf : fits T) : (judS T).1.R.length = (rds (fl T)).length := by
  obtain ⟨_, _, _, _, h, _⟩ := (J0_ok hf).all (com := cT T) (colS T).1.R.length (Nat.le_refl _)
  rw [← (colS_read T).1]
  exact h
end Go.Proofs.Qxb6001346a
