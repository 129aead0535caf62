/-
  Plain facts: the numbers of the values (collect), first round.
-/
import Derived.Test.Qxb6001346aP1
import Derived.Test.Qxb6001346aVd
namespace Go.Proofs.Qxb6001346a
set_option linter.unusedSimpArgs false
set_option linter.unusedVariables false

/-- The state of key k. -/
def ksOf (K : List KS) (k : ByteArray) : KS := match keyIdx K k with | some j => K.getD j ks0 | none => newKS k
def num (K : List KS) (k v : ByteArray) : Option Int := assoc (ksOf K k).vals v
theorem keyIdx_names (K : List KS) (k : ByteArray) : keyIdx K k = (names K).findIdx? fun x => decide (x = k) := by
  simp only [keyIdx, names, List.findIdx?_map]
  rfl
theorem ksOf_idx {K : List KS} {k : ByteArray} {j : Nat} (h : keyIdx K k = some j) : K.getD j ks0 = ksOf K k := by simp [ksOf, h]
theorem ksOf_add (K : List KS) (k k' : ByteArray) : ksOf (addKey K k) k' = ksOf K k' := by
  cases h : keyIdx K k with
  | some j => rw [keyIdx_add_some h]
  | none =>
    rw [(keyIdx_add_none h).1]
    have e : keyIdx (K ++ [newKS k]) k' = (keyIdx K k').or (if k = k' then some K.length else none) := by
      simp only [keyIdx, List.findIdx?_append, List.findIdx?_cons, List.findIdx?_nil, newKS]
      by_cases hk : k = k' <;> simp [hk]
    unfold ksOf
    rw [e]
    cases h' : keyIdx K k' with
    | some j =>
      have := (keyIdx_lt h').1
      simp [List.getD_eq_getElem?_getD, List.getElem?_append_left this]
    | none =>
      by_cases hk : k = k'
      · subst hk; simp [List.getD_eq_getElem?_getD]
      · simp [hk]
theorem ksOf_at (K : List KS) (k : ByteArray) : (addKey K k).getD (kix (addKey K k) k) ks0 = ksOf K k := by
  rw [ksOf_idx kix_lt.2, ksOf_add]
theorem keyIdx_set {K : List KS} {j : Nat} {x : KS} (hn : x.name = (K.getD j ks0).name) (k : ByteArray) : keyIdx (K.set j x) k = keyIdx K k := by
  rw [keyIdx_names, keyIdx_names, names_set hn]
theorem ksOf_set {K : List KS} {j : Nat} {x : KS} {k : ByteArray} (hk : keyIdx K k = some j) (hn : x.name = (K.getD j ks0).name) (k' : ByteArray) : ksOf (K.set j x) k' = if k' = k then x else ksOf K k' := by
  obtain ⟨hj, hname⟩ := keyIdx_lt hk
  unfold ksOf
  rw [keyIdx_set hn]
  by_cases hkk : k' = k
  · subst hkk
    rw [hk, if_pos rfl]
    simp [List.getD_eq_getElem?_getD, hj]
  · rw [if_neg hkk]
    cases h' : keyIdx K k' with
    | none => rfl
    | some j' =>
      obtain ⟨hj', hname'⟩ := keyIdx_lt h'
      have hne : j ≠ j' := by
        intro e
        subst e
        exact hkk (hname'.symm.trans hname)
      simp [List.getD_eq_getElem?_getD, List.getElem?_set, hne]
theorem assoc_append (l : List (ByteArray × Int)) (v : ByteArray) (n : Int) (v' : ByteArray) : assoc (l ++ [(v, n)]) v' = match assoc l v' with | some m => some m | none => if v' = v then some n else none := by
  unfold assoc
  rw [List.find?_append]
  cases h : l.find? fun p => decide (p.1 = v') with
  | some p => simp
  | none =>
    by_cases hv : v' = v
    · simp [hv]
    · simp [hv, Ne.symm hv]

/-- The numbers are the places in a row of pairs. -/
def NumOK (K : List KS) (P : List (ByteArray × ByteArray)) : Prop := ∀ k v n, num K k v = some n ↔ 0 ≤ n ∧ P[n.toNat]? = some (k, v)
theorem NumOK.add {K : List KS} {P : List (ByteArray × ByteArray)} (h : NumOK K P) (k : ByteArray) : NumOK (addKey K k) P := by
  intro k' v n
  unfold num
  rw [ksOf_add]
  exact h k' v n
theorem NumOK.no {K : List KS} {P : List (ByteArray × ByteArray)} (h : NumOK K P) {k v : ByteArray} : num K k v = none ↔ (k, v) ∉ P := by
  constructor
  · intro hn hm
    obtain ⟨i, hi, e⟩ := List.getElem_of_mem hm
    have := (h k v (i : Int)).2 ⟨by omega, by simp [hi, e]⟩
    rw [hn] at this
    cases this
  · intro hm
    cases e : num K k v with
    | none => rfl
    | some n =>
      obtain ⟨_, h2⟩ := (h k v n).1 e
      exact absurd (List.mem_of_getElem? h2) hm
/-- A new value. -/
theorem NumOK.new {K : List KS} {P : List (ByteArray × ByteArray)} (h : NumOK K P) {k v : ByteArray} {j : Nat} {x : KS} (hk : keyIdx K k = some j) (hn : x.name = (K.getD j ks0).name) (hx : x.vals = (K.getD j ks0).vals ++ [(v, (P.length : Int))]) (hno : num K k v = none) :
    NumOK (K.set j x) (P ++ [(k, v)]) := by
  have e : ∀ k' v', num (K.set j x) k' v' = if k' = k ∧ v' = v then some (P.length : Int) else num K k' v' := by
    intro k' v'
    unfold num
    rw [ksOf_set hk hn]
    by_cases hkk : k' = k
    · subst hkk
      rw [if_pos rfl, hx, assoc_append, ksOf_idx hk]
      by_cases hv : v' = v
      · subst hv
        have : assoc (ksOf K k').vals v' = Option.none := hno
        rw [this]
        simp
      · simp only [hv, and_false, if_false]
        cases assoc (ksOf K k').vals v' <;> rfl
    · simp [hkk]
  intro k' v' n
  rw [e]
  by_cases hs : k' = k ∧ v' = v
  · obtain ⟨rfl, rfl⟩ := hs
    simp only [and_self, if_true]
    constructor
    · intro hh
      simp only [Option.some.injEq] at hh
      subst hh
      exact ⟨by omega, by simp⟩
    · rintro ⟨h0, h1⟩
      by_cases hl : n.toNat < P.length
      · rw [List.getElem?_append_left hl] at h1
        have := (h k' v' n).2 ⟨h0, h1⟩
        rw [hno] at this
        cases this
      · have : n.toNat < (P ++ [(k', v')]).length := (List.getElem?_eq_some_iff.1 h1).1
        simp at this
        rw [show n = (P.length : Int) by omega]
  · rw [if_neg hs, h k' v' n]
    constructor
    · rintro ⟨h0, h1⟩
      have hl := (List.getElem?_eq_some_iff.1 h1).1
      exact ⟨h0, by rw [List.getElem?_append_left hl]; exact h1⟩
    · rintro ⟨h0, h1⟩
      by_cases hl : n.toNat < P.length
      · rw [List.getElem?_append_left hl] at h1
        exact ⟨h0, h1⟩
      · rw [List.getElem?_append_right (by omega)] at h1
        have hz : n.toNat - P.length = 0 := by
          have := (List.getElem?_eq_some_iff.1 h1).1
          simp at this
          omega
        rw [hz] at h1
        simp at h1
        exact absurd ⟨h1.1.symm, h1.2.symm⟩ hs

/-! ### the first appends -/
def pr (x : Nat × LOp) : ByteArray × ByteArray := (x.2.key, x.2.val)
def inP (P : List (ByteArray × ByteArray)) (a : ByteArray × ByteArray) : Bool := P.any fun b => decide (b.1 = a.1) && decide (b.2 = a.2)
theorem inP_true {P : List (ByteArray × ByteArray)} {a : ByteArray × ByteArray} : inP P a = true ↔ a ∈ P := by
  unfold inP
  rw [List.any_eq_true]
  constructor
  · rintro ⟨b, hb, h⟩
    simp only [Bool.and_eq_true, decide_eq_true_eq] at h
    rw [show a = b from Prod.ext h.1.symm h.2.symm]
    exact hb
  · intro h
    exact ⟨a, h, by simp⟩
theorem inP_false {P : List (ByteArray × ByteArray)} {a : ByteArray × ByteArray} : inP P a = false ↔ a ∉ P := by
  rw [← inP_true]
  simp
def isNew (F : List (Nat × LOp)) (x : Nat × LOp) : Bool := x.2.app && !inP (F.map pr) (pr x)
def fstep (F : List (Nat × LOp)) (x : Nat × LOp) : List (Nat × LOp) := if isNew F x then F ++ [x] else F
def fapp (l : List (Nat × LOp)) : List (Nat × LOp) := l.foldl fstep []
/-- What a key knows of its last first append. -/
def LA (F : List (Nat × LOp)) (k : ByteArray) (s : KS) : Prop :=
  (s.lastT = -1 ∧ ∀ n, n < F.length → (xat F n).2.key ≠ k) ∨
    (0 ≤ s.last ∧ s.last.toNat < F.length ∧ (xat F s.last.toNat).2.key = k ∧ s.lastT = (xat F s.last.toNat).1 ∧ ∀ n, n < F.length → (xat F n).2.key = k → n ≤ s.last.toNat)
structure AI (S : CSt) (F : List (Nat × LOp)) : Prop where
  nu : NumOK S.K (F.map pr)
  w : S.W = F.map fun x => (x.1 : Int)
  il : S.I.length = F.length
  i : ∀ n, n < F.length → (S.I.getD n false = true ↔ ∃ m, n < m ∧ m < F.length ∧ (xat F m).2.key = (xat F n).2.key ∧ (xat F m).1 = (xat F n).1)
  la : ∀ k, LA F k (ksOf S.K k)

theorem xat_app {a b : List (Nat × LOp)} {p : Nat} (h : p < a.length) : xat (a ++ b) p = xat a p := by simp [xat, List.getD_eq_getElem?_getD, List.getElem?_append_left h]
theorem xat_end (a : List (Nat × LOp)) (x : Nat × LOp) : xat (a ++ [x]) a.length = x := by simp [xat, List.getD_eq_getElem?_getD]
theorem xat_mem {a : List (Nat × LOp)} {p : Nat} (h : p < a.length) : xat a p ∈ a := getD_mem h

theorem AI.step {S : CSt} {F : List (Nat × LOp)} {x : Nat × LOp} (h : AI S F) (hs : F.Pairwise (fun a b => a.1 ≤ b.1)) (hx : ∀ y ∈ F, y.1 ≤ x.1) : AI (stepA S x) (fstep F x) := by
  unfold stepA fstep isNew
  cases hA : x.2.app with
  | false => simp only [if_true, Bool.false_and, Bool.false_eq_true, if_false]; exact h
  | true =>
    simp only [Bool.true_eq_false, if_false, Bool.true_and]
    rw [ksOf_at]
    have hnn := h.nu.no (k := x.2.key) (v := x.2.val)
    cases hn : assoc (ksOf S.K x.2.key).vals x.2.val with
    | some n =>
      have hm : inP (F.map pr) (pr x) = true := by
        cases hc : inP (F.map pr) (pr x) with
        | true => rfl
        | false =>
          have := hnn.2 (inP_false.1 hc)
          unfold num at this
          rw [hn] at this
          cases this
      simp only [hm, Bool.not_true, Bool.false_eq_true, if_false]
      exact ⟨h.nu.add _, h.w, h.il, h.i, fun k => by rw [ksOf_add]; exact h.la k⟩
    | none =>
      have hm : inP (F.map pr) (pr x) = false := inP_false.2 (hnn.1 hn)
      simp only [hm, Bool.not_false, if_true]
      have hWl : S.W.length = F.length := by rw [h.w]; simp
      have hk := (@kix_lt S.K x.2.key).2
      have hat := ksOf_at S.K x.2.key
      have hla := h.la x.2.key
      generalize hks : ksOf S.K x.2.key = s at *
      refine ⟨?_, ?_, ?_, ?_, ?_⟩
      · simp only [List.map_append, List.map_cons, List.map_nil]
        refine (h.nu.add x.2.key).new hk (by rw [hat]) ?_ ?_
        · simp only [hat, hWl, List.length_map]
        · unfold num
          rw [ksOf_add, hks]
          exact hn
      · simp only [h.w, List.map_append, List.map_cons, List.map_nil]
      · simp only [List.length_append, List.length_cons, List.length_nil]
        split
        · simp [h.il]
        · simp [h.il]
      · intro n hn'
        simp only [List.length_append, List.length_cons, List.length_nil] at hn'
        have hIl : (if s.lastT = (x.1 : Int) then S.I.set s.last.toNat true else S.I).length = F.length := by split <;> simp [h.il]
        by_cases hnF : n = F.length
        · subst hnF
          have e1 : ((if s.lastT = (x.1 : Int) then S.I.set s.last.toNat true else S.I) ++ [false]).getD F.length false = false := by
            rw [List.getD_eq_getElem?_getD, List.getElem?_append_right (by omega), hIl]
            simp
          rw [e1]
          constructor
          · intro hc; cases hc
          · rintro ⟨m, h1, h2, _⟩
            simp at h2
            omega
        · have hnl : n < F.length := by omega
          have e1 : ((if s.lastT = (x.1 : Int) then S.I.set s.last.toNat true else S.I) ++ [false]).getD n false = (if s.lastT = (x.1 : Int) then S.I.set s.last.toNat true else S.I).getD n false := by
            rw [List.getD_eq_getElem?_getD, List.getElem?_append_left (by omega), ← List.getD_eq_getElem?_getD]
          rw [e1, xat_app hnl]
          have e2 : (∃ m, n < m ∧ m < (F ++ [x]).length ∧ (xat (F ++ [x]) m).2.key = (xat F n).2.key ∧ (xat (F ++ [x]) m).1 = (xat F n).1) ↔ ((∃ m, n < m ∧ m < F.length ∧ (xat F m).2.key = (xat F n).2.key ∧ (xat F m).1 = (xat F n).1) ∨ (x.2.key = (xat F n).2.key ∧ x.1 = (xat F n).1)) := by
            constructor
            · rintro ⟨m, h1, h2, h3⟩
              simp at h2
              by_cases hmF : m = F.length
              · subst hmF
                rw [xat_end] at h3
                exact .inr h3
              · rw [xat_app (show m < F.length by omega)] at h3
                exact .inl ⟨m, h1, by omega, h3⟩
            · rintro (⟨m, h1, h2, h3⟩ | h3)
              · exact ⟨m, h1, by simp; omega, by rw [xat_app h2]; exact h3⟩
              · exact ⟨F.length, hnl, by simp, by rw [xat_end]; exact h3⟩
          rw [e2, ← h.i n hnl]
          by_cases hT : s.lastT = (x.1 : Int)
          · rw [if_pos hT]
            rcases hla with ⟨h1, _⟩ | ⟨h1, h2, h3, h4, h5⟩
            · rw [h1] at hT; omega
            · by_cases hnl2 : n = s.last.toNat
              · subst hnl2
                have : (S.I.set s.last.toNat true).getD s.last.toNat false = true := by simp [List.getD_eq_getElem?_getD, h.il, h2]
                rw [this]
                refine ⟨fun _ => .inr ⟨h3.symm, ?_⟩, fun _ => rfl⟩
                rw [h4] at hT
                omega
              · have : (S.I.set s.last.toNat true).getD n false = S.I.getD n false := by simp [List.getD_eq_getElem?_getD, List.getElem?_set, Ne.symm hnl2]
                rw [this]
                constructor
                · exact .inl
                · rintro (h6 | ⟨h6, h7⟩)
                  · exact h6
                  · have h8 := h5 n hnl h6.symm
                    rw [h.i n hnl]
                    refine ⟨s.last.toNat, by omega, h2, by rw [h3]; exact h6, ?_⟩
                    rw [h4] at hT
                    omega
          · rw [if_neg hT]
            constructor
            · exact .inl
            · rintro (h6 | ⟨h6, h7⟩)
              · exact h6
              · rcases hla with ⟨_, h2⟩ | ⟨h1, h2, h3, h4, h5⟩
                · exact absurd h6.symm (h2 n hnl)
                · have h8 := h5 n hnl h6.symm
                  have h9 : (xat F n).1 ≤ (xat F s.last.toNat).1 := by
                    by_cases he : n = s.last.toNat
                    · rw [← he]; exact Nat.le_refl _
                    · have := List.pairwise_iff_getElem.1 hs n s.last.toNat hnl h2 (by omega)
                      rw [xat_get hnl, xat_get h2]
                      exact this
                  have h10 := hx _ (xat_mem h2)
                  exact absurd (by rw [h4]; omega) hT
      · intro k
        rw [ksOf_set hk (by rw [hat])]
        by_cases hkk : k = x.2.key
        · subst hkk
          rw [if_pos rfl]
          refine .inr ⟨by simp, by simp [hWl], ?_, ?_, ?_⟩
          · simp only [hWl, Int.toNat_natCast, xat_end]
          · simp only [hWl, Int.toNat_natCast, xat_end]
          · intro n hn' _
            simp at hn'
            simp [hWl]
            omega
        · rw [if_neg hkk, ksOf_add]
          rcases h.la k with ⟨h1, h2⟩ | ⟨h1, h2, h3, h4, h5⟩
          · refine .inl ⟨h1, fun n hn' => ?_⟩
            simp at hn'
            by_cases hnF : n = F.length
            · subst hnF; rw [xat_end]; exact Ne.symm hkk
            · rw [xat_app (by omega)]; exact h2 n (by omega)
          · refine .inr ⟨h1, by simp; omega, by rw [xat_app h2]; exact h3, by rw [xat_app h2]; exact h4, fun n hn' hk' => ?_⟩
            simp at hn'
            by_cases hnF : n = F.length
            · subst hnF; rw [xat_end] at hk'; exact absurd hk'.symm hkk
            · rw [xat_app (by omega)] at hk'; exact h5 n (by omega) hk'

theorem AI_fold : ∀ (l : List (Nat × LOp)) (S : CSt) (F : List (Nat × LOp)), AI S F → F.Pairwise (fun a b => a.1 ≤ b.1) → (∀ y ∈ F, ∀ x ∈ l, y.1 ≤ x.1) → l.Pairwise (fun a b => a.1 ≤ b.1) → AI (l.foldl stepA S) (l.foldl fstep F)
  | [], _, _, h, _, _, _ => h
  | x :: l, S, F, h, h1, h2, h3 => by
    rw [List.pairwise_cons] at h3
    refine AI_fold l _ _ (h.step h1 fun y hy => h2 y hy x (List.mem_cons_self ..)) ?_ ?_ h3.2
    · unfold fstep
      split
      · rw [List.pairwise_append]
        refine ⟨h1, by simp, fun a ha b hb => ?_⟩
        simp only [List.mem_cons, List.not_mem_nil, or_false] at hb
        rw [hb]
        exact h2 a ha x (List.mem_cons_self ..)
      · exact h1
    · intro y hy z hz
      unfold fstep at hy
      split at hy
      · simp only [List.mem_append, List.mem_cons, List.not_mem_nil, or_false] at hy
        rcases hy with hy | rfl
        · exact h2 y hy z (List.mem_cons_of_mem _ hz)
        · exact h3.1 z hz
      · exact h2 y hy z (List.mem_cons_of_mem _ hz)
theorem AI_phA (T : List LTx) : AI (phA (fl T)) (fapp (fl T)) := by
  refine AI_fold (fl T) s0 [] ⟨?_, rfl, rfl, fun n hn => by simp at hn, fun k => .inl ⟨?_, fun n hn => by simp at hn⟩⟩ (by simp) (by simp) (flFrom_sorted T 0).1
  · intro k v n
    simp [num, ksOf, s0, keyIdx, newKS, assoc]
  · simp [ksOf, s0, keyIdx, newKS]
end Go.Proofs.Qxb6001346a
