/-
  Plain facts: the first appends by their places; the second round of collect.
-/
import Derived.Test.Qxb6001346aP3
namespace Go.Proofs.Qxb6001346a
set_option linter.unusedSimpArgs false
set_option linter.unusedVariables false

def places (l : List (Nat × LOp)) : List Nat := (List.range l.length).filter (firstB l)
theorem firstB_true {O : List (Nat × LOp)} {p : Nat} : firstB O p = true ↔ (xat O p).2.app = true ∧ ∀ q, q < p → (xat O q).2.app = true → pr (xat O q) ≠ pr (xat O p) := by
  unfold firstB pr
  simp only [Bool.and_eq_true, List.all_eq_true, List.mem_range, Bool.not_eq_true', Bool.and_eq_false_iff, decide_eq_false_iff_not, ne_eq, Prod.mk.injEq, not_and]
  constructor
  · rintro ⟨h1, h2⟩
    refine ⟨h1, fun q hq ha hk hv => ?_⟩
    rcases h2 q hq with h | h | h
    · rw [ha] at h; cases h
    · exact h hk
    · exact h hv
  · rintro ⟨h1, h2⟩
    refine ⟨h1, fun q hq => ?_⟩
    cases ha : (xat O q).2.app with
    | false => exact .inl rfl
    | true =>
      by_cases hk : (xat O q).2.key = (xat O p).2.key
      · exact .inr (.inr (h2 q hq ha hk))
      · exact .inr (.inl hk)
theorem firstB_app {a b : List (Nat × LOp)} {p : Nat} (h : p < a.length) : firstB (a ++ b) p = firstB a p := by
  rw [Bool.eq_iff_iff, firstB_true, firstB_true, xat_app h]
  constructor
  · rintro ⟨h1, h2⟩
    exact ⟨h1, fun q hq => by have := h2 q hq; rwa [xat_app (by omega)] at this⟩
  · rintro ⟨h1, h2⟩
    exact ⟨h1, fun q hq => by rw [xat_app (by omega)]; exact h2 q hq⟩
/-- Every append has its first one. -/
theorem first_of {l : List (Nat × LOp)} : ∀ (n q : Nat), q ≤ n → (xat l q).2.app = true → ∃ p, p ≤ q ∧ firstB l p = true ∧ pr (xat l p) = pr (xat l q)
  | 0, q, hq, ha => ⟨q, Nat.le_refl _, firstB_true.2 ⟨ha, fun q' h' => by omega⟩, rfl⟩
  | n + 1, q, hq, ha => by
    cases hf : firstB l q with
    | true => exact ⟨q, Nat.le_refl _, hf, rfl⟩
    | false =>
      have : ∃ q', q' < q ∧ (xat l q').2.app = true ∧ pr (xat l q') = pr (xat l q) := by
        refine Classical.byContradiction fun hc => ?_
        have : firstB l q = true := firstB_true.2 ⟨ha, fun q' h1 h2 h3 => hc ⟨q', h1, h2, h3⟩⟩
        rw [hf] at this
        cases this
      obtain ⟨q', h1, h2, h3⟩ := this
      obtain ⟨p, g1, g2, g3⟩ := first_of (l := l) n q' (by omega) h2
      exact ⟨p, by omega, g2, g3.trans h3⟩
theorem places_snoc (l : List (Nat × LOp)) (x : Nat × LOp) : places (l ++ [x]) = places l ++ (if firstB (l ++ [x]) l.length then [l.length] else []) := by
  unfold places
  rw [List.length_append, List.length_cons, List.length_nil, List.range_succ, List.filter_append]
  congr 1
  · refine List.filter_congr fun p hp => ?_
    rw [firstB_app (by simpa using hp)]
  · simp [List.filter_cons]
theorem places_mem {l : List (Nat × LOp)} {p : Nat} : p ∈ places l ↔ p < l.length ∧ firstB l p = true := by simp [places]
theorem fapp_fold : ∀ (l done : List (Nat × LOp)), l.foldl fstep ((places done).map (xat done)) = (places (done ++ l)).map (xat (done ++ l))
  | [], done => by simp
  | x :: l, done => by
    have key : fstep ((places done).map (xat done)) x = (places (done ++ [x])).map (xat (done ++ [x])) := by
      have e0 : (places done).map (xat (done ++ [x])) = (places done).map (xat done) := List.map_congr_left fun p hp => xat_app (places_mem.1 hp).1
      have e1 : isNew ((places done).map (xat done)) x = firstB (done ++ [x]) done.length := by
        rw [Bool.eq_iff_iff, firstB_true, xat_end]
        unfold isNew
        rw [Bool.and_eq_true, Bool.not_eq_true', inP_false]
        constructor
        · rintro ⟨h1, h2⟩
          refine ⟨h1, fun q hq ha he => h2 ?_⟩
          rw [xat_app hq] at ha he
          obtain ⟨p, g1, g2, g3⟩ := first_of q q (Nat.le_refl _) ha
          rw [← he, ← g3]
          exact List.mem_map.2 ⟨xat done p, List.mem_map.2 ⟨p, places_mem.2 ⟨by omega, g2⟩, rfl⟩, rfl⟩
        · rintro ⟨h1, h2⟩
          refine ⟨h1, fun hm => ?_⟩
          obtain ⟨y, hy, he⟩ := List.mem_map.1 hm
          obtain ⟨p, hp, rfl⟩ := List.mem_map.1 hy
          obtain ⟨g1, g2⟩ := places_mem.1 hp
          refine h2 p g1 ?_ ?_
          · rw [xat_app g1]; exact (firstB_true.1 g2).1
          · rw [xat_app g1]; exact he
      rw [places_snoc, List.map_append, e0]
      unfold fstep
      rw [e1]
      split
      · simp [xat_end]
      · simp
    rw [List.foldl_cons, key]
    have := fapp_fold l (done ++ [x])
    rwa [List.append_assoc] at this
theorem fapp_places (O : List (Nat × LOp)) : fapp O = (places O).map (xat O) := by
  have := fapp_fold O []
  rw [List.nil_append] at this
  exact this

theorem hitB_true {O : List (Nat × LOp)} {k v : ByteArray} {p : Nat} : hitB O k v p = true ↔ firstB O p = true ∧ pr (xat O p) = (k, v) := by
  unfold hitB pr
  simp only [Bool.and_eq_true, decide_eq_true_eq, Prod.mk.injEq]
theorem hit_one {O : List (Nat × LOp)} {k v : ByteArray} {p q : Nat} (hp : hitB O k v p = true) (hq : hitB O k v q = true) : p = q := by
  rw [hitB_true] at hp hq
  have a := firstB_true.1 hp.1
  have b := firstB_true.1 hq.1
  rcases Nat.lt_trichotomy p q with h | h | h
  · exact absurd (hp.2.trans hq.2.symm) (b.2 p h a.1)
  · exact h
  · exact absurd (hq.2.trans hp.2.symm) (a.2 q h b.1)
theorem fAt_hit {O : List (Nat × LOp)} {k v : ByteArray} {p : Nat} (hp : p < O.length) (h : hitB O k v p = true) : fAt O k v = p := by
  rcases fAt_cases O k v with ⟨_, h2⟩ | ⟨q, _, h2, h3, _⟩
  · have := h2 p hp
    rw [h] at this
    cases this
  · rw [h2, hit_one h h3]
theorem wOf_at {O : List (Nat × LOp)} {k v : ByteArray} {n : Nat} (h : ((fapp O).map pr)[n]? = some (k, v)) : ((fapp O).map fun x => (x.1 : Int))[n]? = some (wOf O k v) := by
  rw [fapp_places] at h ⊢
  simp only [List.getElem?_map] at h ⊢
  cases hp : (places O)[n]? with
  | none => simp [hp] at h
  | some p =>
    simp only [hp, Option.map_some, Option.some.injEq] at h ⊢
    obtain ⟨g1, g2⟩ := places_mem.1 (List.mem_of_getElem? hp)
    have := fAt_hit g1 (hitB_true.2 ⟨g2, h⟩)
    unfold wOf
    rw [this, if_neg (by omega)]
    simp
theorem fAt_no {O : List (Nat × LOp)} {k v : ByteArray} (h : (k, v) ∉ (fapp O).map pr) : fAt O k v = -1 := by
  rcases fAt_cases O k v with ⟨h1, _⟩ | ⟨q, hq, _, h3, _⟩
  · exact h1
  · obtain ⟨g1, g2⟩ := hitB_true.1 h3
    exact absurd (by rw [fapp_places]; exact List.mem_map.2 ⟨_, List.mem_map.2 ⟨q, places_mem.2 ⟨hq, g1⟩, rfl⟩, g2⟩) h
theorem wOf_no {O : List (Nat × LOp)} {k v : ByteArray} (h : (k, v) ∉ (fapp O).map pr) : wOf O k v = -1 := by
  unfold wOf
  rw [fAt_no h]
  rfl
theorem wOf_yes {O : List (Nat × LOp)} {k v : ByteArray} (h : (k, v) ∈ (fapp O).map pr) : 0 ≤ wOf O k v ∧ ∃ p, p < O.length ∧ fAt O k v = p ∧ firstB O p = true ∧ pr (xat O p) = (k, v) ∧ wOf O k v = (xat O p).1 := by
  rw [fapp_places] at h
  obtain ⟨y, hy, he⟩ := List.mem_map.1 h
  obtain ⟨p, hp, rfl⟩ := List.mem_map.1 hy
  obtain ⟨g1, g2⟩ := places_mem.1 hp
  have h1 := fAt_hit g1 (hitB_true.2 ⟨g2, he⟩)
  have h2 : wOf O k v = (xat O p).1 := by
    unfold wOf
    rw [h1, if_neg (by omega)]
    simp
  exact ⟨by rw [h2]; omega, p, g1, h1, g2, he, h2⟩

/-! ### the second round -/
/-- The read pairs that nobody appended. -/
def gOf (P : List (ByteArray × ByteArray)) (E : List (Nat × ByteArray × ByteArray)) : List (ByteArray × ByteArray) := E.foldl (fun G e => if inP (P ++ G) e.2 then G else G ++ [e.2]) []
theorem gOf_snoc (P : List (ByteArray × ByteArray)) (E : List (Nat × ByteArray × ByteArray)) (e : Nat × ByteArray × ByteArray) : gOf P (E ++ [e]) = if inP (P ++ gOf P E) e.2 then gOf P E else gOf P E ++ [e.2] := by
  unfold gOf
  rw [List.foldl_append]
  rfl
/-- Did another transaction read a value that i appended first. -/
def seenAt (O : List (Nat × LOp)) (E : List (Nat × ByteArray × ByteArray)) (i : Nat) : Bool := E.any fun e => decide (wOf O e.2.1 e.2.2 = (i : Int)) && decide (i ≠ e.1)
structure RI (O : List (Nat × LOp)) (I0 : List Bool) (m : Nat) (X : CSt × List Bool) (E : List (Nat × ByteArray × ByteArray)) : Prop where
  nu : NumOK X.1.K ((fapp O).map pr ++ gOf ((fapp O).map pr) E)
  w : X.1.W = ((fapp O).map fun x => (x.1 : Int)) ++ (gOf ((fapp O).map pr) E).map fun _ => -1
  i : X.1.I = I0 ++ (gOf ((fapp O).map pr) E).map fun _ => false
  ll : X.1.L.length = E.length
  l : ∀ p, p < E.length → num X.1.K (E.getD p (0, ByteArray.empty, ByteArray.empty)).2.1 (E.getD p (0, ByteArray.empty, ByteArray.empty)).2.2 = some (X.1.L.getD p 0)
  sl : X.2.length = m
  s : ∀ i, i < m → X.2.getD i false = seenAt O E i
theorem gOf_no (P : List (ByteArray × ByteArray)) (E : List (Nat × ByteArray × ByteArray)) : ∀ a ∈ gOf P E, a ∉ P := by
  have : ∀ (l : List (Nat × ByteArray × ByteArray)) (G : List (ByteArray × ByteArray)), (∀ a ∈ G, a ∉ P) → ∀ a ∈ l.foldl (fun G e => if inP (P ++ G) e.2 then G else G ++ [e.2]) G, a ∉ P := by
    intro l
    induction l with
    | nil => intro G h; exact h
    | cons e l ih =>
      intro G h
      rw [List.foldl_cons]
      refine ih _ ?_
      split
      · exact h
      · rename_i hc
        intro a ha
        simp only [List.mem_append, List.mem_cons, List.not_mem_nil, or_false] at ha
        rcases ha with ha | rfl
        · exact h a ha
        · have := inP_false.1 (by simpa using hc)
          exact fun hm => this (List.mem_append_left _ hm)
  exact this E [] (by simp)
/-- The writer by the number. -/
theorem writer_at {O : List (Nat × LOp)} {E : List (Nat × ByteArray × ByteArray)} {k v : ByteArray} {n : Nat} (h : ((fapp O).map pr ++ gOf ((fapp O).map pr) E)[n]? = some (k, v)) :
    (((fapp O).map fun x => (x.1 : Int)) ++ (gOf ((fapp O).map pr) E).map fun _ => (-1 : Int))[n]? = some (wOf O k v) := by
  by_cases hn : n < (fapp O).length
  · rw [List.getElem?_append_left (by simpa using hn)] at h ⊢
    exact wOf_at h
  · rw [List.getElem?_append_right (by simp; omega)] at h ⊢
    simp only [List.length_map, List.getElem?_map] at h ⊢
    have hm := List.mem_of_getElem? h
    rw [h, wOf_no (gOf_no _ _ _ hm)]
    rfl
theorem seenAt_snoc (O : List (Nat × LOp)) (E : List (Nat × ByteArray × ByteArray)) (e : Nat × ByteArray × ByteArray) (i : Nat) : seenAt O (E ++ [e]) i = (seenAt O E i || (decide (wOf O e.2.1 e.2.2 = (i : Int)) && decide (i ≠ e.1))) := by simp [seenAt]

theorem RI.step {O : List (Nat × LOp)} {I0 : List Bool} {m : Nat} {X : CSt × List Bool} {E : List (Nat × ByteArray × ByteArray)} (h : RI O I0 m X E) {i j : Nat} {k v : ByteArray} (hk : keyIdx X.1.K k = some j) :
    RI O I0 m (stepV i j X v) (E ++ [(i, k, v)]) ∧ keyIdx (stepV i j X v).1.K k = some j := by
  obtain ⟨S, seen⟩ := X
  obtain ⟨nu, w, hi, ll, l, sl, s⟩ := h
  simp only at nu w hi ll l sl s hk
  have hWl : S.W.length = ((fapp O).map pr ++ gOf ((fapp O).map pr) E).length := by rw [w]; simp
  have hseen : ∀ n : Int, n = wOf O k v → ∀ q, q < m → (if 0 ≤ n ∧ n ≠ (i : Int) then seen.set n.toNat true else seen).getD q false = seenAt O (E ++ [(i, k, v)]) q := by
    intro n hn q hq
    rw [seenAt_snoc]
    simp only
    rw [← hn]
    by_cases hc : 0 ≤ n ∧ n ≠ (i : Int)
    · rw [if_pos hc]
      by_cases hnq : n.toNat = q
      · have : (seen.set n.toNat true).getD q false = true := by simp [List.getD_eq_getElem?_getD, hnq, sl, hq]
        rw [this]
        have e1 : n = (q : Int) := by omega
        simp [e1]
        right
        omega
      · have : (seen.set n.toNat true).getD q false = seen.getD q false := by simp [List.getD_eq_getElem?_getD, List.getElem?_set, hnq]
        rw [this, s q hq]
        simp [show ¬ n = (q : Int) by omega]
    · rw [if_neg hc, s q hq]
      by_cases e1 : n = (q : Int)
      · simp [show q = i by omega]
      · simp [e1]
  have hss : ∀ n : Int, (if 0 ≤ n ∧ n ≠ (i : Int) then seen.set n.toNat true else seen).length = m := by
    intro n
    split <;> simp [sl]
  have hnum : assoc (S.K.getD j ks0).vals v = num S.K k v := by rw [ksOf_idx hk]; rfl
  cases hn : num S.K k v with
  | some n =>
    obtain ⟨g0, g1⟩ := (nu k v n).1 hn
    have e1 : numV S j v = (n, S) := by simp only [numV, hnum, hn]
    have e2 : gOf ((fapp O).map pr) (E ++ [(i, k, v)]) = gOf ((fapp O).map pr) E := by
      rw [gOf_snoc, if_pos (inP_true.2 (List.mem_of_getElem? g1))]
    have e3 : S.W.getD n.toNat 0 = wOf O k v := by
      rw [List.getD_eq_getElem?_getD, w, writer_at g1]
      rfl
    have e4 : stepV i j (S, seen) v = ({ S with L := S.L ++ [n] }, if 0 ≤ wOf O k v ∧ wOf O k v ≠ (i : Int) then seen.set (wOf O k v).toNat true else seen) := by
      simp only [stepV, e1, e3]
    rw [e4]
    refine ⟨⟨by rw [e2]; exact nu, by rw [e2]; exact w, by rw [e2]; exact hi, by simp [ll], fun p hp => ?_, hss _, hseen _ rfl⟩, hk⟩
    simp only [List.length_append, List.length_cons, List.length_nil] at hp
    by_cases hpE : p = E.length
    · subst hpE
      simp [List.getD_eq_getElem?_getD, ← ll, hn]
    · have hpl : p < E.length := by omega
      have := l p hpl
      simp only [List.getD_eq_getElem?_getD, List.getElem?_append_left hpl, List.getElem?_append_left (show p < S.L.length by omega)] at this ⊢
      exact this
  | none =>
    have hno := nu.no.1 hn
    have e1 : numV S j v = ((S.W.length : Int), { S with K := S.K.set j { (S.K.getD j ks0) with vals := (S.K.getD j ks0).vals ++ [(v, (S.W.length : Int))] }, W := S.W ++ [-1], I := S.I ++ [false] }) := by simp only [numV, hnum, hn]
    have e2 : gOf ((fapp O).map pr) (E ++ [(i, k, v)]) = gOf ((fapp O).map pr) E ++ [(k, v)] := by
      rw [gOf_snoc, if_neg (by rw [inP_false.2 hno]; simp)]
    have hwo : wOf O k v = -1 := wOf_no fun hm => hno (List.mem_append_left _ hm)
    have e4 : stepV i j (S, seen) v = ({ S with K := S.K.set j { (S.K.getD j ks0) with vals := (S.K.getD j ks0).vals ++ [(v, (S.W.length : Int))] }, W := S.W ++ [-1], I := S.I ++ [false], L := S.L ++ [(S.W.length : Int)] }, if 0 ≤ wOf O k v ∧ wOf O k v ≠ (i : Int) then seen.set (wOf O k v).toNat true else seen) := by
      have e5 : (S.W ++ [-1]).getD ((S.W.length : Int)).toNat 0 = wOf O k v := by simp [List.getD_eq_getElem?_getD, hwo]
      simp only [stepV, e1, e5]
    have nu' := nu.new (x := { (S.K.getD j ks0) with vals := (S.K.getD j ks0).vals ++ [(v, (S.W.length : Int))] }) hk rfl (by rw [hWl]) hn
    rw [e4]
    refine ⟨⟨?_, ?_, ?_, by simp [ll], fun p hp => ?_, hss _, hseen _ rfl⟩, ?_⟩
    · rw [e2, ← List.append_assoc]; exact nu'
    · rw [e2]; simp [w]
    · rw [e2]; simp [hi]
    · simp only [List.length_append, List.length_cons, List.length_nil] at hp
      by_cases hpE : p = E.length
      · subst hpE
        have e6 : (E ++ [(i, k, v)]).getD E.length (0, ByteArray.empty, ByteArray.empty) = (i, k, v) := by simp [List.getD_eq_getElem?_getD]
        have e7 : (S.L ++ [(S.W.length : Int)]).getD E.length 0 = (S.W.length : Int) := by rw [← ll]; simp [List.getD_eq_getElem?_getD]
        rw [e6, e7, (nu' k v _)]
        refine ⟨by omega, ?_⟩
        rw [Int.toNat_natCast, hWl]
        simp
      · have hpl : p < E.length := by omega
        have e6 : (E ++ [(i, k, v)]).getD p (0, ByteArray.empty, ByteArray.empty) = E.getD p (0, ByteArray.empty, ByteArray.empty) := by simp [List.getD_eq_getElem?_getD, List.getElem?_append_left hpl]
        have e7 : (S.L ++ [(S.W.length : Int)]).getD p 0 = S.L.getD p 0 := by simp [List.getD_eq_getElem?_getD, List.getElem?_append_left (show p < S.L.length by omega)]
        have := l p hpl
        rw [(nu _ _ _)] at this
        rw [e6, e7, (nu' _ _ _)]
        refine ⟨this.1, ?_⟩
        rw [List.getElem?_append_left (List.getElem?_eq_some_iff.1 this.2).1]
        exact this.2
    · exact (keyIdx_set (x := { (S.K.getD j ks0) with vals := (S.K.getD j ks0).vals ++ [(v, (S.W.length : Int))] }) rfl k).trans hk
theorem RI.fold {O : List (Nat × LOp)} {I0 : List Bool} {m i j : Nat} {k : ByteArray} : ∀ (l : List ByteArray) (X : CSt × List Bool) (E : List (Nat × ByteArray × ByteArray)), RI O I0 m X E → keyIdx X.1.K k = some j →
    RI O I0 m (l.foldl (stepV i j) X) (E ++ l.map fun v => (i, k, v))
  | [], X, E, h, _ => by simpa using h
  | v :: l, X, E, h, hk => by
    obtain ⟨h1, h2⟩ := h.step (i := i) (v := v) hk
    have := RI.fold (i := i) (k := k) l _ _ h1 h2
    simpa using this
theorem RI.op {O : List (Nat × LOp)} {I0 : List Bool} {m : Nat} {X : CSt × List Bool} {E : List (Nat × ByteArray × ByteArray)} (h : RI O I0 m X E) (x : Nat × LOp) : RI O I0 m (stepR X x) (E ++ ents [x]) := by
  obtain ⟨i, p⟩ := x
  cases hp : p.app with
  | true =>
    have : stepR X (i, p) = X := by simp [stepR, hp]
    rw [this, ents_app hp, List.append_nil]
    exact h
  | false =>
    rw [stepR_read hp rfl, ents_read hp]
    have h1 : RI O I0 m ({ X.1 with K := addKey X.1.K p.key }, X.2) E := ⟨h.nu.add _, h.w, h.i, h.ll, fun q hq => by unfold num; rw [ksOf_add]; exact h.l q hq, h.sl, h.s⟩
    have h2 := RI.fold (i := i) (k := p.key) p.list _ _ h1 kix_lt.2
    exact ⟨h2.nu, h2.w, h2.i, h2.ll, h2.l, h2.sl, h2.s⟩
theorem RI.ops {O : List (Nat × LOp)} {I0 : List Bool} {m : Nat} : ∀ (l : List (Nat × LOp)) (X : CSt × List Bool) (E : List (Nat × ByteArray × ByteArray)), RI O I0 m X E → RI O I0 m (l.foldl stepR X) (E ++ ents l)
  | [], X, E, h => by simpa [ents, rds] using h
  | x :: l, X, E, h => by
    have := RI.ops l _ _ (h.op x)
    rw [show x :: l = [x] ++ l from rfl, ents_append, ← List.append_assoc]
    exact this
theorem colS_RI (T : List LTx) : RI (fl T) (phA (fl T)).I T.length (colS T) (ents (fl T)) := by
  have hA := AI_phA T
  have hl := phA_len (fl T) s0
  have h0 : RI (fl T) (phA (fl T)).I T.length (phA (fl T), List.replicate T.length false) [] := by
    refine ⟨by simpa [gOf] using hA.nu, by simpa [gOf] using hA.w, by simp [gOf], ?_, fun p hp => by simp at hp, by simp, fun i hi => ?_⟩
    · rw [show (phA (fl T)).L = [] from hl.2.2.1]; rfl
    · simp [seenAt, List.getD_eq_getElem?_getD, hi]
  have := RI.ops (fl T) _ _ h0
  rwa [List.nil_append] at this
end Go.Proofs.Qxb6001346a
