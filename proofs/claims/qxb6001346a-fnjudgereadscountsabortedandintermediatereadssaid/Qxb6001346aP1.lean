/-
  Plain facts: the keys' names, the reads that collect lists.
-/
import Derived.Test.Qxb6001346aLa
namespace Go.Proofs.Qxb6001346a
set_option linter.unusedSimpArgs false
set_option linter.unusedVariables false

def names (K : List KS) : List ByteArray := K.map (·.name)
theorem names_len (K : List KS) : (names K).length = K.length := by simp [names]
theorem names_add (K : List KS) (n : ByteArray) : names (addKey K n) = names K ∨ (n ∉ names K ∧ names (addKey K n) = names K ++ [n]) := by
  unfold addKey
  split
  · exact .inl rfl
  · rename_i h
    refine .inr ⟨?_, by simp [names, newKS]⟩
    intro hm
    obtain ⟨k, hk, rfl⟩ := List.mem_map.1 hm
    exact keyIdx_none h k hk rfl
theorem names_set {K : List KS} {j : Nat} {x : KS} (h : x.name = (K.getD j ks0).name) : names (K.set j x) = names K := by
  by_cases hj : j < K.length
  · simp only [names, List.map_set]
    rw [h]
    have : (K.getD j ks0).name = (K.map (·.name))[j]'(by simpa using hj) := by simp [List.getD_eq_getElem?_getD, hj]
    rw [this, List.set_getElem_self]
  · rw [List.set_eq_of_length_le (by omega)]
theorem names_nodup_add {K : List KS} {n : ByteArray} (h : (names K).Nodup) : (names (addKey K n)).Nodup := by
  rcases names_add K n with e | ⟨hn, e⟩
  · rw [e]; exact h
  · rw [e, List.nodup_append]
    exact ⟨h, by simp, fun a ha b hb e => hn (by simp only [List.mem_cons, List.not_mem_nil, or_false] at hb; rw [← hb, ← e]; exact ha)⟩
theorem names_getD_add {K : List KS} {n : ByteArray} {j : Nat} (hj : j < K.length) : (names (addKey K n)).getD j ByteArray.empty = (names K).getD j ByteArray.empty := by
  rcases names_add K n with e | ⟨_, e⟩
  · rw [e]
  · rw [e]
    simp [List.getD_eq_getElem?_getD, List.getElem?_append_left (show j < (names K).length by rw [names_len]; exact hj)]
theorem name_at {K : List KS} {n : ByteArray} : (names (addKey K n)).getD (kix (addKey K n) n) ByteArray.empty = n := by
  obtain ⟨h1, h2⟩ := @kix_lt K n
  have e : (names (addKey K n)).getD (kix (addKey K n) n) ByteArray.empty = ((addKey K n).getD (kix (addKey K n) n) ks0).name := by simp [names, List.getD_eq_getElem?_getD, h1]
  rw [e]
  exact (keyIdx_lt h2).2
theorem names_numV (S : CSt) (j : Nat) (v : ByteArray) : names (numV S j v).2.K = names S.K := by
  unfold numV
  simp only
  split
  · rfl
  · exact names_set rfl
theorem names_foldV (i j : Nat) : ∀ (l : List ByteArray) (X : CSt × List Bool), names (l.foldl (stepV i j) X).1.K = names X.1.K
  | [], X => rfl
  | v :: l, X => (names_foldV i j l _).trans (names_numV X.1 j v)
theorem names_stepA (S : CSt) (x : Nat × LOp) (h : (names S.K).Nodup) : (names (stepA S x).K).Nodup := by
  unfold stepA
  simp only
  split
  · exact h
  · split
    · exact names_nodup_add h
    · exact Eq.mpr (congrArg List.Nodup (names_set rfl)) (names_nodup_add h)
theorem names_phA : ∀ (l : List (Nat × LOp)) (S : CSt), (names S.K).Nodup → (names (l.foldl stepA S).K).Nodup
  | [], _, h => h
  | x :: l, S, h => names_phA l _ (names_stepA S x h)

/-- A read, as it is listed. -/
def vR (S : CSt) : List (Int × ByteArray × Int × Int × Bool) := S.R.map fun r => (r.t, (names S.K).getD r.kj ByteArray.empty, r.s, r.e, r.cl)
def rdV : Int → List (Nat × LOp) → List (Int × ByteArray × Int × Int × Bool)
  | _, [] => []
  | o, x :: l => ((x.1 : Int), x.2.key, o, o + x.2.list.length, false) :: rdV (o + x.2.list.length) l
theorem rdV_append (a b : List (Nat × LOp)) : ∀ o, rdV o (a ++ b) = rdV o a ++ rdV (o + sumL a) b := by
  induction a with
  | nil => intro o; simp [rdV, sumL]
  | cons x a ih =>
    intro o
    simp only [List.cons_append, rdV, ih]
    have : sumL (x :: a) = x.2.list.length + sumL a := by simp [sumL]
    rw [this]
    congr 3
    omega

theorem stepR_reads {m : Nat} {X : CSt × List Bool} {l : List (Nat × LOp)} {x : Nat × LOp} (hG : Good m X.1) (h1 : (names X.1.K).Nodup) (h2 : vR X.1 = rdV 0 (rds l)) (h3 : (X.1.L.length : Int) = sumL (rds l)) :
    (names (stepR X x).1.K).Nodup ∧ vR (stepR X x).1 = rdV 0 (rds (l ++ [x])) ∧ ((stepR X x).1.L.length : Int) = sumL (rds (l ++ [x])) := by
  obtain ⟨i, p⟩ := x
  cases hp : p.app with
  | true =>
    have : stepR X (i, p) = X := by simp [stepR, hp]
    rw [this, rds_append, rds_app hp, List.append_nil]
    exact ⟨h1, h2, h3⟩
  | false =>
    rw [stepR_read hp rfl, rds_append, rds_read hp]
    have hn := names_foldV i (kix (addKey X.1.K p.key) p.key) p.list ({ X.1 with K := addKey X.1.K p.key }, X.2)
    obtain ⟨_, hL, hR⟩ := foldV_len i (kix (addKey X.1.K p.key) p.key) p.list ({ X.1 with K := addKey X.1.K p.key }, X.2)
    generalize p.list.foldl (stepV i (kix (addKey X.1.K p.key) p.key)) ({ X.1 with K := addKey X.1.K p.key }, X.2) = Y at *
    dsimp only at hn hL hR ⊢
    refine ⟨by rw [hn]; exact names_nodup_add h1, ?_, ?_⟩
    · rw [rdV_append, ← h2]
      simp only [vR, hR, hn, List.map_append, List.map_cons, List.map_nil, rdV, name_at, hL]
      congr 1
      · refine List.map_congr_left fun r hr => ?_
        rw [names_getD_add (hG.rk r hr)]
      · rw [Int.zero_add, ← h3]
        simp
    · rw [hL, sumL_append, sumL_one]
      simp only [Int.natCast_add]
      omega
theorem phR_reads {m : Nat} : ∀ (l done : List (Nat × LOp)) (X : CSt × List Bool), Good m X.1 → (names X.1.K).Nodup → vR X.1 = rdV 0 (rds done) → (X.1.L.length : Int) = sumL (rds done) → (∀ x ∈ l, x.1 < m) →
    (names (l.foldl stepR X).1.K).Nodup ∧ vR (l.foldl stepR X).1 = rdV 0 (rds (done ++ l)) ∧ ((l.foldl stepR X).1.L.length : Int) = sumL (rds (done ++ l))
  | [], done, X, hG, h1, h2, h3, _ => by rw [List.append_nil]; exact ⟨h1, h2, h3⟩
  | x :: l, done, X, hG, h1, h2, h3, hm => by
    obtain ⟨i1, i2, i3⟩ := stepR_reads (x := x) hG h1 h2 h3
    have := phR_reads l (done ++ [x]) (stepR X x) (good_stepR hG (hm x (List.mem_cons_self ..))).1 i1 i2 i3 (fun y hy => hm y (List.mem_cons_of_mem _ hy))
    rwa [List.append_assoc] at this

theorem colS_reads (T : List LTx) : (names (colS T).1.K).Nodup ∧ vR (colS T).1 = rdV 0 (rds (fl T)) ∧ ((colS T).1.L.length : Int) = sumL (rds (fl T)) := by
  have hmem : ∀ x ∈ fl T, x.1 < T.length := fun x hx => by have := fl_mem_lt 0 x hx; omega
  have hl := phA_len (fl T) s0
  have := phR_reads (fl T) [] (phA (fl T), List.replicate T.length false) (good_phA (m := T.length) (fl T) s0 (good_s0 _) hmem) (names_phA _ _ (by simp [names, s0])) (by
    have e : (phA (fl T)).R = [] := hl.2.2.2
    simp [vR, e, rds, rdV]) (by
    have e : (phA (fl T)).L = [] := hl.2.2.1
    simp [e, rds, sumL]) hmem
  rwa [List.nil_append] at this

theorem rdV_get : ∀ (l : List (Nat × LOp)) (o : Int) (q : Nat), q < l.length → (rdV o l)[q]? = some (((l.getD q (0, op0)).1 : Int), (l.getD q (0, op0)).2.key, o + sumL (l.take q), o + sumL (l.take q) + (l.getD q (0, op0)).2.list.length, false)
  | [], _, q, h => by simp at h
  | x :: l, o, 0, _ => by simp [rdV, sumL]
  | x :: l, o, q + 1, h => by
    have := rdV_get l (o + x.2.list.length) q (by simpa using h)
    simp only [rdV, List.getElem?_cons_succ, this, List.getD_cons_succ, List.take_succ_cons]
    have e : sumL (x :: l.take q) = x.2.list.length + sumL (l.take q) := by simp [sumL]
    rw [e]
    simp only [Option.some.injEq, Prod.mk.injEq, true_and, and_true, Int.natCast_add]
    constructor <;> omega
theorem rdV_len : ∀ (l : List (Nat × LOp)) (o : Int), (rdV o l).length = l.length
  | [], _ => rfl
  | x :: l, o => by simp [rdV, rdV_len l]
/-- The reads of collect, one by one. -/
theorem colS_read (T : List LTx) : (colS T).1.R.length = (rds (fl T)).length ∧ ∀ q, q < (rds (fl T)).length →
    ((colS T).1.R.getD q rd0).t = ((rds (fl T)).getD q (0, op0)).1 ∧ (names (colS T).1.K).getD ((colS T).1.R.getD q rd0).kj ByteArray.empty = ((rds (fl T)).getD q (0, op0)).2.key ∧
    ((colS T).1.R.getD q rd0).s = sumL ((rds (fl T)).take q) ∧ ((colS T).1.R.getD q rd0).e = ((colS T).1.R.getD q rd0).s + ((rds (fl T)).getD q (0, op0)).2.list.length ∧ ((colS T).1.R.getD q rd0).cl = false := by
  obtain ⟨_, h, _⟩ := colS_reads T
  have hl : (colS T).1.R.length = (rds (fl T)).length := by
    have := congrArg List.length h
    simpa [vR, rdV_len] using this
  refine ⟨hl, fun q hq => ?_⟩
  have h2 := congrArg (fun l => l[q]?) h
  simp only [vR, List.getElem?_map, rdV_get _ _ q hq] at h2
  have h3 : (colS T).1.R[q]? = some ((colS T).1.R.getD q rd0) := by simp [List.getD_eq_getElem?_getD, show q < (colS T).1.R.length by omega]
  rw [h3] at h2
  simp only [Option.map_some, Option.some.injEq, Prod.mk.injEq, Int.zero_add] at h2
  obtain ⟨a, b, c, d, e⟩ := h2
  exact ⟨a, b, c, by rw [d, c], e⟩
end Go.Proofs.Qxb6001346a
