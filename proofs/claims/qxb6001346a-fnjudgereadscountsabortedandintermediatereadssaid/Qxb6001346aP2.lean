/-
  Plain facts: each key's longest clean read.
-/
import Derived.Test.Qxb6001346aP1
namespace Go.Proofs.Qxb6001346a
set_option linter.unusedSimpArgs false
set_option linter.unusedVariables false

def R_ (X : JSt) (q : Nat) : Rd := X.1.R.getD q rd0
def K_ (X : JSt) (j : Nat) : KS := X.1.K.getD j ks0
def len_ (X : JSt) (q : Nat) : Int := (R_ X q).e - (R_ X q).s

theorem setCl_get {R : List Rd} {i q : Nat} {b : Bool} (hi : i < R.length) : (setCl R i b).getD q rd0 = if q = i then { (R.getD i rd0) with cl := b } else R.getD q rd0 := by
  unfold setCl
  by_cases h : q = i
  · subst h; simp [List.getD_eq_getElem?_getD, hi]
  · simp [List.getD_eq_getElem?_getD, List.getElem?_set, Ne.symm h, h]
theorem setLg_get {K : List KS} {j k i : Nat} (hj : j < K.length) : (setLg K j i).getD k ks0 = if k = j then { (K.getD j ks0) with lg := (i : Int) } else K.getD k ks0 := by
  unfold setLg
  by_cases h : k = j
  · subst h; simp [List.getD_eq_getElem?_getD, hj]
  · simp [List.getD_eq_getElem?_getD, List.getElem?_set, Ne.symm h, h]

/-- What one read leaves as it was, and what it turns. -/
structure Turn (X X' : JSt) (i : Nat) : Prop where
  t : ∀ q, (R_ X' q).t = (R_ X q).t
  kj : ∀ q, (R_ X' q).kj = (R_ X q).kj
  s : ∀ q, (R_ X' q).s = (R_ X q).s
  e : ∀ q, (R_ X' q).e = (R_ X q).e
  cl : ∀ q, q ≠ i → (R_ X' q).cl = (R_ X q).cl
  nm : names X'.1.K = names X.1.K
  lg : ((R_ X' i).cl = true ∧ ((K_ X (R_ X i).kj).lg < 0 ∨ len_ X (K_ X (R_ X i).kj).lg.toNat < len_ X i) ∧ (K_ X' (R_ X i).kj).lg = (i : Int) ∧ ∀ j, j ≠ (R_ X i).kj → (K_ X' j).lg = (K_ X j).lg) ∨
       (((R_ X' i).cl = true → ¬ (K_ X (R_ X i).kj).lg < 0 ∧ ¬ len_ X (K_ X (R_ X i).kj).lg.toNat < len_ X i) ∧ ∀ j, (K_ X' j).lg = (K_ X j).lg)

theorem turn_stepJ {m : Nat} {com : List Bool} {X : JSt} {i : Nat} (hG : Good m X.1) (hi : i < X.1.R.length) (h0 : (R_ X i).cl = false) : Turn X (stepJ com X i) i := by
  cases hc : com.getD (X.1.R.getD i rd0).t.toNat false with
  | false =>
    rw [stepJ_skip hc]
    exact ⟨fun _ => rfl, fun _ => rfl, fun _ => rfl, fun _ => rfl, fun _ _ => rfl, rfl, .inr ⟨fun h => (by rw [h0] at h; cases h), fun _ => rfl⟩⟩
  | true =>
    have hkj := hG.rk _ (getD_mem (d := rd0) hi)
    rw [stepJ_run hc]
    generalize (rdL X.1 (X.1.R.getD i rd0)).foldl (stepN i X.1.W com) (X.2.2, false, false, -1) = y
    generalize stepF com X.1 (X.1.R.getD i rd0) y X.2.1 = F'
    generalize (!y.2.1 && !y.2.2.1) = b
    have hg : ∀ q, (setCl X.1.R i b).getD q rd0 = if q = i then { (X.1.R.getD i rd0) with cl := b } else X.1.R.getD q rd0 := fun q => setCl_get hi
    have hbet : better X.1.K (setCl X.1.R i b) (X.1.R.getD i rd0) = (decide ((K_ X (R_ X i).kj).lg < 0) || decide (len_ X (K_ X (R_ X i).kj).lg.toNat < len_ X i)) := by
      unfold better K_ len_ R_
      congr 2
      rw [hg]
      split
      · rename_i h; rw [h]
      · rfl
    have hcl : b = true → ¬ better X.1.K (setCl X.1.R i b) (X.1.R.getD i rd0) = true → ¬ (K_ X (R_ X i).kj).lg < 0 ∧ ¬ len_ X (K_ X (R_ X i).kj).lg.toNat < len_ X i := fun _ h => by
      rw [hbet] at h
      simpa using h
    refine ⟨?_, ?_, ?_, ?_, ?_, ?_, ?_⟩
    · intro q; unfold R_; dsimp only; rw [hg]; split
      · rename_i h; rw [h]
      · rfl
    · intro q; unfold R_; dsimp only; rw [hg]; split
      · rename_i h; rw [h]
      · rfl
    · intro q; unfold R_; dsimp only; rw [hg]; split
      · rename_i h; rw [h]
      · rfl
    · intro q; unfold R_; dsimp only; rw [hg]; split
      · rename_i h; rw [h]
      · rfl
    · intro q hq; unfold R_; dsimp only; rw [hg, if_neg hq]
    · dsimp only
      split
      · exact names_set rfl
      · rfl
    · have hcli : (R_ (⟨if b = true ∧ better X.1.K (setCl X.1.R i b) (X.1.R.getD i rd0) = true then setLg X.1.K (X.1.R.getD i rd0).kj i else X.1.K, X.1.W, X.1.I, X.1.L, setCl X.1.R i b⟩, F', y.1) i).cl = b := by
        unfold R_; dsimp only; rw [hg, if_pos rfl]
      by_cases hb : b = true ∧ better X.1.K (setCl X.1.R i b) (X.1.R.getD i rd0) = true
      · refine .inl ⟨by rw [hcli]; exact hb.1, ?_, ?_, ?_⟩
        · have := hb.2
          rw [hbet] at this
          simpa using this
        · unfold K_; dsimp only; rw [if_pos hb, setLg_get hkj]; simp [R_]
        · intro j hj
          unfold K_; dsimp only; rw [if_pos hb, setLg_get hkj, if_neg (by exact hj)]
      · refine .inr ⟨fun h => ?_, fun j => ?_⟩
        · rw [hcli] at h
          exact hcl h (fun h2 => hb ⟨h, h2⟩)
        · unfold K_; dsimp only; rw [if_neg hb]

/-- The longest reads after i reads. -/
structure LI (X : JSt) (i : Nat) : Prop where
  rest : ∀ q, i ≤ q → (R_ X q).cl = false
  lg : ∀ j, ((K_ X j).lg = -1 ∧ ∀ q, q < i → (R_ X q).kj = j → (R_ X q).cl = false) ∨
    (0 ≤ (K_ X j).lg ∧ (K_ X j).lg < i ∧ (R_ X (K_ X j).lg.toNat).kj = j ∧ (R_ X (K_ X j).lg.toNat).cl = true ∧
      ∀ q, q < i → (R_ X q).kj = j → (R_ X q).cl = true → len_ X q ≤ len_ X (K_ X j).lg.toNat ∧ ((q : Int) < (K_ X j).lg → len_ X q < len_ X (K_ X j).lg.toNat))

theorem LI.step {X X' : JSt} {i : Nat} (h : LI X i) (ht : Turn X X' i) : LI X' (i + 1) := by
  have hlen : ∀ q, len_ X' q = len_ X q := fun q => by unfold len_; rw [ht.s, ht.e]
  refine ⟨fun q hq => by rw [ht.cl q (by omega)]; exact h.rest q (by omega), fun j => ?_⟩
  have hold := h.lg j
  by_cases hj : j = (R_ X i).kj
  · subst hj
    rcases ht.lg with ⟨hcl, hbet, hlg, _⟩ | ⟨hno, hsame⟩
    · -- the new read is the longest
      refine .inr ⟨by rw [hlg]; omega, by rw [hlg]; omega, ?_, ?_, ?_⟩
      · rw [hlg, Int.toNat_natCast, ht.kj]
      · rw [hlg, Int.toNat_natCast]; exact hcl
      · intro q hq hk hc
        rw [hlg, Int.toNat_natCast, hlen, hlen]
        by_cases hqi : q = i
        · subst hqi; exact ⟨Int.le_refl _, fun h => by omega⟩
        · rw [ht.cl q hqi] at hc
          rw [ht.kj] at hk
          rcases hold with ⟨h1, h2⟩ | ⟨h1, h2, h3, h4, h5⟩
          · have := h2 q (by omega) hk
            rw [this] at hc; cases hc
          · have := h5 q (by omega) hk hc
            rcases hbet with hb | hb
            · omega
            · exact ⟨by omega, fun _ => by omega⟩
    · -- it is not
      rw [hsame]
      rcases hold with ⟨h1, h2⟩ | ⟨h1, h2, h3, h4, h5⟩
      · refine .inl ⟨h1, fun q hq hk => ?_⟩
        by_cases hqi : q = i
        · subst hqi
          cases hc : (R_ X' q).cl with
          | false => rfl
          | true => have := (hno hc).1; omega
        · rw [ht.cl q hqi]
          rw [ht.kj] at hk
          exact h2 q (by omega) hk
      · refine .inr ⟨h1, by omega, by rw [ht.kj]; exact h3, by rw [ht.cl _ (by omega)]; exact h4, fun q hq hk hc => ?_⟩
        rw [hlen, hlen]
        by_cases hqi : q = i
        · subst hqi
          have := (hno hc).2
          exact ⟨by omega, fun h => by omega⟩
        · rw [ht.cl q hqi] at hc
          rw [ht.kj] at hk
          exact h5 q (by omega) hk hc
  · have hlgj : (K_ X' j).lg = (K_ X j).lg := by
      rcases ht.lg with ⟨_, _, _, hs⟩ | ⟨_, hs⟩
      · exact hs j hj
      · exact hs j
    rw [hlgj]
    have hne : ∀ q, (R_ X' q).kj = j → q ≠ i := fun q hq e => hj (by rw [← hq, ht.kj, e])
    rcases hold with ⟨h1, h2⟩ | ⟨h1, h2, h3, h4, h5⟩
    · refine .inl ⟨h1, fun q hq hk => ?_⟩
      have := hne q hk
      rw [ht.cl q this]
      rw [ht.kj] at hk
      exact h2 q (by omega) hk
    · refine .inr ⟨h1, by omega, by rw [ht.kj]; exact h3, by rw [ht.cl _ (by omega)]; exact h4, fun q hq hk hc => ?_⟩
      have hqi := hne q hk
      rw [hlen, hlen]
      rw [ht.cl q hqi] at hc
      rw [ht.kj] at hk
      exact h5 q (by omega) hk hc

/-- All the reads. -/
theorem judge_all {m : Nat} {com : List Bool} {X0 : JSt} (hH : JH m X0 0) (h0 : LI X0 0) : ∀ i, i ≤ X0.1.R.length → LI ((List.range i).foldl (stepJ com) X0) i ∧ names ((List.range i).foldl (stepJ com) X0).1.K = names X0.1.K ∧
    ∀ q, (R_ ((List.range i).foldl (stepJ com) X0) q).t = (R_ X0 q).t ∧ (R_ ((List.range i).foldl (stepJ com) X0) q).kj = (R_ X0 q).kj ∧ (R_ ((List.range i).foldl (stepJ com) X0) q).s = (R_ X0 q).s ∧ (R_ ((List.range i).foldl (stepJ com) X0) q).e = (R_ X0 q).e := by
  intro i
  induction i with
  | zero => intro _; exact ⟨h0, rfl, fun _ => ⟨rfl, rfl, rfl, rfl⟩⟩
  | succ i ih =>
    intro hi
    obtain ⟨h1, h2, h3⟩ := ih (by omega)
    obtain ⟨hj, _, _, _, hR, _⟩ := hH.all (com := com) i (by omega)
    rw [List.range_succ, List.foldl_append]
    simp only [List.foldl_cons, List.foldl_nil]
    generalize (List.range i).foldl (stepJ com) X0 = X at *
    have ht := turn_stepJ (com := com) hj.g (by omega) (h1.rest i (Nat.le_refl _))
    refine ⟨h1.step ht, ht.nm.trans h2, fun q => ?_⟩
    obtain ⟨a, b, c, d⟩ := h3 q
    exact ⟨(ht.t q).trans a, (ht.kj q).trans b, (ht.s q).trans c, (ht.e q).trans d⟩

def J0 (T : List LTx) : JSt := ((colS T).1, fun _ => (0, []), List.replicate (colS T).1.W.length 0)
theorem J0_ok {T : List LTx} (hf : fits T) : JH T.length (J0 T) 0 := by
  obtain ⟨hG, _⟩ := phR_fits hf (show fl T = fl T ++ [] by simp)
  exact ⟨hG, fun k hk => by rw [lg_colS T k hk]; constructor <;> omega, fun a => ⟨by simp [J0], by simp [J0], by simp [J0], by simp [J0]⟩, by simp [J0]⟩
theorem J0_li (T : List LTx) : LI (J0 T) 0 := by
  refine ⟨fun q _ => ?_, fun j => .inl ⟨lg_getD (lg_colS T) j, fun q hq => by omega⟩⟩
  obtain ⟨hl, h⟩ := colS_read T
  by_cases hq : q < (rds (fl T)).length
  · exact (h q hq).2.2.2.2
  · unfold R_ J0
    rw [List.getD_eq_getElem?_getD, List.getElem?_eq_none (by dsimp only; omega)]
    rfl

theorem plain10 {T : List LTx} (hf : fits T) : Plain10 T := by
  have hR := (colS_read T).1
  have hrd := (colS_read T).2
  obtain ⟨hLI, hnm, hsame⟩ := judge_all (com := comm T (colS T).2) (J0_ok hf) (J0_li T) (colS T).1.R.length (Nat.le_refl _)
  obtain ⟨hJH, _, _, _, hRl, _⟩ := (J0_ok hf).all (com := comm T (colS T).2) (colS T).1.R.length (Nat.le_refl _)
  change LI (judS T) _ at hLI
  change names (judS T).1.K = names (colS T).1.K at hnm
  change ∀ q, (R_ (judS T) q).t = (R_ (J0 T) q).t ∧ (R_ (judS T) q).kj = (R_ (J0 T) q).kj ∧ (R_ (judS T) q).s = (R_ (J0 T) q).s ∧ (R_ (judS T) q).e = (R_ (J0 T) q).e at hsame
  change (judS T).1.R.length = (colS T).1.R.length at hRl
  have hkl : (rKeys (fl T)).length = (rds (fl T)).length := by simp [rKeys]
  have hnd := (colS_reads T).1
  have hG := (J0_ok hf).g
  -- the lists, by the reads
  have ecl : ∀ q, q < (rds (fl T)).length → (rCl T).getD q false = (R_ (judS T) q).cl := fun q hq => by
    simp [rCl, R_, List.getD_eq_getElem?_getD, show q < (judS T).1.R.length by omega]
  have elg : ∀ q, q < (rds (fl T)).length → (rLg T).getD q 0 = (K_ (judS T) (R_ (judS T) q).kj).lg := fun q hq => by
    simp [rLg, R_, K_, lgOf, List.getD_eq_getElem?_getD, show q < (judS T).1.R.length by omega]
  have elen : ∀ q, q < (rds (fl T)).length → (rLens (fl T)).getD q 0 = len_ (judS T) q := fun q hq => by
    unfold len_
    rw [(hsame q).2.2.1, (hsame q).2.2.2]
    obtain ⟨_, _, _, h4, _⟩ := hrd q hq
    change (R_ (J0 T) q).e = (R_ (J0 T) q).s + _ at h4
    rw [h4]
    have : (rLens (fl T)).getD q 0 = (((rds (fl T)).getD q (0, op0)).2.list.length : Int) := by simp [rLens, List.getD_eq_getElem?_getD, hq]
    rw [this]; omega
  have ekey : ∀ q r, q < (rds (fl T)).length → r < (rds (fl T)).length → ((rKeys (fl T)).getD q ByteArray.empty = (rKeys (fl T)).getD r ByteArray.empty ↔ (R_ (judS T) q).kj = (R_ (judS T) r).kj) := fun q r hq hr => by
    have k1 : ∀ q, q < (rds (fl T)).length → (rKeys (fl T)).getD q ByteArray.empty = (names (colS T).1.K).getD (R_ (judS T) q).kj ByteArray.empty := fun q hq => by
      rw [(hsame q).2.1]
      obtain ⟨_, h2, _⟩ := hrd q hq
      change (names (colS T).1.K).getD (R_ (J0 T) q).kj ByteArray.empty = _ at h2
      rw [h2]
      simp [rKeys, List.getD_eq_getElem?_getD, hq]
    have lt : ∀ q, q < (rds (fl T)).length → (R_ (judS T) q).kj < (names (colS T).1.K).length := fun q hq => by
      rw [(hsame q).2.1, names_len]
      exact hG.rk _ (getD_mem (d := rd0) (show q < (J0 T).1.R.length by change q < (colS T).1.R.length; omega))
    rw [k1 q hq, k1 r hr]
    constructor
    · intro h
      have l1 := lt q hq
      have l2 := lt r hr
      rw [List.getD_eq_getElem?_getD, List.getD_eq_getElem?_getD, List.getElem?_eq_getElem l1, List.getElem?_eq_getElem l2] at h
      simp only [Option.getD_some] at h
      exact (List.getElem_inj hnd).1 h
    · intro h; rw [h]
  refine ⟨?_, ?_, ?_, ?_, ?_⟩
  · rw [hkl]; simp [rLg]; omega
  · rw [hkl]; simp [rCl]; omega
  · intro r q hr hq hlg hk
    rw [hkl] at hr hq
    rw [elg r hr] at hlg
    rw [ecl q hq]
    rcases hLI.lg (R_ (judS T) r).kj with ⟨_, h2⟩ | ⟨h1, _⟩
    · exact h2 q (by omega) ((ekey q r hq hr).1 hk)
    · omega
  · intro r hr hlg
    rw [hkl] at hr ⊢
    rw [elg r hr] at hlg ⊢
    rcases hLI.lg (R_ (judS T) r).kj with ⟨h1, _⟩ | ⟨h1, h2, h3, h4, _⟩
    · exact absurd h1 hlg
    · refine ⟨h1, by omega, (ekey _ r (by omega) hr).2 h3, ?_⟩
      rw [ecl _ (by omega)]; exact h4
  · intro r q hr hq hlg hk hc
    rw [hkl] at hr hq
    rw [elg r hr] at hlg ⊢
    rw [ecl q hq] at hc
    rcases hLI.lg (R_ (judS T) r).kj with ⟨h1, _⟩ | ⟨h1, h2, h3, h4, h5⟩
    · exact absurd h1 hlg
    · have := h5 q (by omega) ((ekey q r hq hr).1 hk) hc
      rw [elen q hq, elen _ (by omega)]
      exact ⟨this.1, fun h => by have := this.2 h; omega⟩
end Go.Proofs.Qxb6001346a
