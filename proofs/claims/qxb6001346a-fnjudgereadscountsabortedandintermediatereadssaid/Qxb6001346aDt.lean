/-
  Regions that draw their order, by a plan of one's own: a plan is a tree (told in the clothes of Code: .seq (.exit k) rest, .cond _ s t, .skip).
-/
import Derived.Test.Qxb6001346aDr
namespace Go.Proofs.Qxb6001346a
open Fw Go.RowKit
set_option linter.unusedSimpArgs false
set_option linter.unusedVariables false
namespace Fw

def stepT (b : Bool) (dp : Bool) (P : Program) (w0 w : World) (ρ : Env) (op : Op) (ty : TypeId) (need : Bool) (K : Value → World → Prop) : Prop :=
  match b with
  | true => fx P w0 ρ op ty fun v _ => K v w
  | false => fx P w ρ op ty fun v w' => (dp = true → need = true → Ext w0 w') ∧ K v w'

/-- A plan carried out (fuel: the operations still to come). -/
def exT (P : Program) (ops : List Oper) (dp : Bool) (w0 : World) : Nat → Code → Env → World → (Env → World → Prop) → Prop
  | f + 1, .seq (.exit k) t, ρ, w, K => optK (ops[k]?) fun o => stepT (pureOp o.op) dp P w0 w ρ o.op o.type (needOp o.op) fun v w' => exT P ops dp w0 f t (updo ρ o.dst v) w' K
  | f + 1, .cond _ (.seq (.exit k) s) (.seq (.exit l) t), ρ, w, K =>
    (optK (ops[k]?) fun o => stepT (pureOp o.op) dp P w0 w ρ o.op o.type (needOp o.op) fun v w' => exT P ops dp w0 f s (updo ρ o.dst v) w' K) ∧
    (optK (ops[l]?) fun o => stepT (pureOp o.op) dp P w0 w ρ o.op o.type (needOp o.op) fun v w' => exT P ops dp w0 f t (updo ρ o.dst v) w' K)
  | _, _, ρ, w, K => K ρ w

def effT (ops : Array Oper) (dp st : Bool) (k : Nat) : Bool := match ops[k]? with
  | none => false
  | some o => !pureOp o.op && o.guard.isNone && (!needOp o.op || !dp || st)
def needT (ops : Array Oper) (k : Nat) : Bool := match ops[k]? with
  | none => false
  | some o => needOp o.op
def pureT (ops : Array Oper) (dp st : Bool) (listed : Array Bool) (k : Nat) : Bool := match ops[k]? with
  | none => false
  | some o => pureOp o.op && o.guard.isNone && (Region.ready .any ops listed).contains k && Region.free .any ops listed k && (!depOp o.op || (dp && st && (List.range ops.size).all fun j => pfOf ops j || !finOf ops j || wt ops ops.size j k))

def lexT (ops : Array Oper) (dp : Bool) : Nat → Code → Array Bool → Bool → Bool
  | 0, .skip, listed, _ => (Region.ready .any ops listed).isEmpty
  | f + 1, .seq (.exit k) t, listed, st => (pureT ops dp st listed k && lexT ops dp f t (listed.setIfInBounds k true) st) ||
      (effT ops dp st k && Region.ready .any ops listed == [k] && lexT ops dp f t (listed.setIfInBounds k true) (st && needT ops k))
  | f + 1, .cond _ (.seq (.exit k) s) (.seq (.exit l) t), listed, st =>
      effT ops dp st k && effT ops dp st l && Region.ready .any ops listed == [k, l] && lexT ops dp f s (listed.setIfInBounds k true) (st && needT ops k) && lexT ops dp f t (listed.setIfInBounds l true) (st && needT ops l)
  | _, _, _, _ => false

def goodT (n : Nat) (dp : Bool) (ops : List Oper) (t : Code) : Bool := Region.noSelect ops.toArray && ops.all (fun o => o.dst.all (· < n)) && lexT ops.toArray dp ops.length t (Array.replicate ops.length false) true

theorem lexT_succ {ops : Array Oper} {dp : Bool} {f : Nat} {t : Code} {listed : Array Bool} {st : Bool} (h : lexT ops dp (f + 1) t listed st = true) :
    (∃ k t', t = .seq (.exit k) t' ∧ ((pureT ops dp st listed k && lexT ops dp f t' (listed.setIfInBounds k true) st) ||
      (effT ops dp st k && Region.ready .any ops listed == [k] && lexT ops dp f t' (listed.setIfInBounds k true) (st && needT ops k))) = true) ∨
    (∃ c k s l t', t = .cond c (.seq (.exit k) s) (.seq (.exit l) t') ∧
      (effT ops dp st k && effT ops dp st l && Region.ready .any ops listed == [k, l] && lexT ops dp f s (listed.setIfInBounds k true) (st && needT ops k) && lexT ops dp f t' (listed.setIfInBounds l true) (st && needT ops l)) = true) := by
  revert h
  generalize hf : f + 1 = m
  intro h
  unfold lexT at h
  split at h
  · omega
  · cases hf; exact .inl ⟨_, _, rfl, h⟩
  · cases hf; exact .inr ⟨_, _, _, _, _, rfl, h⟩
  · cases h
theorem lexT_zero {ops : Array Oper} {dp : Bool} {t : Code} {listed : Array Bool} {st : Bool} (h : lexT ops dp 0 t listed st = true) : t = .skip ∧ (Region.ready .any ops listed).isEmpty = true := by
  revert h
  generalize hf : 0 = m
  intro h
  unfold lexT at h
  split at h
  · exact ⟨rfl, h⟩
  · omega
  · omega
  · cases h

theorem exT_sound {P : Program} {n : Nat} {opsL : List Oper} {Q : Exit → Act → World → Prop} {K : Env → World → Prop} {w0 : World} {dp : Bool}
    (hK : ∀ ρ w a, Sim n a ρ → K ρ w → Q .normal a w) (hQ : ∀ c a w, ¬ Q (.panic c) a w) (hs : Region.noSelect opsL.toArray = true) (hd : opsL.all (fun o => o.dst.all (· < n)) = true) :
    ∀ (f : Nat) (t : Code) (listed : Array Bool) (st : Bool) (ρ : Env) (w : World) (a : Act), lexT opsL.toArray dp f t listed st = true → Closed opsL.toArray listed →
      (st = true → Ext w0 w) → Sim n a ρ → exT P opsL dp w0 f t ρ w K →
      wA P opsL.toArray Q (fun w => dp = true → Ext w0 w) (pfOf opsL.toArray) (finOf opsL.toArray) f listed a w := by
  intro f
  induction f with
  | zero =>
    intro t listed st ρ w a hB hc hE hsim h
    obtain ⟨ht, hB'⟩ := lexT_zero hB
    subst ht
    exact ⟨by simpa using hB', hK _ _ _ hsim h⟩
  | succ f ih =>
    intro t listed st ρ w a hB hc hE hsim h
    -- an effect, at a place where it is among the ready
    have eff : ∀ k t' o, opsL.toArray[k]? = some o → k ∈ Region.ready .any opsL.toArray listed → pureOp o.op = false → o.guard = none → (needOp o.op = true → dp = true → st = true) →
        lexT opsL.toArray dp f t' (listed.setIfInBounds k true) (st && needT opsL.toArray k) = true →
        (stepT (pureOp o.op) dp P w0 w ρ o.op o.type (needOp o.op) fun v w' => exT P opsL dp w0 f t' (updo ρ o.dst v) w' K) →
        wpOp P opsL.toArray Q k (fun a' w' => ((pfOf opsL.toArray k = true → w' = w) ∧ (pfOf opsL.toArray k = false → finOf opsL.toArray k = false → (dp = true → Ext w0 w'))) ∧
          wA P opsL.toArray Q (fun w => dp = true → Ext w0 w) (pfOf opsL.toArray) (finOf opsL.toArray) f (listed.setIfInBounds k true) a' w') a w := by
      intro k t' o h0 hr hp hg hns hB2 hst
      have hdo : o.dst.all (· < n) = true := by
        have hm : o ∈ opsL := List.mem_of_getElem? (i := k) (by simpa using h0)
        exact List.all_eq_true.1 hd o hm
      have hpf : pfOf opsL.toArray k = false := by simp only [pfOf, h0, hp]
      have hfin : finOf opsL.toArray k = !needOp o.op := by simp only [finOf, h0]
      have hnt : needT opsL.toArray k = needOp o.op := by simp only [needT, h0]
      unfold wpOp
      simp only [h0]
      rw [if_pos (wanted_none hg)]
      rw [hp] at hst
      have hst' : fx P w ρ o.op o.type (fun v w' => (dp = true → needOp o.op = true → Ext w0 w') ∧ exT P opsL dp w0 f t' (updo ρ o.dst v) w' K) := hst
      refine .inl (fx_sound hsim.eval hst' fun v w' hv => ⟨⟨fun h => absurd (hpf.symm.trans h) (by simp), fun _ h hdp => ?_⟩, ?_⟩)
      · rw [hfin] at h
        exact hv.1 hdp (by simpa using h)
      · by_cases hdp : dp = true
        · refine ih t' _ _ _ _ _ hB2 (closed_set hc hr) (fun hst2 => ?_) (hsim.put o.dst v hdo) hv.2
          simp only [Bool.and_eq_true, hnt] at hst2
          exact hv.1 hdp hst2.2
        · -- without reads of the memory the memory does not matter
          have hdp' : dp = false := by simpa using hdp
          have any_st : ∀ (f : Nat) (t : Code) (listed : Array Bool) (st st' : Bool), lexT opsL.toArray false f t listed st = true → lexT opsL.toArray false f t listed st' = true := by
            intro f
            induction f with
            | zero =>
              intro t listed st st' h
              obtain ⟨rfl, h⟩ := lexT_zero h
              simpa [lexT] using h
            | succ f ih2 =>
              intro t listed st st' h
              rcases lexT_succ h with ⟨k, t, rfl, h⟩ | ⟨c, k, s, l, t, rfl, h⟩
              · simp only [lexT, Bool.or_eq_true, Bool.and_eq_true] at h ⊢
                rcases h with ⟨h1, h2⟩ | ⟨⟨h1, h2⟩, h3⟩
                · refine .inl ⟨?_, ih2 _ _ _ _ h2⟩
                  unfold pureT at h1 ⊢
                  split at h1 <;> simp_all
                · refine .inr ⟨⟨?_, h2⟩, ih2 _ _ _ _ h3⟩
                  unfold effT at h1 ⊢
                  split at h1 <;> simp_all
              · simp only [lexT, Bool.and_eq_true] at h ⊢
                obtain ⟨⟨⟨⟨h1, h2⟩, h3⟩, h4⟩, h5⟩ := h
                refine ⟨⟨⟨⟨?_, ?_⟩, h3⟩, ih2 _ _ _ _ h4⟩, ih2 _ _ _ _ h5⟩
                · unfold effT at h1 ⊢
                  split at h1 <;> simp_all
                · unfold effT at h2 ⊢
                  split at h2 <;> simp_all
          subst hdp'
          exact ih t' _ false _ _ _ (any_st _ _ _ _ _ hB2) (closed_set hc hr) (fun h => by cases h) (hsim.put o.dst v hdo) hv.2
    have hB0 := hB
    clear hB
    rcases lexT_succ hB0 with ⟨k, t', ht, hB⟩ | ⟨c, k, s, l, t', ht, hB⟩
    · -- one operation
      subst ht
      change (optK (opsL[k]?) fun o => stepT (pureOp o.op) dp P w0 w ρ o.op o.type (needOp o.op) fun v w' => exT P opsL dp w0 f t' (updo ρ o.dst v) w' K) at h
      simp only [Bool.or_eq_true, Bool.and_eq_true] at hB
      rcases hB with ⟨hB1, hB2⟩ | ⟨⟨hB1, hB3⟩, hB2⟩
      · unfold pureT at hB1
        split at hB1
        · cases hB1
        · rename_i o h0
          have h0' : opsL[k]? = some o := by simpa using h0
          rw [h0', optK_some] at h
          simp only [Bool.and_eq_true, Bool.or_eq_true, Bool.not_eq_true', List.contains_iff_mem, Option.isNone_iff_eq_none] at hB1
          obtain ⟨⟨⟨⟨hp, hg⟩, hr⟩, hf⟩, hdep⟩ := hB1
          rw [hp] at h
          have hdo : o.dst.all (· < n) = true := List.all_eq_true.1 hd o (List.mem_of_getElem? h0')
          have hpf : pfOf opsL.toArray k = true := by simp only [pfOf, h0, hp]
          have hst' : fx P w0 ρ o.op o.type (fun v _ => exT P opsL dp w0 f t' (updo ρ o.dst v) w K) := h
          obtain ⟨v, hv, hy⟩ := px_sound (o := o) (fx_pure hp hst')
          have hE2 : depOp o.op = true → Ext w0 w := fun hd => by
            rw [hd] at hdep
            simp only [Bool.true_eq_false, false_or] at hdep
            exact hE hdep.1.2
          refine wA_first (depOp o.op) h0 hpf (Region.noSelect_spec hs) (fun c a w h => absurd h (hQ c _ w)) ?_ f listed a w hc (Region.free_spec h0 hf) hr (.inl ⟨wanted_none hg, fun w1 hw1 => ?_⟩) (fun hd _ => hE2 hd) (ih t' _ st _ _ _ hB2 (closed_set hc hr) hE (hsim.put o.dst v hdo) hv)
          · intro hd j hj1 hj2
            rw [hd] at hdep
            simp only [Bool.true_eq_false, false_or, List.all_eq_true, List.mem_range, Bool.or_eq_true, Bool.not_eq_true'] at hdep
            have hjlt : j < opsL.toArray.size := by
              rcases Nat.lt_or_ge j opsL.toArray.size with h' | h'
              · exact h'
              · simp [pfOf, Array.getElem?_eq_none h'] at hj1
            rcases hdep.2 j hjlt with (h1 | h1) | h1
            · rw [hj1] at h1; cases h1
            · rw [hj2] at h1; cases h1
            · exact ⟨_, h1⟩
          · rw [hsim.eval]
            refine hy w1 fun hd => hw1 hd ?_
            rw [hd] at hdep
            simp only [Bool.true_eq_false, false_or] at hdep
            exact hdep.1.1
      · unfold effT at hB1
        split at hB1
        · cases hB1
        · rename_i o h0
          have h0' : opsL[k]? = some o := by simpa using h0
          rw [h0', optK_some] at h
          simp only [beq_iff_eq] at hB3
          have hr : k ∈ Region.ready .any opsL.toArray listed := by rw [hB3]; simp
          simp only [Bool.and_eq_true, Bool.or_eq_true, Bool.not_eq_true', Option.isNone_iff_eq_none] at hB1
          obtain ⟨⟨hp, hg⟩, hns⟩ := hB1
          refine ⟨fun he => (by rw [hB3] at he; cases he), fun i hi => ?_⟩
          rw [hB3] at hi
          obtain rfl : i = k := by simpa using hi
          refine eff i t' o h0 hr hp hg (fun h1 h2 => ?_) hB2 h
          rcases hns with (h3 | h3) | h3
          · rw [h1] at h3; cases h3
          · rw [h2] at h3; cases h3
          · exact h3
    · -- two that may go either way
      subst ht
      change ((optK (opsL[k]?) fun o => stepT (pureOp o.op) dp P w0 w ρ o.op o.type (needOp o.op) fun v w' => exT P opsL dp w0 f s (updo ρ o.dst v) w' K) ∧
        (optK (opsL[l]?) fun o => stepT (pureOp o.op) dp P w0 w ρ o.op o.type (needOp o.op) fun v w' => exT P opsL dp w0 f t' (updo ρ o.dst v) w' K)) at h
      simp only [Bool.and_eq_true, beq_iff_eq] at hB
      obtain ⟨⟨⟨⟨hB1, hB2⟩, hB3⟩, hB4⟩, hB5⟩ := hB
      have one : ∀ k t', effT opsL.toArray dp st k = true → k ∈ Region.ready .any opsL.toArray listed → lexT opsL.toArray dp f t' (listed.setIfInBounds k true) (st && needT opsL.toArray k) = true →
          (optK (opsL[k]?) fun o => stepT (pureOp o.op) dp P w0 w ρ o.op o.type (needOp o.op) fun v w' => exT P opsL dp w0 f t' (updo ρ o.dst v) w' K) →
          wpOp P opsL.toArray Q k (fun a' w' => ((pfOf opsL.toArray k = true → w' = w) ∧ (pfOf opsL.toArray k = false → finOf opsL.toArray k = false → (dp = true → Ext w0 w'))) ∧
            wA P opsL.toArray Q (fun w => dp = true → Ext w0 w) (pfOf opsL.toArray) (finOf opsL.toArray) f (listed.setIfInBounds k true) a' w') a w := by
        intro k t' h1 hr h2 h3
        unfold effT at h1
        split at h1
        · cases h1
        · rename_i o h0
          have h0' : opsL[k]? = some o := by simpa using h0
          rw [h0', optK_some] at h3
          simp only [Bool.and_eq_true, Bool.or_eq_true, Bool.not_eq_true', Option.isNone_iff_eq_none] at h1
          obtain ⟨⟨hp, hg⟩, hns⟩ := h1
          refine eff k t' o h0 hr hp hg (fun h1 h2 => ?_) h2 h3
          rcases hns with (h4 | h4) | h4
          · rw [h1] at h4; cases h4
          · rw [h2] at h4; cases h4
          · exact h4
      refine ⟨fun he => (by rw [hB3] at he; cases he), fun i hi => ?_⟩
      have hi' := hi
      rw [hB3] at hi'
      simp only [List.mem_cons, List.not_mem_nil, or_false] at hi'
      rcases hi' with rfl | rfl
      · exact one _ _ hB1 hi hB4 h.1
      · exact one _ _ hB2 hi hB5 h.2

theorem cwp_drawT {P : Program} {n : Nat} {Q : Exit → Env → World → Prop} {ρ : Env} {w : World} {id : Nat} {ops : List Oper} (dp : Bool) (t : Code) (hm : P.follows .mixedOrders = true) (hg : goodT n dp ops t = true) (hQ : ∀ c ρ w, ¬ Q (.panic c) ρ w)
    (h : exT P ops dp w ops.length t ρ w.drew fun ρ' w' => Q .normal ρ' w') : cwp P n (.region id ops.toArray true) Q ρ w := by
  intro a ha
  simp only [goodT, Bool.and_eq_true] at hg
  have hcl : Closed ops.toArray (Array.replicate ops.length false) := by
    intro j o ho hl
    simp [Array.getElem?_replicate] at hl
    split at hl <;> simp at hl
  have := exT_sound (w0 := w) (dp := dp) (Q := fun e a' w' => ∃ ρ', Sim n a' ρ' ∧ Q e ρ' w') (fun ρ' w' a' hs hk => ⟨ρ', hs, hk⟩) (fun c a w ⟨ρ', _, hh⟩ => hQ c ρ' w hh) hg.1.1 hg.1.2 ops.length t (Array.replicate ops.length false) true ρ w.drew a hg.2 hcl (fun _ b _ => rfl) ha h
  exact wp_region_any hm (by simpa using wpAny_of_wA _ _ _ _ this)
theorem cwp_st {P : Program} {n : Nat} {Q : Exit → Env → World → Prop} {ρ : Env} {w : World} {id : Nat} {ops : List Oper} {y : Code} (dp : Bool) (t : Code) (hm : P.follows .mixedOrders = true) (hg : goodT n dp ops t = true) (hQ : ∀ c ρ w, ¬ Q (.panic c) ρ w)
    (h : ∀ K : Env → World → Prop, (∀ ρ w, cwp P n y Q ρ w → K ρ w) → exT P ops dp w ops.length t ρ w.drew K) : cwp P n (.seq (.region id ops.toArray true) y) Q ρ w :=
  cwp_seq fun K hK => cwp_drawT dp t hm hg (fun c ρ w h => hQ c ρ w h) (h K hK)

theorem exT_skip (P : Program) (ops : List Oper) (dp : Bool) (w0 : World) (f : Nat) (ρ : Env) (w : World) (K : Env → World → Prop) : exT P ops dp w0 f .skip ρ w K = K ρ w := by cases f <;> rfl
theorem exT_one (P : Program) (ops : List Oper) (dp : Bool) (w0 : World) (f k : Nat) (t : Code) (ρ : Env) (w : World) (K : Env → World → Prop) :
    exT P ops dp w0 (f + 1) (.seq (.exit k) t) ρ w K = optK (ops[k]?) fun o => stepT (pureOp o.op) dp P w0 w ρ o.op o.type (needOp o.op) fun v w' => exT P ops dp w0 f t (updo ρ o.dst v) w' K := rfl
theorem exT_two (P : Program) (ops : List Oper) (dp : Bool) (w0 : World) (f k l : Nat) (c : Operand) (s t : Code) (ρ : Env) (w : World) (K : Env → World → Prop) :
    exT P ops dp w0 (f + 1) (.cond c (.seq (.exit k) s) (.seq (.exit l) t)) ρ w K =
      ((optK (ops[k]?) fun o => stepT (pureOp o.op) dp P w0 w ρ o.op o.type (needOp o.op) fun v w' => exT P ops dp w0 f s (updo ρ o.dst v) w' K) ∧
      (optK (ops[l]?) fun o => stepT (pureOp o.op) dp P w0 w ρ o.op o.type (needOp o.op) fun v w' => exT P ops dp w0 f t (updo ρ o.dst v) w' K)) := rfl
theorem stepT_true (dp : Bool) (P : Program) (w0 w : World) (ρ : Env) (op : Op) (ty : TypeId) (need : Bool) (K : Value → World → Prop) : stepT true dp P w0 w ρ op ty need K = fx P w0 ρ op ty fun v _ => K v w := rfl
theorem stepT_false (dp : Bool) (P : Program) (w0 w : World) (ρ : Env) (op : Op) (ty : TypeId) (need : Bool) (K : Value → World → Prop) : stepT false dp P w0 w ρ op ty need K = fx P w ρ op ty fun v w' => (dp = true → need = true → Ext w0 w') ∧ K v w' := rfl
end Fw
end Go.Proofs.Qxb6001346a
