/-
  Regions that draw their order, by a row of one's own.
-/
import Derived.Test.Qxb6001346aDr
namespace Go.Proofs.Qxb6001346a
open Fw Go.RowKit
set_option linter.unusedSimpArgs false
set_option linter.unusedVariables false
namespace Fw

def lexP (ops : Array Oper) : List Nat → Array Bool → Bool → Bool
  | [], listed, _ => (Region.ready .any ops listed).isEmpty
  | k :: pl, listed, st => match ops[k]? with
    | none => false
    | some o => match pureOp o.op with
      | true => (Region.ready .any ops listed).contains k && Region.free .any ops listed k && (!depOp o.op || (st && (List.range ops.size).all fun j => pfOf ops j || !finOf ops j || wt ops ops.size j k)) &&
          lexP ops pl (listed.setIfInBounds k true) st
      | false => Region.ready .any ops listed == [k] && (!needOp o.op || st) && lexP ops pl (listed.setIfInBounds k true) (st && needOp o.op)
def goodP (n : Nat) (ops : List Oper) (pl : List Nat) : Bool := Region.noSelect ops.toArray && ops.all (fun o => o.dst.all (· < n)) && pl.length == ops.length && lexP ops.toArray pl (Array.replicate ops.length false) true
def planned (ops : List Oper) (pl : List Nat) : List Oper := pl.filterMap fun k => ops[k]?

theorem exP_sound {P : Program} {n : Nat} {opsL : List Oper} {Q : Exit → Act → World → Prop} {K : Env → World → Prop} {w0 : World}
    (hK : ∀ ρ w a, Sim n a ρ → K ρ w → Q .normal a w) (hQ : ∀ c a w, ¬ Q (.panic c) a w) (hs : Region.noSelect opsL.toArray = true) (hdall : opsL.all (fun o => o.dst.all (· < n)) = true) :
    ∀ (pl : List Nat) (listed : Array Bool) (st : Bool) (ρ : Env) (w : World) (a : Act), lexP opsL.toArray pl listed st = true → Closed opsL.toArray listed →
      (st = true → Ext w0 w) → Sim n a ρ → exD P opsL w0 (planned opsL pl) ρ w K →
      wA P opsL.toArray Q (Ext w0) (pfOf opsL.toArray) (finOf opsL.toArray) pl.length listed a w
  | [], listed, st, ρ, w, a, hB, _, _, hsim, h => ⟨by simpa [lexP] using hB, hK _ _ _ hsim h⟩
  | k :: pl, listed, st, ρ, w, a, hB, hc, hE, hsim, h => by
    have ho : ∃ o, opsL.toArray[k]? = some o := by
      cases h : opsL.toArray[k]? with
      | none => simp only [lexP, h] at hB; cases hB
      | some o => exact ⟨o, rfl⟩
    obtain ⟨o, h0⟩ := ho
    have h0' : opsL[k]? = some o := by simpa using h0
    have hd : o.dst.all (· < n) = true := List.all_eq_true.1 hdall o (List.mem_of_getElem? h0')
    rw [show planned opsL (k :: pl) = o :: planned opsL pl by simp [planned, h0']] at h
    have hpf : pfOf opsL.toArray k = pureOp o.op := by simp only [pfOf, h0]
    have hfin : finOf opsL.toArray k = !needOp o.op := by simp only [finOf, h0]
    have next : ∀ st' v w', lexP opsL.toArray pl (listed.setIfInBounds k true) st' = true → (st' = true → Ext w0 w') → k ∈ Region.ready .any opsL.toArray listed → exD P opsL w0 (planned opsL pl) (updo ρ o.dst v) w' K →
        wA P opsL.toArray Q (Ext w0) (pfOf opsL.toArray) (finOf opsL.toArray) pl.length (listed.setIfInBounds k true) (a.put o.dst v) w' := fun st' v w' hB2 hE' hr hx =>
      exP_sound hK hQ hs hdall pl _ st' _ _ _ hB2 (closed_set hc hr) hE' (hsim.put o.dst v hd) hx
    have key : (Region.wanted o (yielded opsL.toArray a.tmps) = true ∧ stepD (pureOp o.op) P w0 w ρ o.op o.type (needOp o.op) fun v w' => exD P opsL w0 (planned opsL pl) (updo ρ o.dst v) w' K) ∨
        (Region.wanted o (yielded opsL.toArray a.tmps) = false ∧ exD P opsL w0 (planned opsL pl) (updo ρ o.dst undef) w K) := by
      unfold exD at h
      split at h
      · rename_i hg
        exact .inl ⟨wanted_none hg, h⟩
      · rename_i g want hg
        have hw : Region.wanted o (yielded opsL.toArray a.tmps) = ((match gval opsL ρ g with | .bool b => some b | _ => none) == some want) := by
          simp only [Region.wanted, hg, yielded_gval hsim]
          rfl
        rw [hw]
        cases hv : gval opsL ρ g with
        | bool b =>
          rw [hv, gdK_bool] at h
          by_cases hb : b = want
          · exact .inl ⟨by simp [hb], h.1 hb⟩
          · exact .inr ⟨by simp [hb], h.2 hb⟩
        | _ =>
          rw [hv] at h
          simp only [gdK] at h
          exact .inr ⟨by simp, h⟩
    cases hp : pureOp o.op with
    | true =>
      rw [hp] at key hpf
      simp only [lexP, h0, hp, Bool.and_eq_true, Bool.or_eq_true, Bool.not_eq_true', List.contains_iff_mem] at hB
      obtain ⟨⟨⟨hr, hf⟩, hdep⟩, hB2⟩ := hB
      have take : ∀ v, YieldsIf P opsL.toArray (fun w => depOp o.op = true → Ext w0 w) o v a → exD P opsL w0 (planned opsL pl) (updo ρ o.dst v) w K →
          wA P opsL.toArray Q (Ext w0) (pfOf opsL.toArray) (finOf opsL.toArray) (k :: pl).length listed a w := fun v hy hx => by
        refine wA_first (depOp o.op) h0 hpf (Region.noSelect_spec hs) (fun c a w h => absurd h (hQ c _ w)) ?_ pl.length listed a w hc (Region.free_spec h0 hf) hr hy ?_ (next st v w hB2 hE hr hx)
        · intro hd j hj1 hj2
          rw [hd] at hdep
          simp only [Bool.true_eq_false, false_or, List.all_eq_true, List.mem_range, Bool.or_eq_true, Bool.not_eq_true'] at hdep
          have hjlt : j < opsL.toArray.size := by
            rcases Nat.lt_or_ge j opsL.toArray.size with h' | h'
            · exact h'
            · simp [pfOf, Array.getElem?_eq_none h'] at hj1
          rcases hdep.2 j hjlt with (h1 | h1) | h1
          · rw [hj1] at h1; cases h1
          · rw [hj2] at h1; cases h1
          · exact ⟨_, h1⟩
        · intro hd
          rw [hd] at hdep
          simp only [Bool.true_eq_false, false_or] at hdep
          exact hE hdep.1
      rcases key with ⟨hw, hst⟩ | ⟨hw, hx⟩
      · have hst' : fx P w0 ρ o.op o.type (fun v _ => exD P opsL w0 (planned opsL pl) (updo ρ o.dst v) w K) := hst
        obtain ⟨v, hv, hy⟩ := px_sound (o := o) (fx_pure hp hst')
        refine take v (.inl ⟨hw, fun w1 hw1 => ?_⟩) hv
        rw [hsim.eval]
        exact hy w1 hw1
      · exact take undef (.inr ⟨hw, rfl⟩) hx
    | false =>
      rw [hp] at key hpf
      simp only [lexP, h0, hp, Bool.and_eq_true, Bool.or_eq_true, Bool.not_eq_true', beq_iff_eq] at hB
      obtain ⟨⟨hB1, hns⟩, hB2⟩ := hB
      have hr : k ∈ Region.ready .any opsL.toArray listed := by rw [hB1]; simp
      show wA P opsL.toArray Q (Ext w0) (pfOf opsL.toArray) (finOf opsL.toArray) (pl.length + 1) listed a w
      refine ⟨fun he => (by rw [hB1] at he; cases he), fun i hi => ?_⟩
      rw [hB1] at hi
      obtain rfl : i = k := by simpa using hi
      unfold wpOp
      simp only [h0]
      rcases key with ⟨hw, hst⟩ | ⟨hw, hx⟩
      · rw [if_pos hw]
        have hst' : fx P w ρ o.op o.type (fun v w' => (needOp o.op = true → Ext w0 w') ∧ exD P opsL w0 (planned opsL pl) (updo ρ o.dst v) w' K) := hst
        refine .inl (fx_sound hsim.eval hst' fun v w' hv => ⟨⟨fun h => absurd (hpf.symm.trans h) (by simp), fun _ h => ?_⟩, next _ v w' hB2 ?_ hr hv.2⟩)
        · rw [hfin] at h
          exact hv.1 (by simpa using h)
        · intro hst2
          simp only [Bool.and_eq_true] at hst2
          exact hv.1 hst2.2
      · rw [if_neg (by simp [hw])]
        refine ⟨⟨fun h => absurd (hpf.symm.trans h) (by simp), fun _ h => ?_⟩, next _ undef w hB2 ?_ hr hx⟩
        · rw [hfin] at h
          have hn : needOp o.op = true := by simpa using h
          rcases hns with h1 | h1
          · rw [hn] at h1; cases h1
          · exact hE h1
        · intro hst2
          simp only [Bool.and_eq_true] at hst2
          exact hE hst2.1

theorem cwp_drawP {P : Program} {n : Nat} {Q : Exit → Env → World → Prop} {ρ : Env} {w : World} {id : Nat} {ops : List Oper} (pl : List Nat) (hm : P.follows .mixedOrders = true) (hg : goodP n ops pl = true) (hQ : ∀ c ρ w, ¬ Q (.panic c) ρ w)
    (h : exD P ops w (planned ops pl) ρ w.drew fun ρ' w' => Q .normal ρ' w') : cwp P n (.region id ops.toArray true) Q ρ w := by
  intro a ha
  simp only [goodP, Bool.and_eq_true, beq_iff_eq] at hg
  have hcl : Closed ops.toArray (Array.replicate ops.length false) := by
    intro j o ho hl
    simp [Array.getElem?_replicate] at hl
    split at hl <;> simp at hl
  have := exP_sound (w0 := w) (Q := fun e a' w' => ∃ ρ', Sim n a' ρ' ∧ Q e ρ' w') (fun ρ' w' a' hs hk => ⟨ρ', hs, hk⟩) (fun c a w ⟨ρ', _, hh⟩ => hQ c ρ' w hh) hg.1.1.1 hg.1.1.2 pl (Array.replicate ops.length false) true ρ w.drew a hg.2 hcl (fun _ b _ => rfl) ha h
  rw [hg.1.2] at this
  exact wp_region_any hm (by simpa using wpAny_of_wA _ _ _ _ this)
end Fw
end Go.Proofs.Qxb6001346a
