/-
  Regions that draw their order: the reads and reckonings are taken first, whatever order the tape gives.
-/
import Derived.Test.Qxb6001426aEx
namespace Go.Proofs.Qxb6001426a
namespace Fw
open Go.RowKit
set_option linter.unusedSimpArgs false
set_option linter.unusedVariables false

def pureOp : Op → Bool
  | .move _ | .assign _ | .pick _ _ _ | .nilCheck _ | .load _ _ | .fieldAddr _ _ _ | .indexAddr _ _ _ | .binOp _ _ _ _ _ | .unOp _ _ _ | .convert _ _ _ | .slice _ _ _ _ _ | .extract _ _ | .lookup _ _ _ _ | .build _ _ => true
  | .call ⟨.builtin .len, _, _⟩ => true
  | _ => false
/-- Behind such an operation the old blocks are as they were. -/
def needOp : Op → Bool
  | .store _ _ _ | .mapUpdate _ _ _ _ => false
  | .call ⟨.builtin .append, _, _⟩ => false
  | _ => true

/-- Operation j waits for operation i (by edges, any number of them). -/
def wt (ops : Array Oper) : Nat → Nat → Nat → Bool
  | 0, _, _ => false
  | n + 1, j, i => match ops[j]? with
    | none => false
    | some o => o.after.any fun e => Region.binds .any e && (e.on == i || wt ops n e.on i)

def Closed (ops : Array Oper) (listed : Array Bool) : Prop :=
  ∀ j o, ops[j]? = some o → listed.getD j false = true → ∀ e ∈ o.after, Region.binds .any e = true → listed.getD e.on false = true

section
variable {P : Program} {ops : Array Oper} {Q : Exit → Act → World → Prop} {S : World → Prop} {pf fin : Nat → Bool}

theorem closed_wt {listed : Array Bool} (hc : Closed ops listed) : ∀ (n j i : Nat), listed.getD j false = true → wt ops n j i = true → listed.getD i false = true
  | 0, _, _, _, h => by cases h
  | n + 1, j, i, hl, h => by
    unfold wt at h
    split at h
    · cases h
    · rename_i o ho
      obtain ⟨e, hm, hb⟩ := Array.any_eq_true'.1 h
      simp only [Bool.and_eq_true, Bool.or_eq_true, beq_iff_eq] at hb
      have h1 := hc j o ho hl e hm hb.1
      rcases hb.2 with h2 | h2
      · rw [← h2]; exact h1
      · exact closed_wt hc n _ _ h1 h2

theorem ready_wt {listed : Array Bool} (hc : Closed ops listed) {n j i : Nat} (hj : j ∈ Region.ready .any ops listed) (h : wt ops n j i = true) : listed.getD i false = true := by
  cases n with
  | zero => cases h
  | succ n =>
    obtain ⟨_, o, ho, hall⟩ := mem_ready.1 hj
    unfold wt at h
    simp only [ho] at h
    obtain ⟨e, hm, hb⟩ := Array.any_eq_true'.1 h
    simp only [Bool.and_eq_true, Bool.or_eq_true, beq_iff_eq] at hb
    have h1 := hall e hm hb.1
    rcases hb.2 with h2 | h2
    · rw [← h2]; exact h1
    · exact closed_wt hc n _ _ h1 h2

theorem closed_set {listed : Array Bool} (hc : Closed ops listed) {j : Nat} (hj : j ∈ Region.ready .any ops listed) : Closed ops (listed.setIfInBounds j true) := by
  intro k o ho hl e hm hb
  by_cases hjk : j = k
  · subst hjk
    obtain ⟨_, o', ho', hall⟩ := mem_ready.1 hj
    rw [ho] at ho'
    cases ho'
    exact getD_set_true (hall e hm hb)
  · rw [getD_set_ne false hjk] at hl
    exact getD_set_true (hc k o ho hl e hm hb)

theorem unlisted {listed : Array Bool} {i : Nat} (hi : i ∈ Region.ready .any ops listed) : listed.getD i false = false := by
  have h0 := (mem_ready.1 hi).1
  rcases Nat.lt_or_ge i listed.size with h' | h'
  · simp [h'] at h0 ⊢; exact h0
  · simp [Array.getElem?_eq_none h']

/-- Whatever order is picked from here on: a pure operation leaves the world, an operation that is not final leaves S. -/
def wA (P : Program) (ops : Array Oper) (Q : Exit → Act → World → Prop) (S : World → Prop) (pf fin : Nat → Bool) : Nat → Array Bool → Act → World → Prop
  | 0, listed, a, w => Region.ready .any ops listed = [] ∧ Q .normal a w
  | fuel + 1, listed, a, w => (Region.ready .any ops listed = [] → Q .normal a w) ∧
      ∀ i ∈ Region.ready .any ops listed, wpOp P ops Q i (fun a' w' => ((pf i = true → w' = w) ∧ (pf i = false → fin i = false → S w')) ∧ wA P ops Q S pf fin fuel (listed.setIfInBounds i true) a' w') a w

theorem wpAny_of_wA : ∀ (fuel : Nat) (listed : Array Bool) (a : Act) (w : World), wA P ops Q S pf fin fuel listed a w → wpAny P .any ops Q fuel listed a w
  | 0, _, _, _, h => h
  | fuel + 1, _, _, _, h => ⟨h.1, fun i hi => wpOp_mono (fun a' w' h' => wpAny_of_wA fuel _ a' w' h'.2) (h.2 i hi)⟩

theorem wA_first {i : Nat} {oi : Oper} {v : Value} (dep : Bool) (hi : ops[i]? = some oi) (hpi : pf i = true) (hsel : ∀ (j : Nat) (o : Oper) cs b, ops[j]? = some o → o.op ≠ .select cs b)
    (hQ : ∀ c a w, Q (.panic c) (a.put oi.dst v) w → Q (.panic c) a w)
    (hfin : dep = true → ∀ j, pf j = false → fin j = true → ∃ n, wt ops n j i = true) :
    ∀ (fuel : Nat) (listed : Array Bool) (a : Act) (w : World), Closed ops listed →
      (∀ j oj, ops[j]? = some oj → j ≠ i → listed.getD j true = false → (∀ e ∈ oj.after, Region.binds .any e = true → e.on ≠ i) → oi.apart ops oj = true) →
      i ∈ Region.ready .any ops listed → YieldsIf P ops (fun w => dep = true → S w) oi v a → (dep = true → S w) →
      wA P ops Q S pf fin fuel (listed.setIfInBounds i true) (a.put oi.dst v) w → wA P ops Q S pf fin (fuel + 1) listed a w := by
  have self : ∀ (fuel : Nat) (listed : Array Bool) (a : Act) (w : World), YieldsIf P ops (fun w => dep = true → S w) oi v a → (dep = true → S w) →
      wA P ops Q S pf fin fuel (listed.setIfInBounds i true) (a.put oi.dst v) w →
      wpOp P ops Q i (fun a' w' => ((pf i = true → w' = w) ∧ (pf i = false → fin i = false → S w')) ∧ wA P ops Q S pf fin fuel (listed.setIfInBounds i true) a' w') a w :=
    fun fuel listed a w hy hS H => hy.wpOp hi hS ⟨⟨fun _ => rfl, fun h => by rw [hpi] at h; cases h⟩, H⟩
  intro fuel
  induction fuel with
  | zero =>
    intro listed a w _ _ hr hy hS H
    refine ⟨fun h => (by rw [h] at hr; cases hr), fun j hj => ?_⟩
    by_cases hji : j = i
    · subst hji; exact self _ _ _ _ hy hS H
    · have := ready_mono hj hji
      rw [H.1] at this
      cases this
  | succ fuel ih =>
    intro listed a w hc hfree hr hy hS H
    refine ⟨fun h => (by rw [h] at hr; cases hr), fun j hj => ?_⟩
    by_cases hji : j = i
    · subst hji; exact self _ _ _ _ hy hS H
    · have h1 := H.2 j (ready_mono hj hji)
      obtain ⟨hjun, oj, hoj, hall⟩ := mem_ready.1 hj
      have hnot : ∀ e ∈ oj.after, Region.binds .any e = true → e.on ≠ i := fun e he hb heq => by
        have h1 := hall e he hb
        rw [heq, unlisted hr] at h1
        cases h1
      have h2 := wpOp_putIf hoj (hfree j oj hoj hji hjun hnot) (fun cs b => hsel i oi cs b hi) (fun cs b => hsel j oj cs b hoj) hQ hy h1
      have hfree' : ∀ k ok, ops[k]? = some ok → k ≠ i → (listed.setIfInBounds j true).getD k true = false →
          (∀ e ∈ ok.after, Region.binds .any e = true → e.on ≠ i) → oi.apart ops ok = true := fun k ok hk hki hun hno => by
        refine hfree k ok hk hki ?_ hno
        by_cases hjk : j = k
        · subst hjk; exact hjun
        · rw [getD_set_ne true hjk] at hun; exact hun
      refine wpOp_mono (fun a' w' h3 => ?_) h2
      obtain ⟨hy', hp, H'⟩ := h3
      have hS' : dep = true → S w' := by
        intro hd
        cases hpj : pf j with
        | true => rw [hp.1 hpj]; exact hS hd
        | false =>
          cases hfj : fin j with
          | false => exact hp.2 hpj hfj
          | true =>
            obtain ⟨n, hn⟩ := hfin hd j hpj hfj
            have := ready_wt hc hj hn
            rw [unlisted hr] at this
            cases this
      refine ⟨hp, ih (listed.setIfInBounds j true) a' w' (closed_set hc hj) hfree' (ready_mono hr (Ne.symm hji)) hy' hS' ?_⟩
      rw [Array.setIfInBounds_comm _ _ hji]
      exact H'

end

/-! ### the walk of a drawn region -/

def stepD (b : Bool) (P : Program) (w0 w : World) (ρ : Env) (op : Op) (ty : TypeId) (need : Bool) (K : Value → World → Prop) : Prop :=
  match b with
  | true => fx P w0 ρ op ty fun v _ => K v w
  | false => fx P w ρ op ty fun v w' => (need = true → Ext w0 w') ∧ K v w'

def exD (P : Program) (ops : List Oper) (w0 : World) : List Oper → Env → World → (Env → World → Prop) → Prop
  | [], ρ, w, K => K ρ w
  | o :: l, ρ, w, K => match o.guard with
    | none => stepD (pureOp o.op) P w0 w ρ o.op o.type (needOp o.op) fun v w' => exD P ops w0 l (updo ρ o.dst v) w' K
    | some (g, want) => gdK (gval ops ρ g) want (stepD (pureOp o.op) P w0 w ρ o.op o.type (needOp o.op) fun v w' => exD P ops w0 l (updo ρ o.dst v) w' K) (exD P ops w0 l (updo ρ o.dst undef) w K)

def pfOf (ops : Array Oper) (i : Nat) : Bool := match ops[i]? with | some o => pureOp o.op | none => true
def finOf (ops : Array Oper) (i : Nat) : Bool := match ops[i]? with | some o => !needOp o.op | none => false

/-- The check of a region's plan, in the order of the text; st: the old blocks are still as they were. -/
def lexD (ops : Array Oper) : List Oper → Nat → Array Bool → Bool → Bool
  | [], _, listed, _ => (Region.ready .any ops listed).isEmpty
  | o :: l, k, listed, st =>
    match pureOp o.op with
    | true => (Region.ready .any ops listed).contains k && Region.free .any ops listed k && (!depOp o.op || (st && (List.range ops.size).all fun j => pfOf ops j || !finOf ops j || wt ops ops.size j k)) &&
        lexD ops l (k + 1) (listed.setIfInBounds k true) st
    | false => Region.ready .any ops listed == [k] && (!needOp o.op || st) && lexD ops l (k + 1) (listed.setIfInBounds k true) (st && needOp o.op)

def goodD (n : Nat) (ops : List Oper) : Bool := Region.noSelect ops.toArray && ops.all (fun o => o.dst.all (· < n)) && lexD ops.toArray ops 0 (Array.replicate ops.length false) true

theorem fx_pure {P : Program} {w : World} {ρ : Env} {op : Op} {ty : TypeId} {k : Value → World → Prop} (hp : pureOp op = true) (h : fx P w ρ op ty k) : px P w ρ op fun v => k v w := by
  unfold fx at h
  split at h
  all_goals first
    | exact h
    | (simp [pureOp] at hp; done)

theorem exD_sound {P : Program} {n : Nat} {opsL : List Oper} {Q : Exit → Act → World → Prop} {K : Env → World → Prop} {w0 : World}
    (hK : ∀ ρ w a, Sim n a ρ → K ρ w → Q .normal a w) (hQ : ∀ c a w, ¬ Q (.panic c) a w) (hs : Region.noSelect opsL.toArray = true) :
    ∀ (l : List Oper) (k : Nat) (listed : Array Bool) (st : Bool) (ρ : Env) (w : World) (a : Act), (∀ j, l[j]? = opsL[k + j]?) → lexD opsL.toArray l k listed st = true → Closed opsL.toArray listed →
      (st = true → Ext w0 w) → l.all (fun o => o.dst.all (· < n)) = true → Sim n a ρ → exD P opsL w0 l ρ w K →
      wA P opsL.toArray Q (Ext w0) (pfOf opsL.toArray) (finOf opsL.toArray) l.length listed a w
  | [], k, listed, st, ρ, w, a, _, hB, _, _, _, hsim, h => ⟨by simpa [lexD] using hB, hK _ _ _ hsim h⟩
  | o :: l, k, listed, st, ρ, w, a, hl, hB, hc, hE, hd, hsim, h => by
    have h0 : opsL.toArray[k]? = some o := by simpa using (hl 0).symm
    have hl' : ∀ j, l[j]? = opsL[k + 1 + j]? := fun j => by have := hl (j + 1); simpa [Nat.add_assoc, Nat.add_comm 1 j] using this
    simp only [List.all_cons, Bool.and_eq_true] at hd
    have hpf : pfOf opsL.toArray k = pureOp o.op := by simp only [pfOf, h0]
    have hfin : finOf opsL.toArray k = !needOp o.op := by simp only [finOf, h0]
    have next : ∀ st' v w', lexD opsL.toArray l (k + 1) (listed.setIfInBounds k true) st' = true → (st' = true → Ext w0 w') → k ∈ Region.ready .any opsL.toArray listed → exD P opsL w0 l (updo ρ o.dst v) w' K →
        wA P opsL.toArray Q (Ext w0) (pfOf opsL.toArray) (finOf opsL.toArray) l.length (listed.setIfInBounds k true) (a.put o.dst v) w' := fun st' v w' hB2 hE' hr hx =>
      exD_sound hK hQ hs l (k + 1) _ st' _ _ _ hl' hB2 (closed_set hc hr) hE' hd.2 (hsim.put o.dst v hd.1) hx
    -- what the walk says of this operation: it is carried out, or passed over
    have key : (Region.wanted o (yielded opsL.toArray a.tmps) = true ∧ stepD (pureOp o.op) P w0 w ρ o.op o.type (needOp o.op) fun v w' => exD P opsL w0 l (updo ρ o.dst v) w' K) ∨
        (Region.wanted o (yielded opsL.toArray a.tmps) = false ∧ exD P opsL w0 l (updo ρ o.dst undef) w K) := by
      unfold exD at h
      split at h
      · rename_i hg
        exact .inl ⟨wanted_none hg, h⟩
      · rename_i g want hg
        have hw : Region.wanted o (yielded opsL.toArray a.tmps) = ((match gval opsL ρ g with | .bool b => some b | _ => none) == some want) := by
          simp only [Region.wanted, hg, yielded_gval hsim]
          rfl
        rw [hw]
        cases hv : gval opsL ρ g with
        | bool b =>
          rw [hv, gdK_bool] at h
          by_cases hb : b = want
          · exact .inl ⟨by simp [hb], h.1 hb⟩
          · exact .inr ⟨by simp [hb], h.2 hb⟩
        | _ =>
          rw [hv] at h
          simp only [gdK] at h
          exact .inr ⟨by simp, h⟩
    cases hp : pureOp o.op with
    | true =>
      rw [hp] at key hpf
      simp only [lexD, hp, Bool.and_eq_true, Bool.or_eq_true, Bool.not_eq_true', List.contains_iff_mem] at hB
      obtain ⟨⟨⟨hr, hf⟩, hdep⟩, hB2⟩ := hB
      have take : ∀ v, YieldsIf P opsL.toArray (fun w => depOp o.op = true → Ext w0 w) o v a → exD P opsL w0 l (updo ρ o.dst v) w K →
          wA P opsL.toArray Q (Ext w0) (pfOf opsL.toArray) (finOf opsL.toArray) (o :: l).length listed a w := fun v hy hx => by
        refine wA_first (depOp o.op) h0 hpf (Region.noSelect_spec hs) (fun c a w h => absurd h (hQ c _ w)) ?_ l.length listed a w hc (Region.free_spec h0 hf) hr hy ?_ (next st v w hB2 hE hr hx)
        · intro hd j hj1 hj2
          rw [hd] at hdep
          simp only [Bool.true_eq_false, false_or, List.all_eq_true, List.mem_range, Bool.or_eq_true, Bool.not_eq_true'] at hdep
          have hjlt : j < opsL.toArray.size := by
            rcases Nat.lt_or_ge j opsL.toArray.size with h' | h'
            · exact h'
            · simp [pfOf, Array.getElem?_eq_none h'] at hj1
          rcases hdep.2 j hjlt with (h1 | h1) | h1
          · rw [hj1] at h1; cases h1
          · rw [hj2] at h1; cases h1
          · exact ⟨_, h1⟩
        · intro hd
          rw [hd] at hdep
          simp only [Bool.true_eq_false, false_or] at hdep
          exact hE hdep.1
      rcases key with ⟨hw, hst⟩ | ⟨hw, hx⟩
      · have hst' : fx P w0 ρ o.op o.type (fun v _ => exD P opsL w0 l (updo ρ o.dst v) w K) := hst
        obtain ⟨v, hv, hy⟩ := px_sound (o := o) (fx_pure hp hst')
        refine take v (.inl ⟨hw, fun w1 hw1 => ?_⟩) hv
        rw [hsim.eval]
        exact hy w1 hw1
      · exact take undef (.inr ⟨hw, rfl⟩) hx
    | false =>
      rw [hp] at key hpf
      simp only [lexD, hp, Bool.and_eq_true, Bool.or_eq_true, Bool.not_eq_true', beq_iff_eq] at hB
      obtain ⟨⟨hB1, hns⟩, hB2⟩ := hB
      have hr : k ∈ Region.ready .any opsL.toArray listed := by rw [hB1]; simp
      show wA P opsL.toArray Q (Ext w0) (pfOf opsL.toArray) (finOf opsL.toArray) (l.length + 1) listed a w
      refine ⟨fun he => (by rw [hB1] at he; cases he), fun i hi => ?_⟩
      rw [hB1] at hi
      obtain rfl : i = k := by simpa using hi
      unfold wpOp
      simp only [h0]
      rcases key with ⟨hw, hst⟩ | ⟨hw, hx⟩
      · rw [if_pos hw]
        have hst' : fx P w ρ o.op o.type (fun v w' => (needOp o.op = true → Ext w0 w') ∧ exD P opsL w0 l (updo ρ o.dst v) w' K) := hst
        refine .inl (fx_sound hsim.eval hst' fun v w' hv => ⟨⟨fun h => absurd (hpf.symm.trans h) (by simp), fun _ h => ?_⟩, next _ v w' hB2 ?_ hr hv.2⟩)
        · rw [hfin] at h
          exact hv.1 (by simpa using h)
        · intro hst2
          simp only [Bool.and_eq_true] at hst2
          exact hv.1 hst2.2
      · rw [if_neg (by simp [hw])]
        refine ⟨⟨fun h => absurd (hpf.symm.trans h) (by simp), fun _ h => ?_⟩, next _ undef w hB2 ?_ hr hx⟩
        · rw [hfin] at h
          have hn : needOp o.op = true := by simpa using h
          rcases hns with h1 | h1
          · rw [hn] at h1; cases h1
          · exact hE h1
        · intro hst2
          simp only [Bool.and_eq_true] at hst2
          exact hE hst2.1

theorem cwp_draw {P : Program} {n : Nat} {Q : Exit → Env → World → Prop} {ρ : Env} {w : World} {id : Nat} {ops : List Oper} (hm : P.follows .mixedOrders = true) (hg : goodD n ops = true) (hQ : ∀ c ρ w, ¬ Q (.panic c) ρ w)
    (h : exD P ops w ops ρ w.drew fun ρ' w' => Q .normal ρ' w') : cwp P n (.region id ops.toArray true) Q ρ w := by
  intro a ha
  simp only [goodD, Bool.and_eq_true] at hg
  have hcl : Closed ops.toArray (Array.replicate ops.length false) := by
    intro j o ho hl
    simp [Array.getElem?_replicate] at hl
    split at hl <;> simp at hl
  have := exD_sound (w0 := w) (Q := fun e a' w' => ∃ ρ', Sim n a' ρ' ∧ Q e ρ' w') (fun ρ' w' a' hs hk => ⟨ρ', hs, hk⟩) (fun c a w ⟨ρ', _, hh⟩ => hQ c ρ' w hh) hg.1.1 ops 0 (Array.replicate ops.length false) true ρ w.drew a (by simp) hg.2 hcl (fun _ b _ => rfl) hg.1.2 ha h
  exact wp_region_any hm (by simpa using wpAny_of_wA _ _ _ _ this)

theorem cwp_sd {P : Program} {n : Nat} {Q : Exit → Env → World → Prop} {ρ : Env} {w : World} {id : Nat} {ops : List Oper} {y : Code} (hm : P.follows .mixedOrders = true) (hg : goodD n ops = true) (hQ : ∀ c ρ w, ¬ Q (.panic c) ρ w)
    (h : ∀ K : Env → World → Prop, (∀ ρ w, cwp P n y Q ρ w → K ρ w) → exD P ops w ops ρ w.drew K) : cwp P n (.seq (.region id ops.toArray true) y) Q ρ w :=
  cwp_seq fun K hK => cwp_draw hm hg (fun c ρ w h => hQ c ρ w h) (h K hK)

theorem exD_nil (P : Program) (ops : List Oper) (w0 : World) (ρ : Env) (w : World) (K : Env → World → Prop) : exD P ops w0 [] ρ w K = K ρ w := rfl
theorem exD_plain (P : Program) (ops l : List Oper) (w0 : World) (d : Option Nat) (op : Op) (ty : TypeId) (pos : String) (af : Array Edge) (ρ : Env) (w : World) (K : Env → World → Prop) :
    exD P ops w0 (⟨d, op, ty, pos, af, none⟩ :: l) ρ w K = stepD (pureOp op) P w0 w ρ op ty (needOp op) fun v w' => exD P ops w0 l (updo ρ d v) w' K := rfl
theorem exD_guard (P : Program) (ops l : List Oper) (w0 : World) (d : Option Nat) (op : Op) (ty : TypeId) (pos : String) (af : Array Edge) (g : Nat) (want : Bool) (ρ : Env) (w : World) (K : Env → World → Prop) :
    exD P ops w0 (⟨d, op, ty, pos, af, some (g, want)⟩ :: l) ρ w K = gdK (gval ops ρ g) want (stepD (pureOp op) P w0 w ρ op ty (needOp op) fun v w' => exD P ops w0 l (updo ρ d v) w' K) (exD P ops w0 l (updo ρ d undef) w K) := rfl
theorem stepD_true (P : Program) (w0 w : World) (ρ : Env) (op : Op) (ty : TypeId) (need : Bool) (K : Value → World → Prop) : stepD true P w0 w ρ op ty need K = fx P w0 ρ op ty fun v _ => K v w := rfl
theorem stepD_false (P : Program) (w0 w : World) (ρ : Env) (op : Op) (ty : TypeId) (need : Bool) (K : Value → World → Prop) : stepD false P w0 w ρ op ty need K = fx P w ρ op ty fun v w' => (need = true → Ext w0 w') ∧ K v w' := rfl
end Fw
end Go.Proofs.Qxb6001426a
