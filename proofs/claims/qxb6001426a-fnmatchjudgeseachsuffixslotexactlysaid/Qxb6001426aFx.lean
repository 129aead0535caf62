/-
  Operations that write or make memory; a region as a chain; the rules for code.
-/
import Derived.Test.Qxb6001426aFw
namespace Go.Proofs.Qxb6001426a
namespace Fw
open Go.RowKit
set_option linter.unusedSimpArgs false
set_option linter.unusedVariables false

def szOf (P : Program) (t : TypeId) : Option Nat := (P.info? t).map (·.size)
def rowAt (w : World) (b : Nat) : Option (Array Value) :=
  match w.heap[b]? with
  | some (.cells arr _ (0, 0)) => some arr
  | _ => none

/-- The cells of a row with some overwritten from a place on. -/
def ow (arr : Array Value) (o : Nat) (vs : List Value) : Array Value := (arr.toList.take o ++ vs ++ arr.toList.drop (o + vs.length)).toArray

def stK (P : Program) (w : World) (t : TypeId) (b o : Nat) (v : Value) (k : World → Prop) : Prop :=
  optK (szOf P t) fun n => optK (rowAt w b) fun arr => v.cells.size = n ∧ v.cells.toList.all (·.oneCell') = true ∧ o + n ≤ arr.size ∧ k (w.setRow b (ow arr o v.cells.toList))

/-- A slice type's element type, its zero value and its bytes. -/
def slcZ (P : Program) (t : TypeId) : Option (TypeId × Value × Nat × Nat) :=
  match P.underlying t with
  | some (.slice e) => match P.info? e with
    | some i => match i.zero with
      | some z => some (e, z, i.bytes, i.size)
      | none => none
    | none => none
  | _ => none

def pushMap (w : World) (r : Nat) (key v : Value) : World :=
  match w.heap[r]? with
  | some (.map es clk) => { w with heap := w.heap.setIfInBounds r (.map (es.push { key := key, val := v, born := clk }) (clk + 1)) }
  | _ => w

def bslK (P : Program) (T n : Nat) (ps : Array (Nat × Value)) (k : Array Value → TypeId → Prop) : Prop :=
  ∃ cs e, (∀ w, (Instr.buildSlice T n ps).run P w = .ok (.slice (some ⟨w.heap.size, 0, none⟩) n n) (w.alloc (.cells cs e))) ∧ k cs e

def entersB (P : Program) (f : FuncId) : Bool :=
  match P.funcs[f]? with
  | some fn => !(fn.name == "runtime.NumGoroutine") && fn.body.isSome
  | none => false

def apK (P : Program) (w : World) (ts : Array TypeId) (ty : TypeId) (as : Array Value) (k : Value → World → Prop) : Prop :=
  ∃ v w', (Builtin.append_ ts ty as).run P w = .ok v w' ∧ k v w'

def retK (k : Value → World → Prop) : Ending → World → Prop
  | .returned v, w => k v w
  | _, _ => False

def fx (P : Program) (w : World) (ρ : Env) (op : Op) (ty : TypeId) (k : Value → World → Prop) : Prop :=
  match op with
  | .store t a x => ptrK (ev ρ a) fun b o => stK P w t b o (ev ρ x) fun w' => k undef w'
  | .alloc t => optK (zeroOf P t) fun z => k (.pointer (some ⟨w.heap.size, 0, none⟩)) (w.alloc (.cells z.cells t))
  | .box t x => k (.pointer (some ⟨w.heap.size, 0, none⟩)) (w.alloc (.cells (ev ρ x).cells t))
  | .makeMap t none => k (.map (some w.heap.size)) (w.alloc (.map #[] 0))
  | .makeSlice t l c => intK (ev ρ l) fun _ l => intK (ev ρ c) fun _ c => optK (slcZ P t) fun q =>
      0 ≤ l ∧ l ≤ c ∧ (q.2.2.1 : Int) * c ≤ 281474976710656 ∧ c ≤ 9223372036854775807 ∧
        k (.slice (some ⟨w.heap.size, 0, none⟩) l.toNat c.toNat) (w.alloc (.cells (madeCells q.2.1.cells (c.toNat * q.2.2.2)) q.1))
  | .buildSlice t n ps => bslK P t n (ps.map fun (i, x) => (i, ev ρ x)) fun cs e => k (.slice (some ⟨w.heap.size, 0, none⟩) n n) (w.alloc (.cells cs e))
  | .mapUpdate t m key x => mapK (ev ρ m) fun r => strK (ev ρ key) fun s => optK (mapZ P t) fun _ => optK (mapAt w r) fun l =>
      findS l s = some none ∧ k undef (pushMap w r (.string s) (ev ρ x))
  | .call ⟨.builtin .append, as, ts⟩ => apK P w ts ty (as.map (ev ρ)) k
  | .call ⟨.value (.func f), as, _⟩ => entersB P f = true ∧ Calls P f (as.map (ev ρ)) w (retK k)
  | op => px P w ρ op fun v => k v w

theorem stored {P : Program} {w : World} {t b o : Nat} {v : Value} {k : World → Prop} (h : stK P w t b o v k) :
    ∃ w', k w' ∧ (Instr.storeAt t (.pointer (some ⟨b, o, none⟩)) v).run P w = .ok () w' := by
  obtain ⟨n, hn, h⟩ := optK_inv h
  obtain ⟨arr, ha, h1, h2, h3, h⟩ := optK_inv h
  refine ⟨_, h, ?_⟩
  unfold szOf at hn
  cases hi : P.info? t with
  | none => simp [hi] at hn
  | some i =>
    simp only [hi, Option.map_some, Option.some.injEq] at hn
    unfold rowAt at ha
    split at ha
    · rename_i arr' e hb
      cases ha
      have := run_storeCells_at (P := P) b o e v.cells.toList 0 arr w hb (by simp [h1]; exact h3) (by rw [List.all_eq_true] at h2; exact h2)
      simp [Instr.storeAt, Instr.sureAddr, storeVar, sizeOf, run_inf hi, hn, h1, this, ow]
    · cases ha

theorem pushed {P : Program} {w : World} {t r : Nat} {s : ByteArray} {v z : Value} {l : List (Value × Value)} (hz : mapZ P t = some z) (hl : mapAt w r = some l) (hf : findS l s = some none) :
    (Instr.mapUpdate t (.map (some r)) (.string s) v).run P w = .ok () (pushMap w r (.string s) v) := by
  unfold mapZ at hz
  split at hz
  · rename_i kt et hT
    split at hz
    · rename_i hk
      unfold mapAt at hl
      split at hl
      · rename_i es clk hh
        cases hl
        obtain ⟨q, h1, h2⟩ := find_sound es.toList 0 none hf
        have hq : q = none := by cases q <;> simp at h2 ⊢
        subst hq
        have hgo : (getObj r).run P w = .ok (.map es clk) w := by simp only [getObj, Sem.run, hh]
        have hfk : (Instr.findKey kt (.string s) es.toList).run P w = .ok none w := by simp [Instr.findKey, run_und hk, h1]
        unfold Instr.mapUpdate
        simp only [Sem.run_bind, run_und hT, Result.andThen_ok, hgo, checkKey_string hk, hfk]
        simp only [setObj, Sem.run, hh, pushMap]
      · cases hl
    · cases hz
  · cases hz

theorem fx_sound {P : Program} {w : World} {ρ : Env} {o : Oper} {k : Value → World → Prop} {a : Act} {Q : Exit → Act → World → Prop} {next : Act → World → Prop}
    (he : a.eval = ev ρ) (h : fx P w ρ o.op o.type k) (hk : ∀ v w', k v w' → next (a.put o.dst v) w') : o.wp P a w next Q := by
  unfold Oper.wp
  rw [he]
  obtain ⟨dst, op, type, pos, after, guard⟩ := o
  simp only at h hk
  unfold fx at h
  split at h
  · obtain ⟨b, o, hx, h⟩ := ptrK_inv h
    obtain ⟨w', h1, h2⟩ := stored h
    simp only [execOp, hx, Sem.run_bind, h2, Result.andThen_ok, Sem.run_pure, Oper.upon]
    exact hk _ _ h1
  · rename_i t0
    obtain ⟨z, hz, h⟩ := optK_inv h
    have hzv : ∀ w, (zeroValue t0).run P w = .ok z w := by
      intro w
      unfold zeroOf at hz
      cases hi : P.info? t0 with
      | none => simp [hi] at hz
      | some i =>
        simp only [hi, Option.bind_some] at hz
        simp [zeroValue, run_inf hi, hz]
    simp only [execOp, Instr.alloc, Sem.run_bind, hzv, Result.andThen_ok, newVar, newRow, run_newObj, Sem.run_pure, Oper.upon]
    exact hk _ _ h
  · simp only [execOp, Instr.box, Sem.run_bind, Result.andThen_ok, newVar, newRow, run_newObj, Sem.run_pure, Oper.upon]
    exact hk _ _ h
  · simp only [execOp, Instr.makeMap, Option.map_none, Sem.run_bind, Result.andThen_ok, run_newObj, Sem.run_pure, Oper.upon]
    exact hk _ _ h
  · obtain ⟨q1, l, hl, h⟩ := intK_inv h
    obtain ⟨q2, c, hc, h⟩ := intK_inv h
    obtain ⟨q, hq, h0, h1, h2, h3, h⟩ := optK_inv h
    unfold slcZ at hq
    split at hq
    · rename_i e hu
      split at hq
      · rename_i i hi
        split at hq
        · rename_i z hz
          cases hq
          have := run_make (P := P) w _ e i z hu hi hz q1 q2 l c h0 h1 h2 h3
          simp only [execOp, hl, hc, Sem.run_bind, this, Result.andThen_ok, Sem.run_pure, Oper.upon]
          exact hk _ _ h
        · cases hq
      · cases hq
    · cases hq
  · obtain ⟨cs, e, hr, h⟩ := h
    simp only [execOp, Sem.run_bind, hr w, Result.andThen_ok, Sem.run_pure, Oper.upon]
    exact hk _ _ h
  · obtain ⟨r, hr, h⟩ := mapK_inv h
    obtain ⟨s, hs, h⟩ := strK_inv h
    obtain ⟨z, hz, h⟩ := optK_inv h
    obtain ⟨l, hl, hf, h⟩ := optK_inv h
    simp only [execOp, hr, hs, Sem.run_bind, pushed hz hl hf, Result.andThen_ok, Sem.run_pure, Oper.upon]
    exact hk _ _ h
  · obtain ⟨v, w', hr, h⟩ := h
    simp only [execOp, resolve, invoke, builtin, Sem.run_bind, Sem.run_pure, Result.andThen_ok, hr, Oper.upon]
    exact hk _ _ h
  · obtain ⟨hb, h⟩ := h
    rename_i f as ts
    have hc : ∀ args, (callFunc f args).run P w = .ok (.enter f args) w := by
      intro args
      unfold entersB at hb
      split at hb
      · rename_i fn hf
        simp only [Bool.and_eq_true, Bool.not_eq_true'] at hb
        obtain ⟨c, hc⟩ := Option.isSome_iff_exists.1 hb.2
        have h1 : fn.name ≠ "runtime.NumGoroutine" := by simpa using hb.1
        simp [callFunc, hf, h1, hc]
      · cases hb
    simp only [execOp, resolve, ev, Deferred.ofValue, Sem.run_bind, Sem.run_pure, Result.andThen_ok, invoke, hc]
    simp only [Oper.upon, Array.append_empty, Array.empty_append]
    refine h.mono fun e w' hh => ?_
    cases e with
    | returned v => exact hk _ _ hh
    | panicked c => exact hh.elim
    | outgrown => exact hh.elim
  · obtain ⟨v, h1, h2⟩ := px_sound (o := ⟨dst, op, type, pos, after, guard⟩) h
    rw [h2 w (fun _ => Ext.refl w)]
    exact hk _ _ h1

/-! ### a region in its text's order -/

def gval (ops : List Oper) (ρ : Env) (g : Nat) : Value := match (ops[g]?).bind (·.dst) with | some s => ρ s | none => undef
def gdK (v : Value) (want : Bool) (A B : Prop) : Prop := match v with | .bool b => (b = want → A) ∧ (b ≠ want → B) | _ => B

def exL (P : Program) (ops : List Oper) : List Oper → Env → World → (Env → World → Prop) → Prop
  | [], ρ, w, K => K ρ w
  | o :: l, ρ, w, K => match o.guard with
    | none => fx P w ρ o.op o.type fun v w' => exL P ops l (updo ρ o.dst v) w' K
    | some (g, want) => gdK (gval ops ρ g) want (fx P w ρ o.op o.type fun v w' => exL P ops l (updo ρ o.dst v) w' K) (exL P ops l (updo ρ o.dst undef) w K)

theorem exL_nil (P : Program) (ops : List Oper) (ρ : Env) (w : World) (K : Env → World → Prop) : exL P ops [] ρ w K = K ρ w := rfl
theorem exL_plain (P : Program) (ops l : List Oper) (d : Option Nat) (op : Op) (ty : TypeId) (pos : String) (af : Array Edge) (ρ : Env) (w : World) (K : Env → World → Prop) :
    exL P ops (⟨d, op, ty, pos, af, none⟩ :: l) ρ w K = fx P w ρ op ty fun v w' => exL P ops l (updo ρ d v) w' K := rfl
theorem exL_guard (P : Program) (ops l : List Oper) (d : Option Nat) (op : Op) (ty : TypeId) (pos : String) (af : Array Edge) (g : Nat) (want : Bool) (ρ : Env) (w : World) (K : Env → World → Prop) :
    exL P ops (⟨d, op, ty, pos, af, some (g, want)⟩ :: l) ρ w K = gdK (gval ops ρ g) want (fx P w ρ op ty fun v w' => exL P ops l (updo ρ d v) w' K) (exL P ops l (updo ρ d undef) w K) := rfl
theorem gdK_bool (b want : Bool) (A B : Prop) : gdK (.bool b) want A B = ((b = want → A) ∧ (b ≠ want → B)) := rfl
theorem gdK_undef (want : Bool) (A B : Prop) : gdK undef want A B = B := rfl
theorem gval_zero (l : List Oper) (ρ : Env) (d : Nat) (op : Op) (ty : TypeId) (pos : String) (af : Array Edge) (g : Option (Nat × Bool)) : gval (⟨some d, op, ty, pos, af, g⟩ :: l) ρ 0 = ρ d := rfl
theorem gval_succ (o : Oper) (l : List Oper) (ρ : Env) (n : Nat) : gval (o :: l) ρ (n + 1) = gval l ρ n := rfl

theorem wanted_none {o : Oper} {y : Nat → Option Bool} (h : o.guard = none) : Region.wanted o y = true := by simp [Region.wanted, h]

theorem yielded_gval {n : Nat} {a : Act} {ρ : Env} (hs : Sim n a ρ) (ops : List Oper) (g : Nat) :
    yielded ops.toArray a.tmps g = match gval ops ρ g with | .bool b => some b | _ => none := by
  unfold yielded gval
  simp only [List.getElem?_toArray]
  cases hd : (ops[g]?).bind (·.dst) with
  | none => simp [undef]
  | some s =>
    simp only [Option.bind_some]
    have := hs.2.2 s
    simp only [Array.getD_eq_getD_getElem?] at this
    rw [← this]
    cases a.tmps[s]? with
    | none => simp [undef]
    | some v => cases v <;> rfl

theorem exL_sound {P : Program} {n : Nat} {ops : List Oper} {Q : Exit → Act → World → Prop} {K : Env → World → Prop}
    (hK : ∀ ρ w a, Sim n a ρ → K ρ w → Q .normal a w) : ∀ (l : List Oper) (ρ : Env) (w : World) (a : Act), l.all (fun o => o.dst.all (· < n)) = true → Sim n a ρ → exL P ops l ρ w K →
      wpList P ops.toArray Q l a w
  | [], ρ, w, a, _, hs, h => hK ρ w a hs h
  | o :: l, ρ, w, a, hd, hs, h => by
    simp only [List.all_cons, Bool.and_eq_true] at hd
    have run : fx P w ρ o.op o.type (fun v w' => exL P ops l (updo ρ o.dst v) w' K) → o.wp P a w (wpList P ops.toArray Q l) Q := fun hf =>
      fx_sound hs.eval hf fun v w' hv => exL_sound hK l _ _ _ hd.2 (hs.put o.dst v hd.1) hv
    unfold wpList
    unfold exL at h
    split at h
    · rename_i hg
      rw [if_pos (wanted_none hg)]
      exact .inl (run h)
    · rename_i g want hg
      have hw : Region.wanted o (yielded ops.toArray a.tmps) = ((match gval ops ρ g with | .bool b => some b | _ => none) == some want) := by
        simp only [Region.wanted, hg, yielded_gval hs]
      rw [hw]
      cases hv : gval ops ρ g with
      | bool b =>
        rw [hv, gdK_bool] at h
        by_cases hb : b = want
        · rw [if_pos (by simp [hb])]
          exact .inl (run (h.1 hb))
        · rw [if_neg (by simp [hb])]
          exact exL_sound hK l _ _ _ hd.2 (hs.put o.dst undef hd.1) (h.2 hb)
      | _ =>
        rw [hv] at h
        simp only [gdK] at h
        rw [if_neg (by simp)]
        exact exL_sound hK l _ _ _ hd.2 (hs.put o.dst undef hd.1) h

/-! ### code -/

def cwp (P : Program) (n : Nat) (c : Code) (Q : Exit → Env → World → Prop) (ρ : Env) (w : World) : Prop :=
  ∀ a, Sim n a ρ → c.wp P (fun e a' w' => ∃ ρ', Sim n a' ρ' ∧ Q e ρ' w') a w

/-- What is asked at each way out, what follows behind 'normal' being K. -/
def thenQ (K : Env → World → Prop) (Q : Exit → Env → World → Prop) : Exit → Env → World → Prop
  | .normal, ρ, w => K ρ w
  | e, ρ, w => Q e ρ w
def blkQ (id : Nat) (Q : Exit → Env → World → Prop) : Exit → Env → World → Prop
  | .exit i, ρ, w => if i = id then Q .normal ρ w else Q (.exit i) ρ w
  | e, ρ, w => Q e ρ w

theorem thenQ_normal (K : Env → World → Prop) (Q : Exit → Env → World → Prop) (ρ : Env) (w : World) : thenQ K Q .normal ρ w = K ρ w := rfl
theorem thenQ_exit (K : Env → World → Prop) (Q : Exit → Env → World → Prop) (ρ : Env) (w : World) (i : Nat) : thenQ K Q (.exit i) ρ w = Q (.exit i) ρ w := rfl
theorem thenQ_ret (K : Env → World → Prop) (Q : Exit → Env → World → Prop) (ρ : Env) (w : World) : thenQ K Q .ret ρ w = Q .ret ρ w := rfl
theorem blkQ_normal (id : Nat) (Q : Exit → Env → World → Prop) (ρ : Env) (w : World) : blkQ id Q .normal ρ w = Q .normal ρ w := rfl
theorem blkQ_ret (id : Nat) (Q : Exit → Env → World → Prop) (ρ : Env) (w : World) : blkQ id Q .ret ρ w = Q .ret ρ w := rfl
theorem blkQ_exit (id i : Nat) (Q : Exit → Env → World → Prop) (ρ : Env) (w : World) : blkQ id Q (.exit i) ρ w = if i = id then Q .normal ρ w else Q (.exit i) ρ w := rfl

section
variable {P : Program} {n : Nat} {Q : Exit → Env → World → Prop} {ρ : Env} {w : World}

theorem cwp_mono {c : Code} {Q' : Exit → Env → World → Prop} (h : cwp P n c Q ρ w) (hq : ∀ e ρ w, Q e ρ w → Q' e ρ w) : cwp P n c Q' ρ w :=
  fun a ha => wp_mono (h a ha) fun e a' w' ⟨ρ', hs, hh⟩ => ⟨ρ', hs, hq _ _ _ hh⟩

theorem cwp_skip (h : Q .normal ρ w) : cwp P n .skip Q ρ w := fun a ha => wp_skip ⟨ρ, ha, h⟩
theorem cwp_ret (h : Q .ret ρ w) : cwp P n .ret Q ρ w := fun a ha => wp_ret ⟨ρ, ha, h⟩
theorem cwp_exit {id : Nat} (h : Q (.exit id) ρ w) : cwp P n (.exit id) Q ρ w := fun a ha => wp_exit ⟨ρ, ha, h⟩

theorem cwp_seq {x y : Code} (h : ∀ K : Env → World → Prop, (∀ ρ w, cwp P n y Q ρ w → K ρ w) → cwp P n x (thenQ K Q) ρ w) : cwp P n (.seq x y) Q ρ w := by
  intro a ha
  refine wp_seq (wp_mono (h _ (fun _ _ h => h) a ha) fun e a' w' ⟨ρ', hs, hh⟩ => ?_)
  cases e with
  | normal => exact hh a' hs
  | exit i => exact ⟨ρ', hs, hh⟩
  | goto i => exact ⟨ρ', hs, hh⟩
  | ret => exact ⟨ρ', hs, hh⟩
  | panic c => exact ⟨ρ', hs, hh⟩
  | outgrown => exact ⟨ρ', hs, hh⟩

theorem cwp_cond {c : Operand} {x y : Code} (h : boolK (ev ρ c) fun b => (b = true → cwp P n x Q ρ w) ∧ (b = false → cwp P n y Q ρ w)) : cwp P n (.cond c x y) Q ρ w := by
  intro a ha
  obtain ⟨b, hb, h1, h2⟩ := boolK_inv h
  exact wp_cond_split (t := b) (by rw [ha.eval]; exact hb) (fun h => h1 h a ha) (fun h => h2 h a ha)

theorem cwp_block {id : Nat} {c : Code} (h : cwp P n c (blkQ id Q) ρ w) : cwp P n (.block id c) Q ρ w := by
  intro a ha
  refine wp_block (wp_mono (h a ha) fun e a' w' ⟨ρ', hs, hh⟩ => ?_)
  cases e with
  | exit i =>
    simp only [blkQ_exit] at hh
    simp only [Exit.inBlock]
    split
    · rename_i hi; rw [if_pos hi] at hh; exact ⟨ρ', hs, hh⟩
    · rename_i hi; rw [if_neg hi] at hh; exact ⟨ρ', hs, hh⟩
  | normal => exact ⟨ρ', hs, hh⟩
  | goto i => exact ⟨ρ', hs, hh⟩
  | ret => exact ⟨ρ', hs, hh⟩
  | panic c => exact ⟨ρ', hs, hh⟩
  | outgrown => exact ⟨ρ', hs, hh⟩

theorem cwp_loop {α : Type} {c : Code} (I : α → Env → World → Prop) (μ : α → Nat) (x0 : α) (h0 : I x0 ρ w)
    (round : ∀ x ρ w, I x ρ w → ∀ K : Env → World → Prop, (∀ ρ' w' y, I y ρ' w' → μ y < μ x → K ρ' w') → cwp P n c (thenQ K Q) ρ w) : cwp P n (.loop c) Q ρ w := by
  intro a ha b k cs
  have key : ∀ m : Nat, ∀ x ρ a w, μ x = m → Sim n a ρ → I x ρ w →
      ∃ e a' w', (∃ ρ', Sim n a' ρ' ∧ Q e ρ' w') ∧ Arrives P (lone (b.at a (.code c :: .inLoop c :: k)) cs w) b k cs e a' w' := by
    intro m
    induction m using Nat.strongRecOn with
    | _ m ih =>
      intro x ρ a w hm hs hI
      have hr := round x ρ w hI (fun ρ' w' => ∃ y, I y ρ' w' ∧ μ y < μ x) (fun ρ' w' y h1 h2 => ⟨y, h1, h2⟩) a hs
      obtain ⟨e, a₁, w₁, ⟨ρ₁, hs₁, hq⟩, harr⟩ := hr b (.inLoop c :: k) cs
      cases e with
      | normal =>
        obtain ⟨y, hI₁, hlt⟩ := hq
        obtain ⟨e₂, a₂, w₂, hq₂, harr₂⟩ := ih (μ y) (hm ▸ hlt) y ρ₁ a₁ w₁ rfl hs₁ hI₁
        exact ⟨e₂, a₂, w₂, hq₂, .of_steps (Steps.trans harr (.one step_inLoop)) harr₂⟩
      | exit i => exact ⟨_, a₁, w₁, ⟨ρ₁, hs₁, hq⟩, .pass (x := .inLoop c) rfl (fun _ _ => .inl (by simp)) harr⟩
      | goto i => exact ⟨_, a₁, w₁, ⟨ρ₁, hs₁, hq⟩, .pass (x := .inLoop c) rfl (fun _ _ => .inl (by simp)) harr⟩
      | ret => exact ⟨_, a₁, w₁, ⟨ρ₁, hs₁, hq⟩, .pass (x := .inLoop c) rfl (fun _ _ => .inl (by simp)) harr⟩
      | panic ch => exact ⟨_, a₁, w₁, ⟨ρ₁, hs₁, hq⟩, .pass (x := .inLoop c) rfl (fun _ _ => .inl (by simp)) harr⟩
      | outgrown => exact ⟨_, a₁, w₁, ⟨ρ₁, hs₁, hq⟩, .pass (x := .inLoop c) rfl (fun _ _ => .inl (by simp)) harr⟩
  obtain ⟨e, a', w', hq, harr⟩ := key _ x0 ρ a w rfl ha h0
  exact ⟨e, a', w', hq, .of_steps (.one step_loop) harr⟩

theorem cwp_region {id : Nat} {ops : List Oper} (hd : ops.all (fun o => o.dst.all (· < n)) = true) (h : exL P ops ops ρ w fun ρ' w' => Q .normal ρ' w') : cwp P n (.region id ops.toArray false) Q ρ w :=
  fun a ha => wp_region_lit (exL_sound (Q := fun e a' w' => ∃ ρ', Sim n a' ρ' ∧ Q e ρ' w') (fun ρ' w' a' hs hk => ⟨ρ', hs, hk⟩) ops ρ w a hd ha h)

/-- The slots at a call's beginning. -/
def argE (args : Array Value) : Env := fun s => args.getD s undef

def endQ (fn : Func) (P : Program) (R : Value → World → Prop) : Exit → Env → World → Prop
  | .normal, ρ, w | .ret, ρ, w => ∃ v, (∀ tmps : Array Value, (∀ s, tmps.getD s undef = ρ s) → (results fn tmps).run P w = .ok v w) ∧ R v w
  | _, _, _ => False

theorem calls_of_cwp {f : FuncId} {fn : Func} {c : Code} {args : Array Value} {R : Ending → World → Prop} (hf : P.funcs[f]? = some fn) (hb : fn.body = some c) (hn : fn.ntmps = n) (ha : args.size ≤ n)
    (h : cwp P n c (endQ fn P fun v w' => R (.returned v) w') (argE args) w) : Calls P f args w R := by
  refine calls_of_wp hf hb (wp_mono (h _ ⟨?_, rfl, ?_⟩) ?_)
  · simp; omega
  · intro s
    simp only [argE, Array.getD_eq_getD_getElem?]
    by_cases hs : s < args.size
    · rw [Array.getElem?_append_left hs]
    · rw [Array.getElem?_append_right (by omega), Array.getElem?_eq_none (xs := args) (by omega)]
      simp [Array.getElem?_replicate]
      split <;> simp
  · rintro e a' w' ⟨ρ', hs, hq⟩
    cases e with
    | normal => obtain ⟨v, hv, hR⟩ := hq; exact ⟨hs.2.1, v, hv _ hs.2.2, hR⟩
    | ret => obtain ⟨v, hv, hR⟩ := hq; exact ⟨hs.2.1, v, hv _ hs.2.2, hR⟩
    | exit i => exact hq.elim
    | goto i => exact hq.elim
    | panic c => exact hq.elim
    | outgrown => exact hq.elim

theorem endQ_one {fn : Func} {R : Value → World → Prop} {t : Nat} (h : fn.results = #[.tmp t]) (hR : R (ρ t) w) : endQ fn P R .ret ρ w :=
  ⟨ρ t, fun tmps ht => by rw [results_tmp h, ht], hR⟩
theorem endQ_zero {fn : Func} {R : Value → World → Prop} (h : fn.results = #[]) (hR : R (.tuple #[]) w) : endQ fn P R .normal ρ w :=
  ⟨_, fun tmps ht => results_none h tmps P w, hR⟩
theorem endQ_zero' {fn : Func} {R : Value → World → Prop} (h : fn.results = #[]) (hR : R (.tuple #[]) w) : endQ fn P R .ret ρ w :=
  ⟨_, fun tmps ht => results_none h tmps P w, hR⟩

end
end Fw
end Go.Proofs.Qxb6001426a
