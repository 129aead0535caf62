/-
  The equations by which a region is run.
-/
import Derived.Test.Qxb6001426aFx
namespace Go.Proofs.Qxb6001426a
namespace Fw
open Go.RowKit
set_option linter.unusedSimpArgs false
set_option linter.unusedVariables false

def optE {α : Type} (x : Option α) (k : α → Prop) (e : Prop) : Prop := match x with | some v => k v | none => e
theorem optE_some {α : Type} (v : α) (k : α → Prop) (e : Prop) : optE (some v) k e = k v := rfl
theorem optE_none {α : Type} (k : α → Prop) (e : Prop) : optE none k e = e := rfl
def cvK (d s : Option TypeDesc) (n : Int) (k : Value → Prop) : Prop := match d with | some (.int q) => s ≠ none ∧ inR q n ∧ k (.int q n) | _ => False
theorem cvK_int (q : IntKind) (s : TypeDesc) (n : Int) (k : Value → Prop) : cvK (some (.int q)) (some s) n k = (inR q n ∧ k (.int q n)) := by simp [cvK]
def ldN (w : World) (b o : Nat) : Nat → (Value → Prop) → Prop
  | 0, k => optK (w.cell? ⟨b, o, none⟩) k
  | n + 1, k => rdK w b o (n + 1) 0 [] fun l => k (.agg l.toArray)
def sndK (q : Nat × Nat) (k : Nat → Nat → Prop) : Prop := k q.1 q.2
theorem sndK_mk (a b : Nat) (k : Nat → Nat → Prop) : sndK (a, b) k = k a b := rfl
def mkK (q : TypeId × Value × Nat × Nat) (k : TypeId → Value → Nat → Nat → Prop) : Prop := k q.1 q.2.1 q.2.2.1 q.2.2.2
theorem mkK_mk (a : TypeId) (z : Value) (b s : Nat) (k : TypeId → Value → Nat → Nat → Prop) : mkK (a, z, b, s) k = k a z b s := rfl

section
variable (P : Program) (w : World) (ρ : Env) (ty : TypeId) (k : Value → World → Prop)

theorem fx_move (x : Operand) : fx P w ρ (.move x) ty k = k (ev ρ x) w := rfl
theorem fx_assign (x : Operand) : fx P w ρ (.assign x) ty k = k (ev ρ x) w := rfl
theorem fx_pick (c a b : Operand) : fx P w ρ (.pick c a b) ty k = boolK (ev ρ c) fun t => k (bif t then ev ρ a else ev ρ b) w := rfl
theorem fx_nilCheck (x : Operand) : fx P w ρ (.nilCheck x) ty k = ptrK (ev ρ x) fun b o => k (.pointer (some ⟨b, o, none⟩)) w := rfl
theorem fx_load (t : TypeId) (x : Operand) : fx P w ρ (.load t x) ty k = ptrK (ev ρ x) fun b o => optK (aggN P t) fun n => ldN w b o n fun v => k v w := by
  simp only [fx, px]
  congr 1; funext b o
  simp only [ldK]
  congr 1; funext n
  cases n <;> rfl
theorem fx_fieldAddr (T f : Nat) (x : Operand) : fx P w ρ (.fieldAddr T x f) ty k = ptrK (ev ρ x) fun b o => optK (foff P T f) fun d => k (.pointer (some ⟨b, o + d, none⟩)) w := rfl
theorem fx_indexAddr (T : Nat) (x i : Operand) : fx P w ρ (.indexAddr T x i) ty k = intK (ev ρ i) fun _ n => optE (slcN P T)
      (fun sz => sliceK (ev ρ x) fun a len _ => addrK a fun b o => 0 ≤ n ∧ n < len ∧ k (.pointer (some ⟨b, o + n.toNat * sz, none⟩)) w)
      (optK (arrN P T) fun q => sndK q fun q1 q2 => ptrK (ev ρ x) fun b o => 0 ≤ n ∧ n < q1 ∧ k (.pointer (some ⟨b, o + n.toNat * q2, none⟩)) w) := by
  simp only [fx, px]
  congr 1; funext q n
  cases slcN P T <;> rfl
theorem fx_binOp (op : BinOp) (t u : TypeId) (x y : Operand) : fx P w ρ (.binOp op t x y u) ty k = binK P op t (ev ρ x) (ev ρ y) fun v => k v w := rfl
theorem fx_not (t : TypeId) (x : Operand) : fx P w ρ (.unOp .not t x) ty k = boolK (ev ρ x) fun b => k (.bool !b) w := rfl
theorem fx_convert (s t : TypeId) (x : Operand) : fx P w ρ (.convert s t x) ty k = intK (ev ρ x) fun _ n => cvK (P.underlying t) (P.underlying s) n fun v => k v w := rfl
theorem fx_slice (T : Nat) (x lo hi : Operand) : fx P w ρ (.slice T x (some lo) (some hi) none) ty k = sliceK (ev ρ x) fun a _ cap => intK (ev ρ lo) fun _ l => intK (ev ρ hi) fun _ h => optK (slcN P T) fun sz =>
      0 ≤ l ∧ l ≤ h ∧ h ≤ cap ∧ k (.slice (if cap = l.toNat then a else a.map (·.add (l.toNat * sz))) (h.toNat - l.toNat) (cap - l.toNat)) w := rfl
theorem fx_slice0 (T : Nat) (x hi : Operand) : fx P w ρ (.slice T x none (some hi) none) ty k = sliceK (ev ρ x) fun a _ cap => intK (ev ρ hi) fun _ h => optK (slcN P T) fun _ => 0 ≤ h ∧ h ≤ cap ∧ k (.slice a h.toNat cap) w := rfl
theorem fx_extract (x : Operand) (i : Nat) : fx P w ρ (.extract x i) ty k = tupK (ev ρ x) fun a => optK a[i]? fun v => k v w := rfl
theorem fx_lookup (T : Nat) (m x : Operand) (ok : Bool) : fx P w ρ (.lookup T m x ok) ty k = mapK (ev ρ m) fun r => strK (ev ρ x) fun s => optK (mapZ P T) fun z => optK (mapAt w r) fun l => optK (findS l s) fun u =>
      k (if ok then .tuple #[u.getD z, .bool u.isSome] else u.getD z) w := rfl
theorem fx_build (T : Nat) (ps : Array (Nat × Operand)) : fx P w ρ (.build T ps) ty k = bldK P T (ps.map fun (i, x) => (i, ev ρ x)) fun v => k v w := rfl
theorem fx_len (x : Operand) (t : TypeId) : fx P w ρ (.call ⟨.builtin .len, #[x], #[t]⟩) ty k = lenK P t (ev ρ x) fun v => k v w := rfl
theorem fx_store (t : TypeId) (a x : Operand) : fx P w ρ (.store t a x) ty k = ptrK (ev ρ a) fun b o => stK P w t b o (ev ρ x) fun w' => k undef w' := rfl
theorem fx_alloc (t : TypeId) : fx P w ρ (.alloc t) ty k = optK (zeroOf P t) fun z => k (.pointer (some ⟨w.heap.size, 0, none⟩)) (w.alloc (.cells z.cells t)) := rfl
theorem fx_box (t : TypeId) (x : Operand) : fx P w ρ (.box t x) ty k = k (.pointer (some ⟨w.heap.size, 0, none⟩)) (w.alloc (.cells (ev ρ x).cells t)) := rfl
theorem fx_makeMap (t : TypeId) : fx P w ρ (.makeMap t none) ty k = k (.map (some w.heap.size)) (w.alloc (.map #[] 0)) := rfl
theorem fx_makeSlice (t : TypeId) (l c : Operand) : fx P w ρ (.makeSlice t l c) ty k = intK (ev ρ l) fun _ l => intK (ev ρ c) fun _ c => optK (slcZ P t) fun q => mkK q fun e z bs sz =>
      0 ≤ l ∧ l ≤ c ∧ (bs : Int) * c ≤ 281474976710656 ∧ c ≤ 9223372036854775807 ∧
        k (.slice (some ⟨w.heap.size, 0, none⟩) l.toNat c.toNat) (w.alloc (.cells (madeCells z.cells (c.toNat * sz)) e)) := rfl
theorem fx_buildSlice (t : TypeId) (n : Nat) (ps : Array (Nat × Operand)) : fx P w ρ (.buildSlice t n ps) ty k = bslK P t n (ps.map fun (i, x) => (i, ev ρ x)) fun cs e => k (.slice (some ⟨w.heap.size, 0, none⟩) n n) (w.alloc (.cells cs e)) := rfl
theorem fx_mapUpdate (t : TypeId) (m key x : Operand) : fx P w ρ (.mapUpdate t m key x) ty k = mapK (ev ρ m) fun r => strK (ev ρ key) fun s => optK (mapZ P t) fun _ => optK (mapAt w r) fun l =>
      findS l s = some none ∧ k undef (pushMap w r (.string s) (ev ρ x)) := rfl
theorem fx_append (as : Array Operand) (ts : Array TypeId) : fx P w ρ (.call ⟨.builtin .append, as, ts⟩) ty k = apK P w ts ty (as.map (ev ρ)) k := rfl
theorem fx_call (f : FuncId) (as : Array Operand) (ts : Array TypeId) : fx P w ρ (.call ⟨.value (.func f), as, ts⟩) ty k = (entersB P f = true ∧ Calls P f (as.map (ev ρ)) w (retK k)) := rfl
end

section
variable (w : World) (b o : Nat) (k : Value → Prop)
theorem ldN_zero : ldN w b o 0 k = optK (w.cell? ⟨b, o, none⟩) k := rfl
theorem ldN_two : ldN w b o 2 k = optK (w.cell? ⟨b, o, none⟩) fun v0 => optK (w.cell? ⟨b, o + 1, none⟩) fun v1 => k (.agg #[v0, v1]) := rfl
theorem ldN_four : ldN w b o 4 k = optK (w.cell? ⟨b, o, none⟩) fun v0 => optK (w.cell? ⟨b, o + 1, none⟩) fun v1 => optK (w.cell? ⟨b, o + 2, none⟩) fun v2 => optK (w.cell? ⟨b, o + 3, none⟩) fun v3 => k (.agg #[v0, v1, v2, v3]) := rfl
theorem ldN_five : ldN w b o 5 k = optK (w.cell? ⟨b, o, none⟩) fun v0 => optK (w.cell? ⟨b, o + 1, none⟩) fun v1 => optK (w.cell? ⟨b, o + 2, none⟩) fun v2 => optK (w.cell? ⟨b, o + 3, none⟩) fun v3 => optK (w.cell? ⟨b, o + 4, none⟩) fun v4 => k (.agg #[v0, v1, v2, v3, v4]) := rfl
end

section
variable (P : Program) (t : TypeId) (k : Value → Prop)
theorem binK_add (q : IntKind) (a b : Int) : binK P .add t (.int q a) (.int q b) k = (inR q (a + b) ∧ k (.int q (a + b))) := by simp [binK]
theorem binK_sub (q : IntKind) (a b : Int) : binK P .sub t (.int q a) (.int q b) k = (inR q (a - b) ∧ k (.int q (a - b))) := by simp [binK]
theorem binK_mul (q : IntKind) (a b : Int) : binK P .mul t (.int q a) (.int q b) k = (inR q (a * b) ∧ k (.int q (a * b))) := by simp [binK]
theorem binK_eql (q : IntKind) (a b : Int) : binK P .eql t (.int q a) (.int q b) k = k (.bool (decide (a = b))) := by simp [binK]
theorem binK_neq (q : IntKind) (a b : Int) : binK P .neq t (.int q a) (.int q b) k = k (.bool (decide (a ≠ b))) := by simp [binK]
theorem binK_lss (q : IntKind) (a b : Int) : binK P .lss t (.int q a) (.int q b) k = k (.bool (decide (a < b))) := by simp [binK]
theorem binK_leq (q : IntKind) (a b : Int) : binK P .leq t (.int q a) (.int q b) k = k (.bool (decide (a ≤ b))) := by simp [binK]
theorem binK_gtr (q : IntKind) (a b : Int) : binK P .gtr t (.int q a) (.int q b) k = k (.bool (decide (b < a))) := by simp [binK]
theorem binK_geq (q : IntKind) (a b : Int) : binK P .geq t (.int q a) (.int q b) k = k (.bool (decide (b ≤ a))) := by simp [binK]
theorem binK_seql (a b : ByteArray) : binK P .eql t (.string a) (.string b) k = k (.bool (decide (a = b))) := rfl
theorem binK_sneq (a b : ByteArray) : binK P .neq t (.string a) (.string b) k = k (.bool (decide (a ≠ b))) := rfl
theorem binK_sadd (a b : ByteArray) : binK P .add t (.string a) (.string b) k = (((a.size + b.size : Nat) : Int) ≤ 9223372036854775807 ∧ k (.string (a ++ b))) := rfl
theorem binK_beql (a b : Bool) : binK P .eql t (.bool a) (.bool b) k = (P.underlying t = some .bool ∧ k (.bool (decide (a = b)))) := rfl
theorem binK_bneq (a b : Bool) : binK P .neq t (.bool a) (.bool b) k = (P.underlying t = some .bool ∧ k (.bool (decide (a ≠ b)))) := rfl
theorem binK_peql (a : Option Addr) : binK P .eql t (.pointer a) (.pointer none) k = ((∃ e, P.underlying t = some (.pointer e)) ∧ k (.bool a.isNone)) := rfl
theorem binK_pneq (a : Option Addr) : binK P .neq t (.pointer a) (.pointer none) k = ((∃ e, P.underlying t = some (.pointer e)) ∧ k (.bool a.isSome)) := rfl
theorem binK_leql (a : Option Addr) (n c m d : Nat) : binK P .eql t (.slice a n c) (.slice none m d) k = ((∃ e, P.underlying t = some (.slice e)) ∧ k (.bool a.isNone)) := rfl
theorem binK_lneq (a : Option Addr) (n c m d : Nat) : binK P .neq t (.slice a n c) (.slice none m d) k = ((∃ e, P.underlying t = some (.slice e)) ∧ k (.bool a.isSome)) := rfl
theorem lenK_slice (a : Option Addr) (n c : Nat) : lenK P t (.slice a n c) k = ((∃ e, P.underlying t = some (.slice e)) ∧ k (.int .i64 n)) := rfl
theorem lenK_string (s : ByteArray) : lenK P t (.string s) k = (P.underlying t = some .string ∧ k (.int .i64 s.size)) := rfl
end
theorem ex_slice (e : TypeId) : (∃ e', some (TypeDesc.slice e) = some (.slice e')) = True := by simp
theorem ex_pointer (e : TypeId) : (∃ e', some (TypeDesc.pointer e) = some (.pointer e')) = True := by simp

/-! ### stores -/
theorem one_cells_int (q : IntKind) (n : Int) : (Value.int q n).cells = #[.int q n] := rfl
theorem one_cells_bool (b : Bool) : (Value.bool b).cells = #[.bool b] := rfl
theorem one_cells_string (s : ByteArray) : (Value.string s).cells = #[.string s] := rfl
theorem one_cells_pointer (a : Option Addr) : (Value.pointer a).cells = #[.pointer a] := rfl
theorem one_cells_slice (a : Option Addr) (n c : Nat) : (Value.slice a n c).cells = #[.slice a n c] := rfl
theorem one_cells_map (a : Option Nat) : (Value.map a).cells = #[.map a] := rfl
theorem cells_agg (cs : Array Value) : (Value.agg cs).cells = cs := rfl

/-- One cell stored into a row. -/
theorem ow_one (arr : Array Value) (o : Nat) (v : Value) (h : o < arr.size) : ow arr o [v] = arr.setIfInBounds o v := by
  apply Array.ext'
  simp only [ow, Array.toList_setIfInBounds, List.length_singleton]
  rw [List.set_eq_take_append_cons_drop]
  simp [h]

def one (v : Value) : Bool := match v with | .agg _ | .tuple _ => false | _ => true
theorem one_int (q : IntKind) (n : Int) : one (.int q n) = true := by simp only [one]
theorem one_bool (b : Bool) : one (.bool b) = true := by simp only [one]
theorem one_string (s : ByteArray) : one (.string s) = true := by simp only [one]
theorem one_pointer (a : Option Addr) : one (.pointer a) = true := by simp only [one]
theorem one_slice (a : Option Addr) (n c : Nat) : one (.slice a n c) = true := by simp only [one]
theorem one_map (a : Option Nat) : one (.map a) = true := by simp only [one]
theorem one_eq {v : Value} (h : one v = true) : v.cells = #[v] ∧ v.oneCell' = true := by
  cases v <;> first | exact ⟨rfl, rfl⟩ | cases h

theorem stK_one {P : Program} {w : World} {t b o : Nat} {v : Value} {k : World → Prop} {arr : Array Value} (hs : szOf P t = some 1) (hr : rowAt w b = some arr) (hv : one v = true) (ho : o < arr.size)
    (h : k (w.setRow b (arr.setIfInBounds o v))) : stK P w t b o v k := by
  obtain ⟨h1, h2⟩ := one_eq hv
  simp only [stK, hs, hr, optK_some, h1]
  refine ⟨by simp, by simp [h2], by omega, ?_⟩
  rw [ow_one _ _ _ ho]
  exact h


/-! ### code, in larger steps -/
def exQ (id : Nat) (J : Env → World → Prop) (Q : Exit → Env → World → Prop) : Exit → Env → World → Prop
  | .exit i, ρ, w => if i = id then J ρ w else Q (.exit i) ρ w
  | .normal, ρ, w => J ρ w
  | e, ρ, w => Q e ρ w
theorem exQ_normal (id : Nat) (J : Env → World → Prop) (Q : Exit → Env → World → Prop) (ρ : Env) (w : World) : exQ id J Q .normal ρ w = J ρ w := rfl
theorem exQ_exit (id i : Nat) (J : Env → World → Prop) (Q : Exit → Env → World → Prop) (ρ : Env) (w : World) : exQ id J Q (.exit i) ρ w = if i = id then J ρ w else Q (.exit i) ρ w := rfl
theorem exQ_ret (id : Nat) (J : Env → World → Prop) (Q : Exit → Env → World → Prop) (ρ : Env) (w : World) : exQ id J Q .ret ρ w = Q .ret ρ w := rfl

section
variable {P : Program} {n : Nat} {Q : Exit → Env → World → Prop} {ρ : Env} {w : World}

theorem cwp_sr {id : Nat} {ops : List Oper} {y : Code} (hd : ops.all (fun o => o.dst.all (· < n)) = true)
    (h : ∀ K : Env → World → Prop, (∀ ρ w, cwp P n y Q ρ w → K ρ w) → exL P ops ops ρ w K) : cwp P n (.seq (.region id ops.toArray false) y) Q ρ w :=
  cwp_seq fun K hK => cwp_region hd (h K hK)

theorem retK_mk (k : Value → World → Prop) (v : Value) : retK k (.returned v) w = k v w := rfl

theorem toJ {K K1 J : Env → World → Prop} {id : Nat} (h : J ρ w) : thenQ K (thenQ K1 (exQ id J Q)) (.exit id) ρ w := by
  rw [thenQ_exit, thenQ_exit, exQ_exit, if_pos rfl]; exact h

theorem endQ_val {fn : Func} {R : Value → World → Prop} {t : Nat} {v : Value} (h : fn.results = #[.tmp t]) (hv : ρ t = v) (hR : R v w) : endQ fn P R .ret ρ w :=
  endQ_one h (by rw [hv]; exact hR)

theorem cwp_forget {c : Code} (L : List Nat) (h : ∀ ρ', (∀ s, s ∈ L → ρ' s = ρ s) → cwp P n c Q ρ' w) : cwp P n c Q ρ w := h ρ fun _ _ => rfl

theorem cwp_sc {c : Operand} {x y z : Code} (h : boolK (ev ρ c) fun b => ∀ K : Env → World → Prop, (∀ ρ w, cwp P n z Q ρ w → K ρ w) → (b = true → cwp P n x (thenQ K Q) ρ w) ∧ (b = false → cwp P n y (thenQ K Q) ρ w)) :
    cwp P n (.seq (.cond c x y) z) Q ρ w := by
  refine cwp_seq fun K hK => cwp_cond ?_
  obtain ⟨b, hb, h⟩ := boolK_inv h
  rw [hb]
  exact h K hK

/-- A loop in its block: the invariant I, what holds when the loop is left (J). -/
theorem cwp_for {α : Type} {id : Nat} {c : Code} (I : α → Env → World → Prop) (μ : α → Nat) (J : Env → World → Prop) (x0 : α) (h0 : I x0 ρ w)
    (round : ∀ x ρ w, I x ρ w → ∀ K : Env → World → Prop, (∀ ρ' w' y, I y ρ' w' → μ y < μ x → K ρ' w') → cwp P n c (thenQ K (exQ id J Q)) ρ w)
    (hJ : ∀ ρ w, J ρ w → Q .normal ρ w) : cwp P n (.block id (.loop c)) Q ρ w := by
  refine cwp_block (cwp_mono (cwp_loop (Q := exQ id J Q) I μ x0 h0 round) ?_)
  intro e ρ' w' h
  cases e with
  | normal => exact hJ _ _ h
  | exit i =>
    rw [exQ_exit] at h
    rw [blkQ_exit]
    split
    · rename_i hi; rw [if_pos hi] at h; exact hJ _ _ h
    · rename_i hi; rw [if_neg hi] at h; exact h
  | goto i => exact h
  | ret => exact h
  | panic c => exact h
  | outgrown => exact h

theorem cwp_sfor {α : Type} {id : Nat} {c y : Code} (I : α → Env → World → Prop) (μ : α → Nat) (J : Env → World → Prop) (x0 : α) (h0 : I x0 ρ w)
    (round : ∀ x ρ w, I x ρ w → ∀ K : Env → World → Prop, (∀ ρ' w' y, I y ρ' w' → μ y < μ x → K ρ' w') → cwp P n c (thenQ K (exQ id J Q)) ρ w)
    (hJ : ∀ ρ w, J ρ w → cwp P n y Q ρ w) : cwp P n (.seq (.block id (.loop c)) y) Q ρ w := by
  refine cwp_seq fun K hK => cwp_for I μ J x0 h0 ?_ (fun ρ w h => hK _ _ (hJ ρ w h))
  intro x ρ w hI K' hK'
  refine cwp_mono (round x ρ w hI K' hK') ?_
  intro e ρ w h
  cases e with
  | normal => exact h
  | exit i => rw [thenQ_exit, exQ_exit] at h ⊢; exact h
  | goto i => exact h
  | ret => exact h
  | panic c => exact h
  | outgrown => exact h

end

/-! ### memory, block by block -/
theorem heap_new (w : World) (o : Obj) : (w.alloc o).heap[w.heap.size]? = some o := by
  show (w.heap.push o)[w.heap.size]? = some o
  simp
theorem heap_old {w : World} {o : Obj} {b : Nat} {x : Obj} (h : w.heap[b]? = some x) : (w.alloc o).heap[b]? = some x := by
  have hlt : b < w.heap.size := (Array.getElem?_eq_some_iff.1 h).1
  rw [Below.heap_alloc w o b hlt]; exact h
theorem heap_lt {w : World} {b : Nat} {x : Obj} (h : w.heap[b]? = some x) : b < w.heap.size := (Array.getElem?_eq_some_iff.1 h).1
theorem cell_row {w : World} {b : Nat} {arr : Array Value} {e : TypeId} {fz : Nat × Nat} (h : w.heap[b]? = some (.cells arr e fz)) (o : Nat) : w.cell? ⟨b, o, none⟩ = arr[o]? := by
  simp [World.cell?, h]
theorem rowAt_of {w : World} {b : Nat} {arr : Array Value} {e : TypeId} (h : w.heap[b]? = some (.cells arr e (0, 0))) : rowAt w b = some arr := by
  simp [rowAt, h]
theorem cell_lt {w : World} {a : Addr} {v : Value} (h : w.cell? a = some v) : a.block < w.heap.size := by
  rcases Nat.lt_or_ge a.block w.heap.size with h' | h'
  · exact h'
  · simp [World.cell?, Array.getElem?_eq_none h'] at h
theorem cell_lt' {w : World} {b o : Nat} {v : Value} (h : w.cell? ⟨b, o, none⟩ = some v) : b < w.heap.size := cell_lt h
theorem below_up {w w' : World} (hb : Below w.heap.size w w') {a : Addr} {v : Value} (h : w.cell? a = some v) : w'.cell? a = some v := by
  rw [hb.cell (cell_lt h)]; exact h
theorem below_at {B : Nat} {w w' : World} (hb : Below B w w') {a : Addr} {v : Value} (hB : a.block < B) (h : w.cell? a = some v) : w'.cell? a = some v := by
  rw [hb.cell hB]; exact h
theorem below_setRow {B g : Nat} {w0 w : World} (hb : Below B w0 w) (hBg : B ≤ g) (cs : Array Value) : Below B w0 (w.setRow g cs) :=
  hb.trans ⟨rfl, rfl, rfl, by simp, fun k hk => setRow_other _ _ _ _ (by omega)⟩
theorem set_get (arr : Array Value) (o i : Nat) (v : Value) (h : o < arr.size) : (arr.setIfInBounds o v)[i]? = if o = i then some v else arr[i]? := by
  rw [Array.getElem?_setIfInBounds]
  split
  · simp [h]
  · rfl

/-! ### stores, as equations -/
def stR (v : Value) (n : Nat) (arr : Array Value) (o : Nat) (k : Array Value → Prop) : Prop :=
  v.cells.size = n ∧ v.cells.toList.all (·.oneCell') = true ∧ o + n ≤ arr.size ∧ k (ow arr o v.cells.toList)
theorem stK_eq (P : Program) (w : World) (t b o : Nat) (v : Value) (k : World → Prop) : stK P w t b o v k = optK (szOf P t) fun n => optK (rowAt w b) fun arr => stR v n arr o fun a => k (w.setRow b a) := rfl
section
variable (arr : Array Value) (o : Nat) (k : Array Value → Prop)
theorem stR_one {v : Value} (h : one v = true) : stR v 1 arr o k = (o < arr.size ∧ k (arr.setIfInBounds o v)) := by
  obtain ⟨h1, h2⟩ := one_eq h
  simp only [stR, h1]
  apply propext
  constructor
  · rintro ⟨_, _, h3, h4⟩
    have h5 : o < arr.size := by omega
    refine ⟨h5, ?_⟩
    have e : ow arr o (#[v] : Array Value).toList = arr.setIfInBounds o v := ow_one _ _ _ h5
    rw [← e]; exact h4
  · rintro ⟨h3, h4⟩
    refine ⟨by simp, by simp [h2], by omega, ?_⟩
    have e : ow arr o (#[v] : Array Value).toList = arr.setIfInBounds o v := ow_one _ _ _ h3
    rw [e]; exact h4
theorem stR_int (q : IntKind) (n : Int) : stR (.int q n) 1 arr o k = (o < arr.size ∧ k (arr.setIfInBounds o (.int q n))) := stR_one arr o k rfl
theorem stR_bool (b : Bool) : stR (.bool b) 1 arr o k = (o < arr.size ∧ k (arr.setIfInBounds o (.bool b))) := stR_one arr o k rfl
theorem stR_string (s : ByteArray) : stR (.string s) 1 arr o k = (o < arr.size ∧ k (arr.setIfInBounds o (.string s))) := stR_one arr o k rfl
theorem stR_pointer (a : Option Addr) : stR (.pointer a) 1 arr o k = (o < arr.size ∧ k (arr.setIfInBounds o (.pointer a))) := stR_one arr o k rfl
theorem stR_slice (a : Option Addr) (n c : Nat) : stR (.slice a n c) 1 arr o k = (o < arr.size ∧ k (arr.setIfInBounds o (.slice a n c))) := stR_one arr o k rfl
theorem stR_agg2 (a b : Value) (ha : one a = true) (hb : one b = true) : stR (.agg #[a, b]) 2 arr o k = (o + 2 ≤ arr.size ∧ k (ow arr o [a, b])) := by
  apply propext
  simp only [stR, cells_agg]
  constructor
  · rintro ⟨_, _, h3, h4⟩; exact ⟨h3, h4⟩
  · rintro ⟨h3, h4⟩; exact ⟨rfl, by simp [(one_eq ha).2, (one_eq hb).2], h3, h4⟩
theorem stR_agg4 (a b c d : Value) (ha : one a = true) (hb : one b = true) (hc : one c = true) (hd : one d = true) : stR (.agg #[a, b, c, d]) 4 arr o k = (o + 4 ≤ arr.size ∧ k (ow arr o [a, b, c, d])) := by
  apply propext
  simp only [stR, cells_agg]
  constructor
  · rintro ⟨_, _, h3, h4⟩; exact ⟨h3, h4⟩
  · rintro ⟨h3, h4⟩; exact ⟨rfl, by simp [(one_eq ha).2, (one_eq hb).2, (one_eq hc).2, (one_eq hd).2], h3, h4⟩
theorem stR_agg5 (a b c d e : Value) (ha : one a = true) (hb : one b = true) (hc : one c = true) (hd : one d = true) (he : one e = true) : stR (.agg #[a, b, c, d, e]) 5 arr o k = (o + 5 ≤ arr.size ∧ k (ow arr o [a, b, c, d, e])) := by
  apply propext
  simp only [stR, cells_agg]
  constructor
  · rintro ⟨_, _, h3, h4⟩; exact ⟨h3, h4⟩
  · rintro ⟨h3, h4⟩; exact ⟨rfl, by simp [(one_eq ha).2, (one_eq hb).2, (one_eq hc).2, (one_eq hd).2, (one_eq he).2], h3, h4⟩
theorem stR_agg (n : Nat) (l : List Value) (h : l.length = n) (h1 : l.all one = true) : stR (.agg l.toArray) n arr o k = (o + n ≤ arr.size ∧ k (ow arr o l)) := by
  have h2 : l.all (·.oneCell') = true := by
    rw [List.all_eq_true] at h1 ⊢
    exact fun x hx => (one_eq (h1 x hx)).2
  apply propext
  simp only [stR, cells_agg]
  constructor
  · rintro ⟨_, _, h3, h4⟩; exact ⟨h3, h4⟩
  · rintro ⟨h3, h4⟩; exact ⟨by simpa using h, h2, h3, h4⟩
end

/-! ### a new block, and stores into it at once -/
theorem rowAt_alloc (w : World) (arr : Array Value) (e : TypeId) : rowAt (w.alloc (.cells arr e)) w.heap.size = some arr := rowAt_of (heap_new _ _)
theorem setRow_alloc (w : World) (arr arr' : Array Value) (e : TypeId) : (w.alloc (.cells arr e)).setRow w.heap.size arr' = w.alloc (.cells arr' e) := by
  have : (w.heap.push (.cells arr e)).modify w.heap.size (fun | .cells _ elem frozen => .cells arr' elem frozen | o => o) = w.heap.push (.cells arr' e) := by
    apply Array.ext_getElem?
    intro i
    rw [Array.getElem?_modify, Array.getElem?_push, Array.getElem?_push]
    by_cases h : i = w.heap.size
    · simp [h]
    · rw [if_neg h, if_neg h, if_neg (Ne.symm h)]
  show ({ w with heap := (w.heap.push (.cells arr e)).modify w.heap.size (fun | .cells _ elem frozen => .cells arr' elem frozen | o => o) } : World) = { w with heap := w.heap.push (.cells arr' e) }
  rw [this]
theorem ow_four (p q r s a b c d : Value) : ow #[p, q, r, s] 0 [a, b, c, d] = #[a, b, c, d] := rfl
theorem ow_five (p q r s t a b c d e : Value) : ow #[p, q, r, s, t] 0 [a, b, c, d, e] = #[a, b, c, d, e] := rfl
theorem cell_new (w : World) (arr : Array Value) (e : TypeId) (o : Nat) : (w.alloc (.cells arr e)).cell? ⟨w.heap.size, o, none⟩ = arr[o]? := cell_row (heap_new _ _) o
end Fw
end Go.Proofs.Qxb6001426a
