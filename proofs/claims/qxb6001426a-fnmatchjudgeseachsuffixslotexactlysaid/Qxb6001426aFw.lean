/-
  A small frame for walks: a call's slots as a plain function (Env), one region of operations run as a chain of plain demands.
-/
import Derived.WalkKit
import Derived.Deep.Quiet
import Derived.OrdersHeld
namespace Go.Proofs.Qxb6001426a
namespace Fw
open Go.RowKit
set_option linter.unusedSimpArgs false
set_option linter.unusedVariables false

abbrev Env := Nat → Value

def upd (ρ : Env) (d : Nat) (v : Value) : Env := fun s => if s = d then v else ρ s
def updo (ρ : Env) (d : Option Nat) (v : Value) : Env := match d with | some d => upd ρ d v | none => ρ
def ev (ρ : Env) : Operand → Value
  | .tmp t => ρ t
  | .const v => v
  | .global g => .pointer (some ⟨g, 0, none⟩)
  | .func f => .func (.func f) #[] #[]

theorem upd_apply (ρ : Env) (d s : Nat) (v : Value) : upd ρ d v s = if s = d then v else ρ s := rfl
theorem updo_some (ρ : Env) (d : Nat) (v : Value) : updo ρ (some d) v = upd ρ d v := rfl
theorem updo_none (ρ : Env) (v : Value) : updo ρ none v = ρ := rfl
theorem ev_tmp (ρ : Env) (t : Nat) : ev ρ (.tmp t) = ρ t := rfl
theorem ev_const (ρ : Env) (v : Value) : ev ρ (.const v) = v := rfl

def Sim (n : Nat) (a : Act) (ρ : Env) : Prop := a.tmps.size = n ∧ a.defers = [] ∧ ∀ s, a.tmps.getD s undef = ρ s

theorem Sim.eval {n : Nat} {a : Act} {ρ : Env} (h : Sim n a ρ) : a.eval = ev ρ := by
  funext x
  cases x with
  | tmp t => simpa [Act.eval, ev] using h.2.2 t
  | const v => rfl
  | global g => rfl
  | func f => rfl

theorem Sim.put {n : Nat} {a : Act} {ρ : Env} (h : Sim n a ρ) (d : Option Nat) (v : Value) (hd : d.all (· < n) = true) : Sim n (a.put d v) (updo ρ d v) := by
  cases d with
  | none => exact h
  | some d =>
    simp at hd
    refine ⟨by simpa [Act.put] using h.1, h.2.1, fun s => ?_⟩
    have h1 := h.2.2 s
    have h0 := h.1
    simp only [Act.put, updo, upd]
    by_cases hs : s = d
    · subst hs
      simp [h0, hd]
    · rw [if_neg hs, ← h1]
      simp [Array.getElem?_setIfInBounds_ne (Ne.symm hs)]

/-! ### what a pure operation asks -/

def optK {α : Type} (x : Option α) (k : α → Prop) : Prop := match x with | some v => k v | none => False
theorem optK_some {α : Type} (v : α) (k : α → Prop) : optK (some v) k = k v := rfl
def ptrK (v : Value) (k : Nat → Nat → Prop) : Prop := match v with | .pointer (some ⟨b, o, none⟩) => k b o | _ => False
theorem ptrK_mk (b o : Nat) (k : Nat → Nat → Prop) : ptrK (.pointer (some ⟨b, o, none⟩)) k = k b o := rfl
def intK (v : Value) (k : IntKind → Int → Prop) : Prop := match v with | .int q n => k q n | _ => False
theorem intK_mk (q : IntKind) (n : Int) (k : IntKind → Int → Prop) : intK (.int q n) k = k q n := rfl
def boolK (v : Value) (k : Bool → Prop) : Prop := match v with | .bool b => k b | _ => False
theorem boolK_mk (b : Bool) (k : Bool → Prop) : boolK (.bool b) k = k b := rfl
def strK (v : Value) (k : ByteArray → Prop) : Prop := match v with | .string s => k s | _ => False
theorem strK_mk (s : ByteArray) (k : ByteArray → Prop) : strK (.string s) k = k s := rfl
def sliceK (v : Value) (k : Option Addr → Nat → Nat → Prop) : Prop := match v with | .slice a n c => k a n c | _ => False
theorem sliceK_mk (a : Option Addr) (n c : Nat) (k : Option Addr → Nat → Nat → Prop) : sliceK (.slice a n c) k = k a n c := rfl
def addrK (a : Option Addr) (k : Nat → Nat → Prop) : Prop := match a with | some ⟨b, o, none⟩ => k b o | _ => False
theorem addrK_mk (b o : Nat) (k : Nat → Nat → Prop) : addrK (some ⟨b, o, none⟩) k = k b o := rfl
def tupK (v : Value) (k : Array Value → Prop) : Prop := match v with | .tuple a => k a | _ => False
theorem tupK_mk (a : Array Value) (k : Array Value → Prop) : tupK (.tuple a) k = k a := rfl
def mapK (v : Value) (k : Nat → Prop) : Prop := match v with | .map (some r) => k r | _ => False
theorem mapK_mk (r : Nat) (k : Nat → Prop) : mapK (.map (some r)) k = k r := rfl

def inR : IntKind → Int → Prop
  | .i64, n => -9223372036854775808 ≤ n ∧ n ≤ 9223372036854775807
  | .i32, n => -2147483648 ≤ n ∧ n ≤ 2147483647
  | _, _ => False
theorem inR_i64 (n : Int) : inR .i64 n = (-9223372036854775808 ≤ n ∧ n ≤ 9223372036854775807) := rfl
theorem inR_i32 (n : Int) : inR .i32 n = (-2147483648 ≤ n ∧ n ≤ 2147483647) := rfl

theorem wrap_inR {k : IntKind} {n : Int} (h : inR k n) : k.wrap n = n := by
  cases k <;> simp only [inR] at h <;> simp only [IntKind.wrap, IntKind.bits, IntKind.signed] <;> simp <;> omega

/-- A type's place among the table: how many cells it takes as an aggregate (0: it is one cell). -/
def aggN (P : Program) (t : TypeId) : Option Nat :=
  match P.underlying t with
  | some (.struct _) | some (.array _ _) => (P.info? t).bind fun i => if i.size = 0 then none else some i.size
  | some _ => some 0
  | none => none

/-- The offset of a field (of a size that is not nought). -/
def foff (P : Program) (T f : Nat) : Option Nat :=
  match P.underlying T with
  | some (.struct fs) => match fs[f]? with
    | some fl => match P.info? fl.type with
      | some i => if i.size = 0 then none else some fl.offset
      | none => none
    | none => none
  | _ => none

/-- A slice's element size. -/
def slcN (P : Program) (T : Nat) : Option Nat :=
  match P.underlying T with
  | some (.slice e) => (P.info? e).map (·.size)
  | _ => none
def slcE (P : Program) (T : Nat) : Option Nat :=
  match P.underlying T with
  | some (.slice e) => some e
  | _ => none
/-- An array's length and element size. -/
def arrN (P : Program) (T : Nat) : Option (Nat × Nat) :=
  match P.underlying T with
  | some (.array n e) => (P.info? e).map fun i => (n, i.size)
  | _ => none

def rdK (w : World) (b o : Nat) : Nat → Nat → List Value → (List Value → Prop) → Prop
  | 0, _, acc, k => k acc
  | n + 1, i, acc, k => optK (w.cell? ⟨b, o + i, none⟩) fun v => rdK w b o n (i + 1) (acc ++ [v]) k

def ldK (P : Program) (w : World) (t : TypeId) (b o : Nat) (k : Value → Prop) : Prop :=
  optK (aggN P t) fun n => match n with
    | 0 => optK (w.cell? ⟨b, o, none⟩) k
    | n + 1 => rdK w b o (n + 1) 0 [] fun l => k (.agg l.toArray)

theorem ldK_one {P : Program} {w : World} {t : TypeId} {b o : Nat} {k : Value → Prop} (h : aggN P t = some 0) : ldK P w t b o k = optK (w.cell? ⟨b, o, none⟩) k := by
  simp [ldK, h, optK]
theorem ldK_agg {P : Program} {w : World} {t : TypeId} {b o n : Nat} {k : Value → Prop} (h : aggN P t = some (n + 1)) : ldK P w t b o k = rdK w b o (n + 1) 0 [] fun l => k (.agg l.toArray) := by
  simp [ldK, h, optK]

/-- The entries of a map block, in their order. -/
def mapAt (w : World) (r : Nat) : Option (List (Value × Value)) :=
  match w.heap[r]? with
  | some (.map es _) => some (es.toList.map fun e => (e.key, e.val))
  | _ => none

def findS : List (Value × Value) → ByteArray → Option (Option Value)
  | [], _ => some none
  | (.string t, v) :: l, s => if s == t then some (some v) else findS l s
  | _ :: _, _ => none

def zeroOf (P : Program) (t : TypeId) : Option Value := (P.info? t).bind (·.zero)
/-- A map type with string keys: its element's zero. -/
def mapZ (P : Program) (T : Nat) : Option Value :=
  match P.underlying T with
  | some (.map k e) => match P.underlying k with
    | some .string => zeroOf P e
    | _ => none
  | _ => none

def binK (P : Program) (op : BinOp) (t : TypeId) (x y : Value) (k : Value → Prop) : Prop :=
  match op, x, y with
  | .add, .int q a, .int q' b => q = q' ∧ inR q (a + b) ∧ k (.int q (a + b))
  | .sub, .int q a, .int q' b => q = q' ∧ inR q (a - b) ∧ k (.int q (a - b))
  | .mul, .int q a, .int q' b => q = q' ∧ inR q (a * b) ∧ k (.int q (a * b))
  | .eql, .int q a, .int q' b => q = q' ∧ k (.bool (decide (a = b)))
  | .neq, .int q a, .int q' b => q = q' ∧ k (.bool (decide (a ≠ b)))
  | .lss, .int q a, .int q' b => q = q' ∧ k (.bool (decide (a < b)))
  | .leq, .int q a, .int q' b => q = q' ∧ k (.bool (decide (a ≤ b)))
  | .gtr, .int q a, .int q' b => q = q' ∧ k (.bool (decide (b < a)))
  | .geq, .int q a, .int q' b => q = q' ∧ k (.bool (decide (b ≤ a)))
  | .eql, .string a, .string b => k (.bool (decide (a = b)))
  | .neq, .string a, .string b => k (.bool (decide (a ≠ b)))
  | .add, .string a, .string b => ((a.size + b.size : Nat) : Int) ≤ 9223372036854775807 ∧ k (.string (a ++ b))
  | .eql, .bool a, .bool b => P.underlying t = some .bool ∧ k (.bool (decide (a = b)))
  | .neq, .bool a, .bool b => P.underlying t = some .bool ∧ k (.bool (decide (a ≠ b)))
  | .eql, .pointer a, .pointer none => (∃ e, P.underlying t = some (.pointer e)) ∧ k (.bool a.isNone)
  | .neq, .pointer a, .pointer none => (∃ e, P.underlying t = some (.pointer e)) ∧ k (.bool a.isSome)
  | .eql, .slice a _ _, .slice none _ _ => (∃ e, P.underlying t = some (.slice e)) ∧ k (.bool a.isNone)
  | .neq, .slice a _ _, .slice none _ _ => (∃ e, P.underlying t = some (.slice e)) ∧ k (.bool a.isSome)
  | _, _, _ => False

def lenK (P : Program) (ty : TypeId) (v : Value) (k : Value → Prop) : Prop :=
  match v with
  | .slice _ n _ => (∃ e, P.underlying ty = some (.slice e)) ∧ k (.int .i64 n)
  | .string s => P.underlying ty = some .string ∧ k (.int .i64 s.size)
  | _ => False

def bldK (P : Program) (T : TypeId) (ps : Array (Nat × Value)) (k : Value → Prop) : Prop := ∃ v, (∀ w, (Instr.build T ps).run P w = .ok v w) ∧ k v

def px (P : Program) (w : World) (ρ : Env) (op : Op) (k : Value → Prop) : Prop :=
  match op with
  | .move x => k (ev ρ x)
  | .assign x => k (ev ρ x)
  | .pick c a b => boolK (ev ρ c) fun t => k (bif t then ev ρ a else ev ρ b)
  | .nilCheck x => ptrK (ev ρ x) fun b o => k (.pointer (some ⟨b, o, none⟩))
  | .load t x => ptrK (ev ρ x) fun b o => ldK P w t b o k
  | .fieldAddr T x f => ptrK (ev ρ x) fun b o => optK (foff P T f) fun d => k (.pointer (some ⟨b, o + d, none⟩))
  | .indexAddr T x i => intK (ev ρ i) fun _ n => match slcN P T with
      | some sz => sliceK (ev ρ x) fun a len _ => addrK a fun b o => 0 ≤ n ∧ n < len ∧ k (.pointer (some ⟨b, o + n.toNat * sz, none⟩))
      | none => optK (arrN P T) fun q => ptrK (ev ρ x) fun b o => 0 ≤ n ∧ n < q.1 ∧ k (.pointer (some ⟨b, o + n.toNat * q.2, none⟩))
  | .binOp op t x y _ => binK P op t (ev ρ x) (ev ρ y) k
  | .unOp .not _ x => boolK (ev ρ x) fun b => k (.bool !b)
  | .convert s t x => intK (ev ρ x) fun _ n => match P.underlying t with
      | some (.int q) => P.underlying s ≠ none ∧ inR q n ∧ k (.int q n)
      | _ => False
  | .slice T x (some lo) (some hi) none => sliceK (ev ρ x) fun a _ cap => intK (ev ρ lo) fun _ l => intK (ev ρ hi) fun _ h => optK (slcN P T) fun sz =>
      0 ≤ l ∧ l ≤ h ∧ h ≤ cap ∧ k (.slice (if cap = l.toNat then a else a.map (·.add (l.toNat * sz))) (h.toNat - l.toNat) (cap - l.toNat))
  | .slice T x none (some hi) none => sliceK (ev ρ x) fun a _ cap => intK (ev ρ hi) fun _ h => optK (slcN P T) fun _ => 0 ≤ h ∧ h ≤ cap ∧ k (.slice a h.toNat cap)
  | .extract x i => tupK (ev ρ x) fun a => optK a[i]? k
  | .lookup T m x ok => mapK (ev ρ m) fun r => strK (ev ρ x) fun s => optK (mapZ P T) fun z => optK (mapAt w r) fun l => optK (findS l s) fun u =>
      k (if ok then .tuple #[u.getD z, .bool u.isSome] else u.getD z)
  | .build T ps => bldK P T (ps.map fun (i, x) => (i, ev ρ x)) k
  | .call ⟨.builtin .len, as, ts⟩ => optK as[0]? fun x => optK ts[0]? fun ty => lenK P ty (ev ρ x) k
  | _ => False

/-- The heap below is as it was. -/
def Ext (w w' : World) : Prop := ∀ b, b < w.heap.size → w'.heap[b]? = w.heap[b]?

theorem Ext.refl (w : World) : Ext w w := fun _ _ => rfl

theorem Ext.cell {w w' : World} (h : Ext w w') {a : Addr} {v : Value} (hc : w.cell? a = some v) : w'.cell? a = some v := by
  have hb : a.block < w.heap.size := by
    rcases Nat.lt_or_ge a.block w.heap.size with h' | h'
    · exact h'
    · simp [World.cell?, Array.getElem?_eq_none h'] at hc
  rw [← hc]
  simp only [World.cell?, h a.block hb]

theorem Ext.mapAt {w w' : World} (h : Ext w w') {r : Nat} {l : List (Value × Value)} (hc : mapAt w r = some l) : Fw.mapAt w' r = some l := by
  have hb : r < w.heap.size := by
    rcases Nat.lt_or_ge r w.heap.size with h' | h'
    · exact h'
    · simp [Fw.mapAt, Array.getElem?_eq_none h'] at hc
  rw [← hc]
  simp only [Fw.mapAt, h r hb]


theorem ba_beq (a b : ByteArray) : (a == b) = decide (a = b) := by
  cases a with | mk x => cases b with | mk y =>
  have h : ((⟨x⟩ : ByteArray) == ⟨y⟩) = (x == y) := rfl
  rw [h, Bool.eq_iff_iff]
  simp

theorem toList_beq (a b : ByteArray) : (a.toList == b.toList) = decide (a = b) := by
  rw [Bool.eq_iff_iff]
  simp only [beq_iff_eq, decide_eq_true_eq]
  constructor
  · intro h
    have h1 : a.data.toList = b.data.toList := by rw [← ByteArray.toList_eq, ← ByteArray.toList_eq]; exact h
    cases a; cases b
    simp at h1
    simp [h1]
  · rintro rfl; rfl

/-- An operation whose value hangs on memory. -/
def depOp : Op → Bool
  | .load _ _ | .lookup _ _ _ _ => true
  | _ => false

def Yld (P : Program) (w0 : World) (ρ : Env) (o : Oper) (v : Value) : Prop := ∀ w, (depOp o.op = true → Ext w0 w) → (execOp (ev ρ) o).run P w = .ok (.value v) w

theorem optK_inv {α : Type} {x : Option α} {k : α → Prop} (h : optK x k) : ∃ v, x = some v ∧ k v := by
  cases x with
  | none => exact h.elim
  | some v => exact ⟨v, rfl, h⟩
theorem ptrK_inv {v : Value} {k : Nat → Nat → Prop} (h : ptrK v k) : ∃ b o, v = .pointer (some ⟨b, o, none⟩) ∧ k b o := by
  unfold ptrK at h; split at h
  · exact ⟨_, _, rfl, h⟩
  · exact h.elim
theorem intK_inv {v : Value} {k : IntKind → Int → Prop} (h : intK v k) : ∃ q n, v = .int q n ∧ k q n := by
  unfold intK at h; split at h
  · exact ⟨_, _, rfl, h⟩
  · exact h.elim
theorem boolK_inv {v : Value} {k : Bool → Prop} (h : boolK v k) : ∃ b, v = .bool b ∧ k b := by
  unfold boolK at h; split at h
  · exact ⟨_, rfl, h⟩
  · exact h.elim
theorem strK_inv {v : Value} {k : ByteArray → Prop} (h : strK v k) : ∃ s, v = .string s ∧ k s := by
  unfold strK at h; split at h
  · exact ⟨_, rfl, h⟩
  · exact h.elim
theorem sliceK_inv {v : Value} {k : Option Addr → Nat → Nat → Prop} (h : sliceK v k) : ∃ a n c, v = .slice a n c ∧ k a n c := by
  unfold sliceK at h; split at h
  · exact ⟨_, _, _, rfl, h⟩
  · exact h.elim
theorem addrK_inv {a : Option Addr} {k : Nat → Nat → Prop} (h : addrK a k) : ∃ b o, a = some ⟨b, o, none⟩ ∧ k b o := by
  unfold addrK at h; split at h
  · exact ⟨_, _, rfl, h⟩
  · exact h.elim
theorem tupK_inv {v : Value} {k : Array Value → Prop} (h : tupK v k) : ∃ a, v = .tuple a ∧ k a := by
  unfold tupK at h; split at h
  · exact ⟨_, rfl, h⟩
  · exact h.elim
theorem mapK_inv {v : Value} {k : Nat → Prop} (h : mapK v k) : ∃ r, v = .map (some r) ∧ k r := by
  unfold mapK at h; split at h
  · exact ⟨_, rfl, h⟩
  · exact h.elim

theorem run_und {P : Program} {t : TypeId} {d : TypeDesc} (h : P.underlying t = some d) (w : World) : (underlying t).run P w = .ok d w := by
  simp [underlying, h]
theorem run_inf {P : Program} {t : TypeId} {i : TypeInfo} (h : P.info? t = some i) (w : World) : (typeInfo t).run P w = .ok i w := by
  simp [typeInfo, h]

theorem run_loadCellsFrom {P : Program} {w : World} {b o : Nat} : ∀ (n i : Nat) (acc : List Value) (k : List Value → Prop), rdK w b o n i acc k →
    ∃ l, k l ∧ ∀ w', Ext w w' → (loadCellsFrom ⟨b, o, none⟩ i n acc.toArray).run P w' = .ok l.toArray w'
  | 0, i, acc, k, h => ⟨acc, h, fun w' _ => by simp [loadCellsFrom]⟩
  | n + 1, i, acc, k, h => by
    obtain ⟨v, hv, h⟩ := optK_inv h
    obtain ⟨l, hl, hr⟩ := run_loadCellsFrom (P := P) n (i + 1) (acc ++ [v]) k h
    refine ⟨l, hl, fun w' hw => ?_⟩
    have hc := hw.cell hv
    have ha : (⟨b, o, none⟩ : Addr).add i = ⟨b, o + i, none⟩ := by
      unfold Addr.add; split
      · subst i; rfl
      · rfl
    have h2 := hr w' hw
    simp only [loadCellsFrom, Sem.run_bind, run_load, ha, hc, Result.andThen_ok, List.push_toArray]
    exact h2

theorem ld_sound {P : Program} {w : World} {t : TypeId} {b o : Nat} {k : Value → Prop} (h : ldK P w t b o k) :
    ∃ v, k v ∧ ∀ w', Ext w w' → (Instr.loadAt t (.pointer (some ⟨b, o, none⟩))).run P w' = .ok v w' := by
  obtain ⟨n, hn, h⟩ := optK_inv h
  have key : n ≠ 0 → (∃ l, k (.agg l) ∧ ∀ w', Ext w w' → (loadCells ⟨b, o, none⟩ n).run P w' = .ok l w') := by
    intro h0
    cases n with
    | zero => exact absurd rfl h0
    | succ n =>
      obtain ⟨l, hl, hr⟩ := run_loadCellsFrom (P := P) _ _ _ _ h
      exact ⟨_, hl, fun w' hw => hr w' hw⟩
  have agg : ∀ i : TypeInfo, P.info? t = some i → (if i.size = 0 then none else some i.size) = some n → n ≠ 0 ∧ i.size = n := by
    intro i _ he
    split at he
    · cases he
    · cases he; exact ⟨by assumption, rfl⟩
  unfold aggN at hn
  split at hn
  · rename_i fs hu
    cases hi : P.info? t with
    | none => simp [hi] at hn
    | some i =>
      simp only [hi, Option.bind_some] at hn
      obtain ⟨h0, hs⟩ := agg i hi hn
      obtain ⟨l, hl, hr⟩ := key h0
      refine ⟨_, hl, fun w' hw => ?_⟩
      simp [Instr.loadAt, Instr.sureAddr, loadVar, isAgg, run_und hu, sizeOf, run_inf hi, hs, hr w' hw]
  · rename_i ln el hu
    cases hi : P.info? t with
    | none => simp [hi] at hn
    | some i =>
      simp only [hi, Option.bind_some] at hn
      obtain ⟨h0, hs⟩ := agg i hi hn
      obtain ⟨l, hl, hr⟩ := key h0
      refine ⟨_, hl, fun w' hw => ?_⟩
      simp [Instr.loadAt, Instr.sureAddr, loadVar, isAgg, run_und hu, sizeOf, run_inf hi, hs, hr w' hw]
  · rename_i d g1 g2 hu
    cases hn
    obtain ⟨v, hv, hk⟩ := optK_inv h
    refine ⟨v, hk, fun w' hw => ?_⟩
    have hc := hw.cell hv
    have : (isAgg t).run P w' = .ok false w' := by
      unfold isAgg
      simp only [Sem.run_bind, run_und hu, Result.andThen_ok]
      cases d <;> first | rfl | exact absurd rfl (g1 _) | exact absurd rfl (g2 _ _)
    simp [Instr.loadAt, Instr.sureAddr, loadVar, this, hc]
  · cases hn

theorem add_mk (b o i : Nat) : (⟨b, o, none⟩ : Addr).add i = ⟨b, o + i, none⟩ := by
  unfold Addr.add; split
  · subst i; rfl
  · rfl

theorem fld_sound {P : Program} {T f d : Nat} (h : foff P T f = some d) (b o : Nat) (w : World) :
    (Instr.fieldAt T (.pointer (some ⟨b, o, none⟩)) f).run P w = .ok (.pointer (some ⟨b, o + d, none⟩)) w := by
  unfold foff at h
  split at h
  · rename_i fs hu
    split at h
    · rename_i fl hf
      split at h
      · rename_i i hi
        split at h
        · cases h
        · rename_i h0
          cases h
          simp [Instr.fieldAt, run_und hu, hf, Instr.sureAddr, fieldPlace, sizeOf, run_inf hi, h0, add_mk]
      · cases h
    · cases h
  · cases h

theorem idx_slice_sound {P : Program} {T sz : Nat} (h : slcN P T = some sz) (b o len cap : Nat) (q : IntKind) (n : Int) (h0 : 0 ≤ n) (h1 : n < len) (w : World) :
    (Instr.indexAt T (.slice (some ⟨b, o, none⟩) len cap) (.int q n)).run P w = .ok (.pointer (some ⟨b, o + n.toNat * sz, none⟩)) w := by
  unfold slcN at h
  split at h
  · rename_i e hu
    cases hi : P.info? e with
    | none => simp [hi] at h
    | some i =>
      simp only [hi, Option.map_some, Option.some.injEq] at h
      simp [Instr.indexAt, asIntOf, run_und hu, h0, h1, sizeOf, run_inf hi, h, add_mk]
  · cases h

theorem idx_array_sound {P : Program} {T : Nat} {ls : Nat × Nat} (h : arrN P T = some ls) (b o : Nat) (q : IntKind) (n : Int) (h0 : 0 ≤ n) (h1 : n < ls.1) (w : World) :
    (Instr.indexAt T (.pointer (some ⟨b, o, none⟩)) (.int q n)).run P w = .ok (.pointer (some ⟨b, o + n.toNat * ls.2, none⟩)) w := by
  unfold arrN at h
  split at h
  · rename_i l e hu
    cases hi : P.info? e with
    | none => simp [hi] at h
    | some i =>
      simp only [hi, Option.map_some, Option.some.injEq] at h
      subst h
      simp only at h1
      simp [Instr.indexAt, asIntOf, Instr.sureAddr, run_und hu, h0, h1, sizeOf, run_inf hi, add_mk]
  · cases h

theorem eqGuard_run {P : Program} {op : BinOp} {t : TypeId} {x y : Operand} {a b : Value} {w : World} (h1 : a ≠ .nilIface) (h2 : ∀ c, a ≠ .agg c) : (eqGuard op t x y a b).run P w = .ok () w := by
  cases a <;> first
    | exact absurd rfl h1
    | exact absurd rfl (h2 _)
    | (unfold eqGuard; cases op <;> rfl)

theorem equal_bool {P : Program} {t : TypeId} (h : P.underlying t = some .bool) (a b : Bool) (w : World) : (Op.equal t (.bool a) (.bool b)).run P w = .ok (a == b) w := by
  show (Op.equalIn (9999 + 1) t (.bool a) (.bool b)).run P w = _
  unfold Op.equalIn
  rw [Sem.run_bind, run_und h]
  rfl
theorem equal_ptr {P : Program} {t e : TypeId} (h : P.underlying t = some (.pointer e)) (a : Option Addr) (w : World) : (Op.equal t (.pointer a) (.pointer none)).run P w = .ok a.isNone w := by
  show (Op.equalIn (9999 + 1) t (.pointer a) (.pointer none)).run P w = _
  unfold Op.equalIn
  rw [Sem.run_bind, run_und h]
  cases a <;> rfl
theorem equal_slice {P : Program} {t e : TypeId} (h : P.underlying t = some (.slice e)) (a : Option Addr) (n c m d : Nat) (w : World) : (Op.equal t (.slice a n c) (.slice none m d)).run P w = .ok a.isNone w := by
  show (Op.equalIn (9999 + 1) t (.slice a n c) (.slice none m d)).run P w = _
  unfold Op.equalIn
  rw [Sem.run_bind, run_und h]
  cases a <;> rfl
theorem binOp_eql_of {P : Program} {t : TypeId} {x y : Value} {b : Bool} {w : World} (h1 : binOp .eql t x y = (do pure (.bool (← Op.equal t x y)))) (h : (Op.equal t x y).run P w = .ok b w) : (binOp .eql t x y).run P w = .ok (.bool b) w := by
  rw [h1, Sem.run_bind, h]; rfl
theorem binOp_neq_of {P : Program} {t : TypeId} {x y : Value} {b : Bool} {w : World} (h1 : binOp .neq t x y = (do pure (.bool (!(← Op.equal t x y))))) (h : (Op.equal t x y).run P w = .ok b w) : (binOp .neq t x y).run P w = .ok (.bool !b) w := by
  rw [h1, Sem.run_bind, h]; rfl

theorem bin_sound {P : Program} {op : BinOp} {t : TypeId} {x y : Operand} {a b : Value} {k : Value → Prop} (h : binK P op t a b k) :
    ∃ v, k v ∧ ∀ w, (do eqGuard op t x y a b; binOp op t a b : Sem Value).run P w = .ok v w := by
  have g : ∀ {w : World} {v : Value}, a ≠ .nilIface → (∀ c, a ≠ .agg c) → (binOp op t a b).run P w = .ok v w → (do eqGuard op t x y a b; binOp op t a b : Sem Value).run P w = .ok v w := by
    intro w v h1 h2 h3
    rw [Sem.run_bind, eqGuard_run h1 h2]
    exact h3
  unfold binK at h
  split at h
  · obtain ⟨rfl, hr, hk⟩ := h
    exact ⟨_, hk, fun w => g (by simp) (by simp) (by simp [binOp, Op.intArith, wrap_inR hr])⟩
  · obtain ⟨rfl, hr, hk⟩ := h
    exact ⟨_, hk, fun w => g (by simp) (by simp) (by simp [binOp, Op.intArith, wrap_inR hr])⟩
  · obtain ⟨rfl, hr, hk⟩ := h
    exact ⟨_, hk, fun w => g (by simp) (by simp) (by simp [binOp, Op.intArith, wrap_inR hr])⟩
  · obtain ⟨rfl, hk⟩ := h
    refine ⟨_, hk, fun w => g (by simp) (by simp) ?_⟩
    simp only [binOp, ne_eq, not_true_eq_false, if_false, Op.intCmp, Sem.run_pure]
    congr 2
  · obtain ⟨rfl, hk⟩ := h
    refine ⟨_, hk, fun w => g (by simp) (by simp) ?_⟩
    simp only [binOp, ne_eq, not_true_eq_false, if_false, Op.intCmp, Sem.run_pure]
    congr 2
    rw [Bool.eq_iff_iff]; simp
  · obtain ⟨rfl, hk⟩ := h
    exact ⟨_, hk, fun w => g (by simp) (by simp) (by simp [binOp, Op.intCmp])⟩
  · obtain ⟨rfl, hk⟩ := h
    exact ⟨_, hk, fun w => g (by simp) (by simp) (by simp [binOp, Op.intCmp])⟩
  · obtain ⟨rfl, hk⟩ := h
    exact ⟨_, hk, fun w => g (by simp) (by simp) (by simp [binOp, Op.intCmp])⟩
  · obtain ⟨rfl, hk⟩ := h
    exact ⟨_, hk, fun w => g (by simp) (by simp) (by simp [binOp, Op.intCmp])⟩
  · exact ⟨_, h, fun w => g (by simp) (by simp) (by simp [binOp, Op.stringOp, toList_beq])⟩
  · exact ⟨_, h, fun w => g (by simp) (by simp) (by simp [binOp, Op.stringOp, toList_beq])⟩
  · obtain ⟨hr, hk⟩ := h
    refine ⟨_, hk, fun w => g (by simp) (by simp) ?_⟩
    simp only [binOp, Op.stringOp]
    rw [if_neg (by simp [IntKind.max, IntKind.bits, IntKind.signed]; omega)]
    rfl
  · obtain ⟨hr, hk⟩ := h
    rename_i a b
    have e : decide (a = b) = (a == b) := by cases a <;> cases b <;> rfl
    rw [e] at hk
    exact ⟨_, hk, fun w => g (by simp) (by simp) (binOp_eql_of rfl (equal_bool hr _ _ _))⟩
  · obtain ⟨hr, hk⟩ := h
    rename_i a b
    have e : decide (a ≠ b) = !(a == b) := by cases a <;> cases b <;> rfl
    rw [e] at hk
    exact ⟨_, hk, fun w => g (by simp) (by simp) (binOp_neq_of rfl (equal_bool hr _ _ _))⟩
  · obtain ⟨⟨e, hr⟩, hk⟩ := h
    exact ⟨_, hk, fun w => g (by simp) (by simp) (binOp_eql_of rfl (equal_ptr hr _ _))⟩
  · obtain ⟨⟨e, hr⟩, hk⟩ := h
    rename_i a
    have e : a.isSome = !a.isNone := by cases a <;> rfl
    rw [e] at hk
    exact ⟨_, hk, fun w => g (by simp) (by simp) (binOp_neq_of rfl (equal_ptr hr _ _))⟩
  · obtain ⟨⟨e, hr⟩, hk⟩ := h
    exact ⟨_, hk, fun w => g (by simp) (by simp) (binOp_eql_of rfl (equal_slice hr _ _ _ _ _ _))⟩
  · obtain ⟨⟨e, hr⟩, hk⟩ := h
    rename_i a _ _ _ _
    have e : a.isSome = !a.isNone := by cases a <;> rfl
    rw [e] at hk
    exact ⟨_, hk, fun w => g (by simp) (by simp) (binOp_neq_of rfl (equal_slice hr _ _ _ _ _ _))⟩
  · exact h.elim

theorem len_sound {P : Program} {ty t2 : TypeId} {v : Value} {k : Value → Prop} {as : Array Value} {ts : Array TypeId} (ha : as[0]? = some v) (ht : ts[0]? = some ty) (h : lenK P ty v k) :
    ∃ u, k u ∧ ∀ w, (Builtin.len_ ts t2 as).run P w = .ok u w := by
  unfold lenK at h
  split at h
  · obtain ⟨⟨e, hu⟩, hk⟩ := h
    exact ⟨_, hk, fun w => by simp [Builtin.len_, ha, ht, run_und hu, goInt]⟩
  · obtain ⟨hu, hk⟩ := h
    exact ⟨_, hk, fun w => by simp [Builtin.len_, ha, ht, run_und hu, goInt]⟩
  · exact h.elim

theorem find_sound {s : ByteArray} : ∀ (es : List MapEntry) (i : Nat) (u : Option Value), findS (es.map fun e => (e.key, e.val)) s = some u →
    ∃ r, Instr.findNow .string (.string s) es i = some r ∧ r.map (·.2) = u
  | [], i, u, h => by simp [findS] at h; exact ⟨none, rfl, by simp [h]⟩
  | e :: es, i, u, h => by
    obtain ⟨ek, evl, bn⟩ := e
    simp only [List.map_cons] at h
    cases ek
    case string t =>
      by_cases hst : s = t
      · subst hst
        simp [findS, ba_beq] at h
        exact ⟨some (i, evl), by simp [Instr.findNow, Instr.sameNow, ba_beq], by simp [h]⟩
      · have hb : (s == t) = false := by simpa [ba_beq] using hst
        rw [findS, hb] at h
        obtain ⟨r, h1, h2⟩ := find_sound es (i + 1) u h
        refine ⟨r, ?_, h2⟩
        rw [Instr.findNow]
        simp only [Instr.sameNow, hb]
        exact h1
    all_goals (simp [findS] at h; done)

theorem checkKey_string {P : Program} {kt : TypeId} (hk : P.underlying kt = some .string) (b : Bool) (s : ByteArray) (w : World) : (Instr.checkKey b 10000 kt (.string s)).run P w = .ok () w := by
  show (Instr.checkKey b (9999 + 1) kt (.string s)).run P w = _
  unfold Instr.checkKey
  rw [Sem.run_bind, run_und hk]
  rfl

theorem lookup_sound {P : Program} {T r : Nat} {s : ByteArray} {z : Value} {l : List (Value × Value)} {u : Option Value} {w : World} (ok : Bool)
    (hz : mapZ P T = some z) (hl : mapAt w r = some l) (hu : findS l s = some u) :
    (Instr.lookup T (.map (some r)) (.string s) ok).run P w = .ok (if ok then .tuple #[u.getD z, .bool u.isSome] else u.getD z) w := by
  unfold mapZ at hz
  split at hz
  · rename_i kt et hT
    split at hz
    · rename_i hk
      unfold mapAt at hl
      split at hl
      · rename_i es clk hh
        cases hl
        obtain ⟨q, h1, h2⟩ := find_sound es.toList 0 u hu
        have hgo : (getObj r).run P w = .ok (.map es clk) w := by simp only [getObj, Sem.run, hh]
        have hck : (Instr.checkKey es.isEmpty 10000 kt (.string s)).run P w = .ok () w := checkKey_string hk _ _ _
        have hfk : (Instr.findKey kt (.string s) es.toList).run P w = .ok q w := by simp [Instr.findKey, run_und hk, h1]
        have hzv : (zeroValue et).run P w = .ok z w := by
          unfold zeroOf at hz
          cases hi : P.info? et with
          | none => simp [hi] at hz
          | some i =>
            simp only [hi, Option.bind_some] at hz
            simp [zeroValue, run_inf hi, hz]
        unfold Instr.lookup
        simp only [Sem.run_bind, run_und hT, Result.andThen_ok, hgo, Sem.run_pure, hck, hfk]
        cases q with
        | none => subst h2; cases ok <;> simp [hzv]
        | some q => subst h2; cases ok <;> simp
      · cases hl
    · cases hz
  · cases hz

theorem slice_sound {P : Program} {T sz : Nat} (h : slcN P T = some sz) (a : Option Addr) (len cap : Nat) (q1 q2 : IntKind) (l hh : Int) (h0 : 0 ≤ l) (h1 : l ≤ hh) (h2 : hh ≤ cap) (w : World) :
    (Instr.sliceAt T (.slice a len cap) (some (.int q1 l)) (some (.int q2 hh)) none).run P w = .ok (.slice (if cap = l.toNat then a else a.map (·.add (l.toNat * sz))) (hh.toNat - l.toNat) (cap - l.toNat)) w := by
  unfold slcN at h
  split at h
  · rename_i e hu
    cases hi : P.info? e with
    | none => simp [hi] at h
    | some i =>
      simp only [hi, Option.map_some, Option.some.injEq] at h
      have h3 : (0 : Int) ≤ hh := by omega
      have h4 : ¬ max hh 0 < l := by omega
      simp [Instr.sliceAt, Instr.slice, Instr.sliceBounds, Instr.sliceBound, asIntOf, run_und hu, h0, h2, h3, h4, sizeOf, run_inf hi, h]
  · cases h

theorem addr_add0 (a : Option Addr) : a.map (·.add 0) = a := by
  cases a with
  | none => rfl
  | some a => simp [Addr.add]
theorem slice_sound0 {P : Program} {T sz : Nat} (h : slcN P T = some sz) (a : Option Addr) (len cap : Nat) (q2 : IntKind) (hh : Int) (h1 : 0 ≤ hh) (h2 : hh ≤ cap) (w : World) :
    (Instr.sliceAt T (.slice a len cap) none (some (.int q2 hh)) none).run P w = .ok (.slice a hh.toNat cap) w := by
  unfold slcN at h
  split at h
  · rename_i e hu
    cases hi : P.info? e with
    | none => simp [hi] at h
    | some i =>
      simp only [hi, Option.map_some, Option.some.injEq] at h
      simp [Instr.sliceAt, Instr.slice, Instr.sliceBounds, Instr.sliceBound, asIntOf, run_und hu, h1, h2, sizeOf, run_inf hi, h, addr_add0]
  · cases h

theorem px_sound {P : Program} {w0 : World} {ρ : Env} {k : Value → Prop} {o : Oper} (h : px P w0 ρ o.op k) : ∃ v, k v ∧ Yld P w0 ρ o v := by
  obtain ⟨dst, op, type, pos, after, guard⟩ := o
  simp only at h
  unfold px at h
  split at h
  · exact ⟨_, h, fun w _ => by simp [execOp]⟩
  · exact ⟨_, h, fun w _ => by simp [execOp]⟩
  · obtain ⟨t, ht, h⟩ := boolK_inv h
    refine ⟨_, h, fun w _ => ?_⟩
    cases t <;> simp [execOp, ht, asBool]
  · obtain ⟨b, o, hx, h⟩ := ptrK_inv h
    exact ⟨_, h, fun w _ => by simp [execOp, hx]⟩
  · obtain ⟨b, o, hx, h⟩ := ptrK_inv h
    obtain ⟨v, hk, hr⟩ := ld_sound h
    exact ⟨v, hk, fun w hw => by simp [execOp, hx, hr w (hw rfl)]⟩
  · obtain ⟨b, o, hx, h⟩ := ptrK_inv h
    obtain ⟨d, hd, h⟩ := optK_inv h
    exact ⟨_, h, fun w hw => by simp [execOp, hx, fld_sound hd]⟩
  · obtain ⟨q, n, hi, h⟩ := intK_inv h
    split at h
    · rename_i sz hs
      obtain ⟨a, len, cap, hx, h⟩ := sliceK_inv h
      obtain ⟨b, o, rfl, h0, h1, h⟩ := addrK_inv h
      exact ⟨_, h, fun w hw => by simp [execOp, hx, hi, idx_slice_sound hs b o len cap q n h0 h1]⟩
    · obtain ⟨ls, hls, h⟩ := optK_inv h
      obtain ⟨b, o, hx, h0, h1, h⟩ := ptrK_inv h
      exact ⟨_, h, fun w hw => by simp [execOp, hx, hi, idx_array_sound hls b o q n h0 h1]⟩
  · obtain ⟨v, hk, hr⟩ := bin_sound h
    refine ⟨v, hk, fun w hw => ?_⟩
    have := hr w
    simp only [execOp]
    rw [Sem.run_bind, this]
    rfl
  · obtain ⟨t, ht, h⟩ := boolK_inv h
    exact ⟨_, h, fun w _ => by simp [execOp, ht, Op.unary]⟩
  · rename_i st tt _
    obtain ⟨q, n, hx, h⟩ := intK_inv h
    split at h
    · rename_i q' hq
      obtain ⟨h1, h2, h⟩ := h
      refine ⟨_, h, fun w _ => ?_⟩
      cases hs : P.underlying st with
      | none => exact absurd hs h1
      | some d => cases d <;> simp [execOp, hx, convert, run_und hs, run_und hq, Conv.intToInt, wrap_inR h2]
    · exact h.elim
  · obtain ⟨a, len, cap, hx, h⟩ := sliceK_inv h
    obtain ⟨q1, l, hl, h⟩ := intK_inv h
    obtain ⟨q2, hh, hhi, h⟩ := intK_inv h
    obtain ⟨sz, hs, h0, h1, h2, h⟩ := optK_inv h
    exact ⟨_, h, fun w _ => by simp [execOp, hx, hl, hhi, slice_sound hs a len cap q1 q2 l hh h0 h1 h2]⟩
  · obtain ⟨a, len, cap, hx, h⟩ := sliceK_inv h
    obtain ⟨q2, hh, hhi, h⟩ := intK_inv h
    obtain ⟨sz, hs, h1, h2, h⟩ := optK_inv h
    exact ⟨_, h, fun w _ => by simp [execOp, hx, hhi, slice_sound0 hs a len cap q2 hh h1 h2]⟩
  · obtain ⟨a, ha, h⟩ := tupK_inv h
    obtain ⟨v, hv, h⟩ := optK_inv h
    exact ⟨_, h, fun w _ => by simp [execOp, ha, Instr.extract, hv]⟩
  · obtain ⟨r, hr, h⟩ := mapK_inv h
    obtain ⟨s, hs, h⟩ := strK_inv h
    obtain ⟨z, hz, h⟩ := optK_inv h
    obtain ⟨l, hl, h⟩ := optK_inv h
    obtain ⟨u, hu, h⟩ := optK_inv h
    exact ⟨_, h, fun w hw => by simp only [execOp, hr, hs, Sem.run_bind, lookup_sound _ hz ((hw rfl).mapAt hl) hu, Result.andThen_ok, Sem.run_pure]⟩
  · obtain ⟨v, hr, h⟩ := h
    exact ⟨v, h, fun w _ => by simp only [execOp, Sem.run_bind, hr w, Result.andThen_ok, Sem.run_pure]⟩
  · rename_i as ts
    obtain ⟨x, hx, h⟩ := optK_inv h
    obtain ⟨ty, hty, h⟩ := optK_inv h
    obtain ⟨u, hk, hr⟩ := len_sound (as := as.map (ev ρ)) (ts := ts) (t2 := type) (by simp [hx]) hty h
    refine ⟨u, hk, fun w _ => ?_⟩
    simp only [execOp, resolve, Sem.run_bind, Sem.run_pure, Result.andThen_ok, invoke, builtin, hr w]
  · exact h.elim
end Fw
end Go.Proofs.Qxb6001426a
