/- What each operation of this program gives, in a frame that is known; conditions: none. -/
import Derived.Test.YtifnodoffgfpbaaGreatDoorMem
import Derived.Deep.AppendSrc
import Derived.Lib.SlBytesIndexEntry
namespace Go.Proofs.YtifnodoffgfpbaaGreatDoor
open Go

/-! ### closed facts on types, as Bools -/
def oneB (P : Program) (T : TypeId) : Bool := match P.underlying T with
  | some d => !d.isRow
  | none => false
def rowB (P : Program) (T : TypeId) (k : Nat) : Bool := match P.underlying T with
  | some d => d.isRow && ((P.info? T).map (·.size) == some k)
  | none => false
def szB (P : Program) (T : TypeId) (k : Nat) : Bool := (P.info? T).map (·.size) == some k
def fldB (P : Program) (S : TypeId) (i k : Nat) : Bool := match P.underlying S with
  | some (.struct fs) => match fs[i]? with
    | some f => f.offset == k && (match P.info? f.type with
      | some j => j.size != 0
      | none => false)
    | none => false
  | _ => false
def slcB (P : Program) (T E : TypeId) : Bool := match P.underlying T with
  | some (.slice e) => e == E
  | _ => false
def arrB (P : Program) (T : TypeId) (n : Nat) (E : TypeId) : Bool := match P.underlying T with
  | some (.array m e) => m == n && e == E
  | _ => false
def strB (P : Program) (T : TypeId) : Bool := match P.underlying T with
  | some .string => true
  | _ => false
def intB (P : Program) (T : TypeId) (k : IntKind) : Bool := match P.underlying T with
  | some (.int j) => j == k
  | _ => false
def hasB (P : Program) (T : TypeId) : Bool := (P.underlying T).isSome
def notIfB (P : Program) (T : TypeId) : Bool := match P.underlying T with
  | some (.interface _) => false
  | some _ => true
  | none => false
def Inf (P : Program) (e : TypeId) (z : Value) (size bytes : Nat) : Prop := ∃ i, P.info? e = some i ∧ i.zero = some z ∧ i.size = size ∧ i.bytes = bytes
theorem inf_of {P : Program} {e : TypeId} {z : Value} {size bytes : Nat} (h : (P.info? e).map (fun i => (i.zero, i.size, i.bytes)) = some (some z, size, bytes)) : Inf P e z size bytes := by
  cases hi : P.info? e with
  | none => rw [hi] at h; simp at h
  | some i => rw [hi] at h; simp at h; exact ⟨i, hi, h.1, h.2.1, h.2.2⟩
def callB (P : Program) (f : FuncId) : Bool := match P.funcs[f]? with
  | some fn => !(fn.name == "runtime.NumGoroutine") && fn.body.isSome
  | none => false

theorem slcB_spec {P : Program} {T E : TypeId} (h : slcB P T E = true) : P.underlying T = some (.slice E) := by
  unfold slcB at h
  split at h
  · rename_i e he; rw [he]; have := beq_iff_eq.1 h; subst this; rfl
  · cases h
theorem arrB_spec {P : Program} {T E : TypeId} {n : Nat} (h : arrB P T n E = true) : P.underlying T = some (.array n E) := by
  unfold arrB at h
  split at h
  · rename_i m e he; rw [he]; simp only [Bool.and_eq_true, beq_iff_eq] at h; obtain ⟨rfl, rfl⟩ := h; rfl
  · cases h
theorem strB_spec {P : Program} {T : TypeId} (h : strB P T = true) : P.underlying T = some .string := by
  unfold strB at h
  split at h
  · assumption
  · cases h
theorem intB_spec {P : Program} {T : TypeId} {k : IntKind} (h : intB P T k = true) : P.underlying T = some (.int k) := by
  unfold intB at h
  split at h
  · rename_i j he; rw [he]; have := beq_iff_eq.1 h; subst this; rfl
  · cases h
theorem rowB_spec {P : Program} {T : TypeId} {k : Nat} (h : rowB P T k = true) : ∃ d, P.underlying T = some d ∧ d.isRow = true ∧ (P.info? T).map (·.size) = some k := by
  unfold rowB at h
  split at h
  · rename_i d he; simp only [Bool.and_eq_true, beq_iff_eq] at h; exact ⟨d, he, h.1, h.2⟩
  · cases h
theorem oneB_spec {P : Program} {T : TypeId} (h : oneB P T = true) : ∃ d, P.underlying T = some d ∧ d.isRow = false := by
  unfold oneB at h
  split at h
  · rename_i d he; exact ⟨d, he, by simpa using h⟩
  · cases h
theorem szB_spec {P : Program} {T : TypeId} {k : Nat} (h : szB P T k = true) : (P.info? T).map (·.size) = some k := by simpa [szB] using h

/-- results that are told -/
def ExK (P : Program) (n : Nat) (l : List (Nat × Value)) (op : Op) (ty : TypeId) (w : World) (R : Value → World → Prop) : Prop := ∃ v w', Ex P n l op ty w v w' ∧ R v w'
def ExUK (P : Program) (n : Nat) (l : List (Nat × Value)) (op : Op) (ty : TypeId) (w : World) (R : World → Prop) : Prop := ∃ w', ExU P n l op ty w w' ∧ R w'

section
variable {P : Program} {ops : Array Oper} {Q : Exit → Act → World → Prop} {n : Nat} {l : List (Nat × Value)} {r : Nat → Value} {w : World}
  {op : Op} {ty : TypeId} {pos : String} {af : Array Edge} {d i : Nat}
theorem svK {rest : List Oper} {R : Value → World → Prop} (h : ExK P n l op ty w R) (k : ∀ v w', R v w' → WL P ops Q rest (env n ((d, v) :: l) r) w') : WL P ops Q (⟨some d, op, ty, pos, af, none⟩ :: rest) (env n l r) w := by
  obtain ⟨v, w', h1, h2⟩ := h
  exact sv h1 (k v w' h2)
theorem suK {rest : List Oper} {R : World → Prop} (h : ExUK P n l op ty w R) (k : ∀ w', R w' → WL P ops Q rest (env n l r) w') : WL P ops Q (⟨none, op, ty, pos, af, none⟩ :: rest) (env n l r) w := by
  obtain ⟨w', h1, h2⟩ := h
  exact su h1 (k w' h2)
theorem hlK {S : World → Prop} {rest : List (Nat × Kd)} {R : Value → World → Prop} (ho : ops[i]? = some ⟨some d, op, ty, pos, af, none⟩) (h : ExK P n l op ty w R)
    (k : ∀ v w', R v w' → S w' ∧ runH P ops Q S rest (env n ((d, v) :: l) r) w') : runH P ops Q S ((i, .ld) :: rest) (env n l r) w := by
  obtain ⟨v, w', h1, h2⟩ := h
  exact hl ho h1 (k v w' h2).1 (k v w' h2).2
theorem hluK {S : World → Prop} {rest : List (Nat × Kd)} {R : World → Prop} (ho : ops[i]? = some ⟨none, op, ty, pos, af, none⟩) (h : ExUK P n l op ty w R)
    (k : ∀ w', R w' → S w' ∧ runH P ops Q S rest (env n l r) w') : runH P ops Q S ((i, .ld) :: rest) (env n l r) w := by
  obtain ⟨w', h1, h2⟩ := h
  exact hlu ho h1 (k w' h2).1 (k w' h2).2
theorem blK {S : World → Prop} {rest : List (Nat × Kd)} {R : Value → World → Prop} (ho : ops[i]? = some ⟨some d, op, ty, pos, af, none⟩) (h : ExK P n l op ty w R)
    (k : ∀ v w', R v w' → runH P ops Q S rest (env n ((d, v) :: l) r) w') : runH P ops Q S ((i, .bh) :: rest) (env n l r) w := by
  obtain ⟨v, w', h1, h2⟩ := h
  exact bl ho h1 (k v w' h2)
theorem bluK {S : World → Prop} {rest : List (Nat × Kd)} {R : World → Prop} (ho : ops[i]? = some ⟨none, op, ty, pos, af, none⟩) (h : ExUK P n l op ty w R)
    (k : ∀ w', R w' → runH P ops Q S rest (env n l r) w') : runH P ops Q S ((i, .bh) :: rest) (env n l r) w := by
  obtain ⟨w', h1, h2⟩ := h
  exact blu ho h1 (k w' h2)
end

theorem w64 {c : Int} (h1 : -9223372036854775808 ≤ c) (h2 : c ≤ 9223372036854775807) : IntKind.i64.wrap c = c := by
  have e1 : (2 : Int) ^ 64 = 18446744073709551616 := by decide
  have e2 : (2 : Int) ^ (64 - 1) = 9223372036854775808 := by decide
  have : IntKind.i64.wrap c = if c % 2 ^ 64 ≥ (2 : Int) ^ (64 - 1) then c % 2 ^ 64 - 2 ^ 64 else c % 2 ^ 64 := by
    simp [IntKind.wrap, IntKind.bits, IntKind.signed]
  rw [this, e1, e2]
  split <;> omega
theorem wu8 {c : Int} (h1 : 0 ≤ c) (h2 : c < 256) : IntKind.u8.wrap c = c := by
  simp only [IntKind.wrap, IntKind.bits, IntKind.signed]; simp; omega
theorem wu16 {c : Int} (h1 : 0 ≤ c) (h2 : c < 65536) : IntKind.u16.wrap c = c := by
  simp only [IntKind.wrap, IntKind.bits, IntKind.signed]; simp; omega
theorem wu32 {c : Int} (h1 : 0 ≤ c) (h2 : c < 4294967296) : IntKind.u32.wrap c = c := by
  simp only [IntKind.wrap, IntKind.bits, IntKind.signed]; simp; omega
theorem wu64 {c : Int} (h1 : 0 ≤ c) (h2 : c < 18446744073709551616) : IntKind.u64.wrap c = c := by
  simp only [IntKind.wrap, IntKind.bits, IntKind.signed]; simp; omega
theorem wu8m (c : Int) : IntKind.u8.wrap c = c % 256 := by simp only [IntKind.wrap, IntKind.bits, IntKind.signed]; simp
theorem wu16m (c : Int) : IntKind.u16.wrap c = c % 65536 := by simp only [IntKind.wrap, IntKind.bits, IntKind.signed]; simp
theorem wu32m (c : Int) : IntKind.u32.wrap c = c % 4294967296 := by simp only [IntKind.wrap, IntKind.bits, IntKind.signed]; simp

section
variable {P : Program} {n : Nat} {l : List (Nat × Value)} {w : World} {ty : TypeId} {x y : Operand} {v : Value}

theorem xmove (h : ev n l x = some v) : Ex P n l (.move x) ty w v w := fun r _ _ _ _ => by simp only [execOp, ev_eval r h]; rfl
theorem xassign (h : ev n l x = some v) : Ex P n l (.assign x) ty w v w := fun r _ _ _ _ => by simp only [execOp, ev_eval r h]; rfl
theorem xpickT {c : Operand} (hc : ev n l c = some (.bool true)) (h : ev n l x = some v) : Ex P n l (.pick c x y) ty w v w := fun r _ _ _ _ => by
  simp only [execOp, ev_eval r h, ev_eval r hc]; rfl
theorem xpickF {c : Operand} (hc : ev n l c = some (.bool false)) (h : ev n l y = some v) : Ex P n l (.pick c x y) ty w v w := fun r _ _ _ _ => by
  simp only [execOp, ev_eval r h, ev_eval r hc]; rfl
/-- an operation on two values -/
theorem xbin {b : BinOp} {T U : TypeId} {u : Value} (hx : ev n l x = some v) (hy : ev n l y = some u) {t : Value} (hg : (eqGuard b T x y v u).run P w = .ok () w) (hr : (binOp b T v u).run P w = .ok t w) :
    Ex P n l (.binOp b T x y U) ty w t w := fun r _ _ _ _ => by
  simp only [execOp, ev_eval r hx, ev_eval r hy]
  simp [hg, hr]
theorem xadd {T U : TypeId} {k : IntKind} {a b c : Int} (hx : ev n l x = some (.int k a)) (hy : ev n l y = some (.int k b)) (hw : k.wrap (a + b) = c) : Ex P n l (.binOp .add T x y U) ty w (.int k c) w :=
  xbin hx hy rfl (by simp [binOp, Op.intArith, hw])
theorem xsub {T U : TypeId} {k : IntKind} {a b c : Int} (hx : ev n l x = some (.int k a)) (hy : ev n l y = some (.int k b)) (hw : k.wrap (a - b) = c) : Ex P n l (.binOp .sub T x y U) ty w (.int k c) w :=
  xbin hx hy rfl (by simp [binOp, Op.intArith, hw])
theorem xmul {T U : TypeId} {k : IntKind} {a b c : Int} (hx : ev n l x = some (.int k a)) (hy : ev n l y = some (.int k b)) (hw : k.wrap (a * b) = c) : Ex P n l (.binOp .mul T x y U) ty w (.int k c) w :=
  xbin hx hy rfl (by simp [binOp, Op.intArith, hw])
theorem xlss {T U : TypeId} {k : IntKind} {a b : Int} (hx : ev n l x = some (.int k a)) (hy : ev n l y = some (.int k b)) : Ex P n l (.binOp .lss T x y U) ty w (.bool (decide (a < b))) w :=
  xbin hx hy rfl (by simp [binOp, Op.intCmp])
theorem xleq {T U : TypeId} {k : IntKind} {a b : Int} (hx : ev n l x = some (.int k a)) (hy : ev n l y = some (.int k b)) : Ex P n l (.binOp .leq T x y U) ty w (.bool (decide (a ≤ b))) w :=
  xbin hx hy rfl (by simp [binOp, Op.intCmp])
theorem xgtr {T U : TypeId} {k : IntKind} {a b : Int} (hx : ev n l x = some (.int k a)) (hy : ev n l y = some (.int k b)) : Ex P n l (.binOp .gtr T x y U) ty w (.bool (decide (b < a))) w :=
  xbin hx hy rfl (by simp [binOp, Op.intCmp])
theorem xgeq {T U : TypeId} {k : IntKind} {a b : Int} (hx : ev n l x = some (.int k a)) (hy : ev n l y = some (.int k b)) : Ex P n l (.binOp .geq T x y U) ty w (.bool (decide (b ≤ a))) w :=
  xbin hx hy rfl (by simp [binOp, Op.intCmp])
theorem xeql {T U : TypeId} {k : IntKind} {a b : Int} (hx : ev n l x = some (.int k a)) (hy : ev n l y = some (.int k b)) : Ex P n l (.binOp .eql T x y U) ty w (.bool (decide (a = b))) w :=
  xbin hx hy rfl (by simp only [binOp, Op.intCmp]; simp; rfl)
theorem xneq {T U : TypeId} {k : IntKind} {a b : Int} (hx : ev n l x = some (.int k a)) (hy : ev n l y = some (.int k b)) : Ex P n l (.binOp .neq T x y U) ty w (.bool (decide (a ≠ b))) w :=
  xbin hx hy rfl (by
    have : decide (a ≠ b) = (a != b) := by by_cases h : a = b <;> simp [h]
    rw [this]
    simp [binOp, Op.intCmp])
theorem tl_eq (s : ByteArray) : s.toList = s.data.toList := ByteArray.toList_eq s
theorem str_eq (a b : ByteArray) : (a.toList == b.toList) = decide (a = b) := by
  by_cases h : a = b
  · subst h; simp
  · rw [decide_eq_false h]
    rw [beq_eq_false_iff_ne]
    intro e
    apply h
    have : a.data.toList = b.data.toList := by rw [← tl_eq, ← tl_eq, e]
    cases a; cases b
    simp at this
    simp [this]
theorem xeqs {T U : TypeId} {a b : ByteArray} (hx : ev n l x = some (.string a)) (hy : ev n l y = some (.string b)) : Ex P n l (.binOp .eql T x y U) ty w (.bool (decide (a = b))) w :=
  xbin hx hy rfl (by rw [← str_eq]; simp [binOp, Op.stringOp])
theorem xnes {T U : TypeId} {a b : ByteArray} (hx : ev n l x = some (.string a)) (hy : ev n l y = some (.string b)) : Ex P n l (.binOp .neq T x y U) ty w (.bool (decide (a ≠ b))) w :=
  xbin hx hy rfl (by
    have : decide (a ≠ b) = !(decide (a = b)) := by by_cases h : a = b <;> simp [h]
    rw [this, ← str_eq]
    simp [binOp, Op.stringOp])
theorem xnot {T : TypeId} {b : Bool} (hx : ev n l x = some (.bool b)) : Ex P n l (.unOp .not T x) ty w (.bool (!b)) w := fun r _ _ _ _ => by
  simp only [execOp, ev_eval r hx]; rfl
theorem xconv {S D : TypeId} {k j : IntKind} {a c : Int} (hS : hasB P S = true) (hD : intB P D k = true) (hx : ev n l x = some (.int j a)) (hw : k.wrap a = c) : Ex P n l (.convert S D x) ty w (.int k c) w := fun r _ _ _ _ => by
  cases hs : P.underlying S with
  | none => rw [hasB, hs] at hS; cases hS
  | some ds =>
    simp only [execOp, ev_eval r hx]
    simp [convert, run_underlying hs, run_underlying (intB_spec hD), Conv.intToInt, hw]
theorem xlen {T E : TypeId} {a : Option Addr} {m c : Nat} (hT : slcB P T E = true) (hx : ev n l x = some (.slice a m c)) :
    Ex P n l (.call { callee := .builtin .len, args := #[x], argTypes := #[T] }) ty w (.int .i64 m) w := fun r _ _ _ _ => by
  simp only [execOp]
  simp [resolve, invoke, builtin, Builtin.len_, ev_eval r hx, run_underlying (slcB_spec hT), goInt]
theorem xlenS {T : TypeId} {s : ByteArray} (hT : strB P T = true) (hx : ev n l x = some (.string s)) :
    Ex P n l (.call { callee := .builtin .len, args := #[x], argTypes := #[T] }) ty w (.int .i64 s.size) w := fun r _ _ _ _ => by
  simp only [execOp]
  simp [resolve, invoke, builtin, Builtin.len_, ev_eval r hx, run_underlying (strB_spec hT), goInt]
theorem xnilc {a : Addr} (hx : ev n l x = some (.pointer (some a))) : Ex P n l (.nilCheck x) ty w (.pointer (some a)) w := fun r _ _ _ _ => by
  simp only [execOp, ev_eval r hx]; rfl
theorem addr_add (b o k : Nat) : (⟨b, o, none⟩ : Addr).add k = ⟨b, o + k, none⟩ := by
  unfold Addr.add; split
  · rename_i h; subst h; rfl
  · rfl
theorem xfld {S : TypeId} {i k b o : Nat} (hf : fldB P S i k = true) (hx : ev n l x = some (.pointer (some ⟨b, o, none⟩))) : Ex P n l (.fieldAddr S x i) ty w (.pointer (some ⟨b, o + k, none⟩)) w := fun r _ _ _ _ => by
  unfold fldB at hf
  split at hf
  · rename_i fs hs
    split at hf
    · rename_i f hff
      simp only [Bool.and_eq_true, beq_iff_eq] at hf
      obtain ⟨rfl, h2⟩ := hf
      split at h2
      · rename_i j hj
        simp only [bne_iff_ne, ne_eq] at h2
        simp only [execOp, ev_eval r hx]
        simp [Instr.fieldAt, run_underlying hs, hff, Instr.sureAddr, fieldPlace, sizeOf, typeInfo, hj, h2, addr_add]
      · cases h2
    · cases hf
  · cases hf
theorem xidx {T E : TypeId} {sz : Nat} {k : IntKind} {i b o m c : Nat} (hT : slcB P T E = true) (hE : szB P E sz = true) (hx : ev n l x = some (.slice (some ⟨b, o, none⟩) m c)) {j : Int} (hy : ev n l y = some (.int k j)) (hj : j = (i : Int)) (hi : i < m) :
    Ex P n l (.indexAddr T x y) ty w (.pointer (some ⟨b, o + i * sz, none⟩)) w := fun r _ _ _ _ => by
  subst hj
  have hs := szB_spec hE
  cases hi' : P.info? E with
  | none => rw [hi'] at hs; cases hs
  | some u =>
    rw [hi'] at hs
    simp only [Option.map_some, Option.some.injEq] at hs
    simp only [execOp, ev_eval r hx, ev_eval r hy]
    simp [Instr.indexAt, asIntOf, run_underlying (slcB_spec hT), sizeOf, typeInfo, hi', hs, addr_add]
    intro h; omega
theorem xidxA {T E : TypeId} {sz : Nat} {k : IntKind} {i b o m : Nat} (hT : arrB P T m E = true) (hE : szB P E sz = true) (hx : ev n l x = some (.pointer (some ⟨b, o, none⟩))) {j : Int} (hy : ev n l y = some (.int k j)) (hj : j = (i : Int)) (hi : i < m) :
    Ex P n l (.indexAddr T x y) ty w (.pointer (some ⟨b, o + i * sz, none⟩)) w := fun r _ _ _ _ => by
  subst hj
  have hs := szB_spec hE
  cases hi' : P.info? E with
  | none => rw [hi'] at hs; cases hs
  | some u =>
    rw [hi'] at hs
    simp only [Option.map_some, Option.some.injEq] at hs
    simp only [execOp, ev_eval r hx, ev_eval r hy]
    simp [Instr.indexAt, asIntOf, run_underlying (arrB_spec hT), sizeOf, typeInfo, hi', hs, addr_add, Instr.sureAddr]
    intro h; omega
theorem xidxS {T : TypeId} {k : IntKind} {s : ByteArray} {i : Nat} (hT : strB P T = true) (hx : ev n l x = some (.string s)) {j : Int} (hy : ev n l y = some (.int k j)) (hj : j = (i : Int)) (hi : i < s.size) :
    Ex P n l (.index T x y) ty w (.int .u8 (s[i].toNat : Int)) w := fun r _ _ _ _ => by
  subst hj
  simp only [execOp, ev_eval r hx, ev_eval r hy]
  simp [Instr.index, asIntOf, run_underlying (strB_spec hT), hi]
theorem xld {T : TypeId} {b o : Nat} (hT : oneB P T = true) (hx : ev n l x = some (.pointer (some ⟨b, o, none⟩))) (hc : w.cell? ⟨b, o, none⟩ = some v) : Ex P n l (.load T x) ty w v w := fun r _ _ _ _ => by
  obtain ⟨d, hd, hr⟩ := oneB_spec hT
  simp only [execOp, ev_eval r hx]
  have : (isAgg T).run P w = .ok false w := by
    cases d <;> simp_all [isAgg, run_underlying hd, TypeDesc.isRow]
  simp [Instr.loadAt, Instr.sureAddr, loadVar, this, hc]
theorem ld_one {T : TypeId} {a : Addr} (hT : oneB P T = true) (hc : w.cell? a = some v) : (loadVar T a).run P w = .ok v w := by
  obtain ⟨d, hd, hr⟩ := oneB_spec hT
  have : (isAgg T).run P w = .ok false w := by
    cases d <;> simp_all [isAgg, run_underlying hd, TypeDesc.isRow]
  simp [loadVar, this, hc]
theorem ld_row {T : TypeId} {b o : Nat} {cs : List Value} (hT : rowB P T cs.length = true) (hc : w.rangeAt b o cs) : (loadVar T ⟨b, o, none⟩).run P w = .ok (.agg cs.toArray) w := by
  obtain ⟨d, hd, hr, hs⟩ := rowB_spec hT
  exact run_loadVar_mid w b o T cs d hc hd hr hs
theorem xldR {T : TypeId} {b o : Nat} {cs : List Value} {k : Nat} (hT : rowB P T k = true) (hx : ev n l x = some (.pointer (some ⟨b, o, none⟩))) (hc : w.rangeAt b o cs) (hk : cs.length = k) : Ex P n l (.load T x) ty w (.agg cs.toArray) w := fun r _ _ _ _ => by
  subst hk
  simp only [execOp, ev_eval r hx]
  simp [Instr.loadAt, Instr.sureAddr, ld_row hT hc]
/-- a store of one cell into a block that is known -/
theorem xst {T : TypeId} {b i : Nat} {cs : List Value} (hT : szB P T 1 = true) (hx : ev n l x = some (.pointer (some ⟨b, i, none⟩))) (hy : ev n l y = some v) (hb : Blk w b cs) (hi : i < cs.length) (h1 : v.oneCell' = true) :
    ExUK P n l (.store T x y) ty w (fun w' => Fr (· = b) w w' ∧ Blk w' b (cs.set i v) ∧ w'.heap.size = w.heap.size) := by
  refine ⟨w.setCell ⟨b, i, none⟩ v, fun r _ _ _ _ => ?_, fr_setCell w b i v, hb.set i v, size_setCell _ _ _⟩
  have hs := szB_spec hT
  cases hi' : P.info? T with
  | none => rw [hi'] at hs; cases hs
  | some u =>
    rw [hi'] at hs
    simp only [Option.map_some, Option.some.injEq] at hs
    simp only [execOp, ev_eval r hx, ev_eval r hy]
    have hcells : v.cells = #[v] := by cases v <;> first | rfl | cases h1
    have hcell := hb.cell (i := i) (v := cs[i]) (by simp)
    have hfr := hb.frozen i
    have hadd : (⟨b, i, none⟩ : Addr).add 0 = ⟨b, i, none⟩ := addr_add b i 0
    simp [Instr.storeAt, Instr.sureAddr, storeVar, hcells, sizeOf, typeInfo, hi', hs, storeCells, hadd, run_store _ _ _ _ _ h1, hcell, hfr]
/-- a store of a struct -/
theorem xstR {T : TypeId} {b i : Nat} {cs ds : List Value} (hT : szB P T ds.length = true) (hx : ev n l x = some (.pointer (some ⟨b, i, none⟩))) (hy : ev n l y = some (.agg ds.toArray)) (hb : Blk w b cs) (hi : i + ds.length ≤ cs.length) (h1 : ds.all (·.oneCell') = true) :
    ExUK P n l (.store T x y) ty w (fun w' => Fr (· = b) w w' ∧ Blk w' b (splice cs i ds) ∧ w'.heap.size = w.heap.size) := by
  have hsets := hb.sets ds i hi
  refine ⟨w.setCells b i ds, fun r _ _ _ _ => ?_, hsets.2.1, hsets.1, hsets.2.2⟩
  simp only [execOp, ev_eval r hx, ev_eval r hy]
  have := run_storeVar_mid (P := P) w b i T ds.toArray (by simpa using hb.there hi) (by simpa using szB_spec hT) (by simpa using h1)
  simp [Instr.storeAt, Instr.sureAddr, this]
/-- a new block -/
theorem xbox {T : TypeId} {cs : List Value} (hx : ev n l x = some v) (hv : v.cells = cs.toArray) :
    ExK P n l (.box T x) ty w (fun u w' => ∃ b, u = .pointer (some ⟨b, 0, none⟩) ∧ Fr0 w w' ∧ Blk w' b cs ∧ b = w.heap.size ∧ w'.heap.size = w.heap.size + 1) := by
  refine ⟨_, w.alloc (.cells cs.toArray T), fun r _ _ _ _ => ?_, w.heap.size, rfl, fr_alloc _ _, blk_alloc _ _ _, rfl, size_alloc _ _⟩
  simp only [execOp, ev_eval r hx]
  simp [Instr.box, newVar, newRow, hv]
theorem xalloc {T : TypeId} {z : Value} {sz by' : Nat} {cs : List Value} (hT : Inf P T z sz by') (hv : z.cells = cs.toArray) :
    ExK P n l (.alloc T) ty w (fun u w' => ∃ b, u = .pointer (some ⟨b, 0, none⟩) ∧ Fr0 w w' ∧ Blk w' b cs ∧ b = w.heap.size ∧ w'.heap.size = w.heap.size + 1) := by
  obtain ⟨i, hi, hz, _, _⟩ := hT
  refine ⟨_, w.alloc (.cells cs.toArray T), fun r _ _ _ _ => ?_, w.heap.size, rfl, fr_alloc _ _, blk_alloc _ _ _, rfl, size_alloc _ _⟩
  simp [execOp, Instr.alloc, zeroValue, typeInfo, hi, hz, newVar, newRow, hv]
theorem xextr {vs : Array Value} {i : Nat} (hx : ev n l x = some (.tuple vs)) (hv : vs[i]? = some v) : Ex P n l (.extract x i) ty w v w := fun r _ _ _ _ => by
  simp only [execOp, ev_eval r hx]
  simp [Instr.extract, hv]
theorem xmkif {T : TypeId} (hT : notIfB P T = true) (hx : ev n l x = some v) : Ex P n l (.makeInterface T x) ty w (.iface T v) w := fun r _ _ _ _ => by
  cases hs : P.underlying T with
  | none => rw [notIfB, hs] at hT; cases hT
  | some d =>
    simp only [execOp, ev_eval r hx]
    cases d <;> first
      | (simp [Instr.makeInterface, run_underlying hs]; done)
      | (rw [notIfB, hs] at hT; cases hT; done)
/-- a call of a function of the program -/
theorem xcall {f : FuncId} {xs : List Operand} {ts : Array TypeId} {vs : List Value} (hf : callB P f = true) (hx : evs n l xs = some vs) :
    ExC P n l (.call { callee := .value (.func f), args := xs.toArray, argTypes := ts }) ty w f vs := fun r _ _ _ _ => by
  unfold callB at hf
  split at hf
  · rename_i fn hfn
    simp only [Bool.and_eq_true, Bool.not_eq_true'] at hf
    have hn : ¬ fn.name = "runtime.NumGoroutine" := by simpa using hf.1
    have hb : ¬ fn.body = none := fun h => by rw [h] at hf; cases hf.2
    simp only [execOp]
    simp [resolve, Act.eval, Deferred.ofValue, invoke, callFunc, hfn, evs_eval r hx]
    rw [if_neg hn, if_neg hb]
  · cases hf
end
end Go.Proofs.YtifnodoffgfpbaaGreatDoor
