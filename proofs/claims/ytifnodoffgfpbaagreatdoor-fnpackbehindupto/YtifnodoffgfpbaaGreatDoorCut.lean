/- What a cut, a copy, a conversion, a make, a comparison with nil and a question for a type give; conditions: none. -/
import Derived.Test.YtifnodoffgfpbaaGreatDoorLit
import Derived.WalkSpells
import Derived.LaidEql
import Derived.Carry
namespace Go.Proofs.YtifnodoffgfpbaaGreatDoor
open Go

/-- a byte as a cell, and bytes -/
def bv (b : UInt8) : Value := .int .u8 (b.toNat : Int)
def bvs (bs : List UInt8) : List Value := bs.map bv
theorem bvs_length (bs : List UInt8) : (bvs bs).length = bs.length := by simp [bvs]
theorem bvs_one (bs : List UInt8) : (bvs bs).all (·.oneCell') = true := by
  simp only [bvs, List.all_map, List.all_eq_true]
  intro b _
  rfl
theorem bvs_app (a b : List UInt8) : bvs (a ++ b) = bvs a ++ bvs b := by simp [bvs]

section
variable {P : Program} {n : Nat} {l : List (Nat × Value)} {w : World} {ty : TypeId} {x y : Operand} {v : Value}

theorem run_sb {k : IntKind} {i y : Nat} {c : BoundsCode} (h : i ≤ y) : (Instr.sliceBound (.int k (i : Int)) y c).run P w = .ok i w := by
  have : (i : Int) ≤ (y : Int) := by omega
  simp [Instr.sliceBound, asIntOf]
  intro h'; omega

def evo (n : Nat) (l : List (Nat × Value)) : Option Operand → Option (Option Value)
  | none => some none
  | some x => (ev n l x).map some
theorem evo_eval (r : Nat → Value) {o : Option Operand} {u : Option Value} (h : evo n l o = some u) : o.map (env n l r).eval = u := by
  cases o with
  | none => simp only [evo, Option.some.injEq] at h; subst h; rfl
  | some x =>
    simp only [evo, Option.map_eq_some_iff] at h
    obtain ⟨v, hv, rfl⟩ := h
    simp [ev_eval r hv]

/-- x[lo:hi] of a slice -/
theorem xcutLH {T E : TypeId} {sz b o m c lo hi : Nat} {k k' : IntKind} {i j : Int} {p q : Operand} (hT : slcB P T E = true) (hE : szB P E sz = true) (hx : ev n l x = some (.slice (some ⟨b, o, none⟩) m c))
    (hp : ev n l p = some (.int k i)) (hq : ev n l q = some (.int k' j)) (hi' : i = (lo : Int)) (hj : j = (hi : Int)) (h1 : lo ≤ hi) (h2 : hi ≤ c) :
    ExK P n l (.slice T x (some p) (some q) none) ty w (fun u w' => ∃ o', u = .slice (some ⟨b, o', none⟩) (hi - lo) (c - lo) ∧ (lo < c → o' = o + lo * sz) ∧ w' = w) := by
  subst hi' hj
  have hs := szB_spec hE
  cases hi' : P.info? E with
  | none => rw [hi'] at hs; cases hs
  | some u =>
    rw [hi'] at hs
    simp only [Option.map_some, Option.some.injEq] at hs
    refine ⟨.slice (some ⟨b, if c = lo then o else o + lo * sz, none⟩) (hi - lo) (c - lo), w, fun r _ _ _ _ => ?_, _, rfl, fun h => if_neg (by omega), rfl⟩
    simp only [execOp, ev_eval r hx]
    simp [Instr.sliceAt, Instr.slice, run_underlying (slcB_spec hT), Instr.sliceBounds, ev_eval r hp, ev_eval r hq, run_sb h1, run_sb h2, sizeOf, typeInfo, hi', hs, addr_add]
    split <;> simp_all
theorem xcutL {T E : TypeId} {sz b o m c lo : Nat} {k : IntKind} {i : Int} {p : Operand} (hT : slcB P T E = true) (hE : szB P E sz = true) (hx : ev n l x = some (.slice (some ⟨b, o, none⟩) m c))
    (hp : ev n l p = some (.int k i)) (hi' : i = (lo : Int)) (h1 : lo ≤ m) :
    ExK P n l (.slice T x (some p) none none) ty w (fun u w' => ∃ o', u = .slice (some ⟨b, o', none⟩) (m - lo) (c - lo) ∧ (lo < c → o' = o + lo * sz) ∧ w' = w) := by
  subst hi'
  have hs := szB_spec hE
  cases hi' : P.info? E with
  | none => rw [hi'] at hs; cases hs
  | some u =>
    rw [hi'] at hs
    simp only [Option.map_some, Option.some.injEq] at hs
    refine ⟨.slice (some ⟨b, if c = lo then o else o + lo * sz, none⟩) (m - lo) (c - lo), w, fun r _ _ _ _ => ?_, _, rfl, fun h => if_neg (by omega), rfl⟩
    simp only [execOp, ev_eval r hx]
    simp [Instr.sliceAt, Instr.slice, run_underlying (slcB_spec hT), Instr.sliceBounds, ev_eval r hp, run_sb h1, sizeOf, typeInfo, hi', hs, addr_add]
    split <;> simp_all
theorem xcutH {T E : TypeId} {sz m c hi : Nat} {a : Option Addr} {k : IntKind} {j : Int} {q : Operand} (hT : slcB P T E = true) (hE : szB P E sz = true) (hx : ev n l x = some (.slice a m c))
    (hq : ev n l q = some (.int k j)) (hj : j = (hi : Int)) (h2 : hi ≤ c) :
    Ex P n l (.slice T x none (some q) none) ty w (.slice a hi c) w := fun r _ _ _ _ => by
  subst hj
  have hs := szB_spec hE
  cases hi' : P.info? E with
  | none => rw [hi'] at hs; cases hs
  | some u =>
    rw [hi'] at hs
    simp only [Option.map_some, Option.some.injEq] at hs
    simp only [execOp, ev_eval r hx]
    simp [Instr.sliceAt, Instr.slice, run_underlying (slcB_spec hT), Instr.sliceBounds, ev_eval r hq, run_sb h2, sizeOf, typeInfo, hi']
    cases a with
    | none => simp
    | some a => simp [Addr.add]
/-- a[lo:hi] of an array behind a pointer; the whole, and up to a place -/
theorem xcutA {T E : TypeId} {b o m : Nat} {sz : Nat} (hT : arrB P T m E = true) (hE : szB P E sz = true) (hx : ev n l x = some (.pointer (some ⟨b, o, none⟩))) :
    Ex P n l (.slice T x none none none) ty w (.slice (some ⟨b, o, none⟩) m m) w := fun r _ _ _ _ => by
  have hs := szB_spec hE
  cases hi' : P.info? E with
  | none => rw [hi'] at hs; cases hs
  | some u =>
    rw [hi'] at hs
    simp only [Option.map_some, Option.some.injEq] at hs
    simp only [execOp, ev_eval r hx]
    simp [Instr.sliceAt, run_underlying (arrB_spec hT), Instr.sureAddr, Instr.sliceBounds, sizeOf, typeInfo, hi', Addr.add]
theorem xcutAH {T E : TypeId} {b o m hi : Nat} {sz : Nat} {k : IntKind} {j : Int} {q : Operand} (hT : arrB P T m E = true) (hE : szB P E sz = true) (hx : ev n l x = some (.pointer (some ⟨b, o, none⟩)))
    (hq : ev n l q = some (.int k j)) (hj : j = (hi : Int)) (h2 : hi ≤ m) :
    Ex P n l (.slice T x none (some q) none) ty w (.slice (some ⟨b, o, none⟩) hi m) w := fun r _ _ _ _ => by
  subst hj
  have hs := szB_spec hE
  cases hi' : P.info? E with
  | none => rw [hi'] at hs; cases hs
  | some u =>
    rw [hi'] at hs
    simp only [Option.map_some, Option.some.injEq] at hs
    simp only [execOp, ev_eval r hx]
    simp [Instr.sliceAt, run_underlying (arrB_spec hT), Instr.sureAddr, Instr.sliceBounds, ev_eval r hq, run_sb h2, sizeOf, typeInfo, hi', Addr.add]
theorem xcutALH {T E : TypeId} {b o m lo hi : Nat} {sz : Nat} {k k' : IntKind} {i j : Int} {p q : Operand} (hT : arrB P T m E = true) (hE : szB P E sz = true) (hx : ev n l x = some (.pointer (some ⟨b, o, none⟩)))
    (hp : ev n l p = some (.int k i)) (hq : ev n l q = some (.int k' j)) (hi' : i = (lo : Int)) (hj : j = (hi : Int)) (h1 : lo ≤ hi) (h2 : hi ≤ m) (h3 : lo < m) :
    Ex P n l (.slice T x (some p) (some q) none) ty w (.slice (some ⟨b, o + lo * sz, none⟩) (hi - lo) (m - lo)) w := fun r _ _ _ _ => by
  subst hi' hj
  have hs := szB_spec hE
  cases hi' : P.info? E with
  | none => rw [hi'] at hs; cases hs
  | some u =>
    rw [hi'] at hs
    simp only [Option.map_some, Option.some.injEq] at hs
    simp only [execOp, ev_eval r hx]
    have : ¬ m = lo := by omega
    simp [Instr.sliceAt, run_underlying (arrB_spec hT), Instr.sureAddr, Instr.sliceBounds, ev_eval r hp, ev_eval r hq, run_sb h1, run_sb h2, sizeOf, typeInfo, hi', hs, addr_add, this]
/-- s[lo:] and s[:hi] of a string -/
theorem xcutSL {T : TypeId} {s : ByteArray} {lo : Nat} {k : IntKind} {i : Int} {p : Operand} (hT : strB P T = true) (hx : ev n l x = some (.string s)) (hp : ev n l p = some (.int k i)) (hi' : i = (lo : Int)) (h1 : lo ≤ s.size) :
    Ex P n l (.slice T x (some p) none none) ty w (.string (s.extract lo s.size)) w := fun r _ _ _ _ => by
  subst hi'
  simp only [execOp, ev_eval r hx]
  simp [Instr.sliceAt, Instr.slice, run_underlying (strB_spec hT), Instr.sliceBounds, ev_eval r hp, run_sb h1]
theorem xcutSH {T : TypeId} {s : ByteArray} {hi : Nat} {k : IntKind} {j : Int} {q : Operand} (hT : strB P T = true) (hx : ev n l x = some (.string s)) (hq : ev n l q = some (.int k j)) (hj : j = (hi : Int)) (h1 : hi ≤ s.size) :
    Ex P n l (.slice T x none (some q) none) ty w (.string (s.extract 0 hi)) w := fun r _ _ _ _ => by
  subst hj
  simp only [execOp, ev_eval r hx]
  simp [Instr.sliceAt, Instr.slice, run_underlying (strB_spec hT), Instr.sliceBounds, ev_eval r hq, run_sb h1]

theorem foldl_push : ∀ (bs : List UInt8) (a : ByteArray), (bs.map (fun b => (b.toNat : Int))).foldl (fun r n => r.push (UInt8.ofNat n.toNat)) a = ⟨(a.data.toList ++ bs).toArray⟩
  | [], a => by simp
  | b :: bs, a => by
    simp only [List.map_cons, List.foldl_cons, Int.toNat_natCast]
    rw [foldl_push bs]
    simp [ByteArray.push]
/-- string(bytes) -/
theorem xb2s {S D E : TypeId} {bs : List UInt8} {b o m c : Nat} (hS : slcB P S E = true) (hE : intB P E .u8 = true) (hD : strB P D = true) (hx : ev n l x = some (.slice (some ⟨b, o, none⟩) m c)) (hm : bs.length = m) (hr : w.rangeAt b o (bvs bs)) :
    Ex P n l (.convert S D x) ty w (.string ⟨bs.toArray⟩) w := fun r _ _ _ _ => by
  subst hm
  simp only [execOp, ev_eval r hx]
  have h1 := run_convert_bytes_string w S D E (some ⟨b, o, none⟩) bs.length c (slcB_spec hS) (intB_spec hE) (strB_spec hD)
  have h2 : (loadCells ⟨b, o, none⟩ bs.length).run P w = .ok ((bs.map (fun b => (b.toNat : Int))).map (Value.int .u8)).toArray w := by
    have := run_loadCells_list (P := P) (w := w) ⟨b, o, none⟩ (bvs bs) (fun j v hv => by rw [addr_add]; exact hr j v hv)
    rw [bvs_length] at this
    rw [this]
    congr 1
    simp [bvs]
    exact fun b _ => rfl
  have h3 := run_bytesToString w ⟨b, o, none⟩ bs.length c _ h2
  rw [foldl_push] at h3
  simp [h1, h3]
theorem xb2s0 {S D E : TypeId} {m c : Nat} (hS : slcB P S E = true) (hE : intB P E .u8 = true) (hD : strB P D = true) (hx : ev n l x = some (.slice none m c)) :
    Ex P n l (.convert S D x) ty w (.string ⟨#[]⟩) w := fun r _ _ _ _ => by
  simp only [execOp, ev_eval r hx]
  have h1 := run_convert_bytes_string w S D E none m c (slcB_spec hS) (intB_spec hE) (strB_spec hD)
  simp [h1, Conv.bytesToString]
  rfl
theorem xs2s {S D : TypeId} {s : ByteArray} (hS : strB P S = true) (hD : strB P D = true) (hx : ev n l x = some (.string s)) : Ex P n l (.convert S D x) ty w (.string s) w := fun r _ _ _ _ => by
  simp only [execOp, ev_eval r hx]
  simp [convert, run_underlying (strB_spec hS), run_underlying (strB_spec hD)]

/-- copy into a block that is known -/
theorem xcopy {T TX E : TypeId} {b o m c sn : Nat} {cs news : List Value} {u : Value} (hT : slcB P T E = true) (hE : szB P E 1 = true) (hx : ev n l x = some (.slice (some ⟨b, o, none⟩) m c)) (hy : ev n l y = some u)
    (hl : ∀ w' : World, (Builtin.lenOf u).run P w' = .ok sn w') (hn : news.length = Nat.min sn m) (hf : (Builtin.firstCells 1 (Nat.min sn m) u).run P w = .ok news.toArray w) (h1 : news.all (·.oneCell') = true)
    (hb : Blk w b cs) (hfit : o + news.length ≤ cs.length) :
    ExK P n l (.call { callee := .builtin .copy, args := #[x, y], argTypes := #[T, TX] }) ty w
      (fun v w' => v = .int .i64 news.length ∧ Fr (· = b) w w' ∧ Blk w' b (splice cs o news) ∧ w'.heap.size = w.heap.size) := by
  have hs := szB_spec hE
  cases hi' : P.info? E with
  | none => rw [hi'] at hs; cases hs
  | some j =>
    rw [hi'] at hs
    simp only [Option.map_some, Option.some.injEq] at hs
    have hsets := hb.sets news o hfit
    refine ⟨_, w.setCells b o news, fun r _ _ _ _ => ?_, rfl, hsets.2.1, hsets.1, hsets.2.2⟩
    have hst := run_storeCells_cells (P := P) b o news 0 w (fun j hj => by rw [Nat.add_zero]; exact (hb.there hfit j hj).1) (fun j hj => by rw [Nat.add_zero]; exact (hb.there hfit j hj).2) (by simpa using h1)
    simp only [Nat.add_zero] at hst
    simp only [execOp]
    simp [resolve, invoke, builtin, ev_eval r hx, ev_eval r hy, Builtin.copy_, run_underlying (slcB_spec hT), hl, sizeOf, typeInfo, hi', hs, hf, hst, goInt, hn]

/-- the question for a type -/
theorem xtaY {X A : TypeId} {u : Value} (hA : notIfB P A = true) (hx : ev n l x = some (.iface A u)) : Ex P n l (.typeAssert x X A true) ty w (.tuple #[u, .bool true]) w := fun r _ _ _ _ => by
  cases hs : P.underlying A with
  | none => rw [notIfB, hs] at hA; cases hA
  | some d =>
    simp only [execOp, ev_eval r hx]
    cases d <;> first
      | (simp [Instr.typeAssert, run_underlying hs]; done)
      | (rw [notIfB, hs] at hA; cases hA; done)
theorem xtaN {X A B : TypeId} {u z : Value} {s by' : Nat} (hA : notIfB P A = true) (hI : Inf P A z s by') (hne : (B == A) = false) (hx : ev n l x = some (.iface B u)) : Ex P n l (.typeAssert x X A true) ty w (.tuple #[z, .bool false]) w := fun r _ _ _ _ => by
  obtain ⟨i, hi, hz, _, _⟩ := hI
  have hne : ¬ B = A := by simpa using hne
  cases hs : P.underlying A with
  | none => rw [notIfB, hs] at hA; cases hA
  | some d =>
    simp only [execOp, ev_eval r hx]
    cases d <;> first
      | (simp [Instr.typeAssert, run_underlying hs, hne, zeroValue, typeInfo, hi, hz]; done)
      | (rw [notIfB, hs] at hA; cases hA; done)

/-! ### comparisons with nil -/
def ifcB (P : Program) (T : TypeId) : Bool := match P.underlying T with
  | some (.interface _) => true
  | _ => false
theorem ifcB_spec {T : TypeId} (h : ifcB P T = true) : P.underlying T = some (.interface (P.methodsAt T)) := by
  unfold ifcB at h
  split at h
  · rename_i ms hs; rw [hs]; simp [Program.methodsAt, hs]
  · cases h
theorem xneN {T U : TypeId} (hT : ifcB P T = true) (hx : ev n l x = some .nilIface) : Ex P n l (.binOp .neq T x (.const .nilIface) U) ty w (.bool false) w :=
  xbin hx (show ev n l (.const .nilIface) = some .nilIface from rfl) (by simp [eqGuard]) (by simp only [binOp]; simp [run_equal_nil_nil _ _ (ifcB_spec hT)])
theorem xneI {T U A : TypeId} {u : Value} (hT : ifcB P T = true) (hx : ev n l x = some (.iface A u)) : Ex P n l (.binOp .neq T x (.const .nilIface) U) ty w (.bool true) w :=
  xbin hx (show ev n l (.const .nilIface) = some .nilIface from rfl) (by simp [eqGuard]) (by simp only [binOp]; simp [run_equal_held_nil _ _ _ _ (ifcB_spec hT)])
theorem xeqN {T U : TypeId} (hT : ifcB P T = true) (hx : ev n l x = some .nilIface) : Ex P n l (.binOp .eql T x (.const .nilIface) U) ty w (.bool true) w :=
  xbin hx (show ev n l (.const .nilIface) = some .nilIface from rfl) (by simp [eqGuard]) (by simp only [binOp]; simp [run_equal_nil_nil _ _ (ifcB_spec hT)])
theorem xeqI {T U A : TypeId} {u : Value} (hT : ifcB P T = true) (hx : ev n l x = some (.iface A u)) : Ex P n l (.binOp .eql T x (.const .nilIface) U) ty w (.bool false) w :=
  xbin hx (show ev n l (.const .nilIface) = some .nilIface from rfl) (by simp [eqGuard]) (by simp only [binOp]; simp [run_equal_held_nil _ _ _ _ (ifcB_spec hT)])
def mapB (P : Program) (T K E : TypeId) : Bool := match P.underlying T with
  | some (.map k e) => k == K && e == E
  | _ => false
theorem mapB_spec {T K E : TypeId} (h : mapB P T K E = true) : P.underlying T = some (.map K E) := by
  unfold mapB at h
  split at h
  · rename_i k e hs; rw [hs]; simp only [Bool.and_eq_true, beq_iff_eq] at h; obtain ⟨rfl, rfl⟩ := h; rfl
  · cases h
theorem xneM {T U K E : TypeId} {m : Option Nat} (hT : mapB P T K E = true) (hx : ev n l x = some (.map m)) : Ex P n l (.binOp .neq T x (.const (.map none)) U) ty w (.bool (!m.isNone)) w :=
  xbin hx (show ev n l (.const (.map none)) = some (.map none) from rfl) (by simp [eqGuard]) (run_neq_map_nil _ _ _ _ _ (mapB_spec hT))
theorem xneSl {T U E : TypeId} {a : Option Addr} {m c : Nat} (hT : slcB P T E = true) (hx : ev n l x = some (.slice a m c)) : Ex P n l (.binOp .neq T x (.const (.slice none 0 0)) U) ty w (.bool (!a.isNone)) w :=
  xbin hx (show ev n l (.const (.slice none 0 0)) = some (.slice none 0 0) from rfl) (by simp [eqGuard]) (run_neq_slice_nil_any _ _ _ _ _ _ _ _ (slcB_spec hT))
theorem xeqSl {T U E : TypeId} {a : Option Addr} {m c : Nat} (hT : slcB P T E = true) (hx : ev n l x = some (.slice a m c)) : Ex P n l (.binOp .eql T x (.const (.slice none 0 0)) U) ty w (.bool a.isNone) w :=
  xbin hx (show ev n l (.const (.slice none 0 0)) = some (.slice none 0 0) from rfl) (by simp [eqGuard]) (Lib.run_eql_slice_nil _ _ _ _ _ _ _ _ (slcB_spec hT))

/-! ### makes -/
theorem flat_rep (z : Array Value) (_hz : 0 < z.size) : ∀ c : Nat, ((Array.range (c * z.size)).map (fun k => z[k % z.size]!)).toList = (List.replicate c z.toList).flatten := by
  intro c
  apply List.ext_getElem?
  intro i
  have key : ∀ (c i : Nat), (List.replicate c z.toList).flatten[i]? = if i < c * z.size then some (z[i % z.size]!) else none := by
    intro c
    induction c with
    | zero => intro i; simp
    | succ c ih =>
      intro i
      rw [List.replicate_succ, List.flatten_cons, List.getElem?_append]
      simp only [Array.length_toList]
      by_cases h : i < z.size
      · rw [if_pos h, if_pos (by rw [Nat.add_mul]; omega), Nat.mod_eq_of_lt h]
        simp [h]
      · rw [if_neg h, ih, Nat.mod_eq_sub_mod (a := i) (b := z.size) (by omega)]
        by_cases h2 : i - z.size < c * z.size
        · rw [if_pos h2, if_pos (by rw [Nat.add_mul]; omega)]
        · rw [if_neg h2, if_neg (by rw [Nat.add_mul]; omega)]
  rw [key]
  simp
  split <;> simp_all
theorem xmake {T E : TypeId} {z : Value} {size bytes lo hi : Nat} {k k' : IntKind} {i j : Int} (hT : slcB P T E = true) (hI : Inf P E z size bytes) (hz : z.cells.size = size) (hsz : 0 < size) (hx : ev n l x = some (.int k i)) (hy : ev n l y = some (.int k' j))
    (hi' : i = (lo : Int)) (hj : j = (hi : Int)) (h1 : lo ≤ hi) (h2 : bytes * hi ≤ 281474976710656) (h3 : hi ≤ maxLen) (h4 : z.cells.toList.all (·.oneCell') = true) :
    ExK P n l (.makeSlice T x y) ty w (fun u w' => ∃ b, u = .slice (some ⟨b, 0, none⟩) lo hi ∧ Fr0 w w' ∧ Blk w' b (List.replicate hi z.cells.toList).flatten ∧ b = w.heap.size ∧ w'.heap.size = w.heap.size + 1 ∧
      Rw w' u b E size lo (List.replicate lo z.cells.toList).flatten) := by
  subst hi' hj
  obtain ⟨t, ht, htz, rfl, rfl⟩ := hI
  have hlen : ∀ c, (List.replicate c z.cells.toList).flatten.length = c * t.size := by
    intro c; simp [List.length_flatten, hz]
  refine ⟨_, w.alloc (.cells (List.replicate hi z.cells.toList).flatten.toArray E), fun r _ _ _ _ => ?_, w.heap.size, rfl, fr_alloc _ _, blk_alloc _ _ _, rfl, size_alloc _ _,
    ⟨⟨hlen lo, .inr ⟨w.heap.size, hi, _, rfl, Nat.zero_le _, heap_alloc_new w _, h1, h3, by simp only [List.size_toArray]; exact hlen hi, ?_⟩⟩, (fun k hk => by simp only [Value.ownBlock, Option.some.injEq] at hk; exact hk.symm), ?_⟩⟩
  · simp only [execOp, ev_eval r hx, ev_eval r hy]
    have h63 : (hi : Int) ≤ 9223372036854775807 := by simp only [maxLen] at h3; omega
    have hb' : (t.bytes : Int) * (hi : Int) ≤ 281474976710656 := by
      have e : ((t.bytes * hi : Nat) : Int) = (t.bytes : Int) * (hi : Int) := by simp
      rw [← e]; omega
    have hr := run_make (P := P) w T E t z (slcB_spec hT) ht htz k k' lo hi (by omega) (by omega) hb' h63
    have hfr := flat_rep z.cells (by omega) hi
    rw [hz] at hfr
    have hfr2 : madeCells z.cells (hi * t.size) = (List.replicate hi z.cells.toList).flatten.toArray := by
      rw [← hfr, Array.toArray_toList, ← hz]
      rfl
    simp only [Int.toNat_natCast] at hr
    rw [hfr2] at hr
    simp [hr]
  · rw [show (List.replicate hi z.cells.toList) = List.replicate lo z.cells.toList ++ List.replicate (hi - lo) z.cells.toList by rw [List.replicate_append_replicate]; congr 1; omega]
    simp only [List.flatten_append]
    rw [← hlen lo]
    exact List.take_left
  · rw [List.all_flatten, List.all_replicate]
    simp [h4]
end
end Go.Proofs.YtifnodoffgfpbaaGreatDoor
