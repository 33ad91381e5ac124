/- Rows of structs that grow, and the blocks they lean on; conditions: none. -/
import Derived.Test.YtifnodoffgfpbaaGreatDoorCpy
namespace Go.Proofs.YtifnodoffgfpbaaGreatDoor
open Go

/-- the blocks that the elements of a growing row may lie in: those of U, and those from n0 to nb, but not the row's own -/
def Uw (U : Nat → Prop) (n0 nb g : Nat) : Nat → Prop := fun k => (U k ∨ (n0 ≤ k ∧ k < nb)) ∧ k ≠ g
/-- the blocks of U, and those made from w to w' -/
def Ub (U : Nat → Prop) (w w' : World) : Nat → Prop := fun k => U k ∨ (w.heap.size ≤ k ∧ k < w'.heap.size)
theorem Ub.lt {U : Nat → Prop} {w w' : World} (hU : ∀ k, U k → k < w.heap.size) (hw : w.heap.size ≤ w'.heap.size) : ∀ k, Ub U w w' k → k < w'.heap.size := fun k hk => hk.elim (fun h => Nat.lt_of_lt_of_le (hU k h) hw) (·.2)
theorem Ub.old {U : Nat → Prop} {w w' : World} : ∀ k, U k → Ub U w w' k := fun _ h => .inl h

abbrev RX {α : Type} (El : (Nat → Prop) → World → List (List Value) → α → Prop) (lens : List Nat) (U : Nat → Prop) (n0 nb : Nat) (w : World) (v : Value) (g E n : Nat) (l : List α) : Prop := RA El lens (Uw U n0 nb g) w v g E n l
section
variable {α : Type} {El : (Nat → Prop) → World → List (List Value) → α → Prop} {lens : List Nat} {U : Nat → Prop} {n0 nb : Nat} {w w' : World} {v : Value} {g E n : Nat} {l : List α}
theorem RX.keep {S : Nat → Prop} (h : RX El lens U n0 nb w v g E n l) (hE : Stays El) (hU : ∀ k, U k → k < w.heap.size) (hb : nb ≤ w.heap.size) (m : Fr S w w') (hn : ∀ k, (U k ∨ (n0 ≤ k ∧ k < nb)) → k ≠ g → ¬ S k) (hg : ¬ S g) : RX El lens U n0 nb w' v g E n l :=
  RA.keep h hE (fun k hk => hk.1.elim (hU k) (fun h => Nat.lt_of_lt_of_le h.2 hb)) m (fun k hk => hn k hk.1 hk.2) hg
theorem RX.up {nb' : Nat} (hG : Grows El) (h : RX El lens U n0 nb w v g E n l) (hb : nb ≤ nb') : RX El lens U n0 nb' w v g E n l :=
  RA.mono h hG (fun _ hk => ⟨hk.1.imp_right (fun h => ⟨h.1, Nat.lt_of_lt_of_le h.2 hb⟩), hk.2⟩)
theorem RX.snoc {ss : List (List (List Value))} {segs : List (List Value)} {x : α} {v' : Value} {g' n' : Nat} (nb' : Nat) (hA : All2 (fun segs x => segs.map List.length = lens ∧ El (Uw U n0 nb g) w segs x) ss l)
    (hE : Stays El) (hG : Grows El) (hU : ∀ k, U k → k < w.heap.size) (hb : nb ≤ w.heap.size) (hb' : nb ≤ nb') (m : Fr (fun k => k = g) w w') (hgg : g' = g ∨ w.heap.size ≤ g')
    (hR : Rw w' v' g' E lens.sum n' ((ss.map List.flatten).flatten ++ segs.flatten)) (hl : segs.map List.length = lens) (he : El (Uw U n0 nb' g') w' segs x) : RX El lens U n0 nb' w' v' g' E n' (l ++ [x]) :=
  RA.snoc hA hE hG (fun k hk => hk.1.elim (hU k) (fun h => Nat.lt_of_lt_of_le h.2 hb)) m (fun _ hk => hk.2)
    (fun k hk => ⟨hk.1.imp_right (fun h => ⟨h.1, Nat.lt_of_lt_of_le h.2 hb'⟩), by
      have h2 := hk.2
      have h1 : k < w.heap.size := hk.1.elim (hU k) (fun h => Nat.lt_of_lt_of_le h.2 hb)
      omega⟩) hR hl he
theorem RX.la (h : RX El lens U n0 nb w v g E n l) (hs : 0 < lens.sum) {U' : Nat → Prop} (hG : Grows El) (hU : ∀ k, (U k ∨ (n0 ≤ k ∧ k < nb)) → U' k) (hg : U' g) : LA El lens U' w v l :=
  RA.la h hs hG (fun k hk => hU k hk.1) hg
theorem RX.ofNil {a : Option Addr} {c : Nat} (h : Rw w (.slice a 0 c) g E lens.sum 0 []) : RX El lens U n0 nb w (.slice a 0 c) g E 0 [] := ⟨[], h, All2.nil⟩
theorem RA.form {V : Nat → Prop} (h : RA El lens V w v g E n l) : ∃ a c, v = .slice a n c := by
  obtain ⟨ss, hR, _⟩ := h
  obtain ⟨a, c, h, _⟩ := hR.form
  exact ⟨a, c, h⟩
end
section
variable {P : Program} {ops : Array Oper} {Q : Exit → Act → World → Prop} {n : Nat} {l : List (Nat × Value)} {r : Nat → Value} {w : World}
  {op : Op} {ty : TypeId} {pos : String} {af : Array Edge} {d i : Nat}
theorem yielded_un {j dj : Nat} (hj : (ops[j]?).bind (·.dst) = some dj) (hb : ev n l (.tmp dj) = some undef) : yielded ops (env n l r).tmps j = none := by
  have := getD_ev r hb
  simp only [yielded, hj]
  simp only [Option.bind_some]
  rw [Array.getD_eq_getD_getElem?] at this
  cases h : (env n l r).tmps[dj]? with
  | none => rfl
  | some u => rw [h] at this; simp only [Option.getD_some] at this; subst this; rfl
/-- a guard that did not run itself -/
theorem gnu {rest : List Oper} {j dj : Nat} {want : Bool} (hj : (ops[j]?).bind (·.dst) = some dj) (hb : ev n l (.tmp dj) = some undef)
    (k : WL P ops Q rest (env n ((d, undef) :: l) r) w) : WL P ops Q (⟨some d, op, ty, pos, af, some (j, want)⟩ :: rest) (env n l r) w := by
  constructor
  unfold wpList
  rw [if_neg (by simp only [Region.wanted, yielded_un hj hb]; cases want <;> decide)]
  rw [env_put]
  exact k.out
theorem hnu {S : World → Prop} {rest : List (Nat × Kd)} {j dj : Nat} {want : Bool} (ho : ops[i]? = some ⟨some d, op, ty, pos, af, some (j, want)⟩) (hj : (ops[j]?).bind (·.dst) = some dj) (hb : ev n l (.tmp dj) = some undef)
    (hS : S w) (k : runH P ops Q S rest (env n ((d, undef) :: l) r) w) : runH P ops Q S ((i, .rd) :: rest) (env n l r) w :=
  ⟨_, undef, ho, .inr ⟨by simp only [Region.wanted, yielded_un hj hb]; cases want <;> decide, rfl⟩, hS, by rw [env_put]; exact k⟩
end
theorem Ub.num {U : Nat → Prop} {wa wb : World} {n k : Nat} (hU : ∀ k, U k → k < n) (h : Ub U wa wb k) : k < n ∨ (wa.heap.size ≤ k ∧ k < wb.heap.size) := h.elim (fun h => .inl (hU k h)) .inr
section
variable {P : Program} {n : Nat} {l : List (Nat × Value)} {w : World} {ty : TypeId} {x y : Operand}
theorem xb2sB {S D E : TypeId} {U : Nat → Prop} {v : Value} {bs : List UInt8} (hS : slcB P S E = true) (hE : intB P E .u8 = true) (hD : strB P D = true) (h : BA U w v bs) (hx : ev n l x = some v) : Ex P n l (.convert S D x) ty w (.string ⟨bs.toArray⟩) w := by
  obtain ⟨a, c, rfl, h⟩ := h
  by_cases hb : bs = []
  · subst hb
    cases a with
    | none => exact xb2s0 hS hE hD hx
    | some a =>
      obtain ⟨b, o, g⟩ := a
      cases g with
      | none => exact xb2s hS hE hD hx rfl (fun j v h => by simp [bvs] at h)
      | some g =>
        intro r d pos af gd
        simp only [execOp, ev_eval r hx]
        have h1 := run_convert_bytes_string w S D E (some ⟨b, o, some g⟩) 0 c (slcB_spec hS) (intB_spec hE) (strB_spec hD)
        have h2 : (loadCells ⟨b, o, some g⟩ 0).run P w = .ok ((([] : List Int)).map (Value.int .u8)).toArray w := run_loadCells_list (P := P) (w := w) ⟨b, o, some g⟩ [] (fun j v h => by simp at h)
        have h3 := run_bytesToString w ⟨b, o, some g⟩ 0 c [] h2
        have h4 := h1.trans h3
        simp only [List.foldl_nil] at h4
        simp [h4]
        rfl
  · obtain ⟨b, o, rfl, _, hr⟩ := h hb
    exact xb2s hS hE hD hx rfl hr
end
theorem ba_str_eq {a b : List UInt8} : ((⟨a.toArray⟩ : ByteArray) = ⟨b.toArray⟩) ↔ a = b := by
  constructor
  · intro h
    have := congrArg (fun s : ByteArray => s.data.toList) h
    simpa using this
  · intro h; rw [h]
/-- an answer yes that tells something -/
def Grd (w : World) (p : Prop) (u : Value) (w' : World) : Prop := ∃ b, u = .bool b ∧ (b = true → p) ∧ Fr0 w w'
end Go.Proofs.YtifnodoffgfpbaaGreatDoor
