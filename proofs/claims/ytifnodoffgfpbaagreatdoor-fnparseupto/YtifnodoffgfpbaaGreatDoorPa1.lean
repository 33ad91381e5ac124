/- Part 1 of the texts for a law of this seat: walks, and plain laws about messages; conditions: none. -/
import Derived.Test.YtifnodoffgfpbaaGreatDoorPaP
import Derived.Test.YtifnodoffgfpbaaGreatDoorRows
import Derived.Test.YtifnodoffgfpbaaGreatDoorProg
import Derived.WalkKit
import Derived.OrdersHeld
import Derived.Deep.MidRow
import Derived.Deep.Draws
import Derived.Laws.IdiomCopy
import Derived.Laws.CopyRow
import Derived.Laws.AppendOwn
import Derived.Below
import Derived.Deep.AppendSrc
import Derived.Lib.SlBytesIndexEntry
import Derived.WalkSpells
import Derived.LaidEql
import Derived.Carry
import Derived.Deep.Slices
import Derived.Test.YtifnodoffgfpbaaGreatDoorCards
import Derived.Test.YtifnodoffgfpbaaGreatDoorTie
import Derived.ProofKit
import Derived.OpenShut
import Derived.Deep.DeepHandedRow
import Derived.ChangeSame
import Derived.Lay
import Derived.LaidMore
import Derived.SevenTiedAt
import Derived.MapKept
set_option maxHeartbeats 4000000
set_option maxRecDepth 100000
namespace Go.Proofs.YtifnodoffgfpbaaGreatDoor.bulks

theorem one_le {H : Type} (d : DataW H) : 1 ≤ Rows.uptoBulk d := by
  cases d with
  | lit l => cases l <;> simp [Rows.uptoBulk]
  | nil => simp [Rows.uptoBulk]
  | ptr d => simp [Rows.uptoBulk]
  | slice elems spare => simp [Rows.uptoBulk]
  | agg parts => simp [Rows.uptoBulk]
  | iface t d => simp [Rows.uptoBulk]
  | map entries => simp [Rows.uptoBulk]
  | held h => simp [Rows.uptoBulk]

theorem part_le {H : Type} {d : DataW H} {l : List (DataW H)} (h : d ∈ l) : Rows.uptoBulk d ≤ Rows.uptoBulkAll l := by
  induction l with
  | nil => cases h
  | cons x r ih =>
    simp only [Rows.uptoBulkAll]
    cases List.mem_cons.1 h with
    | inl e => subst e; omega
    | inr e => have := ih e; omega

theorem append {H : Type} (l r : List (DataW H)) : Rows.uptoBulkAll (l ++ r) = Rows.uptoBulkAll l + Rows.uptoBulkAll r := by
  induction l with
  | nil => simp [Rows.uptoBulkAll]
  | cons x l ih => simp only [List.cons_append, Rows.uptoBulkAll, ih]; omega

theorem length_le {H : Type} (l : List (DataW H)) : l.length ≤ Rows.uptoBulkAll l := by
  induction l with
  | nil => simp [Rows.uptoBulkAll]
  | cons x r ih => have := one_le x; simp only [Rows.uptoBulkAll, List.length_cons]; omega

theorem slice_le {H : Type} (elems spare : List (DataW H)) : elems.length + spare.length + 1 ≤ Rows.uptoBulk (.slice elems spare) := by
  have h1 := length_le elems
  have h2 := length_le spare
  simp only [Rows.uptoBulk]
  omega
theorem bound {H : Type} {l : List (DataW H)} (hk : Rows.uptoSmall H l = true) : Rows.uptoBulkAll l ≤ 1048576 := by
  simpa [Rows.uptoSmall] using hk

end Go.Proofs.YtifnodoffgfpbaaGreatDoor.bulks

namespace Go.Proofs.YtifnodoffgfpbaaGreatDoor
open Go

def lk : List (Nat × Value) → Nat → Option Value
  | [], _ => none
  | (d, v) :: l, t => bif Nat.beq d t then some v else lk l t
def over (l : List (Nat × Value)) (r : Nat → Value) : Nat → Value := fun t => (lk l t).getD (r t)
def act (n : Nat) (r : Nat → Value) : Act := { tmps := Array.ofFn (fun i : Fin n => r i.1), defers := [] }
def env (n : Nat) (l : List (Nat × Value)) (r : Nat → Value) : Act := act n (over l r)
def ev (n : Nat) (l : List (Nat × Value)) : Operand → Option Value
  | .tmp t => bif Nat.blt t n then lk l t else none
  | .const v => some v
  | .global g => some (.pointer (some ⟨g, 0, none⟩))
  | .func f => some (.func (.func f) #[] #[])
def evs (n : Nat) (l : List (Nat × Value)) : List Operand → Option (List Value)
  | [] => some []
  | x :: xs => (ev n l x).bind fun v => (evs n l xs).bind fun vs => some (v :: vs)

theorem act_getD (n : Nat) (r : Nat → Value) (t : Nat) (d : Value) (h : t < n) : (act n r).tmps.getD t d = r t := by
  simp [act, Array.getD_eq_getD_getElem?, h]

theorem ev_eval {n : Nat} {l : List (Nat × Value)} {x : Operand} {v : Value} (r : Nat → Value) (h : ev n l x = some v) : (env n l r).eval x = v := by
  cases x with
  | tmp t =>
    simp only [ev] at h
    by_cases ht : t < n
    · rw [show Nat.blt t n = true by rw [Nat.blt_eq]; exact ht] at h
      simp only [cond_true] at h
      simp only [Act.eval, env]
      rw [act_getD _ _ _ _ ht]
      simp [over, h]
    · have : Nat.blt t n = false := by
        cases hb : Nat.blt t n with
        | false => rfl
        | true => rw [Nat.blt_eq] at hb; exact absurd hb ht
      rw [this] at h
      simp at h
  | const u => simpa [ev, Act.eval] using h
  | global g => simpa [ev, Act.eval] using h
  | func f => simpa [ev, Act.eval] using h

theorem evs_eval {n : Nat} {l : List (Nat × Value)} (r : Nat → Value) : ∀ {xs : List Operand} {vs : List Value}, evs n l xs = some vs → xs.map (env n l r).eval = vs
  | [], vs, h => by simp only [evs, Option.some.injEq] at h; subst h; rfl
  | x :: xs, vs, h => by
    simp only [evs, Option.bind_eq_some_iff, Option.some.injEq] at h
    obtain ⟨v, hv, us, hus, rfl⟩ := h
    simp only [List.map_cons, ev_eval r hv, evs_eval r hus]

theorem env_put (n : Nat) (l : List (Nat × Value)) (r : Nat → Value) (d : Nat) (v : Value) : (env n l r).put (some d) v = env n ((d, v) :: l) r := by
  simp only [Act.put, env, act]
  congr 1
  apply Array.ext
  · simp
  · intro i h1 h2
    simp only [Array.size_setIfInBounds, Array.size_ofFn] at h1
    rw [Array.getElem_setIfInBounds (by simpa using h1)]
    simp only [Array.getElem_ofFn, over, lk]
    by_cases h : d = i
    · subst h; simp
    · have hb : Nat.beq d i = false := by
        cases hb : Nat.beq d i with
        | false => rfl
        | true => exact absurd (Nat.eq_of_beq_eq_true hb) h
      rw [hb]; simp [h]

def okl (l : List (Nat × Value)) : List (Nat × Value) → Prop
  | [] => True
  | (t, v) :: r => lk l t = some v ∧ okl l r

theorem okl_lk {l : List (Nat × Value)} : ∀ {l' : List (Nat × Value)} {t : Nat} {v : Value}, okl l l' → lk l' t = some v → lk l t = some v
  | [], _, _, _, h => by simp [lk] at h
  | (p1, p2) :: r, t, v, ho, h => by
    simp only [lk] at h
    cases hb : Nat.beq p1 t with
    | true =>
      have := Nat.eq_of_beq_eq_true hb
      subst this
      rw [hb] at h
      simp only [cond_true, Option.some.injEq] at h
      subst h
      exact ho.1
    | false =>
      rw [hb] at h
      exact okl_lk ho.2 h

theorem over_okl {l l' : List (Nat × Value)} (h : okl l l') (r : Nat → Value) : over l r = over l' (over l r) := by
  funext t
  simp only [over]
  cases hl : lk l' t with
  | none => simp
  | some v => simp [okl_lk h hl]

theorem forget {n : Nat} {l : List (Nat × Value)} {r : Nat → Value} {G : Act → Prop} (l' : List (Nat × Value)) (h : okl l l') (k : ∀ r', G (env n l' r')) : G (env n l r) := by
  have : env n l r = env n l' (over l r) := by simp only [env]; exact congrArg (act n) (over_okl h r)
  rw [this]
  exact k _

theorem forget_wp {P : Program} {c : Code} {Q : Exit → Act → World → Prop} {w : World} {n : Nat} {l : List (Nat × Value)} {r : Nat → Value} (l' : List (Nat × Value)) (h : okl l l') (k : ∀ r', c.wp P Q (env n l' r') w) : c.wp P Q (env n l r) w :=
  forget (G := fun a => c.wp P Q a w) l' h k

def enum : Nat → List Value → List (Nat × Value)
  | _, [] => []
  | k, v :: vs => (k, v) :: enum (k + 1) vs

theorem lk_enum : ∀ (vs : List Value) (k t : Nat), lk (enum k vs) t = if t < k then none else vs[t - k]?
  | [], k, t => by simp [enum, lk]
  | v :: vs, k, t => by
    simp only [enum, lk]
    rw [lk_enum vs (k + 1) t]
    by_cases h : k = t
    · subst h; simp
    · have hb : Nat.beq k t = false := by
        cases hb : Nat.beq k t with
        | false => rfl
        | true => exact absurd (Nat.eq_of_beq_eq_true hb) h
      rw [hb]
      simp only [cond_false]
      by_cases h1 : t < k
      · rw [if_pos h1, if_pos (by omega)]
      · rw [if_neg h1, if_neg (by omega)]
        have : t - k = (t - (k + 1)) + 1 := by omega
        rw [this, List.getElem?_cons_succ]

def Ret (P : Program) (f : FuncId) (vs : List Value) (w : World) (R : Value → World → Prop) : Prop :=
  Calls P f vs.toArray w fun e w' => ∃ v, e = .returned v ∧ R v w'

theorem Ret.mono {P : Program} {f : FuncId} {vs : List Value} {w : World} {R R' : Value → World → Prop} (h : Ret P f vs w R) (hr : ∀ v w', R v w' → R' v w') : Ret P f vs w R' :=
  Calls.mono h fun _ _ ⟨v, he, hv⟩ => ⟨v, he, hr _ _ hv⟩

def RP (P : Program) (fn : Func) (R : Value → World → Prop) : Exit → Act → World → Prop
  | .normal, a, w | .ret, a, w => a.defers = [] ∧ ∃ v, (results fn a.tmps).run P w = .ok v w ∧ R v w
  | _, _, _ => False

theorem ret_of {P : Program} {f : FuncId} {fn : Func} {c : Code} {n : Nat} {vs : List Value} {w : World} {R : Value → World → Prop}
    (hf : P.funcs[f]? = some fn) (hb : fn.body = some c) (hn : fn.ntmps = n) (hlen : Nat.ble vs.length n = true) (l : List (Nat × Value)) (hl : enum 0 vs = l)
    (h : c.wp P (RP P fn R) (env n l (fun _ => undef)) w) : Ret P f vs w R := by
  subst hl
  have hlen := Nat.le_of_ble_eq_true hlen
  refine calls_of_wp hf hb ?_
  have he : ({ tmps := vs.toArray ++ Array.replicate (fn.ntmps - vs.toArray.size) undef, defers := [] } : Act) = env n (enum 0 vs) (fun _ => undef) := by
    subst hn
    simp only [env, act]
    congr 1
    apply Array.ext
    · simp; omega
    · intro i h1 h2
      simp only [Array.size_ofFn] at h2
      simp only [Array.getElem_ofFn, over, lk_enum, Nat.not_lt_zero, if_false, Nat.sub_zero]
      rw [Array.getElem_append]
      split
      · rename_i hi
        simp only [List.size_toArray] at hi
        simp [hi]
      · rename_i hi
        simp only [List.size_toArray, Nat.not_lt] at hi
        simp [List.getElem?_eq_none hi]
  rw [he]
  refine wp_mono h fun e a w' hq => ?_
  cases e <;> simp only [RP] at hq <;> try exact hq.elim
  · obtain ⟨hd, v, hr, hR⟩ := hq; exact ⟨hd, v, hr, v, rfl, hR⟩
  · obtain ⟨hd, v, hr, hR⟩ := hq; exact ⟨hd, v, hr, v, rfl, hR⟩

def RV (P : Program) (n : Nat) (l : List (Nat × Value)) (w : World) (rv : ResultVar) (v : Value) : Prop :=
  match rv with
  | .tmp t => ev n l (.tmp t) = some v
  | .cell t T => ∃ a, ev n l (.tmp t) = some (.pointer (some a)) ∧ (loadVar T a).run P w = .ok v w

theorem getD_ev {n : Nat} {l : List (Nat × Value)} {t : Nat} {v : Value} (r : Nat → Value) (h : ev n l (.tmp t) = some v) : (env n l r).tmps.getD t undef = v := ev_eval (x := .tmp t) r h

theorem RV.split {P : Program} {n : Nat} {l : List (Nat × Value)} {w : World} {rv : ResultVar} {v : Value} (r : Nat → Value) (h : RV P n l w rv v) :
    (∃ t, rv = .tmp t ∧ (env n l r).tmps.getD t undef = v) ∨ ∃ t T a, rv = .cell t T ∧ (env n l r).tmps.getD t undef = .pointer (some a) ∧ (loadVar T a).run P w = .ok v w := by
  cases rv with
  | tmp t => exact .inl ⟨t, rfl, getD_ev r h⟩
  | cell t T =>
    obtain ⟨a, h1, h2⟩ := h
    exact .inr ⟨t, T, a, rfl, getD_ev r h1, h2⟩

section
variable {P : Program} {fn : Func} {R : Value → World → Prop} {n : Nat} {l : List (Nat × Value)} {r : Nat → Value} {w : World}

theorem rp0 (hr : fn.results = #[]) (hR : R (.tuple #[]) w) : RP P fn R .ret (env n l r) w :=
  ⟨rfl, _, by simp [results, hr], hR⟩
theorem rp0n (hr : fn.results = #[]) (hR : R (.tuple #[]) w) : RP P fn R .normal (env n l r) w :=
  ⟨rfl, _, by simp [results, hr], hR⟩
theorem rp1 {x : ResultVar} {v : Value} (hr : fn.results = #[x]) (h : RV P n l w x v) (hR : R v w) : RP P fn R .ret (env n l r) w := by
  refine ⟨rfl, v, ?_, hR⟩
  rcases h.split r with ⟨t, rfl, e⟩ | ⟨t, T, a, rfl, e, e'⟩ <;>
    simp [results, asAddr, *, -Array.getD_eq_getD_getElem?]
theorem rp2 {x y : ResultVar} {v u : Value} (hr : fn.results = #[x, y]) (h : RV P n l w x v) (h' : RV P n l w y u) (hR : R (.tuple #[v, u]) w) : RP P fn R .ret (env n l r) w := by
  refine ⟨rfl, .tuple #[v, u], ?_, hR⟩
  rcases h.split r with ⟨t, rfl, e⟩ | ⟨t, T, a, rfl, e, e'⟩ <;> rcases h'.split r with ⟨t2, rfl, e2⟩ | ⟨t2, T2, a2, rfl, e2, e2'⟩ <;>
    simp [results, asAddr, *, -Array.getD_eq_getD_getElem?]
theorem rp3 {x y z : ResultVar} {v u t : Value} (hr : fn.results = #[x, y, z]) (h : RV P n l w x v) (h' : RV P n l w y u) (h'' : RV P n l w z t) (hR : R (.tuple #[v, u, t]) w) : RP P fn R .ret (env n l r) w := by
  refine ⟨rfl, .tuple #[v, u, t], ?_, hR⟩
  rcases h.split r with ⟨t, rfl, e⟩ | ⟨t, T, a, rfl, e, e'⟩ <;> rcases h'.split r with ⟨t2, rfl, e2⟩ | ⟨t2, T2, a2, rfl, e2, e2'⟩ <;> rcases h''.split r with ⟨t3, rfl, e3⟩ | ⟨t3, T3, a3, rfl, e3, e3'⟩ <;>
    simp [results, asAddr, *, -Array.getD_eq_getD_getElem?]
end
theorem lU {U : Nat → Prop} {a b : Nat} (h : ∀ k, U k → k < a) (e : a ≤ b) : ∀ k, U k → k < b := fun k hk => Nat.lt_of_lt_of_le (h k hk) e
theorem nF {U : Nat → Prop} : ∀ k, U k → ¬ (fun (_ : Nat) => False) k := fun _ _ h => h
theorem fg {P : Program} {c : Code} {Q : Exit → Act → World → Prop} {w : World} {n : Nat} {l : List (Nat × Value)} {r : Nat → Value} (l' : List (Nat × Value)) (h : okl l l') (k : ∀ r', c.wp P Q (env n l' r') w) : c.wp P Q (env n l r) w := forget_wp l' h k
section
variable {P : Program} {C : Code} {Q : Exit → Act → World → Prop} {W : World} {n : Nat} {l : List (Nat × Value)} {R : Nat → Value}
theorem fbg (a0 : Nat) {v0 : Value} (h : [lk l a0] = [some v0]) (k : ∀ r, C.wp P Q (env n [(a0, v0)] r) W) : C.wp P Q (env n l R) W := by
 simp only [List.cons.injEq, and_true] at h
 exact fg [(a0, v0)] ⟨h, ⟨⟩⟩ k
theorem fcg (a0 a1 : Nat) {v0 v1 : Value} (h : [lk l a0, lk l a1] = [some v0, some v1]) (k : ∀ r, C.wp P Q (env n [(a0, v0), (a1, v1)] r) W) : C.wp P Q (env n l R) W := by
 simp only [List.cons.injEq, and_true] at h
 exact fg [(a0, v0), (a1, v1)] ⟨h.1, h.2, ⟨⟩⟩ k
theorem fdg (a0 a1 a2 : Nat) {v0 v1 v2 : Value} (h : [lk l a0, lk l a1, lk l a2] = [some v0, some v1, some v2]) (k : ∀ r, C.wp P Q (env n [(a0, v0), (a1, v1), (a2, v2)] r) W) : C.wp P Q (env n l R) W := by
 simp only [List.cons.injEq, and_true] at h
 exact fg [(a0, v0), (a1, v1), (a2, v2)] ⟨h.1, h.2.1, h.2.2, ⟨⟩⟩ k
theorem feg (a0 a1 a2 a3 : Nat) {v0 v1 v2 v3 : Value} (h : [lk l a0, lk l a1, lk l a2, lk l a3] = [some v0, some v1, some v2, some v3]) (k : ∀ r, C.wp P Q (env n [(a0, v0), (a1, v1), (a2, v2), (a3, v3)] r) W) : C.wp P Q (env n l R) W := by
 simp only [List.cons.injEq, and_true] at h
 exact fg [(a0, v0), (a1, v1), (a2, v2), (a3, v3)] ⟨h.1, h.2.1, h.2.2.1, h.2.2.2, ⟨⟩⟩ k
theorem ffg (a0 a1 a2 a3 a4 : Nat) {v0 v1 v2 v3 v4 : Value} (h : [lk l a0, lk l a1, lk l a2, lk l a3, lk l a4] = [some v0, some v1, some v2, some v3, some v4]) (k : ∀ r, C.wp P Q (env n [(a0, v0), (a1, v1), (a2, v2), (a3, v3), (a4, v4)] r) W) : C.wp P Q (env n l R) W := by
 simp only [List.cons.injEq, and_true] at h
 exact fg [(a0, v0), (a1, v1), (a2, v2), (a3, v3), (a4, v4)] ⟨h.1, h.2.1, h.2.2.1, h.2.2.2.1, h.2.2.2.2, ⟨⟩⟩ k
theorem fgg (a0 a1 a2 a3 a4 a5 : Nat) {v0 v1 v2 v3 v4 v5 : Value} (h : [lk l a0, lk l a1, lk l a2, lk l a3, lk l a4, lk l a5] = [some v0, some v1, some v2, some v3, some v4, some v5]) (k : ∀ r, C.wp P Q (env n [(a0, v0), (a1, v1), (a2, v2), (a3, v3), (a4, v4), (a5, v5)] r) W) : C.wp P Q (env n l R) W := by
 simp only [List.cons.injEq, and_true] at h
 exact fg [(a0, v0), (a1, v1), (a2, v2), (a3, v3), (a4, v4), (a5, v5)] ⟨h.1, h.2.1, h.2.2.1, h.2.2.2.1, h.2.2.2.2.1, h.2.2.2.2.2, ⟨⟩⟩ k
theorem fhg (a0 a1 a2 a3 a4 a5 a6 : Nat) {v0 v1 v2 v3 v4 v5 v6 : Value} (h : [lk l a0, lk l a1, lk l a2, lk l a3, lk l a4, lk l a5, lk l a6] = [some v0, some v1, some v2, some v3, some v4, some v5, some v6]) (k : ∀ r, C.wp P Q (env n [(a0, v0), (a1, v1), (a2, v2), (a3, v3), (a4, v4), (a5, v5), (a6, v6)] r) W) : C.wp P Q (env n l R) W := by
 simp only [List.cons.injEq, and_true] at h
 exact fg [(a0, v0), (a1, v1), (a2, v2), (a3, v3), (a4, v4), (a5, v5), (a6, v6)] ⟨h.1, h.2.1, h.2.2.1, h.2.2.2.1, h.2.2.2.2.1, h.2.2.2.2.2.1, h.2.2.2.2.2.2, ⟨⟩⟩ k
theorem fig (a0 a1 a2 a3 a4 a5 a6 a7 : Nat) {v0 v1 v2 v3 v4 v5 v6 v7 : Value} (h : [lk l a0, lk l a1, lk l a2, lk l a3, lk l a4, lk l a5, lk l a6, lk l a7] = [some v0, some v1, some v2, some v3, some v4, some v5, some v6, some v7]) (k : ∀ r, C.wp P Q (env n [(a0, v0), (a1, v1), (a2, v2), (a3, v3), (a4, v4), (a5, v5), (a6, v6), (a7, v7)] r) W) : C.wp P Q (env n l R) W := by
 simp only [List.cons.injEq, and_true] at h
 exact fg [(a0, v0), (a1, v1), (a2, v2), (a3, v3), (a4, v4), (a5, v5), (a6, v6), (a7, v7)] ⟨h.1, h.2.1, h.2.2.1, h.2.2.2.1, h.2.2.2.2.1, h.2.2.2.2.2.1, h.2.2.2.2.2.2.1, h.2.2.2.2.2.2.2, ⟨⟩⟩ k
theorem fjg (a0 a1 a2 a3 a4 a5 a6 a7 a8 : Nat) {v0 v1 v2 v3 v4 v5 v6 v7 v8 : Value} (h : [lk l a0, lk l a1, lk l a2, lk l a3, lk l a4, lk l a5, lk l a6, lk l a7, lk l a8] = [some v0, some v1, some v2, some v3, some v4, some v5, some v6, some v7, some v8]) (k : ∀ r, C.wp P Q (env n [(a0, v0), (a1, v1), (a2, v2), (a3, v3), (a4, v4), (a5, v5), (a6, v6), (a7, v7), (a8, v8)] r) W) : C.wp P Q (env n l R) W := by
 simp only [List.cons.injEq, and_true] at h
 exact fg [(a0, v0), (a1, v1), (a2, v2), (a3, v3), (a4, v4), (a5, v5), (a6, v6), (a7, v7), (a8, v8)] ⟨h.1, h.2.1, h.2.2.1, h.2.2.2.1, h.2.2.2.2.1, h.2.2.2.2.2.1, h.2.2.2.2.2.2.1, h.2.2.2.2.2.2.2.1, h.2.2.2.2.2.2.2.2, ⟨⟩⟩ k
theorem fkg (a0 a1 a2 a3 a4 a5 a6 a7 a8 a9 : Nat) {v0 v1 v2 v3 v4 v5 v6 v7 v8 v9 : Value} (h : [lk l a0, lk l a1, lk l a2, lk l a3, lk l a4, lk l a5, lk l a6, lk l a7, lk l a8, lk l a9] = [some v0, some v1, some v2, some v3, some v4, some v5, some v6, some v7, some v8, some v9]) (k : ∀ r, C.wp P Q (env n [(a0, v0), (a1, v1), (a2, v2), (a3, v3), (a4, v4), (a5, v5), (a6, v6), (a7, v7), (a8, v8), (a9, v9)] r) W) : C.wp P Q (env n l R) W := by
 simp only [List.cons.injEq, and_true] at h
 exact fg [(a0, v0), (a1, v1), (a2, v2), (a3, v3), (a4, v4), (a5, v5), (a6, v6), (a7, v7), (a8, v8), (a9, v9)] ⟨h.1, h.2.1, h.2.2.1, h.2.2.2.1, h.2.2.2.2.1, h.2.2.2.2.2.1, h.2.2.2.2.2.2.1, h.2.2.2.2.2.2.2.1, h.2.2.2.2.2.2.2.2.1, h.2.2.2.2.2.2.2.2.2, ⟨⟩⟩ k
theorem flg (a0 a1 a2 a3 a4 a5 a6 a7 a8 a9 a10 : Nat) {v0 v1 v2 v3 v4 v5 v6 v7 v8 v9 v10 : Value} (h : [lk l a0, lk l a1, lk l a2, lk l a3, lk l a4, lk l a5, lk l a6, lk l a7, lk l a8, lk l a9, lk l a10] = [some v0, some v1, some v2, some v3, some v4, some v5, some v6, some v7, some v8, some v9, some v10]) (k : ∀ r, C.wp P Q (env n [(a0, v0), (a1, v1), (a2, v2), (a3, v3), (a4, v4), (a5, v5), (a6, v6), (a7, v7), (a8, v8), (a9, v9), (a10, v10)] r) W) : C.wp P Q (env n l R) W := by
 simp only [List.cons.injEq, and_true] at h
 exact fg [(a0, v0), (a1, v1), (a2, v2), (a3, v3), (a4, v4), (a5, v5), (a6, v6), (a7, v7), (a8, v8), (a9, v9), (a10, v10)] ⟨h.1, h.2.1, h.2.2.1, h.2.2.2.1, h.2.2.2.2.1, h.2.2.2.2.2.1, h.2.2.2.2.2.2.1, h.2.2.2.2.2.2.2.1, h.2.2.2.2.2.2.2.2.1, h.2.2.2.2.2.2.2.2.2.1, h.2.2.2.2.2.2.2.2.2.2, ⟨⟩⟩ k
theorem fmg (a0 a1 a2 a3 a4 a5 a6 a7 a8 a9 a10 a11 : Nat) {v0 v1 v2 v3 v4 v5 v6 v7 v8 v9 v10 v11 : Value} (h : [lk l a0, lk l a1, lk l a2, lk l a3, lk l a4, lk l a5, lk l a6, lk l a7, lk l a8, lk l a9, lk l a10, lk l a11] = [some v0, some v1, some v2, some v3, some v4, some v5, some v6, some v7, some v8, some v9, some v10, some v11]) (k : ∀ r, C.wp P Q (env n [(a0, v0), (a1, v1), (a2, v2), (a3, v3), (a4, v4), (a5, v5), (a6, v6), (a7, v7), (a8, v8), (a9, v9), (a10, v10), (a11, v11)] r) W) : C.wp P Q (env n l R) W := by
 simp only [List.cons.injEq, and_true] at h
 exact fg [(a0, v0), (a1, v1), (a2, v2), (a3, v3), (a4, v4), (a5, v5), (a6, v6), (a7, v7), (a8, v8), (a9, v9), (a10, v10), (a11, v11)] ⟨h.1, h.2.1, h.2.2.1, h.2.2.2.1, h.2.2.2.2.1, h.2.2.2.2.2.1, h.2.2.2.2.2.2.1, h.2.2.2.2.2.2.2.1, h.2.2.2.2.2.2.2.2.1, h.2.2.2.2.2.2.2.2.2.1, h.2.2.2.2.2.2.2.2.2.2.1, h.2.2.2.2.2.2.2.2.2.2.2, ⟨⟩⟩ k
theorem fng (a0 a1 a2 a3 a4 a5 a6 a7 a8 a9 a10 a11 a12 : Nat) {v0 v1 v2 v3 v4 v5 v6 v7 v8 v9 v10 v11 v12 : Value} (h : [lk l a0, lk l a1, lk l a2, lk l a3, lk l a4, lk l a5, lk l a6, lk l a7, lk l a8, lk l a9, lk l a10, lk l a11, lk l a12] = [some v0, some v1, some v2, some v3, some v4, some v5, some v6, some v7, some v8, some v9, some v10, some v11, some v12]) (k : ∀ r, C.wp P Q (env n [(a0, v0), (a1, v1), (a2, v2), (a3, v3), (a4, v4), (a5, v5), (a6, v6), (a7, v7), (a8, v8), (a9, v9), (a10, v10), (a11, v11), (a12, v12)] r) W) : C.wp P Q (env n l R) W := by
 simp only [List.cons.injEq, and_true] at h
 exact fg [(a0, v0), (a1, v1), (a2, v2), (a3, v3), (a4, v4), (a5, v5), (a6, v6), (a7, v7), (a8, v8), (a9, v9), (a10, v10), (a11, v11), (a12, v12)] ⟨h.1, h.2.1, h.2.2.1, h.2.2.2.1, h.2.2.2.2.1, h.2.2.2.2.2.1, h.2.2.2.2.2.2.1, h.2.2.2.2.2.2.2.1, h.2.2.2.2.2.2.2.2.1, h.2.2.2.2.2.2.2.2.2.1, h.2.2.2.2.2.2.2.2.2.2.1, h.2.2.2.2.2.2.2.2.2.2.2.1, h.2.2.2.2.2.2.2.2.2.2.2.2, ⟨⟩⟩ k
theorem fog (a0 a1 a2 a3 a4 a5 a6 a7 a8 a9 a10 a11 a12 a13 : Nat) {v0 v1 v2 v3 v4 v5 v6 v7 v8 v9 v10 v11 v12 v13 : Value} (h : [lk l a0, lk l a1, lk l a2, lk l a3, lk l a4, lk l a5, lk l a6, lk l a7, lk l a8, lk l a9, lk l a10, lk l a11, lk l a12, lk l a13] = [some v0, some v1, some v2, some v3, some v4, some v5, some v6, some v7, some v8, some v9, some v10, some v11, some v12, some v13]) (k : ∀ r, C.wp P Q (env n [(a0, v0), (a1, v1), (a2, v2), (a3, v3), (a4, v4), (a5, v5), (a6, v6), (a7, v7), (a8, v8), (a9, v9), (a10, v10), (a11, v11), (a12, v12), (a13, v13)] r) W) : C.wp P Q (env n l R) W := by
 simp only [List.cons.injEq, and_true] at h
 exact fg [(a0, v0), (a1, v1), (a2, v2), (a3, v3), (a4, v4), (a5, v5), (a6, v6), (a7, v7), (a8, v8), (a9, v9), (a10, v10), (a11, v11), (a12, v12), (a13, v13)] ⟨h.1, h.2.1, h.2.2.1, h.2.2.2.1, h.2.2.2.2.1, h.2.2.2.2.2.1, h.2.2.2.2.2.2.1, h.2.2.2.2.2.2.2.1, h.2.2.2.2.2.2.2.2.1, h.2.2.2.2.2.2.2.2.2.1, h.2.2.2.2.2.2.2.2.2.2.1, h.2.2.2.2.2.2.2.2.2.2.2.1, h.2.2.2.2.2.2.2.2.2.2.2.2.1, h.2.2.2.2.2.2.2.2.2.2.2.2.2, ⟨⟩⟩ k
end
theorem nU {U : Nat → Prop} {n b : Nat} (hU : ∀ k, U k → k < n) (h : n ≤ b) : ∀ k, U k → ¬ (fun k => k = b) k := fun k hk e => by
 have e : k = b := e
 have := hU k hk; omega
theorem fC {α : Type} {a : List α} {l : List (List α)} : (a :: l).flatten = a ++ l.flatten := List.flatten_cons
theorem fN {α : Type} : ([] : List (List α)).flatten = [] := List.flatten_nil
theorem aA {α : Type} {p : α → Bool} {a b : List α} : (a ++ b).all p = (a.all p && b.all p) := List.all_append
theorem aN {α : Type} (a : List α) : a ++ [] = a := List.append_nil a
theorem bT (b : Bool) : (true && b) = b := Bool.true_and b
end Go.Proofs.YtifnodoffgfpbaaGreatDoor

namespace Go.Proofs.YtifnodoffgfpbaaGreatDoor
open Go

section
variable {P : Program} {ops : Array Oper} {Q : Exit → Act → World → Prop} {S : World → Prop} {st : List Nat}

def waits (ops : Array Oper) : Nat → Nat → Nat → Bool
  | 0, _, _ => false
  | fuel + 1, j, i => match ops[j]? with
    | some o => o.after.any fun e => Region.binds .any e && (e.on == i || waits ops fuel e.on i)
    | none => false
def closedUp (ops : Array Oper) (listed : Array Bool) : Prop := ∀ k o, listed.getD k false = true → ops[k]? = some o → ∀ e ∈ o.after, Region.binds .any e = true → listed.getD e.on false = true

theorem waits_up {listed : Array Bool} (hc : closedUp ops listed) {i : Nat} : ∀ (fuel j : Nat) (o : Oper), ops[j]? = some o → (∀ e ∈ o.after, Region.binds .any e = true → listed.getD e.on false = true) → waits ops fuel j i = true → listed.getD i false = true
  | 0, _, _, _, _, h => by cases h
  | fuel + 1, j, o, ho, hall, h => by
    simp only [waits, ho] at h
    rw [Array.any_eq_true] at h
    obtain ⟨k, hk, h⟩ := h
    simp only [Bool.and_eq_true, Bool.or_eq_true, beq_iff_eq] at h
    have hup := hall _ (Array.getElem_mem hk) h.1
    rcases h.2 with he | he
    · rw [← he]; exact hup
    · cases ho' : ops[(o.after[k]).on]? with
      | none =>
        cases fuel with
        | zero => cases he
        | succ f => simp only [waits, ho'] at he; cases he
      | some o' => exact waits_up hc fuel _ o' ho' (hc _ o' hup ho') he

theorem closedUp_set {listed : Array Bool} (hc : closedUp ops listed) {j : Nat} (hj : j ∈ Region.ready .any ops listed) : closedUp ops (listed.setIfInBounds j true) := by
  intro k o hk ho e he hb
  obtain ⟨_, oj, hoj, hall⟩ := mem_ready.1 hj
  by_cases hjk : j = k
  · subst hjk
    obtain rfl : oj = o := Option.some.inj (hoj.symm.trans ho)
    exact getD_set_true (hall e he hb)
  · rw [getD_set_ne false hjk] at hk
    exact getD_set_true (hc k o hk ho e he hb)
theorem closedUp_start (n : Nat) : closedUp ops (Array.replicate n false) := by
  intro k o hk
  simp only [Array.getD_eq_getD_getElem?, Array.getElem?_replicate] at hk
  split at hk <;> simp at hk

def behind (ops : Array Oper) (st : List Nat) (j : Nat) : Bool := st.all fun i => waits ops ops.size j i

def wpAnyP (P : Program) (ops : Array Oper) (Q : Exit → Act → World → Prop) (S : World → Prop) (st : List Nat) : Nat → Array Bool → Act → World → Prop
  | 0, listed, a, w => Region.ready .any ops listed = [] ∧ Q .normal a w
  | fuel + 1, listed, a, w =>
    (Region.ready .any ops listed = [] → Q .normal a w) ∧
    ∀ i ∈ Region.ready .any ops listed, wpOp P ops Q i (fun a' w' => (behind ops st i = true ∨ S w') ∧ wpAnyP P ops Q S st fuel (listed.setIfInBounds i true) a' w') a w

theorem wpAny_of_P : ∀ (fuel : Nat) (listed : Array Bool) (a : Act) (w : World), wpAnyP P ops Q S st fuel listed a w → wpAny P .any ops Q fuel listed a w
  | 0, _, _, _, h => h
  | fuel + 1, _, _, _, h => ⟨h.1, fun i hi => wpOp_mono (fun a' w' h' => wpAny_of_P fuel _ a' w' h'.2) (h.2 i hi)⟩

theorem wpAnyP_first {i : Nat} {oi : Oper} {v : Value} (hi : ops[i]? = some oi) (his : i ∈ st) (hsel : ∀ (j : Nat) (o : Oper) cs b, ops[j]? = some o → o.op ≠ .select cs b)
    (hQ : ∀ c a w, Q (.panic c) (a.put oi.dst v) w → Q (.panic c) a w) :
    ∀ (fuel : Nat) (listed : Array Bool) (a : Act) (w : World), closedUp ops listed → Region.free .any ops listed i = true → i ∈ Region.ready .any ops listed → YieldsIf P ops S oi v a → S w →
      wpAnyP P ops Q S st fuel (listed.setIfInBounds i true) (a.put oi.dst v) w → wpAnyP P ops Q S st (fuel + 1) listed a w := by
  intro fuel
  induction fuel with
  | zero =>
    intro listed a w _ _ hr hy hS H
    refine ⟨fun h => (by rw [h] at hr; cases hr), fun j hj => ?_⟩
    by_cases hji : j = i
    · subst hji; exact hy.wpOp hi hS ⟨.inr hS, H⟩
    · have := ready_mono hj hji
      rw [H.1] at this
      cases this
  | succ fuel ih =>
    intro listed a w hcl hfree hr hy hS H
    refine ⟨fun h => (by rw [h] at hr; cases hr), fun j hj => ?_⟩
    by_cases hji : j = i
    · subst hji; exact hy.wpOp hi hS ⟨.inr hS, H⟩
    · have hnow := H.2 j (ready_mono hj hji)
      obtain ⟨hjun, oj, hoj, hall⟩ := mem_ready.1 hj
      have hiun : listed.getD i true = false := (mem_ready.1 hr).1
      have hiun0 : listed.getD i false ≠ true := by
        intro hup
        rcases Nat.lt_or_ge i listed.size with hlt | hge
        · simp [hlt] at hiun hup; rw [hiun] at hup; cases hup
        · simp [Array.getElem?_eq_none hge] at hup
      have hwait : ∀ e ∈ oj.after, Region.binds .any e = true → e.on ≠ i := fun e he hb heq => by
        have hup := hall e he hb
        rw [heq] at hup
        exact hiun0 hup
      have hap := Region.free_spec hi hfree j oj hoj hji hjun hwait
      have hswap := wpOp_putIf hoj hap (fun cs b => hsel i oi cs b hi) (fun cs b => hsel j oj cs b hoj) hQ hy hnow
      have hfree' : Region.free .any ops (listed.setIfInBounds j true) i = true := by
        unfold Region.free at hfree ⊢
        rw [hi] at hfree ⊢
        simp only [List.all_eq_true] at hfree ⊢
        intro k hk
        have hk' := hfree k hk
        simp only [Bool.or_eq_true] at hk' ⊢
        rcases hk' with (h1 | h2) | h3
        · exact .inl (.inl h1)
        · refine .inl (.inr ?_)
          by_cases hjk : j = k
          · subst hjk; rw [hjun] at h2; cases h2
          · rw [getD_set_ne true hjk]; exact h2
        · exact .inr h3
      refine wpOp_mono (fun a' w' ⟨hy', hor, hrest⟩ => ?_) hswap
      have hS' : S w' := by
        rcases hor with hup | hS'
        · exact absurd (waits_up hcl _ j oj hoj hall (List.all_eq_true.1 hup i his)) hiun0
        · exact hS'
      refine ⟨.inr hS', ih (listed.setIfInBounds j true) a' w' (closedUp_set hcl hj) hfree' (ready_mono hr (Ne.symm hji)) hy' hS' ?_⟩
      rw [Array.setIfInBounds_comm _ _ hji]
      exact hrest
end
end Go.Proofs.YtifnodoffgfpbaaGreatDoor

namespace Go.Proofs.YtifnodoffgfpbaaGreatDoor
open Go

def Ex (P : Program) (n : Nat) (l : List (Nat × Value)) (op : Op) (ty : TypeId) (w : World) (v : Value) (w' : World) : Prop :=
  ∀ (r : Nat → Value) (d : Option Tmp) (pos : String) (af : Array Edge) (g : Option (Nat × Bool)),
    (execOp (env n l r).eval ⟨d, op, ty, pos, af, g⟩).run P w = .ok (.value v) w'
def ExU (P : Program) (n : Nat) (l : List (Nat × Value)) (op : Op) (ty : TypeId) (w : World) (w' : World) : Prop :=
  ∀ (r : Nat → Value) (d : Option Tmp) (pos : String) (af : Array Edge) (g : Option (Nat × Bool)),
    (execOp (env n l r).eval ⟨d, op, ty, pos, af, g⟩).run P w = .ok .skip w'
def ExC (P : Program) (n : Nat) (l : List (Nat × Value)) (op : Op) (ty : TypeId) (w : World) (f : FuncId) (vs : List Value) : Prop :=
  ∀ (r : Nat → Value) (d : Option Tmp) (pos : String) (af : Array Edge) (g : Option (Nat × Bool)),
    (execOp (env n l r).eval ⟨d, op, ty, pos, af, g⟩).run P w = .ok (.enter f vs.toArray) w

structure WL (P : Program) (ops : Array Oper) (Q : Exit → Act → World → Prop) (rest : List Oper) (a : Act) (w : World) : Prop where
  out : wpList P ops Q rest a w

section
variable {P : Program} {ops : Array Oper} {Q : Exit → Act → World → Prop} {rest : List Oper} {n : Nat} {l : List (Nat × Value)} {r : Nat → Value} {w w' : World}
  {op : Op} {ty : TypeId} {pos : String} {af : Array Edge} {v : Value} {d : Nat}

theorem sv (h : Ex P n l op ty w v w') (k : WL P ops Q rest (env n ((d, v) :: l) r) w') : WL P ops Q (⟨some d, op, ty, pos, af, none⟩ :: rest) (env n l r) w := by
  constructor
  unfold wpList
  rw [if_pos (by simp [Region.wanted])]
  left
  unfold Oper.wp
  rw [h r _ _ _ _]
  simp only [Oper.upon]
  rw [env_put]
  exact k.out
theorem su (h : ExU P n l op ty w w') (k : WL P ops Q rest (env n l r) w') : WL P ops Q (⟨none, op, ty, pos, af, none⟩ :: rest) (env n l r) w := by
  constructor
  unfold wpList
  rw [if_pos (by simp [Region.wanted])]
  left
  unfold Oper.wp
  rw [h r _ _ _ _]
  exact k.out
theorem sc {f : FuncId} {vs : List Value} {R : Value → World → Prop} (h : ExC P n l op ty w f vs) (hc : Ret P f vs w R)
    (k : ∀ v w', R v w' → WL P ops Q rest (env n ((d, v) :: l) r) w') : WL P ops Q (⟨some d, op, ty, pos, af, none⟩ :: rest) (env n l r) w := by
  constructor
  unfold wpList
  rw [if_pos (by simp [Region.wanted])]
  left
  unfold Oper.wp
  rw [h r _ _ _ _]
  simp only [Oper.upon]
  refine Calls.mono hc fun e w'' ⟨u, he, hR⟩ => ?_
  subst he
  simp only []
  rw [env_put]
  exact (k _ _ hR).out
theorem yielded_ev {j dj : Nat} {b : Bool} (hj : (ops[j]?).bind (·.dst) = some dj) (hb : ev n l (.tmp dj) = some (.bool b)) : yielded ops (env n l r).tmps j = some b := by
  have := getD_ev r hb
  simp only [yielded, hj]
  simp only [Option.bind_some]
  rw [Array.getD_eq_getD_getElem?] at this
  cases h : (env n l r).tmps[dj]? with
  | none => rw [h] at this; simp [undef] at this
  | some u => rw [h] at this; simp only [Option.getD_some] at this; subst this; rfl

theorem gyes {dst : Option Tmp} {j dj : Nat} {want : Bool} {a : Act} (hj : (ops[j]?).bind (·.dst) = some dj) (ha : a = env n l r) (hb : ev n l (.tmp dj) = some (.bool want))
    (k : WL P ops Q (⟨dst, op, ty, pos, af, none⟩ :: rest) a w) : WL P ops Q (⟨dst, op, ty, pos, af, some (j, want)⟩ :: rest) a w := by
  subst ha
  have k := k.out
  constructor
  unfold wpList at k ⊢
  rw [if_pos (by simp [Region.wanted])] at k
  rw [if_pos (by simp [Region.wanted, yielded_ev hj hb])]
  exact k
theorem gno {j dj : Nat} {want b : Bool} (hj : (ops[j]?).bind (·.dst) = some dj) (hb : ev n l (.tmp dj) = some (.bool b)) (hne : (b == want) = false)
    (k : WL P ops Q rest (env n ((d, undef) :: l) r) w) : WL P ops Q (⟨some d, op, ty, pos, af, some (j, want)⟩ :: rest) (env n l r) w := by
  constructor
  unfold wpList
  rw [if_neg (by simp only [Region.wanted, yielded_ev hj hb]; cases b <;> cases want <;> simp_all)]
  rw [env_put]
  exact k.out
end

inductive Kd where
  | rd | ld | bh
def runH (P : Program) (ops : Array Oper) (Q : Exit → Act → World → Prop) (S : World → Prop) : List (Nat × Kd) → Act → World → Prop
  | [], a, w => Q .normal a w
  | (i, .rd) :: r, a, w => ∃ o v, ops[i]? = some o ∧ YieldsIf P ops S o v a ∧ S w ∧ runH P ops Q S r (a.put o.dst v) w
  | (i, .ld) :: r, a, w => wpOp P ops Q i (fun a' w' => S w' ∧ runH P ops Q S r a' w') a w
  | (i, .bh) :: r, a, w => wpOp P ops Q i (fun a' w' => runH P ops Q S r a' w') a w

def reads : List (Nat × Kd) → List Nat
  | [] => []
  | (i, .rd) :: r => i :: reads r
  | (_, .ld) :: r => reads r
  | (_, .bh) :: r => reads r

def okRun (ops : Array Oper) (st : List Nat) : Array Bool → List (Nat × Kd) → Bool
  | listed, [] => (Region.ready .any ops listed).isEmpty
  | listed, (i, .rd) :: r => st.contains i && Region.free .any ops listed i && (Region.ready .any ops listed).contains i && okRun ops st (listed.setIfInBounds i true) r
  | listed, (i, .ld) :: r => (Region.ready .any ops listed == [i]) && okRun ops st (listed.setIfInBounds i true) r
  | listed, (i, .bh) :: r => (Region.ready .any ops listed == [i]) && behind ops st i && okRun ops st (listed.setIfInBounds i true) r

section
variable {P : Program} {ops : Array Oper} {Q : Exit → Act → World → Prop} {S : World → Prop} {st : List Nat}

theorem wpAnyP_one {i : Nat} {fuel : Nat} {listed : Array Bool} {a : Act} {w : World} (hr : Region.ready .any ops listed = [i])
    (h : wpOp P ops Q i (fun a' w' => (behind ops st i = true ∨ S w') ∧ wpAnyP P ops Q S st fuel (listed.setIfInBounds i true) a' w') a w) : wpAnyP P ops Q S st (fuel + 1) listed a w :=
  ⟨fun h0 => (by rw [hr] at h0; cases h0), fun j hj => by
    rw [hr] at hj
    obtain rfl : j = i := by simpa using hj
    exact h⟩

theorem runH_sound (hs : Region.noSelect ops = true) (hQ : ∀ c d v a w, Q (.panic c) (a.put d v) w → Q (.panic c) a w) :
    ∀ (order : List (Nat × Kd)) (listed : Array Bool) (a : Act) (w : World) (fuel : Nat), closedUp ops listed → okRun ops st listed order = true → order.length ≤ fuel → runH P ops Q S order a w → wpAnyP P ops Q S st fuel listed a w
  | [], listed, a, w, fuel, _, hok, _, h => by
    simp only [okRun, List.isEmpty_iff] at hok
    cases fuel with
    | zero => exact ⟨hok, h⟩
    | succ fuel => exact ⟨fun _ => h, by rw [hok]; simp⟩
  | (i, .rd) :: r, listed, a, w, fuel, hc, hok, hf, h => by
    simp only [okRun, Bool.and_eq_true] at hok
    obtain ⟨o, v, ho, hy, hS, hk⟩ := h
    cases fuel with
    | zero => simp at hf
    | succ fuel =>
      have hr : i ∈ Region.ready .any ops listed := by simpa using hok.1.2
      refine wpAnyP_first ho (by simpa using hok.1.1.1) (Region.noSelect_spec hs) (fun c a w => hQ c _ _ a w) fuel listed a w hc hok.1.1.2 hr hy hS ?_
      exact runH_sound hs hQ r _ _ _ _ (closedUp_set hc hr) hok.2 (by simpa using hf) hk
  | (i, .ld) :: r, listed, a, w, fuel, hc, hok, hf, h => by
    simp only [okRun, Bool.and_eq_true, beq_iff_eq] at hok
    cases fuel with
    | zero => simp at hf
    | succ fuel =>
      refine wpAnyP_one hok.1 (wpOp_mono (fun a' w' h' => ⟨.inr h'.1, ?_⟩) h)
      exact runH_sound hs hQ r _ _ _ _ (closedUp_set hc (by rw [hok.1]; simp)) hok.2 (by simpa using hf) h'.2
  | (i, .bh) :: r, listed, a, w, fuel, hc, hok, hf, h => by
    simp only [okRun, Bool.and_eq_true, beq_iff_eq] at hok
    cases fuel with
    | zero => simp at hf
    | succ fuel =>
      refine wpAnyP_one hok.1.1 (wpOp_mono (fun a' w' h' => ⟨.inl hok.1.2, ?_⟩) h)
      exact runH_sound hs hQ r _ _ _ _ (closedUp_set hc (by rw [hok.1.1]; simp)) hok.2 (by simpa using hf) h'

theorem reg_draw {id : Nat} {a : Act} {w : World} (S : World → Prop) (order : List (Nat × Kd)) (hm : P.follows .mixedOrders = true)
    (hc : (Region.noSelect ops && okRun ops (reads order) (Array.replicate ops.size false) order && order.length.ble ops.size) = true)
    (hQ : ∀ c d v a w, Q (.panic c) (a.put d v) w → Q (.panic c) a w)
    (h : runH P ops Q S order a w.drew) : (Code.region id ops true).wp P Q a w := by
  simp only [Bool.and_eq_true] at hc
  exact wp_region_any hm (wpAny_of_P _ _ _ _ (runH_sound hc.1.1 hQ order _ _ _ _ (closedUp_start _) hc.1.2 (Nat.le_of_ble_eq_true hc.2) h))

variable {rest : List (Nat × Kd)} {n : Nat} {l : List (Nat × Value)} {r : Nat → Value} {w w' : World}
  {op : Op} {ty : TypeId} {pos : String} {af : Array Edge} {v : Value} {d i : Nat}

theorem hv (ho : ops[i]? = some ⟨some d, op, ty, pos, af, none⟩) (h : ∀ w, S w → Ex P n l op ty w v w) (hS : S w)
    (k : runH P ops Q S rest (env n ((d, v) :: l) r) w) : runH P ops Q S ((i, .rd) :: rest) (env n l r) w :=
  ⟨_, v, ho, .inl ⟨by simp [Region.wanted], fun w hw => h w hw r _ _ _ _⟩, hS, by rw [env_put]; exact k⟩
theorem hno {j dj : Nat} {want b : Bool} (ho : ops[i]? = some ⟨some d, op, ty, pos, af, some (j, want)⟩) (hj : (ops[j]?).bind (·.dst) = some dj) (hb : ev n l (.tmp dj) = some (.bool b)) (hne : (b == want) = false)
    (hS : S w) (k : runH P ops Q S rest (env n ((d, undef) :: l) r) w) : runH P ops Q S ((i, .rd) :: rest) (env n l r) w :=
  ⟨_, undef, ho, .inr ⟨by simp only [Region.wanted, yielded_ev hj hb]; cases b <;> cases want <;> simp_all, rfl⟩, hS, by rw [env_put]; exact k⟩
theorem hl (ho : ops[i]? = some ⟨some d, op, ty, pos, af, none⟩) (h : Ex P n l op ty w v w') (hS : S w')
    (k : runH P ops Q S rest (env n ((d, v) :: l) r) w') : runH P ops Q S ((i, .ld) :: rest) (env n l r) w := by
  simp only [runH, wpOp, ho]
  rw [if_pos (by simp [Region.wanted])]
  left
  unfold Oper.wp
  rw [h r _ _ _ _]
  simp only [Oper.upon]
  rw [env_put]
  exact ⟨hS, k⟩
theorem hlu (ho : ops[i]? = some ⟨none, op, ty, pos, af, none⟩) (h : ExU P n l op ty w w') (hS : S w')
    (k : runH P ops Q S rest (env n l r) w') : runH P ops Q S ((i, .ld) :: rest) (env n l r) w := by
  simp only [runH, wpOp, ho]
  rw [if_pos (by simp [Region.wanted])]
  left
  unfold Oper.wp
  rw [h r _ _ _ _]
  exact ⟨hS, k⟩
theorem hc {f : FuncId} {vs : List Value} {R : Value → World → Prop} (ho : ops[i]? = some ⟨some d, op, ty, pos, af, none⟩) (h : ExC P n l op ty w f vs) (hc : Ret P f vs w R)
    (k : ∀ v w', R v w' → S w' ∧ runH P ops Q S rest (env n ((d, v) :: l) r) w') : runH P ops Q S ((i, .ld) :: rest) (env n l r) w := by
  simp only [runH, wpOp, ho]
  rw [if_pos (by simp [Region.wanted])]
  left
  unfold Oper.wp
  rw [h r _ _ _ _]
  simp only [Oper.upon]
  refine Calls.mono hc fun e w'' ⟨u, he, hR⟩ => ?_
  subst he
  simp only []
  rw [env_put]
  exact k _ _ hR
theorem hc0 {f : FuncId} {vs : List Value} {R : Value → World → Prop} (ho : ops[i]? = some ⟨none, op, ty, pos, af, none⟩) (h : ExC P n l op ty w f vs) (hc : Ret P f vs w R)
    (k : ∀ v w', R v w' → S w' ∧ runH P ops Q S rest (env n l r) w') : runH P ops Q S ((i, .ld) :: rest) (env n l r) w := by
  simp only [runH, wpOp, ho]
  rw [if_pos (by simp [Region.wanted])]
  left
  unfold Oper.wp
  rw [h r _ _ _ _]
  simp only [Oper.upon]
  refine Calls.mono hc fun e w'' ⟨u, he, hR⟩ => ?_
  subst he
  exact k _ _ hR
theorem bl (ho : ops[i]? = some ⟨some d, op, ty, pos, af, none⟩) (h : Ex P n l op ty w v w')
    (k : runH P ops Q S rest (env n ((d, v) :: l) r) w') : runH P ops Q S ((i, .bh) :: rest) (env n l r) w := by
  simp only [runH, wpOp, ho]
  rw [if_pos (by simp [Region.wanted])]
  left
  unfold Oper.wp
  rw [h r _ _ _ _]
  simp only [Oper.upon]
  rw [env_put]
  exact k
theorem blu (ho : ops[i]? = some ⟨none, op, ty, pos, af, none⟩) (h : ExU P n l op ty w w')
    (k : runH P ops Q S rest (env n l r) w') : runH P ops Q S ((i, .bh) :: rest) (env n l r) w := by
  simp only [runH, wpOp, ho]
  rw [if_pos (by simp [Region.wanted])]
  left
  unfold Oper.wp
  rw [h r _ _ _ _]
  exact k
end

section
variable {P : Program} {Q : Exit → Act → World → Prop} {a : Act} {w : World} {n : Nat} {l : List (Nat × Value)} {r : Nat → Value}

theorem sreg {id : Nat} {ops : List Oper} {y : Code} (h : WL P ops.toArray (Exit.then (y.wp P Q) Q) ops a w) : (Code.seq (.region id ops.toArray false) y).wp P Q a w :=
  wp_seq (wp_region_lit h.out)
theorem send {ops : Array Oper} {y : Code} (h : y.wp P Q a w) : WL P ops (Exit.then (y.wp P Q) Q) [] a w := ⟨h⟩
theorem sdraw {id : Nat} {ops : Array Oper} {y : Code} (S : World → Prop) (order : List (Nat × Kd)) (hm : P.follows .mixedOrders = true)
    (hc : (Region.noSelect ops && okRun ops (reads order) (Array.replicate ops.size false) order && order.length.ble ops.size) = true)
    (hQ : ∀ c d v a w, Q (.panic c) (a.put d v) w → Q (.panic c) a w)
    (h : runH P ops (Exit.then (y.wp P Q) Q) S order a w.drew) : (Code.seq (.region id ops true) y).wp P Q a w :=
  wp_seq (reg_draw S order hm hc hQ h)
theorem hend {ops : Array Oper} {S : World → Prop} {y : Code} (h : y.wp P Q a w) : runH P ops (Exit.then (y.wp P Q) Q) S [] a w := h
theorem lreg {id : Nat} {ops : List Oper} (h : WL P ops.toArray Q ops a w) : (Code.region id ops.toArray false).wp P Q a w := wp_region_lit h.out
theorem lend {ops : Array Oper} (h : Q .normal a w) : WL P ops Q [] a w := ⟨h⟩
theorem ldraw {id : Nat} {ops : Array Oper} (S : World → Prop) (order : List (Nat × Kd)) (hm : P.follows .mixedOrders = true)
    (hc : (Region.noSelect ops && okRun ops (reads order) (Array.replicate ops.size false) order && order.length.ble ops.size) = true)
    (hQ : ∀ c d v a w, Q (.panic c) (a.put d v) w → Q (.panic c) a w)
    (h : runH P ops Q S order a w.drew) : (Code.region id ops true).wp P Q a w := reg_draw S order hm hc hQ h
theorem lhend {ops : Array Oper} {S : World → Prop} (h : Q .normal a w) : runH P ops Q S [] a w := h

theorem cyes {x : Operand} {p q : Code} (hx : ev n l x = some (.bool true)) (h : p.wp P Q (env n l r) w) : (Code.cond x p q).wp P Q (env n l r) w := wp_cond_true (ev_eval r hx) h
theorem cno {x : Operand} {p q : Code} (hx : ev n l x = some (.bool false)) (h : q.wp P Q (env n l r) w) : (Code.cond x p q).wp P Q (env n l r) w := wp_cond_false (ev_eval r hx) h
theorem cB {x : Operand} {p q : Code} {b : Bool} (hx : ev n l x = some (.bool b)) (h1 : b = true → p.wp P Q (env n l r) w) (h2 : b = false → q.wp P Q (env n l r) w) : (Code.cond x p q).wp P Q (env n l r) w := by
  cases b with
  | true => exact cyes hx (h1 rfl)
  | false => exact cno hx (h2 rfl)

theorem eThen {K : Act → World → Prop} {id : Nat} (h : Q (.exit id) a w) : Exit.then K Q (.exit id) a w := h
theorem rThen {K : Act → World → Prop} (h : Q .ret a w) : Exit.then K Q .ret a w := h
theorem nThen {K : Act → World → Prop} (h : K a w) : Exit.then K Q .normal a w := h
theorem nBlock {id : Nat} (h : Q .normal a w) : Exit.inBlock id Q .normal a w := h
theorem rBlock {id : Nat} (h : Q .ret a w) : Exit.inBlock id Q .ret a w := h
theorem eHit {id : Nat} (h : Q .normal a w) : Exit.inBlock id Q (.exit id) a w := by simpa [Exit.inBlock] using h
theorem eMiss {id id' : Nat} (hne : id' ≠ id) (h : Q (.exit id') a w) : Exit.inBlock id Q (.exit id') a w := by simpa [Exit.inBlock, hne] using h

theorem lp {c : Code} {α : Type} (u : List (Nat × Value)) (ch : α → List (Nat × Value)) (J : α → World → Prop) (μ : α → Nat) (x0 : α)
    (hl0 : okl l (ch x0 ++ u)) (h0 : J x0 w)
    (round : ∀ x r w, J x w → c.wp P (Exit.then (fun a' w' => ∃ y r', a' = env n (ch y ++ u) r' ∧ J y w' ∧ μ y < μ x) Q) (env n (ch x ++ u) r) w) :
    (Code.loop c).wp P Q (env n l r) w := by
  refine forget_wp (ch x0 ++ u) hl0 fun r0 => ?_
  intro b k cs
  have key : ∀ m x r w, μ x = m → J x w → ∃ e a' w', Q e a' w' ∧ Arrives P (lone (b.at (env n (ch x ++ u) r) (.code c :: .inLoop c :: k)) cs w) b k cs e a' w' := by
    intro m
    induction m using Nat.strongRecOn with
    | _ m ih =>
      intro x r w hm hJ
      obtain ⟨e, a1, w1, hq, harr⟩ := round x r w hJ b (.inLoop c :: k) cs
      cases e with
      | normal =>
        obtain ⟨y, r', rfl, hJ', hlt⟩ := hq
        obtain ⟨e2, a2, w2, hq2, harr2⟩ := ih (μ y) (hm ▸ hlt) y r' w1 rfl hJ'
        exact ⟨e2, a2, w2, hq2, .of_steps (Steps.trans harr (.one step_inLoop)) harr2⟩
      | exit id => exact ⟨_, a1, w1, hq, .pass (x := .inLoop c) rfl (fun _ _ => .inl (by simp)) harr⟩
      | goto g => exact ⟨_, a1, w1, hq, .pass (x := .inLoop c) rfl (fun _ _ => .inl (by simp)) harr⟩
      | ret => exact ⟨_, a1, w1, hq, .pass (x := .inLoop c) rfl (fun _ _ => .inl (by simp)) harr⟩
      | panic ch => exact ⟨_, a1, w1, hq, .pass (x := .inLoop c) rfl (fun _ _ => .inl (by simp)) harr⟩
      | outgrown => exact ⟨_, a1, w1, hq, .pass (x := .inLoop c) rfl (fun _ _ => .inl (by simp)) harr⟩
  obtain ⟨e, a', w', hq, harr⟩ := key _ x0 r0 w rfl h0
  exact ⟨e, a', w', hq, .of_steps (.one step_loop) harr⟩
theorem env_okl {l' : List (Nat × Value)} (h : okl l l') : env n l r = env n l' (over l r) := congrArg (act n) (over_okl h r)
end
abbrev rd0 : Nat × Kd := (0, .rd)
abbrev rd1 : Nat × Kd := (1, .rd)
abbrev rd2 : Nat × Kd := (2, .rd)
abbrev rd3 : Nat × Kd := (3, .rd)
abbrev rd4 : Nat × Kd := (4, .rd)
abbrev rd5 : Nat × Kd := (5, .rd)
abbrev rd6 : Nat × Kd := (6, .rd)
abbrev rd7 : Nat × Kd := (7, .rd)
abbrev rd8 : Nat × Kd := (8, .rd)
abbrev rd9 : Nat × Kd := (9, .rd)
abbrev rd10 : Nat × Kd := (10, .rd)
abbrev rd11 : Nat × Kd := (11, .rd)
abbrev rd12 : Nat × Kd := (12, .rd)
abbrev rd13 : Nat × Kd := (13, .rd)
abbrev rd14 : Nat × Kd := (14, .rd)
abbrev rd15 : Nat × Kd := (15, .rd)
abbrev rd16 : Nat × Kd := (16, .rd)
abbrev rd17 : Nat × Kd := (17, .rd)
abbrev rd18 : Nat × Kd := (18, .rd)
abbrev rd19 : Nat × Kd := (19, .rd)
abbrev rd20 : Nat × Kd := (20, .rd)
abbrev rd21 : Nat × Kd := (21, .rd)
abbrev rd22 : Nat × Kd := (22, .rd)
abbrev rd23 : Nat × Kd := (23, .rd)
abbrev rd24 : Nat × Kd := (24, .rd)
abbrev rd25 : Nat × Kd := (25, .rd)
abbrev rd26 : Nat × Kd := (26, .rd)
abbrev rd27 : Nat × Kd := (27, .rd)
abbrev rd28 : Nat × Kd := (28, .rd)
abbrev rd29 : Nat × Kd := (29, .rd)
abbrev rd30 : Nat × Kd := (30, .rd)
abbrev rd31 : Nat × Kd := (31, .rd)
abbrev rd32 : Nat × Kd := (32, .rd)
abbrev rd33 : Nat × Kd := (33, .rd)
abbrev rd34 : Nat × Kd := (34, .rd)
abbrev rd35 : Nat × Kd := (35, .rd)
abbrev rd36 : Nat × Kd := (36, .rd)
abbrev rd37 : Nat × Kd := (37, .rd)
abbrev rd38 : Nat × Kd := (38, .rd)
abbrev rd39 : Nat × Kd := (39, .rd)
abbrev ld0 : Nat × Kd := (0, .ld)
abbrev ld1 : Nat × Kd := (1, .ld)
abbrev ld2 : Nat × Kd := (2, .ld)
abbrev ld3 : Nat × Kd := (3, .ld)
abbrev ld4 : Nat × Kd := (4, .ld)
abbrev ld5 : Nat × Kd := (5, .ld)
abbrev ld6 : Nat × Kd := (6, .ld)
abbrev ld7 : Nat × Kd := (7, .ld)
abbrev ld8 : Nat × Kd := (8, .ld)
abbrev ld9 : Nat × Kd := (9, .ld)
abbrev ld10 : Nat × Kd := (10, .ld)
abbrev ld11 : Nat × Kd := (11, .ld)
abbrev ld12 : Nat × Kd := (12, .ld)
abbrev ld13 : Nat × Kd := (13, .ld)
abbrev ld14 : Nat × Kd := (14, .ld)
abbrev ld15 : Nat × Kd := (15, .ld)
abbrev bh0 : Nat × Kd := (0, .bh)
abbrev bh1 : Nat × Kd := (1, .bh)
abbrev bh2 : Nat × Kd := (2, .bh)
abbrev bh3 : Nat × Kd := (3, .bh)
abbrev bh4 : Nat × Kd := (4, .bh)
abbrev bh5 : Nat × Kd := (5, .bh)
abbrev bh6 : Nat × Kd := (6, .bh)
abbrev bh7 : Nat × Kd := (7, .bh)
abbrev bh8 : Nat × Kd := (8, .bh)
abbrev bh9 : Nat × Kd := (9, .bh)
abbrev bh10 : Nat × Kd := (10, .bh)
abbrev bh11 : Nat × Kd := (11, .bh)
abbrev bh12 : Nat × Kd := (12, .bh)
abbrev bh13 : Nat × Kd := (13, .bh)
abbrev bh14 : Nat × Kd := (14, .bh)
abbrev bh15 : Nat × Kd := (15, .bh)
end Go.Proofs.YtifnodoffgfpbaaGreatDoor

namespace Go.Proofs.YtifnodoffgfpbaaGreatDoor
open Go

structure Fr (S : Nat → Prop) (w w' : World) : Prop where
  os : w'.os = w.os
  tape : w'.tape = w.tape
  output : w'.output = w.output
  size : w.heap.size ≤ w'.heap.size
  block : ∀ k, k < w.heap.size → ¬ S k → w'.heap[k]? = w.heap[k]?

abbrev Fr0 : World → World → Prop := Fr (fun _ => False)

theorem Fr.refl (S : Nat → Prop) (w : World) : Fr S w w := ⟨rfl, rfl, rfl, Nat.le_refl _, fun _ _ _ => rfl⟩
theorem Fr.drew {S : Nat → Prop} {w w' : World} (h : Fr S w w') : Fr S w w'.drew := ⟨h.os, h.tape, h.output, h.size, h.block⟩
theorem Fr.step {S S' : Nat → Prop} {a b c : World} (h : Fr S a b) (k : Fr S' b c) (hs : ∀ i, i < a.heap.size → S' i → S i) : Fr S a c :=
  ⟨k.os.trans h.os, k.tape.trans h.tape, k.output.trans h.output, Nat.le_trans h.size k.size,
    fun i hi hn => (k.block i (Nat.lt_of_lt_of_le hi h.size) (fun hS => hn (hs i hi hS))).trans (h.block i hi hn)⟩
theorem Fr.step0 {S : Nat → Prop} {a b c : World} (h : Fr S a b) (k : Fr0 b c) : Fr S a c := h.step k (fun _ _ hf => hf.elim)
theorem Fr.mono {S S' : Nat → Prop} {a b : World} (h : Fr S a b) (hs : ∀ i, i < a.heap.size → S i → S' i) : Fr S' a b :=
  ⟨h.os, h.tape, h.output, h.size, fun i hi hn => h.block i hi (fun hS => hn (hs i hi hS))⟩

def Blk (w : World) (b : Nat) (cs : List Value) : Prop := ∃ T, w.heap[b]? = some (.cells cs.toArray T (0, 0))

section
variable {w w' : World} {b : Nat} {cs : List Value}
theorem Blk.lt (h : Blk w b cs) : b < w.heap.size := by
  obtain ⟨T, h⟩ := h
  exact (Array.getElem?_eq_some_iff.1 h).1
theorem Blk.keep {S : Nat → Prop} (h : Blk w b cs) (m : Fr S w w') (hn : ¬ S b) : Blk w' b cs := by
  have hl := h.lt
  obtain ⟨T, h⟩ := h
  exact ⟨T, (m.block b hl hn).trans h⟩
theorem Blk.cell (h : Blk w b cs) {i : Nat} {v : Value} (e : cs[i]? = some v) : w.cell? ⟨b, i, none⟩ = some v := by
  obtain ⟨T, h⟩ := h
  simp [World.cell?, h, e]
theorem Blk.frozen (h : Blk w b cs) (i : Nat) : w.frozen? ⟨b, i, none⟩ = false := by
  obtain ⟨T, h⟩ := h
  simp only [World.frozen?, h]
  simp
theorem Blk.rng (h : Blk w b cs) (i : Nat) (ds : List Value) (e : ∀ j v, ds[j]? = some v → cs[i + j]? = some v) : w.rangeAt b i ds :=
  fun j v hv => h.cell (e j v hv)
theorem Blk.rng0 (h : Blk w b cs) : w.rangeAt b 0 cs := fun j v hv => by
  have := h.cell (i := 0 + j) (v := v) (by simpa using hv)
  exact this
theorem Blk.mid {pre ds post : List Value} (h : Blk w b (pre ++ (ds ++ post))) {i : Nat} (hi : pre.length = i) : w.rangeAt b i ds :=
  h.rng i ds fun j v hv => by
    subst hi
    have hj : j < ds.length := (List.getElem?_eq_some_iff.1 hv).1
    rw [List.getElem?_append_right (by omega)]
    simp only [Nat.add_sub_cancel_left]
    rw [List.getElem?_append_left hj]
    exact hv
theorem Blk.there (h : Blk w b cs) {i n : Nat} (hn : i + n ≤ cs.length) : w.there b i n := fun j hj =>
  ⟨by rw [h.cell (i := i + j) (v := cs[i + j]) (by simp)]; rfl, h.frozen _⟩
end

theorem rng_keep {w w' : World} {b o : Nat} {cs : List Value} (h : w.rangeAt b o cs) (hb : w'.heap[b]? = w.heap[b]?) : w'.rangeAt b o cs := fun j v hv => by
  have := h j v hv
  simp only [World.cell?] at this ⊢
  rw [hb]
  exact this

theorem heap_setCell_ne (w : World) (a : Addr) (v : Value) (k : Nat) (h : k ≠ a.block) : (w.setCell a v).heap[k]? = w.heap[k]? := by
  simp only [World.setCell, Array.getElem?_modify]
  rw [if_neg (by omega)]

theorem fr_setCell (w : World) (b i : Nat) (v : Value) : Fr (· = b) w (w.setCell ⟨b, i, none⟩ v) :=
  ⟨rfl, rfl, rfl, by simp [World.setCell], fun k _ hk => heap_setCell_ne w _ v k hk⟩
theorem size_setCell (w : World) (a : Addr) (v : Value) : (w.setCell a v).heap.size = w.heap.size := by simp [World.setCell]
theorem Blk.set {w : World} {b : Nat} {cs : List Value} (h : Blk w b cs) (i : Nat) (v : Value) : Blk (w.setCell ⟨b, i, none⟩ v) b (cs.set i v) := by
  obtain ⟨T, h⟩ := h
  refine ⟨T, ?_⟩
  simp only [World.setCell, Array.getElem?_modify, h]
  simp

def splice (cs : List Value) (i : Nat) (ds : List Value) : List Value := cs.take i ++ ds ++ cs.drop (i + ds.length)
theorem splice_nil (cs : List Value) (i : Nat) : splice cs i [] = cs := by simp [splice]
theorem splice_cons (cs : List Value) (i : Nat) (v : Value) (ds : List Value) (h : i < cs.length) : splice (cs.set i v) (i + 1) ds = splice cs i (v :: ds) := by
  simp only [splice, List.length_cons]
  rw [List.take_set, List.drop_set]
  have e1 : (List.take (i + 1) cs).set i v = List.take i cs ++ [v] := by
    rw [List.take_succ_eq_append_getElem h, List.set_append_right _ _ (by rw [List.length_take]; omega)]
    simp [Nat.min_eq_left (Nat.le_of_lt h)]
  rw [e1]
  rw [if_pos (by omega)]
  have e2 : i + (ds.length + 1) = i + 1 + ds.length := by omega
  rw [e2]
  simp
theorem splice_mid (pre mid post ds : List Value) (h : ds.length = mid.length) : splice (pre ++ (mid ++ post)) pre.length ds = pre ++ (ds ++ post) := by
  simp only [splice]
  rw [List.take_left, h]
  have : List.drop (pre.length + mid.length) (pre ++ (mid ++ post)) = post := by
    rw [← List.append_assoc, ← List.length_append, List.drop_left]
  rw [this]; simp

theorem heap_set {w : World} {b : Nat} {T : TypeId} {cs : List Value} (h : w.heap[b]? = some (.cells cs.toArray T (0, 0))) (i : Nat) (v : Value) : (w.setCell ⟨b, i, none⟩ v).heap[b]? = some (.cells (cs.set i v).toArray T (0, 0)) := by
  simp only [World.setCell, Array.getElem?_modify, h]
  simp
theorem heap_sets {b : Nat} {T : TypeId} : ∀ (ds : List Value) {w : World} {cs : List Value} (i : Nat), w.heap[b]? = some (.cells cs.toArray T (0, 0)) → i + ds.length ≤ cs.length →
    (w.setCells b i ds).heap[b]? = some (.cells (splice cs i ds).toArray T (0, 0)) ∧ Fr (· = b) w (w.setCells b i ds) ∧ (w.setCells b i ds).heap.size = w.heap.size
  | [], w, cs, i, h, _ => by rw [splice_nil]; exact ⟨h, Fr.refl _ _, rfl⟩
  | v :: ds, w, cs, i, h, hi => by
    simp only [List.length_cons] at hi
    have h1 := heap_sets ds (i + 1) (heap_set h i v) (by simp; omega)
    simp only [World.setCells]
    rw [splice_cons _ _ _ _ (by omega)] at h1
    exact ⟨h1.1, (fr_setCell w b i v).step h1.2.1 (fun _ _ h => h), h1.2.2.trans (size_setCell _ _ _)⟩
theorem Blk.sets {b : Nat} (ds : List Value) {w : World} {cs : List Value} (i : Nat) (h : Blk w b cs) (hi : i + ds.length ≤ cs.length) :
    Blk (w.setCells b i ds) b (splice cs i ds) ∧ Fr (· = b) w (w.setCells b i ds) ∧ (w.setCells b i ds).heap.size = w.heap.size := by
  obtain ⟨T, h⟩ := h
  have := heap_sets ds i h hi
  exact ⟨⟨T, this.1⟩, this.2⟩

theorem fr_alloc (w : World) (o : Obj) : Fr0 w (w.alloc o) :=
  ⟨rfl, rfl, rfl, by simp, fun _ hk _ => heap_alloc_old w o hk⟩
theorem blk_alloc (w : World) (cs : List Value) (T : TypeId) : Blk (w.alloc (.cells cs.toArray T)) w.heap.size cs := ⟨T, heap_alloc_new w _⟩
theorem size_alloc (w : World) (o : Obj) : (w.alloc o).heap.size = w.heap.size + 1 := by simp

def Rw (w : World) (v : Value) (g : Nat) (e s n : Nat) (cs : List Value) : Prop :=
  w.ownsRow 0 e s v n cs ∧ (∀ k, v.ownBlock = some k → k = g) ∧ cs.all (·.oneCell') = true

section
variable {w w' : World} {v : Value} {g e s n : Nat} {cs : List Value}
theorem Rw.nil (w : World) (g e s : Nat) : Rw w (.slice none 0 0) g e s 0 [] := ⟨World.ownsRow_nil w 0 e s, fun k h => by simp [Value.ownBlock] at h, rfl⟩
theorem Rw.keep {S : Nat → Prop} (h : Rw w v g e s n cs) (m : Fr S w w') (hn : ¬ S g) : Rw w' v g e s n cs := by
  obtain ⟨⟨h1, h2⟩, h3, h4⟩ := h
  refine ⟨⟨h1, ?_⟩, h3, h4⟩
  rcases h2 with h2 | ⟨k, cap, cur, hv, hb, hk, r⟩
  · exact .inl h2
  · have hkg : k = g := h3 k (by rw [hv]; rfl)
    subst hkg
    exact .inr ⟨k, cap, cur, hv, hb, by rw [m.block k (Array.getElem?_eq_some_iff.1 hk).1 hn]; exact hk, r⟩
theorem Rw.len (h : Rw w v g e s n cs) : cs.length = n * s := h.1.1
theorem Rw.form (h : Rw w v g e s n cs) : ∃ a c, v = .slice a n c ∧ n ≤ c ∧ c ≤ maxLen ∧ (0 < n → a = some ⟨g, 0, none⟩) ∧ (a = none ∨ a = some ⟨g, 0, none⟩) := by
  rcases h.1.2 with ⟨rfl, rfl⟩ | ⟨k, cap, cur, rfl, _, _, h5, h6, _⟩
  · exact ⟨none, 0, rfl, Nat.le_refl _, by simp, fun h => absurd h (by omega), .inl rfl⟩
  · obtain rfl := h.2.1 k rfl
    exact ⟨_, cap, rfl, h5, h6, fun _ => rfl, .inr rfl⟩
theorem Rw.rng (h : Rw w v g e s n cs) : w.rangeAt g 0 cs := fun j u hu => by
  rcases h.1.2 with ⟨rfl, rfl⟩ | ⟨k, cap, cur, rfl, _, hk, _, _, _, ht⟩
  · have := h.len
    simp at this
    subst this
    simp at hu
  · obtain rfl := h.2.1 k rfl
    rw [← ht] at hu
    rw [List.getElem?_take] at hu
    split at hu
    · simp only [World.cell?, hk]; simpa using hu
    · cases hu
end
theorem nB {n b : Nat} {S : Nat → Prop} (h : n ≤ b) : ∀ i, i < n → (fun k => k = b) i → S i := fun i hi e => absurd (show i = b from e) (by omega)
theorem fd (w : World) : Fr (fun _ => False) w w.drew := Fr.drew (Fr.refl (fun _ => False) w)
theorem Fr.s {S : Nat → Prop} {a b c : World} (h : Fr S a b) (k : Fr0 b c) : Fr S a c := h.step0 k
theorem Fr.t {S : Nat → Prop} {a b c : World} {x : Nat} (h : Fr S a b) (k : Fr (fun k => k = x) b c) (hx : a.heap.size ≤ x) : Fr S a c := h.step k fun i hi e => absurd (show i = x from e) (by omega)
theorem nE {a b : Nat} (h : a ≠ b) : ¬ (fun k => k = b) a := h
theorem nI {n : Nat} {S : Nat → Prop} : ∀ i, i < n → S i → S i := fun _ _ h => h
theorem Blk.k {w w' : World} {b : Nat} {cs : List Value} (h : Blk w b cs) (m : Fr0 w w') : Blk w' b cs := h.keep m id
theorem Rw.k {w w' : World} {v : Value} {g e s n : Nat} {cs : List Value} (h : Rw w v g e s n cs) (m : Fr0 w w') : Rw w' v g e s n cs := h.keep m id
end Go.Proofs.YtifnodoffgfpbaaGreatDoor

namespace Go.Proofs.YtifnodoffgfpbaaGreatDoor
open Go

def oneB (P : Program) (T : TypeId) : Bool := match P.underlying T with
  | some d => !d.isRow
  | none => false
def rowB (P : Program) (T : TypeId) (k : Nat) : Bool := match P.underlying T with
  | some d => d.isRow && ((P.info? T).map (·.size) == some k)
  | none => false
def szB (P : Program) (T : TypeId) (k : Nat) : Bool := (P.info? T).map (·.size) == some k
def fldB (P : Program) (S : TypeId) (i k : Nat) : Bool := match P.underlying S with
  | some (.struct fs) => match fs[i]? with
    | some f => f.offset == k && (match P.info? f.type with
      | some j => j.size != 0
      | none => false)
    | none => false
  | _ => false
def slcB (P : Program) (T E : TypeId) : Bool := match P.underlying T with
  | some (.slice e) => e == E
  | _ => false
def arrB (P : Program) (T : TypeId) (n : Nat) (E : TypeId) : Bool := match P.underlying T with
  | some (.array m e) => m == n && e == E
  | _ => false
def strB (P : Program) (T : TypeId) : Bool := match P.underlying T with
  | some .string => true
  | _ => false
def intB (P : Program) (T : TypeId) (k : IntKind) : Bool := match P.underlying T with
  | some (.int j) => j == k
  | _ => false
def hasB (P : Program) (T : TypeId) : Bool := (P.underlying T).isSome
def notIfB (P : Program) (T : TypeId) : Bool := match P.underlying T with
  | some (.interface _) => false
  | some _ => true
  | none => false
def Inf (P : Program) (e : TypeId) (z : Value) (size bytes : Nat) : Prop := ∃ i, P.info? e = some i ∧ i.zero = some z ∧ i.size = size ∧ i.bytes = bytes
theorem inf_of {P : Program} {e : TypeId} {z : Value} {size bytes : Nat} (h : (P.info? e).map (fun i => (i.zero, i.size, i.bytes)) = some (some z, size, bytes)) : Inf P e z size bytes := by
  cases hi : P.info? e with
  | none => rw [hi] at h; simp at h
  | some i => rw [hi] at h; simp at h; exact ⟨i, hi, h.1, h.2.1, h.2.2⟩
def callB (P : Program) (f : FuncId) : Bool := match P.funcs[f]? with
  | some fn => !(fn.name == "runtime.NumGoroutine") && fn.body.isSome
  | none => false

theorem slcB_spec {P : Program} {T E : TypeId} (h : slcB P T E = true) : P.underlying T = some (.slice E) := by
  unfold slcB at h
  split at h
  · rename_i e he; rw [he]; have := beq_iff_eq.1 h; subst this; rfl
  · cases h
theorem arrB_spec {P : Program} {T E : TypeId} {n : Nat} (h : arrB P T n E = true) : P.underlying T = some (.array n E) := by
  unfold arrB at h
  split at h
  · rename_i m e he; rw [he]; simp only [Bool.and_eq_true, beq_iff_eq] at h; obtain ⟨rfl, rfl⟩ := h; rfl
  · cases h
theorem strB_spec {P : Program} {T : TypeId} (h : strB P T = true) : P.underlying T = some .string := by
  unfold strB at h
  split at h
  · assumption
  · cases h
theorem intB_spec {P : Program} {T : TypeId} {k : IntKind} (h : intB P T k = true) : P.underlying T = some (.int k) := by
  unfold intB at h
  split at h
  · rename_i j he; rw [he]; have := beq_iff_eq.1 h; subst this; rfl
  · cases h
theorem rowB_spec {P : Program} {T : TypeId} {k : Nat} (h : rowB P T k = true) : ∃ d, P.underlying T = some d ∧ d.isRow = true ∧ (P.info? T).map (·.size) = some k := by
  unfold rowB at h
  split at h
  · rename_i d he; simp only [Bool.and_eq_true, beq_iff_eq] at h; exact ⟨d, he, h.1, h.2⟩
  · cases h
theorem oneB_spec {P : Program} {T : TypeId} (h : oneB P T = true) : ∃ d, P.underlying T = some d ∧ d.isRow = false := by
  unfold oneB at h
  split at h
  · rename_i d he; exact ⟨d, he, by simpa using h⟩
  · cases h
theorem szB_spec {P : Program} {T : TypeId} {k : Nat} (h : szB P T k = true) : (P.info? T).map (·.size) = some k := by simpa [szB] using h

def ExK (P : Program) (n : Nat) (l : List (Nat × Value)) (op : Op) (ty : TypeId) (w : World) (R : Value → World → Prop) : Prop := ∃ v w', Ex P n l op ty w v w' ∧ R v w'
def ExUK (P : Program) (n : Nat) (l : List (Nat × Value)) (op : Op) (ty : TypeId) (w : World) (R : World → Prop) : Prop := ∃ w', ExU P n l op ty w w' ∧ R w'

section
variable {P : Program} {ops : Array Oper} {Q : Exit → Act → World → Prop} {n : Nat} {l : List (Nat × Value)} {r : Nat → Value} {w : World}
  {op : Op} {ty : TypeId} {pos : String} {af : Array Edge} {d i : Nat}
theorem svK {rest : List Oper} {R : Value → World → Prop} (h : ExK P n l op ty w R) (k : ∀ v w', R v w' → WL P ops Q rest (env n ((d, v) :: l) r) w') : WL P ops Q (⟨some d, op, ty, pos, af, none⟩ :: rest) (env n l r) w := by
  obtain ⟨v, w', h1, h2⟩ := h
  exact sv h1 (k v w' h2)
theorem suK {rest : List Oper} {R : World → Prop} (h : ExUK P n l op ty w R) (k : ∀ w', R w' → WL P ops Q rest (env n l r) w') : WL P ops Q (⟨none, op, ty, pos, af, none⟩ :: rest) (env n l r) w := by
  obtain ⟨w', h1, h2⟩ := h
  exact su h1 (k w' h2)
theorem hlK {S : World → Prop} {rest : List (Nat × Kd)} {R : Value → World → Prop} (ho : ops[i]? = some ⟨some d, op, ty, pos, af, none⟩) (h : ExK P n l op ty w R)
    (k : ∀ v w', R v w' → S w' ∧ runH P ops Q S rest (env n ((d, v) :: l) r) w') : runH P ops Q S ((i, .ld) :: rest) (env n l r) w := by
  obtain ⟨v, w', h1, h2⟩ := h
  exact hl ho h1 (k v w' h2).1 (k v w' h2).2
theorem hluK {S : World → Prop} {rest : List (Nat × Kd)} {R : World → Prop} (ho : ops[i]? = some ⟨none, op, ty, pos, af, none⟩) (h : ExUK P n l op ty w R)
    (k : ∀ w', R w' → S w' ∧ runH P ops Q S rest (env n l r) w') : runH P ops Q S ((i, .ld) :: rest) (env n l r) w := by
  obtain ⟨w', h1, h2⟩ := h
  exact hlu ho h1 (k w' h2).1 (k w' h2).2
theorem blK {S : World → Prop} {rest : List (Nat × Kd)} {R : Value → World → Prop} (ho : ops[i]? = some ⟨some d, op, ty, pos, af, none⟩) (h : ExK P n l op ty w R)
    (k : ∀ v w', R v w' → runH P ops Q S rest (env n ((d, v) :: l) r) w') : runH P ops Q S ((i, .bh) :: rest) (env n l r) w := by
  obtain ⟨v, w', h1, h2⟩ := h
  exact bl ho h1 (k v w' h2)
theorem bluK {S : World → Prop} {rest : List (Nat × Kd)} {R : World → Prop} (ho : ops[i]? = some ⟨none, op, ty, pos, af, none⟩) (h : ExUK P n l op ty w R)
    (k : ∀ w', R w' → runH P ops Q S rest (env n l r) w') : runH P ops Q S ((i, .bh) :: rest) (env n l r) w := by
  obtain ⟨w', h1, h2⟩ := h
  exact blu ho h1 (k w' h2)
end

theorem w64 {c : Int} (h1 : -9223372036854775808 ≤ c) (h2 : c ≤ 9223372036854775807) : IntKind.i64.wrap c = c := by
  have e1 : (2 : Int) ^ 64 = 18446744073709551616 := by decide
  have e2 : (2 : Int) ^ (64 - 1) = 9223372036854775808 := by decide
  have : IntKind.i64.wrap c = if c % 2 ^ 64 ≥ (2 : Int) ^ (64 - 1) then c % 2 ^ 64 - 2 ^ 64 else c % 2 ^ 64 := by
    simp [IntKind.wrap, IntKind.bits, IntKind.signed]
  rw [this, e1, e2]
  split <;> omega
theorem wu8 {c : Int} (h1 : 0 ≤ c) (h2 : c < 256) : IntKind.u8.wrap c = c := by
  simp only [IntKind.wrap, IntKind.bits, IntKind.signed]; simp; omega
theorem wu16 {c : Int} (h1 : 0 ≤ c) (h2 : c < 65536) : IntKind.u16.wrap c = c := by
  simp only [IntKind.wrap, IntKind.bits, IntKind.signed]; simp; omega
theorem wu32 {c : Int} (h1 : 0 ≤ c) (h2 : c < 4294967296) : IntKind.u32.wrap c = c := by
  simp only [IntKind.wrap, IntKind.bits, IntKind.signed]; simp; omega
theorem wu8m (c : Int) : IntKind.u8.wrap c = c % 256 := by simp only [IntKind.wrap, IntKind.bits, IntKind.signed]; simp
theorem wu16m (c : Int) : IntKind.u16.wrap c = c % 65536 := by simp only [IntKind.wrap, IntKind.bits, IntKind.signed]; simp
theorem wu32m (c : Int) : IntKind.u32.wrap c = c % 4294967296 := by simp only [IntKind.wrap, IntKind.bits, IntKind.signed]; simp

section
variable {P : Program} {n : Nat} {l : List (Nat × Value)} {w : World} {ty : TypeId} {x y : Operand} {v : Value}

theorem xmove (h : ev n l x = some v) : Ex P n l (.move x) ty w v w := fun r _ _ _ _ => by simp only [execOp, ev_eval r h]; rfl
theorem xassign (h : ev n l x = some v) : Ex P n l (.assign x) ty w v w := fun r _ _ _ _ => by simp only [execOp, ev_eval r h]; rfl
theorem xpickT {c : Operand} (hc : ev n l c = some (.bool true)) (h : ev n l x = some v) : Ex P n l (.pick c x y) ty w v w := fun r _ _ _ _ => by
  simp only [execOp, ev_eval r h, ev_eval r hc]; rfl
theorem xpickF {c : Operand} (hc : ev n l c = some (.bool false)) (h : ev n l y = some v) : Ex P n l (.pick c x y) ty w v w := fun r _ _ _ _ => by
  simp only [execOp, ev_eval r h, ev_eval r hc]; rfl
theorem xbin {b : BinOp} {T U : TypeId} {u : Value} (hx : ev n l x = some v) (hy : ev n l y = some u) {t : Value} (hg : (eqGuard b T x y v u).run P w = .ok () w) (hr : (binOp b T v u).run P w = .ok t w) :
    Ex P n l (.binOp b T x y U) ty w t w := fun r _ _ _ _ => by
  simp only [execOp, ev_eval r hx, ev_eval r hy]
  simp [hg, hr]
theorem xadd {T U : TypeId} {k : IntKind} {a b c : Int} (hx : ev n l x = some (.int k a)) (hy : ev n l y = some (.int k b)) (hw : k.wrap (a + b) = c) : Ex P n l (.binOp .add T x y U) ty w (.int k c) w :=
  xbin hx hy rfl (by simp [binOp, Op.intArith, hw])
theorem xsub {T U : TypeId} {k : IntKind} {a b c : Int} (hx : ev n l x = some (.int k a)) (hy : ev n l y = some (.int k b)) (hw : k.wrap (a - b) = c) : Ex P n l (.binOp .sub T x y U) ty w (.int k c) w :=
  xbin hx hy rfl (by simp [binOp, Op.intArith, hw])
theorem xlss {T U : TypeId} {k : IntKind} {a b : Int} (hx : ev n l x = some (.int k a)) (hy : ev n l y = some (.int k b)) : Ex P n l (.binOp .lss T x y U) ty w (.bool (decide (a < b))) w :=
  xbin hx hy rfl (by simp [binOp, Op.intCmp])
theorem xleq {T U : TypeId} {k : IntKind} {a b : Int} (hx : ev n l x = some (.int k a)) (hy : ev n l y = some (.int k b)) : Ex P n l (.binOp .leq T x y U) ty w (.bool (decide (a ≤ b))) w :=
  xbin hx hy rfl (by simp [binOp, Op.intCmp])
theorem xgtr {T U : TypeId} {k : IntKind} {a b : Int} (hx : ev n l x = some (.int k a)) (hy : ev n l y = some (.int k b)) : Ex P n l (.binOp .gtr T x y U) ty w (.bool (decide (b < a))) w :=
  xbin hx hy rfl (by simp [binOp, Op.intCmp])
theorem xgeq {T U : TypeId} {k : IntKind} {a b : Int} (hx : ev n l x = some (.int k a)) (hy : ev n l y = some (.int k b)) : Ex P n l (.binOp .geq T x y U) ty w (.bool (decide (b ≤ a))) w :=
  xbin hx hy rfl (by simp [binOp, Op.intCmp])
theorem xeql {T U : TypeId} {k : IntKind} {a b : Int} (hx : ev n l x = some (.int k a)) (hy : ev n l y = some (.int k b)) : Ex P n l (.binOp .eql T x y U) ty w (.bool (decide (a = b))) w :=
  xbin hx hy rfl (by simp only [binOp, Op.intCmp]; simp; rfl)
theorem xneq {T U : TypeId} {k : IntKind} {a b : Int} (hx : ev n l x = some (.int k a)) (hy : ev n l y = some (.int k b)) : Ex P n l (.binOp .neq T x y U) ty w (.bool (decide (a ≠ b))) w :=
  xbin hx hy rfl (by
    have : decide (a ≠ b) = (a != b) := by by_cases h : a = b <;> simp [h]
    rw [this]
    simp [binOp, Op.intCmp])
theorem tl_eq (s : ByteArray) : s.toList = s.data.toList := ByteArray.toList_eq s
theorem str_eq (a b : ByteArray) : (a.toList == b.toList) = decide (a = b) := by
  by_cases h : a = b
  · subst h; simp
  · rw [decide_eq_false h]
    rw [beq_eq_false_iff_ne]
    intro e
    apply h
    have : a.data.toList = b.data.toList := by rw [← tl_eq, ← tl_eq, e]
    cases a; cases b
    simp at this
    simp [this]
theorem xeqs {T U : TypeId} {a b : ByteArray} (hx : ev n l x = some (.string a)) (hy : ev n l y = some (.string b)) : Ex P n l (.binOp .eql T x y U) ty w (.bool (decide (a = b))) w :=
  xbin hx hy rfl (by rw [← str_eq]; simp [binOp, Op.stringOp])
theorem xnes {T U : TypeId} {a b : ByteArray} (hx : ev n l x = some (.string a)) (hy : ev n l y = some (.string b)) : Ex P n l (.binOp .neq T x y U) ty w (.bool (decide (a ≠ b))) w :=
  xbin hx hy rfl (by
    have : decide (a ≠ b) = !(decide (a = b)) := by by_cases h : a = b <;> simp [h]
    rw [this, ← str_eq]
    simp [binOp, Op.stringOp])
theorem xnot {T : TypeId} {b : Bool} (hx : ev n l x = some (.bool b)) : Ex P n l (.unOp .not T x) ty w (.bool (!b)) w := fun r _ _ _ _ => by
  simp only [execOp, ev_eval r hx]; rfl
theorem xconv {S D : TypeId} {k j : IntKind} {a c : Int} (hS : hasB P S = true) (hD : intB P D k = true) (hx : ev n l x = some (.int j a)) (hw : k.wrap a = c) : Ex P n l (.convert S D x) ty w (.int k c) w := fun r _ _ _ _ => by
  cases hs : P.underlying S with
  | none => rw [hasB, hs] at hS; cases hS
  | some ds =>
    simp only [execOp, ev_eval r hx]
    simp [convert, run_underlying hs, run_underlying (intB_spec hD), Conv.intToInt, hw]
theorem xlen {T E : TypeId} {a : Option Addr} {m c : Nat} (hT : slcB P T E = true) (hx : ev n l x = some (.slice a m c)) :
    Ex P n l (.call { callee := .builtin .len, args := #[x], argTypes := #[T] }) ty w (.int .i64 m) w := fun r _ _ _ _ => by
  simp only [execOp]
  simp [resolve, invoke, builtin, Builtin.len_, ev_eval r hx, run_underlying (slcB_spec hT), goInt]
theorem xlenS {T : TypeId} {s : ByteArray} (hT : strB P T = true) (hx : ev n l x = some (.string s)) :
    Ex P n l (.call { callee := .builtin .len, args := #[x], argTypes := #[T] }) ty w (.int .i64 s.size) w := fun r _ _ _ _ => by
  simp only [execOp]
  simp [resolve, invoke, builtin, Builtin.len_, ev_eval r hx, run_underlying (strB_spec hT), goInt]
theorem xnilc {a : Addr} (hx : ev n l x = some (.pointer (some a))) : Ex P n l (.nilCheck x) ty w (.pointer (some a)) w := fun r _ _ _ _ => by
  simp only [execOp, ev_eval r hx]; rfl
theorem addr_add (b o k : Nat) : (⟨b, o, none⟩ : Addr).add k = ⟨b, o + k, none⟩ := by
  unfold Addr.add; split
  · rename_i h; subst h; rfl
  · rfl
theorem xfld {S : TypeId} {i k b o : Nat} (hf : fldB P S i k = true) (hx : ev n l x = some (.pointer (some ⟨b, o, none⟩))) : Ex P n l (.fieldAddr S x i) ty w (.pointer (some ⟨b, o + k, none⟩)) w := fun r _ _ _ _ => by
  unfold fldB at hf
  split at hf
  · rename_i fs hs
    split at hf
    · rename_i f hff
      simp only [Bool.and_eq_true, beq_iff_eq] at hf
      obtain ⟨rfl, h2⟩ := hf
      split at h2
      · rename_i j hj
        simp only [bne_iff_ne, ne_eq] at h2
        simp only [execOp, ev_eval r hx]
        simp [Instr.fieldAt, run_underlying hs, hff, Instr.sureAddr, fieldPlace, sizeOf, typeInfo, hj, h2, addr_add]
      · cases h2
    · cases hf
  · cases hf
theorem xidx {T E : TypeId} {sz : Nat} {k : IntKind} {i b o m c : Nat} (hT : slcB P T E = true) (hE : szB P E sz = true) (hx : ev n l x = some (.slice (some ⟨b, o, none⟩) m c)) {j : Int} (hy : ev n l y = some (.int k j)) (hj : j = (i : Int)) (hi : i < m) :
    Ex P n l (.indexAddr T x y) ty w (.pointer (some ⟨b, o + i * sz, none⟩)) w := fun r _ _ _ _ => by
  subst hj
  have hs := szB_spec hE
  cases hi' : P.info? E with
  | none => rw [hi'] at hs; cases hs
  | some u =>
    rw [hi'] at hs
    simp only [Option.map_some, Option.some.injEq] at hs
    simp only [execOp, ev_eval r hx, ev_eval r hy]
    simp [Instr.indexAt, asIntOf, run_underlying (slcB_spec hT), sizeOf, typeInfo, hi', hs, addr_add]
    intro h; omega
theorem xidxA {T E : TypeId} {sz : Nat} {k : IntKind} {i b o m : Nat} (hT : arrB P T m E = true) (hE : szB P E sz = true) (hx : ev n l x = some (.pointer (some ⟨b, o, none⟩))) {j : Int} (hy : ev n l y = some (.int k j)) (hj : j = (i : Int)) (hi : i < m) :
    Ex P n l (.indexAddr T x y) ty w (.pointer (some ⟨b, o + i * sz, none⟩)) w := fun r _ _ _ _ => by
  subst hj
  have hs := szB_spec hE
  cases hi' : P.info? E with
  | none => rw [hi'] at hs; cases hs
  | some u =>
    rw [hi'] at hs
    simp only [Option.map_some, Option.some.injEq] at hs
    simp only [execOp, ev_eval r hx, ev_eval r hy]
    simp [Instr.indexAt, asIntOf, run_underlying (arrB_spec hT), sizeOf, typeInfo, hi', hs, addr_add, Instr.sureAddr]
    intro h; omega
theorem xidxS {T : TypeId} {k : IntKind} {s : ByteArray} {i : Nat} (hT : strB P T = true) (hx : ev n l x = some (.string s)) {j : Int} (hy : ev n l y = some (.int k j)) (hj : j = (i : Int)) (hi : i < s.size) :
    Ex P n l (.index T x y) ty w (.int .u8 (s[i].toNat : Int)) w := fun r _ _ _ _ => by
  subst hj
  simp only [execOp, ev_eval r hx, ev_eval r hy]
  simp [Instr.index, asIntOf, run_underlying (strB_spec hT), hi]
theorem xld {T : TypeId} {b o : Nat} (hT : oneB P T = true) (hx : ev n l x = some (.pointer (some ⟨b, o, none⟩))) (hc : w.cell? ⟨b, o, none⟩ = some v) : Ex P n l (.load T x) ty w v w := fun r _ _ _ _ => by
  obtain ⟨d, hd, hr⟩ := oneB_spec hT
  simp only [execOp, ev_eval r hx]
  have : (isAgg T).run P w = .ok false w := by
    cases d <;> simp_all [isAgg, run_underlying hd, TypeDesc.isRow]
  simp [Instr.loadAt, Instr.sureAddr, loadVar, this, hc]
theorem ld_row {T : TypeId} {b o : Nat} {cs : List Value} (hT : rowB P T cs.length = true) (hc : w.rangeAt b o cs) : (loadVar T ⟨b, o, none⟩).run P w = .ok (.agg cs.toArray) w := by
  obtain ⟨d, hd, hr, hs⟩ := rowB_spec hT
  exact run_loadVar_mid w b o T cs d hc hd hr hs
theorem xldR {T : TypeId} {b o : Nat} {cs : List Value} {k : Nat} (hT : rowB P T k = true) (hx : ev n l x = some (.pointer (some ⟨b, o, none⟩))) (hc : w.rangeAt b o cs) (hk : cs.length = k) : Ex P n l (.load T x) ty w (.agg cs.toArray) w := fun r _ _ _ _ => by
  subst hk
  simp only [execOp, ev_eval r hx]
  simp [Instr.loadAt, Instr.sureAddr, ld_row hT hc]
theorem xst {T : TypeId} {b i : Nat} {cs : List Value} (hT : szB P T 1 = true) (hx : ev n l x = some (.pointer (some ⟨b, i, none⟩))) (hy : ev n l y = some v) (hb : Blk w b cs) (hi : i < cs.length) (h1 : v.oneCell' = true) :
    ExUK P n l (.store T x y) ty w (fun w' => Fr (· = b) w w' ∧ Blk w' b (cs.set i v) ∧ w'.heap.size = w.heap.size) := by
  refine ⟨w.setCell ⟨b, i, none⟩ v, fun r _ _ _ _ => ?_, fr_setCell w b i v, hb.set i v, size_setCell _ _ _⟩
  have hs := szB_spec hT
  cases hi' : P.info? T with
  | none => rw [hi'] at hs; cases hs
  | some u =>
    rw [hi'] at hs
    simp only [Option.map_some, Option.some.injEq] at hs
    simp only [execOp, ev_eval r hx, ev_eval r hy]
    have hcells : v.cells = #[v] := by cases v <;> first | rfl | cases h1
    have hcell := hb.cell (i := i) (v := cs[i]) (by simp)
    have hfr := hb.frozen i
    have hadd : (⟨b, i, none⟩ : Addr).add 0 = ⟨b, i, none⟩ := addr_add b i 0
    simp [Instr.storeAt, Instr.sureAddr, storeVar, hcells, sizeOf, typeInfo, hi', hs, storeCells, hadd, run_store _ _ _ _ _ h1, hcell, hfr]
theorem xstR {T : TypeId} {b i : Nat} {cs ds : List Value} (hT : szB P T ds.length = true) (hx : ev n l x = some (.pointer (some ⟨b, i, none⟩))) (hy : ev n l y = some (.agg ds.toArray)) (hb : Blk w b cs) (hi : i + ds.length ≤ cs.length) (h1 : ds.all (·.oneCell') = true) :
    ExUK P n l (.store T x y) ty w (fun w' => Fr (· = b) w w' ∧ Blk w' b (splice cs i ds) ∧ w'.heap.size = w.heap.size) := by
  have hsets := hb.sets ds i hi
  refine ⟨w.setCells b i ds, fun r _ _ _ _ => ?_, hsets.2.1, hsets.1, hsets.2.2⟩
  simp only [execOp, ev_eval r hx, ev_eval r hy]
  have := run_storeVar_mid (P := P) w b i T ds.toArray (by simpa using hb.there hi) (by simpa using szB_spec hT) (by simpa using h1)
  simp [Instr.storeAt, Instr.sureAddr, this]
theorem xbox {T : TypeId} {cs : List Value} (hx : ev n l x = some v) (hv : v.cells = cs.toArray) :
    ExK P n l (.box T x) ty w (fun u w' => ∃ b, u = .pointer (some ⟨b, 0, none⟩) ∧ Fr0 w w' ∧ Blk w' b cs ∧ b = w.heap.size ∧ w'.heap.size = w.heap.size + 1) := by
  refine ⟨_, w.alloc (.cells cs.toArray T), fun r _ _ _ _ => ?_, w.heap.size, rfl, fr_alloc _ _, blk_alloc _ _ _, rfl, size_alloc _ _⟩
  simp only [execOp, ev_eval r hx]
  simp [Instr.box, newVar, newRow, hv]
theorem xalloc {T : TypeId} {z : Value} {sz by' : Nat} {cs : List Value} (hT : Inf P T z sz by') (hv : z.cells = cs.toArray) :
    ExK P n l (.alloc T) ty w (fun u w' => ∃ b, u = .pointer (some ⟨b, 0, none⟩) ∧ Fr0 w w' ∧ Blk w' b cs ∧ b = w.heap.size ∧ w'.heap.size = w.heap.size + 1) := by
  obtain ⟨i, hi, hz, _, _⟩ := hT
  refine ⟨_, w.alloc (.cells cs.toArray T), fun r _ _ _ _ => ?_, w.heap.size, rfl, fr_alloc _ _, blk_alloc _ _ _, rfl, size_alloc _ _⟩
  simp [execOp, Instr.alloc, zeroValue, typeInfo, hi, hz, newVar, newRow, hv]
theorem xextr {vs : Array Value} {i : Nat} (hx : ev n l x = some (.tuple vs)) (hv : vs[i]? = some v) : Ex P n l (.extract x i) ty w v w := fun r _ _ _ _ => by
  simp only [execOp, ev_eval r hx]
  simp [Instr.extract, hv]
theorem xmkif {T : TypeId} (hT : notIfB P T = true) (hx : ev n l x = some v) : Ex P n l (.makeInterface T x) ty w (.iface T v) w := fun r _ _ _ _ => by
  cases hs : P.underlying T with
  | none => rw [notIfB, hs] at hT; cases hT
  | some d =>
    simp only [execOp, ev_eval r hx]
    cases d <;> first
      | (simp [Instr.makeInterface, run_underlying hs]; done)
      | (rw [notIfB, hs] at hT; cases hT; done)
theorem xcall {f : FuncId} {xs : List Operand} {ts : Array TypeId} {vs : List Value} (hf : callB P f = true) (hx : evs n l xs = some vs) :
    ExC P n l (.call { callee := .value (.func f), args := xs.toArray, argTypes := ts }) ty w f vs := fun r _ _ _ _ => by
  unfold callB at hf
  split at hf
  · rename_i fn hfn
    simp only [Bool.and_eq_true, Bool.not_eq_true'] at hf
    have hn : ¬ fn.name = "runtime.NumGoroutine" := by simpa using hf.1
    have hb : ¬ fn.body = none := fun h => by rw [h] at hf; cases hf.2
    simp only [execOp]
    simp [resolve, Act.eval, Deferred.ofValue, invoke, callFunc, hfn, evs_eval r hx]
    rw [if_neg hn, if_neg hb]
  · cases hf
end
section
variable {P : Program} {ops : Array Oper} {Q : Exit → Act → World → Prop} {rest : List Oper} {n : Nat} {l : List (Nat × Value)} {r : Nat → Value} {w : World} {ty : TypeId} {pos : String} {af : Array Edge} {v : Value} {d i : Nat} {S : World → Prop} {more : List (Nat × Kd)} {x : Operand} {a : Addr}
theorem sM (h : ev n l x = some v) (k : WL P ops Q rest (env n ((d, v) :: l) r) w) : WL P ops Q (⟨some d, .move x, ty, pos, af, none⟩ :: rest) (env n l r) w := sv (xmove h) k
theorem sA (h : ev n l x = some v) (k : WL P ops Q rest (env n ((d, v) :: l) r) w) : WL P ops Q (⟨some d, .assign x, ty, pos, af, none⟩ :: rest) (env n l r) w := sv (xassign h) k
theorem sN (h : ev n l x = some (.pointer (some a))) (k : WL P ops Q rest (env n ((d, .pointer (some a)) :: l) r) w) : WL P ops Q (⟨some d, .nilCheck x, ty, pos, af, none⟩ :: rest) (env n l r) w := sv (xnilc h) k
theorem ggM (ho : ops[i]? = some ⟨some d, .move x, ty, pos, af, none⟩) (h : ev n l x = some v) (hS : S w) (k : runH P ops Q S more (env n ((d, v) :: l) r) w) : runH P ops Q S ((i, .rd) :: more) (env n l r) w := hv ho (fun _ _ => xmove h) hS k
theorem ggA (ho : ops[i]? = some ⟨some d, .assign x, ty, pos, af, none⟩) (h : ev n l x = some v) (hS : S w) (k : runH P ops Q S more (env n ((d, v) :: l) r) w) : runH P ops Q S ((i, .rd) :: more) (env n l r) w := hv ho (fun _ _ => xassign h) hS k
theorem ggN (ho : ops[i]? = some ⟨some d, .nilCheck x, ty, pos, af, none⟩) (h : ev n l x = some (.pointer (some a))) (hS : S w) (k : runH P ops Q S more (env n ((d, .pointer (some a)) :: l) r) w) : runH P ops Q S ((i, .rd) :: more) (env n l r) w := hv ho (fun _ _ => xnilc h) hS k
end
end Go.Proofs.YtifnodoffgfpbaaGreatDoor

namespace Go.Proofs.YtifnodoffgfpbaaGreatDoor
open Go

theorem run_app {P : Program} {w : World} {T TX ty E : TypeId} {z : Value} {size bytes : Nat} (hT : slcB P T E = true) (hI : Inf P E z size bytes) (hz : z.cells.size = size) (hsz : 0 < size)
    {v u : Value} {g m k : Nat} {cs news : List Value} (hR : Rw w v g E size m cs) (hs : Src P size TX u k news w) (hm : m + k ≤ maxLen) (hb : (m + k) * bytes ≤ 140737488355328) :
    ∃ v' w', (Builtin.append_ #[T, TX] ty #[v, u]).run P w = .ok v' w' ∧ ∃ g', Rw w' v' g' E size (m + k) (cs ++ news) ∧ Fr (· = g) w w' ∧ (g' = g ∨ w.heap.size ≤ g') ∧ (g < w.heap.size ∨ 0 < m + k → g' < w'.heap.size) := by
  obtain ⟨i, hi, hiz, rfl, rfl⟩ := hI
  have hu := slcB_spec hT
  have h63 : ((m + k : Nat) : Int) ≤ 9223372036854775807 := by simp only [maxLen] at hm; omega
  have hlen : (cs ++ news).length = (m + k) * i.size := by rw [List.length_append, hR.len, hs.newsLen, Nat.add_mul]
  have hone : (cs ++ news).all (·.oneCell') = true := by
    rw [List.all_append, hR.2.2, Bool.true_and, List.all_eq_true]
    exact fun u hu => hs.one u hu
  have grown : ∀ (old : Nat), old < m + k → ∃ g', Rw (w.drew.alloc (.cells ((cs ++ news).toArray ++ Builtin.zeroCells z.cells (grownCap w (m + k) old E - (m + k))) E)) (.slice (some ⟨w.heap.size, 0, none⟩) (m + k) (grownCap w (m + k) old E)) g' E i.size (m + k) (cs ++ news) ∧
      Fr (· = g) w (w.drew.alloc (.cells ((cs ++ news).toArray ++ Builtin.zeroCells z.cells (grownCap w (m + k) old E - (m + k))) E)) ∧ (g' = g ∨ w.heap.size ≤ g') ∧
      (g < w.heap.size ∨ 0 < m + k → g' < (w.drew.alloc (.cells ((cs ++ news).toArray ++ Builtin.zeroCells z.cells (grownCap w (m + k) old E - (m + k))) E)).heap.size) := by
    intro old ho
    have hge := grownCap_ge w (m + k) old E
    have hcm : grownCap w (m + k) old E ≤ maxLen := grownCap_le_maxLen w (m + k) old E hm
    refine ⟨w.heap.size, ⟨⟨hlen, .inr ⟨w.heap.size, _, _, rfl, Nat.zero_le _, heap_alloc_new w.drew _, hge, hcm, ?_, ?_⟩⟩, (fun k hk => by simp only [Value.ownBlock, Option.some.injEq] at hk; exact hk.symm), hone⟩, ?_, .inr (Nat.le_refl _), fun _ => by simp⟩
    · simp only [Array.size_append, List.size_toArray, size_zeroCells, hz, hlen]
      rw [← Nat.add_mul]
      congr 1
      omega
    · simp only [Array.toList_append]
      rw [← hlen]
      exact List.take_left
    · exact ((Fr.refl (· = g) w).drew).step0 (fr_alloc w.drew _)
  rcases hR.1.2 with ⟨rfl, rfl⟩ | ⟨g1, cap, cur, rfl, _, hg1, hnc, hcm, hcs, htake⟩
  · have hx : cs = [] := List.eq_nil_of_length_eq_zero (by simpa using hR.len)
    subst hx
    by_cases hk : k = 0
    · subst hk
      have hn : news = [] := List.eq_nil_of_length_eq_zero (by simpa using hs.newsLen)
      subst hn
      refine ⟨.slice none 0 0, w, ?_, g, Rw.nil w g E i.size, Fr.refl _ _, .inl rfl, fun h => h.elim id (fun h => absurd h (by omega))⟩
      rcases hs.kind with ⟨e', hk⟩ | hk <;> simp [Builtin.append_, run_underlying hu, run_underlying hk, sizeOf, typeInfo, hi, hs.len, hs.cells]
    · have hold : (Builtin.firstCells i.size 0 (.slice none 0 0)).run P w.drew = .ok ([] : List Value).toArray w.drew := run_firstCells_none w.drew i.size 0 0 0
      have hr := run_append_grow_src (P := P) w T TX ty E i z hu hi hiz none 0 0 [] hold u k news hs (by omega) h63 (growslice_fits (by omega) hb)
      obtain ⟨g', hg'⟩ := grown 0 (by omega)
      simp only [Nat.zero_add, List.nil_append] at hr hg' ⊢
      exact ⟨_, _, hr, g', hg'⟩
  · obtain rfl := hR.2.1 g1 rfl
    by_cases hroom : m + k ≤ cap
    · have hblk : w.heap[g1]? = some (.cells cur.toList.toArray E (0, 0)) := by simpa using hg1
      have hfit : m * i.size + news.length ≤ cur.toList.length := by rw [hs.newsLen, Array.length_toList, hcs, ← Nat.add_mul]; exact Nat.mul_le_mul_right _ hroom
      have hsets := heap_sets news (m * i.size) hblk hfit
      have hB : Blk w g1 cur.toList := ⟨E, hblk⟩
      have hr := run_append_room_src (P := P) w T TX ty E i hu hi g1 0 m cap u k news hs hroom
        (fun j hj => by rw [show 0 + m * i.size + j = m * i.size + j by omega]; exact (hB.there (i := m * i.size) (n := news.length) hfit j hj).1)
        (fun j _ => hB.frozen _)
      rw [Nat.zero_add] at hr
      refine ⟨_, _, hr, g1, ⟨⟨hlen, .inr ⟨g1, cap, _, rfl, Nat.zero_le _, hsets.1, hroom, hcm, ?_, ?_⟩⟩, (fun k hk => by simp only [Value.ownBlock, Option.some.injEq] at hk; exact hk.symm), hone⟩, hsets.2.1, .inl rfl, fun _ => ?_⟩
      · simp only [splice, List.size_toArray, List.length_append, List.length_take, List.length_drop, Array.length_toList] at hfit ⊢
        omega
      · simp only [splice]
        rw [htake, ← hlen]
        exact List.take_left
      · rw [hsets.2.2]; exact (Array.getElem?_eq_some_iff.1 hg1).1
    · have hold : (Builtin.firstCells i.size m (.slice (some ⟨g1, 0, none⟩) m cap)).run P w.drew = .ok cs.toArray w.drew :=
        run_firstCells_some w.drew i.size m ⟨g1, 0, none⟩ m cap cs hR.len fun j u hu => by
          rw [addr_add]
          exact hR.rng j u hu
      have hr := run_append_grow_src (P := P) w T TX ty E i z hu hi hiz (some ⟨g1, 0, none⟩) m cap cs hold u k news hs (by omega) h63 (growslice_fits (by omega) hb)
      obtain ⟨g', hg'⟩ := grown cap (by omega)
      exact ⟨_, _, hr, g', hg'⟩

theorem src_rng {P : Program} {w : World} {T E : TypeId} {size b o m c : Nat} {cs : List Value} (hT : slcB P T E = true) (hl : cs.length = m * size) (hr : w.rangeAt b o cs) (h1 : cs.all (·.oneCell') = true) : Src P size T (.slice (some ⟨b, o, none⟩) m c) m cs w :=
  Src.ofSlice w (slcB_spec hT) _ _ _ _ hl (fun j u h => by rw [addr_add]; exact hr j u h) (fun u hu => List.all_eq_true.1 h1 u hu)
theorem Rw.src {P : Program} {w : World} {T E e size m g : Nat} {v : Value} {cs : List Value} (h : Rw w v g e size m cs) (hT : slcB P T E = true) : Src P size T v m cs w := by
  obtain ⟨a, c, rfl, _, _, h5, h6⟩ := h.form
  rcases h6 with rfl | rfl
  · have hm : m = 0 := by
      cases m with
      | zero => rfl
      | succ m => exact absurd (h5 (by omega)) (by simp)
    subst hm
    have : cs = [] := List.eq_nil_of_length_eq_zero (by simpa using h.len)
    subst this
    exact Src.ofNil w (slcB_spec hT) c
  · exact src_rng hT h.len h.rng h.2.2

section
variable {P : Program} {n : Nat} {l : List (Nat × Value)} {w : World} {ty : TypeId} {x y : Operand} {v : Value}
theorem xapp {T TX E : TypeId} {z : Value} {size bytes : Nat} (hT : slcB P T E = true) (hI : Inf P E z size bytes) (hz : z.cells.size = size) (hsz : 0 < size)
    {u : Value} {g m k : Nat} {cs news : List Value} (hx : ev n l x = some v) (hy : ev n l y = some u) (hR : Rw w v g E size m cs) (hs : Src P size TX u k news w) (hm : m + k ≤ maxLen) (hb : (m + k) * bytes ≤ 140737488355328) :
    ExK P n l (.call { callee := .builtin .append, args := #[x, y], argTypes := #[T, TX] }) ty w
      (fun v' w' => ∃ g', Rw w' v' g' E size (m + k) (cs ++ news) ∧ Fr (· = g) w w' ∧ (g' = g ∨ w.heap.size ≤ g') ∧ (g < w.heap.size ∨ 0 < m + k → g' < w'.heap.size)) := by
  obtain ⟨v', w', hr, hh⟩ := run_app (ty := ty) hT hI hz hsz hR hs hm hb
  refine ⟨v', w', fun r _ _ _ _ => ?_, hh⟩
  simp only [execOp]
  simp [resolve, invoke, builtin, ev_eval r hx, ev_eval r hy, hr]
end
end Go.Proofs.YtifnodoffgfpbaaGreatDoor

namespace Go.Proofs.YtifnodoffgfpbaaGreatDoor
open Go

theorem foldl_sets : ∀ (ds : List Value) (k off : Nat) (cells : Array Value), off + k + ds.length ≤ cells.size →
    ((ds.zipIdx k).foldl (fun cs (p : Value × Nat) => cs.setIfInBounds (off + p.2) p.1) cells) = (splice cells.toList (off + k) ds).toArray
  | [], k, off, cells, _ => by simp [splice_nil]
  | v :: ds, k, off, cells, h => by
    simp only [List.length_cons] at h
    simp only [List.zipIdx_cons, List.foldl_cons]
    rw [foldl_sets ds (k + 1) off _ (by simp; omega)]
    rw [Array.toList_setIfInBounds]
    have : off + (k + 1) = off + k + 1 := by omega
    rw [this, splice_cons _ _ _ _ (by simp; omega)]

theorem fill_step {place : Nat → Option (Nat × Nat)} {cells : Array Value} {i off size : Nat} {v : Value} {rest : List (Nat × Value)} (hp : place i = some (off, size)) (hs : v.cells.size = size) (hf : off + size ≤ cells.size) :
    Instr.fill place cells ((i, v) :: rest) = Instr.fill place (splice cells.toList off v.cells.toList).toArray rest := by
  simp only [Instr.fill, hp]
  rw [if_neg (by simp [hs]; omega)]
  congr 1
  have := foldl_sets v.cells.toList 0 off cells (by simp [hs]; omega)
  rw [Nat.add_zero] at this
  rw [← this]
  rw [← Array.foldl_toList]
  congr 1
  simp

def offs (segs : List (List Value)) (i : Nat) : Nat := ((segs.take i).map List.length).sum
theorem offs_flat : ∀ (segs : List (List Value)) (i : Nat), offs segs i = (segs.take i).flatten.length
  | segs, i => by simp [offs, List.length_flatten]
theorem splice_flat : ∀ (segs : List (List Value)) (i : Nat) (ds : List Value), (h : i < segs.length) → ds.length = segs[i].length → splice segs.flatten (offs segs i) ds = (segs.set i ds).flatten := by
  intro segs i ds h hl
  have e : segs = segs.take i ++ (segs[i] :: segs.drop (i + 1)) := by
    rw [List.getElem_cons_drop, List.take_append_drop]
  have e2 : segs.set i ds = segs.take i ++ (ds :: segs.drop (i + 1)) := by
    rw [List.set_eq_take_append_cons_drop, if_pos h]
  rw [e2, offs_flat]
  conv => lhs; arg 1; rw [e]
  simp only [List.flatten_append, List.flatten_cons]
  exact splice_mid _ _ _ _ hl
theorem offs_le (segs : List (List Value)) (i : Nat) (h : i < segs.length) : offs segs i + segs[i].length ≤ segs.flatten.length := by
  have e : segs = segs.take i ++ (segs[i] :: segs.drop (i + 1)) := by
    rw [List.getElem_cons_drop, List.take_append_drop]
  rw [offs_flat]
  conv => rhs; rw [e]
  simp only [List.flatten_append, List.flatten_cons, List.length_append]
  omega
theorem offs_set (segs : List (List Value)) (i j : Nat) (ds : List Value) (h : i < segs.length) (hl : ds.length = segs[i].length) : offs (segs.set i ds) j = offs segs j := by
  simp only [offs]
  congr 1
  rw [List.take_set, List.map_set]
  by_cases hj : i < j
  · apply List.ext_getElem
    · simp
    · intro m h1 h2
      rw [List.getElem_set]
      split
      · rename_i hm; subst hm; simp [hl]
      · rfl
  · rw [List.set_eq_of_length_le]
    simp; omega

def setAll : List (List Value) → List (Nat × Value) → List (List Value)
  | segs, [] => segs
  | segs, p :: ps => setAll (segs.set p.1 p.2.cells.toList) ps
def fitAll : List (List Value) → List (Nat × Value) → Prop
  | _, [] => True
  | segs, p :: ps => (∃ h : p.1 < segs.length, p.2.cells.toList.length = (segs[p.1]).length) ∧ fitAll (segs.set p.1 p.2.cells.toList) ps

theorem fill_all (place : Nat → Option (Nat × Nat)) : ∀ (parts : List (Nat × Value)) (segs : List (List Value)), (∀ i, (h : i < segs.length) → place i = some (offs segs i, segs[i].length)) → fitAll segs parts →
    Instr.fill place segs.flatten.toArray parts = some (setAll segs parts).flatten.toArray
  | [], segs, _, _ => rfl
  | (i, v) :: rest, segs, hp, hf => by
    obtain ⟨⟨h, hl⟩, hr⟩ := hf
    simp only at h hl hr
    rw [fill_step (hp i h) (by simpa using hl) (by simpa using offs_le segs i h)]
    simp only []
    rw [splice_flat segs i _ h (by simpa using hl)]
    refine fill_all place rest _ (fun j hj => ?_) hr
    rw [List.length_set] at hj
    rw [hp j hj, offs_set segs i j _ h (by simpa using hl)]
    congr 2
    rw [List.getElem_set]
    split
    · rename_i e; subst e; exact hl.symm
    · rfl

def layB (P : Program) (T : TypeId) (lens : List Nat) : Bool := match P.underlying T with
  | some (.struct fs) => fs.toList.map (fun f => (f.offset, P.cellsOf f.type, (P.info? f.type).isSome)) == (lens.mapIdx fun i k => (((lens.take i).sum, k, true) : Nat × Nat × Bool))
  | _ => false

section
variable {P : Program} {n : Nat} {l : List (Nat × Value)} {w : World} {ty : TypeId} {x y : Operand} {v : Value}

def evp (n : Nat) (l : List (Nat × Value)) : List (Nat × Operand) → Option (List (Nat × Value))
  | [] => some []
  | p :: ps => (ev n l p.2).bind fun v => (evp n l ps).bind fun vs => some ((p.1, v) :: vs)
theorem evp_eval (r : Nat → Value) : ∀ {ps : List (Nat × Operand)} {vs : List (Nat × Value)}, evp n l ps = some vs → ps.map (fun p => (p.1, (env n l r).eval p.2)) = vs
  | [], vs, h => by simp only [evp, Option.some.injEq] at h; subst h; rfl
  | p :: ps, vs, h => by
    simp only [evp, Option.bind_eq_some_iff, Option.some.injEq] at h
    obtain ⟨v, hv, us, hus, rfl⟩ := h
    simp only [List.map_cons, ev_eval r hv, evp_eval r hus]

theorem mapM_places {fs : List Field} : ∀ {w : World}, (∀ f ∈ fs, (P.info? f.type).isSome = true) →
    (fs.mapM fun f => Prod.mk f.offset <$> sizeOf f.type).run P w = .ok (fs.map fun f => (f.offset, P.cellsOf f.type)) w := by
  induction fs with
  | nil => intro w _; simp
  | cons f fs ih =>
    intro w h
    have h0 := h f (by simp)
    obtain ⟨i, hi⟩ := Option.isSome_iff_exists.1 h0
    have := ih (w := w) (fun g hg => h g (by simp [hg]))
    simp only [List.mapM_cons, List.map_cons]
    simp [sizeOf, typeInfo, hi, Program.cellsOf] at this ⊢
    simp [this]

theorem run_build_flat {T : TypeId} {segs : List (List Value)} {vs : List (Nat × Value)} (hz : (P.info? T).map (·.zero) = some (some (.agg segs.flatten.toArray))) (hl : layB P T (segs.map List.length) = true) (hf : fitAll segs vs) :
    (Instr.build T vs.toArray).run P w = .ok (.agg (setAll segs vs).flatten.toArray) w := by
  unfold layB at hl
  split at hl
  · rename_i fs hs
    have hl := eq_of_beq hl
    cases hi : P.info? T with
    | none => rw [hi] at hz; cases hz
    | some i =>
      rw [hi] at hz
      simp only [Option.map_some, Option.some.injEq] at hz
      have hlen : fs.toList.length = segs.length := by
        have := congrArg List.length hl
        simpa using this
      have hsome : ∀ f ∈ fs.toList, (P.info? f.type).isSome = true := by
        intro f hf
        obtain ⟨k, hk, rfl⟩ := List.mem_iff_getElem.1 hf
        have := congrArg (fun l => l[k]?) hl
        simp only [List.getElem?_map, List.getElem?_mapIdx] at this
        rw [List.getElem?_eq_getElem hk] at this
        rw [List.getElem?_eq_getElem (by omega : k < segs.length)] at this
        simp only [Option.map_some, Option.some.injEq, Prod.mk.injEq] at this
        exact this.2.2
      have hplace : ∀ j, (h : j < segs.length) → (fs.toList.map fun f => (f.offset, P.cellsOf f.type)).toArray[j]? = some (offs segs j, segs[j].length) := by
        intro j hj
        have := congrArg (fun l => l[j]?) hl
        simp only [List.getElem?_map, List.getElem?_mapIdx] at this
        rw [List.getElem?_eq_getElem (by omega : j < fs.toList.length)] at this
        rw [List.getElem?_eq_getElem hj] at this
        simp only [Option.map_some, Option.some.injEq, Prod.mk.injEq] at this
        simp only [List.getElem?_toArray, List.getElem?_map]
        rw [List.getElem?_eq_getElem (by omega : j < fs.toList.length)]
        simp only [Option.map_some, Option.some.injEq, Prod.mk.injEq]
        refine ⟨?_, this.2.1⟩
        rw [this.1, offs]
        congr 1
        rw [List.map_take]
      have hfill := fill_all (fun j => (fs.toList.map fun f => (f.offset, P.cellsOf f.type)).toArray[j]?) vs segs hplace hf
      have hm := mapM_places (P := P) (w := w) hsome
      simp only [Instr.build]
      simp only [Sem.run_bind, zeroValue, typeInfo, run_underlying hs, Result.andThen_ok]
      simp only [Array.mapM_eq_mapM_toList]
      simp at hfill
      simp [hi, hz, hm, hfill, Value.cells]
  · cases hl

theorem xbuild {T : TypeId} {ps : List (Nat × Operand)} {vs : List (Nat × Value)} {segs : List (List Value)} (cells : List Value) (hz : (P.info? T).map (·.zero) = some (some (.agg segs.flatten.toArray))) (hl : layB P T (segs.map List.length) = true)
    (hp : evp n l ps = some vs) (hf : fitAll segs vs) (hc : (setAll segs vs).flatten = cells) : Ex P n l (.build T ps.toArray) ty w (.agg cells.toArray) w := fun r _ _ _ _ => by
  subst hc
  have := evp_eval r hp
  simp only [execOp]
  simp only [List.map_toArray]
  rw [show (List.map (fun x => (x.1, (env n l r).eval x.2)) ps) = vs from this]
  simp [run_build_flat hz hl hf]

theorem run_buildSlice_flat {T E : TypeId} {z : Value} {size bytes : Nat} {vs : List Value} (hT : slcB P T E = true) (hI : Inf P E z size bytes) (hz : z.cells.size = size) (hsz : 0 < size) (hv : ∀ v ∈ vs, v.cells.size = size) (hk : vs.length * size ≤ 16777216) :
    (Instr.buildSlice T vs.length (enum 0 vs).toArray).run P w = .ok (.slice (some ⟨w.heap.size, 0, none⟩) vs.length vs.length) (w.alloc (.cells (vs.map (·.cells.toList)).flatten.toArray E)) := by
  obtain ⟨i, hi, hiz, rfl, rfl⟩ := hI
  have gen : ∀ (us : List Value) (k : Nat) (pre : List Value), (∀ v ∈ us, v.cells.size = i.size) → ∀ (post : List Value), pre.length = k * i.size → post.length = us.length * i.size →
      Instr.fill (fun j => some (j * i.size, i.size)) (pre ++ post).toArray (enum k us) = some (pre ++ (us.map (·.cells.toList)).flatten).toArray := by
    intro us
    induction us with
    | nil =>
      intro k pre _ post _ hp
      have : post = [] := List.eq_nil_of_length_eq_zero (by simpa using hp)
      subst this
      rfl
    | cons u us ih =>
      intro k pre hu post hk hp
      simp only [enum]
      have hu0 := hu u (by simp)
      rw [fill_step (off := k * i.size) (size := i.size) rfl hu0 (by simp only [List.size_toArray, List.length_append, hk, hp, List.length_cons, Nat.add_mul]; omega)]
      simp only []
      have hsp : splice (pre ++ post) (k * i.size) u.cells.toList = pre ++ u.cells.toList ++ post.drop i.size := by
        have h1 : post = post.take i.size ++ post.drop i.size := (List.take_append_drop _ _).symm
        rw [← hk]
        conv => lhs; rw [h1]
        rw [splice_mid]
        · simp
        · simp [hu0, hp, Nat.add_mul]
      rw [hsp]
      rw [ih (k + 1) (pre ++ u.cells.toList) (fun v hv => hu v (by simp [hv])) (post.drop i.size) (by simp [hk, hu0, Nat.add_mul]) (by simp [hp, Nat.add_mul])]
      simp
  have h0 : Instr.fill (fun j => some (j * i.size, i.size)) ((Array.range (vs.length * i.size)).map (fun k => z.cells[k % z.cells.size]!)) (enum 0 vs) = some (vs.map (·.cells.toList)).flatten.toArray := by
    have := gen vs 0 [] hv (((Array.range (vs.length * i.size)).map (fun k => z.cells[k % z.cells.size]!)).toList) (by simp) (by simp)
    rw [List.nil_append, List.nil_append] at this
    rwa [Array.toArray_toList] at this
  have hk' : ¬ (vs.length * i.size > 2 ^ 24) := by simp; omega
  by_cases hv0 : vs.length = 0
  · have : vs = [] := List.eq_nil_of_length_eq_zero hv0
    subst this
    simp [Instr.buildSlice, run_underlying (slcB_spec hT), sizeOf, typeInfo, hi, enum, Instr.fill, newRow]
    congr 1
    simp
  · have hne : ¬ (vs.length * i.size = 0) := by
      intro h
      rcases Nat.mul_eq_zero.1 h with h | h <;> omega
    have hi0 : ¬ i.size = 0 := by omega
    have hvs : ¬ vs = [] := fun h => hv0 (by simp [h])
    have hz' : (zeroValue E).run P w = .ok z w := by simp [zeroValue, typeInfo, hi, hiz]
    have hs' : (sizeOf E).run P w = .ok i.size w := by simp [sizeOf, typeInfo, hi]
    simp only [Instr.buildSlice, Sem.run_bind, run_underlying (slcB_spec hT), Result.andThen_ok, hs']
    rw [if_neg hk', if_neg hne]
    simp only [Sem.run_bind, hz', Result.andThen_ok, Sem.run_pure, h0]
    simp [newRow]

theorem enum_of : ∀ (ps : List (Nat × Operand)) (k : Nat) (vs : List Value), ps.map Prod.fst = List.range' k ps.length → evs n l (ps.map Prod.snd) = some vs → evp n l ps = some (enum k vs)
  | [], k, vs, _, h => by
    simp only [List.map_nil, evs, Option.some.injEq] at h
    subst h; rfl
  | (i, x) :: ps, k, vs, hi, h => by
    simp only [List.map_cons, List.length_cons, List.range'_succ, List.cons.injEq] at hi
    obtain ⟨rfl, hi⟩ := hi
    simp only [List.map_cons, evs, Option.bind_eq_some_iff, Option.some.injEq] at h
    obtain ⟨v, hv, us, hus, rfl⟩ := h
    have := enum_of ps (i + 1) us hi hus
    simp only [evp, hv, this, enum, Option.bind_some]
theorem xslit {T E : TypeId} {z : Value} {size bytes k : Nat} {ps : List (Nat × Operand)} {vs : List Value} (cs : List Value) (hT : slcB P T E = true) (hI : Inf P E z size bytes) (hz : z.cells.size = size) (hsz : 0 < size)
    (hi : ps.map Prod.fst = List.range' 0 ps.length) (hp' : evs n l (ps.map Prod.snd) = some vs) (hk : vs.length = k) (hv : vs.all (fun v => v.cells.size == size) = true) (hl : k * size ≤ 16777216) (hc : (vs.map (·.cells.toList)).flatten = cs) (h1 : cs.all (·.oneCell') = true) :
    ExK P n l (.buildSlice T k ps.toArray) ty w (fun u w' => ∃ b, u = .slice (some ⟨b, 0, none⟩) k k ∧ Fr0 w w' ∧ Blk w' b cs ∧ b = w.heap.size ∧ w'.heap.size = w.heap.size + 1 ∧ Rw w' u b E size k cs) := by
  subst hk
  subst hc
  have hp := enum_of ps 0 vs hi hp'
  have hv : ∀ v ∈ vs, v.cells.size = size := fun v h => eq_of_beq (List.all_eq_true.1 hv v h)
  have hlen : ∀ us : List Value, (∀ v ∈ us, v.cells.size = size) → (us.map (·.cells.toList)).flatten.length = us.length * size := by
    intro us
    induction us with
    | nil => intro _; simp
    | cons u us ih =>
      intro h
      simp only [List.map_cons, List.flatten_cons, List.length_append, List.length_cons, Nat.add_mul, Nat.one_mul]
      rw [ih (fun v hv => h v (by simp [hv])), Array.length_toList, h u (by simp)]
      omega
  refine ⟨_, _, fun r _ _ _ _ => ?_, w.heap.size, rfl, fr_alloc _ (.cells (vs.map (·.cells.toList)).flatten.toArray E), blk_alloc _ _ _, rfl, size_alloc _ _, ⟨⟨hlen vs hv, .inr ⟨w.heap.size, vs.length, _, rfl, Nat.zero_le _, heap_alloc_new w _, Nat.le_refl _, ?_, ?_, ?_⟩⟩, fun k hk => ?_, h1⟩⟩
  · have := evp_eval r hp
    simp only [execOp]
    simp only [List.map_toArray]
    rw [show (List.map (fun x => (x.1, (env n l r).eval x.2)) ps) = enum 0 vs from this]
    simp [run_buildSlice_flat hT hI hz hsz hv hl]
  · simp only [maxLen]
    have : vs.length ≤ vs.length * size := Nat.le_mul_of_pos_right _ hsz
    omega
  · simp only [List.size_toArray]; exact hlen vs hv
  · rw [List.take_of_length_le]; rw [hlen vs hv]; exact Nat.le_refl _
  · simp only [Value.ownBlock, Option.some.injEq] at hk; exact hk.symm
end
end Go.Proofs.YtifnodoffgfpbaaGreatDoor

namespace Go.Proofs.YtifnodoffgfpbaaGreatDoor
open Go

def bv (b : UInt8) : Value := .int .u8 (b.toNat : Int)
def bvs (bs : List UInt8) : List Value := bs.map bv
theorem bvs_length (bs : List UInt8) : (bvs bs).length = bs.length := by simp [bvs]
theorem bvs_one (bs : List UInt8) : (bvs bs).all (·.oneCell') = true := by
  simp only [bvs, List.all_map, List.all_eq_true]
  intro b _
  rfl
theorem bvs_app (a b : List UInt8) : bvs (a ++ b) = bvs a ++ bvs b := by simp [bvs]

section
variable {P : Program} {n : Nat} {l : List (Nat × Value)} {w : World} {ty : TypeId} {x y : Operand} {v : Value}

theorem run_sb {k : IntKind} {i y : Nat} {c : BoundsCode} (h : i ≤ y) : (Instr.sliceBound (.int k (i : Int)) y c).run P w = .ok i w := by
  have : (i : Int) ≤ (y : Int) := by omega
  simp [Instr.sliceBound, asIntOf]
  intro h'; omega

theorem xcutLH {T E : TypeId} {sz b o m c lo hi : Nat} {k k' : IntKind} {i j : Int} {p q : Operand} (hT : slcB P T E = true) (hE : szB P E sz = true) (hx : ev n l x = some (.slice (some ⟨b, o, none⟩) m c))
    (hp : ev n l p = some (.int k i)) (hq : ev n l q = some (.int k' j)) (hi' : i = (lo : Int)) (hj : j = (hi : Int)) (h1 : lo ≤ hi) (h2 : hi ≤ c) :
    ExK P n l (.slice T x (some p) (some q) none) ty w (fun u w' => ∃ o', u = .slice (some ⟨b, o', none⟩) (hi - lo) (c - lo) ∧ (lo < c → o' = o + lo * sz) ∧ w' = w) := by
  subst hi' hj
  have hs := szB_spec hE
  cases hi' : P.info? E with
  | none => rw [hi'] at hs; cases hs
  | some u =>
    rw [hi'] at hs
    simp only [Option.map_some, Option.some.injEq] at hs
    refine ⟨.slice (some ⟨b, if c = lo then o else o + lo * sz, none⟩) (hi - lo) (c - lo), w, fun r _ _ _ _ => ?_, _, rfl, fun h => if_neg (by omega), rfl⟩
    simp only [execOp, ev_eval r hx]
    simp [Instr.sliceAt, Instr.slice, run_underlying (slcB_spec hT), Instr.sliceBounds, ev_eval r hp, ev_eval r hq, run_sb h1, run_sb h2, sizeOf, typeInfo, hi', hs, addr_add]
    split <;> simp_all
theorem xcutL {T E : TypeId} {sz b o m c lo : Nat} {k : IntKind} {i : Int} {p : Operand} (hT : slcB P T E = true) (hE : szB P E sz = true) (hx : ev n l x = some (.slice (some ⟨b, o, none⟩) m c))
    (hp : ev n l p = some (.int k i)) (hi' : i = (lo : Int)) (h1 : lo ≤ m) :
    ExK P n l (.slice T x (some p) none none) ty w (fun u w' => ∃ o', u = .slice (some ⟨b, o', none⟩) (m - lo) (c - lo) ∧ (lo < c → o' = o + lo * sz) ∧ w' = w) := by
  subst hi'
  have hs := szB_spec hE
  cases hi' : P.info? E with
  | none => rw [hi'] at hs; cases hs
  | some u =>
    rw [hi'] at hs
    simp only [Option.map_some, Option.some.injEq] at hs
    refine ⟨.slice (some ⟨b, if c = lo then o else o + lo * sz, none⟩) (m - lo) (c - lo), w, fun r _ _ _ _ => ?_, _, rfl, fun h => if_neg (by omega), rfl⟩
    simp only [execOp, ev_eval r hx]
    simp [Instr.sliceAt, Instr.slice, run_underlying (slcB_spec hT), Instr.sliceBounds, ev_eval r hp, run_sb h1, sizeOf, typeInfo, hi', hs, addr_add]
    split <;> simp_all
theorem xcutH {T E : TypeId} {sz m c hi : Nat} {a : Option Addr} {k : IntKind} {j : Int} {q : Operand} (hT : slcB P T E = true) (hE : szB P E sz = true) (hx : ev n l x = some (.slice a m c))
    (hq : ev n l q = some (.int k j)) (hj : j = (hi : Int)) (h2 : hi ≤ c) :
    Ex P n l (.slice T x none (some q) none) ty w (.slice a hi c) w := fun r _ _ _ _ => by
  subst hj
  have hs := szB_spec hE
  cases hi' : P.info? E with
  | none => rw [hi'] at hs; cases hs
  | some u =>
    rw [hi'] at hs
    simp only [Option.map_some, Option.some.injEq] at hs
    simp only [execOp, ev_eval r hx]
    simp [Instr.sliceAt, Instr.slice, run_underlying (slcB_spec hT), Instr.sliceBounds, ev_eval r hq, run_sb h2, sizeOf, typeInfo, hi']
    cases a with
    | none => simp
    | some a => simp [Addr.add]
theorem xcutA {T E : TypeId} {b o m : Nat} {sz : Nat} (hT : arrB P T m E = true) (hE : szB P E sz = true) (hx : ev n l x = some (.pointer (some ⟨b, o, none⟩))) :
    Ex P n l (.slice T x none none none) ty w (.slice (some ⟨b, o, none⟩) m m) w := fun r _ _ _ _ => by
  have hs := szB_spec hE
  cases hi' : P.info? E with
  | none => rw [hi'] at hs; cases hs
  | some u =>
    rw [hi'] at hs
    simp only [Option.map_some, Option.some.injEq] at hs
    simp only [execOp, ev_eval r hx]
    simp [Instr.sliceAt, run_underlying (arrB_spec hT), Instr.sureAddr, Instr.sliceBounds, sizeOf, typeInfo, hi', Addr.add]
theorem xcutAH {T E : TypeId} {b o m hi : Nat} {sz : Nat} {k : IntKind} {j : Int} {q : Operand} (hT : arrB P T m E = true) (hE : szB P E sz = true) (hx : ev n l x = some (.pointer (some ⟨b, o, none⟩)))
    (hq : ev n l q = some (.int k j)) (hj : j = (hi : Int)) (h2 : hi ≤ m) :
    Ex P n l (.slice T x none (some q) none) ty w (.slice (some ⟨b, o, none⟩) hi m) w := fun r _ _ _ _ => by
  subst hj
  have hs := szB_spec hE
  cases hi' : P.info? E with
  | none => rw [hi'] at hs; cases hs
  | some u =>
    rw [hi'] at hs
    simp only [Option.map_some, Option.some.injEq] at hs
    simp only [execOp, ev_eval r hx]
    simp [Instr.sliceAt, run_underlying (arrB_spec hT), Instr.sureAddr, Instr.sliceBounds, ev_eval r hq, run_sb h2, sizeOf, typeInfo, hi', Addr.add]
theorem xcutSL {T : TypeId} {s : ByteArray} {lo : Nat} {k : IntKind} {i : Int} {p : Operand} (hT : strB P T = true) (hx : ev n l x = some (.string s)) (hp : ev n l p = some (.int k i)) (hi' : i = (lo : Int)) (h1 : lo ≤ s.size) :
    Ex P n l (.slice T x (some p) none none) ty w (.string (s.extract lo s.size)) w := fun r _ _ _ _ => by
  subst hi'
  simp only [execOp, ev_eval r hx]
  simp [Instr.sliceAt, Instr.slice, run_underlying (strB_spec hT), Instr.sliceBounds, ev_eval r hp, run_sb h1]
theorem xcutSH {T : TypeId} {s : ByteArray} {hi : Nat} {k : IntKind} {j : Int} {q : Operand} (hT : strB P T = true) (hx : ev n l x = some (.string s)) (hq : ev n l q = some (.int k j)) (hj : j = (hi : Int)) (h1 : hi ≤ s.size) :
    Ex P n l (.slice T x none (some q) none) ty w (.string (s.extract 0 hi)) w := fun r _ _ _ _ => by
  subst hj
  simp only [execOp, ev_eval r hx]
  simp [Instr.sliceAt, Instr.slice, run_underlying (strB_spec hT), Instr.sliceBounds, ev_eval r hq, run_sb h1]

theorem foldl_push : ∀ (bs : List UInt8) (a : ByteArray), (bs.map (fun b => (b.toNat : Int))).foldl (fun r n => r.push (UInt8.ofNat n.toNat)) a = ⟨(a.data.toList ++ bs).toArray⟩
  | [], a => by simp
  | b :: bs, a => by
    simp only [List.map_cons, List.foldl_cons, Int.toNat_natCast]
    rw [foldl_push bs]
    simp [ByteArray.push]
theorem xb2s {S D E : TypeId} {bs : List UInt8} {b o m c : Nat} (hS : slcB P S E = true) (hE : intB P E .u8 = true) (hD : strB P D = true) (hx : ev n l x = some (.slice (some ⟨b, o, none⟩) m c)) (hm : bs.length = m) (hr : w.rangeAt b o (bvs bs)) :
    Ex P n l (.convert S D x) ty w (.string ⟨bs.toArray⟩) w := fun r _ _ _ _ => by
  subst hm
  simp only [execOp, ev_eval r hx]
  have h1 := run_convert_bytes_string w S D E (some ⟨b, o, none⟩) bs.length c (slcB_spec hS) (intB_spec hE) (strB_spec hD)
  have h2 : (loadCells ⟨b, o, none⟩ bs.length).run P w = .ok ((bs.map (fun b => (b.toNat : Int))).map (Value.int .u8)).toArray w := by
    have := run_loadCells_list (P := P) (w := w) ⟨b, o, none⟩ (bvs bs) (fun j v hv => by rw [addr_add]; exact hr j v hv)
    rw [bvs_length] at this
    rw [this]
    congr 1
    simp [bvs]
    exact fun b _ => rfl
  have h3 := run_bytesToString w ⟨b, o, none⟩ bs.length c _ h2
  rw [foldl_push] at h3
  simp [h1, h3]
theorem xb2s0 {S D E : TypeId} {m c : Nat} (hS : slcB P S E = true) (hE : intB P E .u8 = true) (hD : strB P D = true) (hx : ev n l x = some (.slice none m c)) :
    Ex P n l (.convert S D x) ty w (.string ⟨#[]⟩) w := fun r _ _ _ _ => by
  simp only [execOp, ev_eval r hx]
  have h1 := run_convert_bytes_string w S D E none m c (slcB_spec hS) (intB_spec hE) (strB_spec hD)
  simp [h1, Conv.bytesToString]
  rfl
theorem xcopy {T TX E : TypeId} {b o m c sn : Nat} {cs news : List Value} {u : Value} (hT : slcB P T E = true) (hE : szB P E 1 = true) (hx : ev n l x = some (.slice (some ⟨b, o, none⟩) m c)) (hy : ev n l y = some u)
    (hl : ∀ w' : World, (Builtin.lenOf u).run P w' = .ok sn w') (hn : news.length = Nat.min sn m) (hf : (Builtin.firstCells 1 (Nat.min sn m) u).run P w = .ok news.toArray w) (h1 : news.all (·.oneCell') = true)
    (hb : Blk w b cs) (hfit : o + news.length ≤ cs.length) :
    ExK P n l (.call { callee := .builtin .copy, args := #[x, y], argTypes := #[T, TX] }) ty w
      (fun v w' => v = .int .i64 news.length ∧ Fr (· = b) w w' ∧ Blk w' b (splice cs o news) ∧ w'.heap.size = w.heap.size) := by
  have hs := szB_spec hE
  cases hi' : P.info? E with
  | none => rw [hi'] at hs; cases hs
  | some j =>
    rw [hi'] at hs
    simp only [Option.map_some, Option.some.injEq] at hs
    have hsets := hb.sets news o hfit
    refine ⟨_, w.setCells b o news, fun r _ _ _ _ => ?_, rfl, hsets.2.1, hsets.1, hsets.2.2⟩
    have hst := run_storeCells_cells (P := P) b o news 0 w (fun j hj => by rw [Nat.add_zero]; exact (hb.there hfit j hj).1) (fun j hj => by rw [Nat.add_zero]; exact (hb.there hfit j hj).2) (by simpa using h1)
    simp only [Nat.add_zero] at hst
    simp only [execOp]
    simp [resolve, invoke, builtin, ev_eval r hx, ev_eval r hy, Builtin.copy_, run_underlying (slcB_spec hT), hl, sizeOf, typeInfo, hi', hs, hf, hst, goInt, hn]

theorem xtaY {X A : TypeId} {u : Value} (hA : notIfB P A = true) (hx : ev n l x = some (.iface A u)) : Ex P n l (.typeAssert x X A true) ty w (.tuple #[u, .bool true]) w := fun r _ _ _ _ => by
  cases hs : P.underlying A with
  | none => rw [notIfB, hs] at hA; cases hA
  | some d =>
    simp only [execOp, ev_eval r hx]
    cases d <;> first
      | (simp [Instr.typeAssert, run_underlying hs]; done)
      | (rw [notIfB, hs] at hA; cases hA; done)
theorem xtaN {X A B : TypeId} {u z : Value} {s by' : Nat} (hA : notIfB P A = true) (hI : Inf P A z s by') (hne : (B == A) = false) (hx : ev n l x = some (.iface B u)) : Ex P n l (.typeAssert x X A true) ty w (.tuple #[z, .bool false]) w := fun r _ _ _ _ => by
  obtain ⟨i, hi, hz, _, _⟩ := hI
  have hne : ¬ B = A := by simpa using hne
  cases hs : P.underlying A with
  | none => rw [notIfB, hs] at hA; cases hA
  | some d =>
    simp only [execOp, ev_eval r hx]
    cases d <;> first
      | (simp [Instr.typeAssert, run_underlying hs, hne, zeroValue, typeInfo, hi, hz]; done)
      | (rw [notIfB, hs] at hA; cases hA; done)

def ifcB (P : Program) (T : TypeId) : Bool := match P.underlying T with
  | some (.interface _) => true
  | _ => false
theorem ifcB_spec {T : TypeId} (h : ifcB P T = true) : P.underlying T = some (.interface (P.methodsAt T)) := by
  unfold ifcB at h
  split at h
  · rename_i ms hs; rw [hs]; simp [Program.methodsAt, hs]
  · cases h
theorem xneN {T U : TypeId} (hT : ifcB P T = true) (hx : ev n l x = some .nilIface) : Ex P n l (.binOp .neq T x (.const .nilIface) U) ty w (.bool false) w :=
  xbin hx (show ev n l (.const .nilIface) = some .nilIface from rfl) (by simp [eqGuard]) (by simp only [binOp]; simp [run_equal_nil_nil _ _ (ifcB_spec hT)])
theorem xneI {T U A : TypeId} {u : Value} (hT : ifcB P T = true) (hx : ev n l x = some (.iface A u)) : Ex P n l (.binOp .neq T x (.const .nilIface) U) ty w (.bool true) w :=
  xbin hx (show ev n l (.const .nilIface) = some .nilIface from rfl) (by simp [eqGuard]) (by simp only [binOp]; simp [run_equal_held_nil _ _ _ _ (ifcB_spec hT)])
def mapB (P : Program) (T K E : TypeId) : Bool := match P.underlying T with
  | some (.map k e) => k == K && e == E
  | _ => false
theorem mapB_spec {T K E : TypeId} (h : mapB P T K E = true) : P.underlying T = some (.map K E) := by
  unfold mapB at h
  split at h
  · rename_i k e hs; rw [hs]; simp only [Bool.and_eq_true, beq_iff_eq] at h; obtain ⟨rfl, rfl⟩ := h; rfl
  · cases h
theorem xneSl {T U E : TypeId} {a : Option Addr} {m c : Nat} (hT : slcB P T E = true) (hx : ev n l x = some (.slice a m c)) : Ex P n l (.binOp .neq T x (.const (.slice none 0 0)) U) ty w (.bool (!a.isNone)) w :=
  xbin hx (show ev n l (.const (.slice none 0 0)) = some (.slice none 0 0) from rfl) (by simp [eqGuard]) (run_neq_slice_nil_any _ _ _ _ _ _ _ _ (slcB_spec hT))
theorem flat_rep (z : Array Value) (_hz : 0 < z.size) : ∀ c : Nat, ((Array.range (c * z.size)).map (fun k => z[k % z.size]!)).toList = (List.replicate c z.toList).flatten := by
  intro c
  apply List.ext_getElem?
  intro i
  have key : ∀ (c i : Nat), (List.replicate c z.toList).flatten[i]? = if i < c * z.size then some (z[i % z.size]!) else none := by
    intro c
    induction c with
    | zero => intro i; simp
    | succ c ih =>
      intro i
      rw [List.replicate_succ, List.flatten_cons, List.getElem?_append]
      simp only [Array.length_toList]
      by_cases h : i < z.size
      · rw [if_pos h, if_pos (by rw [Nat.add_mul]; omega), Nat.mod_eq_of_lt h]
        simp [h]
      · rw [if_neg h, ih, Nat.mod_eq_sub_mod (a := i) (b := z.size) (by omega)]
        by_cases h2 : i - z.size < c * z.size
        · rw [if_pos h2, if_pos (by rw [Nat.add_mul]; omega)]
        · rw [if_neg h2, if_neg (by rw [Nat.add_mul]; omega)]
  rw [key]
  simp
  split <;> simp_all
theorem xmake {T E : TypeId} {z : Value} {size bytes lo hi : Nat} {k k' : IntKind} {i j : Int} (hT : slcB P T E = true) (hI : Inf P E z size bytes) (hz : z.cells.size = size) (hsz : 0 < size) (hx : ev n l x = some (.int k i)) (hy : ev n l y = some (.int k' j))
    (hi' : i = (lo : Int)) (hj : j = (hi : Int)) (h1 : lo ≤ hi) (h2 : bytes * hi ≤ 281474976710656) (h3 : hi ≤ maxLen) (h4 : z.cells.toList.all (·.oneCell') = true) :
    ExK P n l (.makeSlice T x y) ty w (fun u w' => ∃ b, u = .slice (some ⟨b, 0, none⟩) lo hi ∧ Fr0 w w' ∧ Blk w' b (List.replicate hi z.cells.toList).flatten ∧ b = w.heap.size ∧ w'.heap.size = w.heap.size + 1 ∧
      Rw w' u b E size lo (List.replicate lo z.cells.toList).flatten) := by
  subst hi' hj
  obtain ⟨t, ht, htz, rfl, rfl⟩ := hI
  have hlen : ∀ c, (List.replicate c z.cells.toList).flatten.length = c * t.size := by
    intro c; simp [List.length_flatten, hz]
  refine ⟨_, w.alloc (.cells (List.replicate hi z.cells.toList).flatten.toArray E), fun r _ _ _ _ => ?_, w.heap.size, rfl, fr_alloc _ _, blk_alloc _ _ _, rfl, size_alloc _ _,
    ⟨⟨hlen lo, .inr ⟨w.heap.size, hi, _, rfl, Nat.zero_le _, heap_alloc_new w _, h1, h3, by simp only [List.size_toArray]; exact hlen hi, ?_⟩⟩, (fun k hk => by simp only [Value.ownBlock, Option.some.injEq] at hk; exact hk.symm), ?_⟩⟩
  · simp only [execOp, ev_eval r hx, ev_eval r hy]
    have h63 : (hi : Int) ≤ 9223372036854775807 := by simp only [maxLen] at h3; omega
    have hb' : (t.bytes : Int) * (hi : Int) ≤ 281474976710656 := by
      have e : ((t.bytes * hi : Nat) : Int) = (t.bytes : Int) * (hi : Int) := by simp
      rw [← e]; omega
    have hr := run_make (P := P) w T E t z (slcB_spec hT) ht htz k k' lo hi (by omega) (by omega) hb' h63
    have hfr := flat_rep z.cells (by omega) hi
    rw [hz] at hfr
    have hfr2 : madeCells z.cells (hi * t.size) = (List.replicate hi z.cells.toList).flatten.toArray := by
      rw [← hfr, Array.toArray_toList, ← hz]
      rfl
    simp only [Int.toNat_natCast] at hr
    rw [hfr2] at hr
    simp [hr]
  · rw [show (List.replicate hi z.cells.toList) = List.replicate lo z.cells.toList ++ List.replicate (hi - lo) z.cells.toList by rw [List.replicate_append_replicate]; congr 1; omega]
    simp only [List.flatten_append]
    rw [← hlen lo]
    exact List.take_left
  · rw [List.all_flatten, List.all_replicate]
    simp [h4]
end
end Go.Proofs.YtifnodoffgfpbaaGreatDoor

namespace Go.Proofs.YtifnodoffgfpbaaGreatDoor
open Go

noncomputable abbrev PP : Program := Tryz.prog

abbrev ag (segs : List (List Value)) : Value := .agg segs.flatten.toArray

def nm (s : List UInt8) : List Value := bvs ((s ++ List.replicate 255 0).take 255) ++ [.int .u8 (s.length : Int)]
theorem nm_body (s : List UInt8) : (bvs ((s ++ List.replicate 255 0).take 255)).length = 255 := by
  simp only [bvs, List.length_map, List.length_take, List.length_append, List.length_replicate]; omega
theorem nm_length (s : List UInt8) : (nm s).length = 256 := by
  simp only [nm, List.length_append, nm_body, List.length_cons, List.length_nil]
theorem nm_one (s : List UInt8) : (nm s).all (·.oneCell') = true := by
  simp only [nm, List.all_append, bvs_one]
  rfl
theorem nm_get (s : List UInt8) {i : Nat} (h : i < s.length) (h2 : i < 255) : (nm s)[i]? = some (bv s[i]) := by
  simp only [nm]
  rw [List.getElem?_append_left (by rw [nm_body]; exact h2)]
  simp only [bvs, List.getElem?_map, List.getElem?_take, if_pos h2]
  rw [List.getElem?_append_left h, List.getElem?_eq_getElem h]
  rfl
theorem nm_last (s : List UInt8) : (nm s)[255]? = some (.int .u8 (s.length : Int)) := by
  simp only [nm]
  rw [List.getElem?_append_right (by rw [nm_body]; exact Nat.le_refl _), nm_body]
  rfl
theorem nm_pre (s : List UInt8) (h : s.length ≤ 255) (j : Nat) (v : Value) (hv : (bvs s)[j]? = some v) : (nm s)[j]? = some v := by
  have hj : j < s.length := by
    have := (List.getElem?_eq_some_iff.1 hv).1
    simpa [bvs] using this
  rw [nm_get s hj (by omega)]
  rw [← hv]
  simp [bvs, hj]

def SR (w : World) (b o : Nat) (lens : List Nat) (segs : List (List Value)) : Prop := w.rangeAt b o segs.flatten ∧ segs.map List.length = lens
def SB (w : World) (b : Nat) (lens : List Nat) (segs : List (List Value)) : Prop := Blk w b segs.flatten ∧ segs.map List.length = lens

theorem offs_lens {segs : List (List Value)} {lens : List Nat} (h : segs.map List.length = lens) (i : Nat) : offs segs i = (lens.take i).sum := by
  rw [← h, offs, List.map_take]

section
variable {w w' : World} {b o : Nat} {lens : List Nat} {segs : List (List Value)}
theorem SB.r (h : SB w b lens segs) : SR w b 0 lens segs := ⟨h.1.rng0, h.2⟩
theorem SB.lt (h : SB w b lens segs) : b < w.heap.size := h.1.lt
theorem SB.keep {S : Nat → Prop} (h : SB w b lens segs) (m : Fr S w w') (hn : ¬ S b) : SB w' b lens segs := ⟨h.1.keep m hn, h.2⟩
theorem SB.drew (h : SB w b lens segs) : SB w.drew b lens segs := h
theorem SR.heap (h : SR w b o lens segs) (hb : w'.heap[b]? = w.heap[b]?) : SR w' b o lens segs := ⟨rng_keep h.1 hb, h.2⟩
theorem SR.seg (h : SR w b o lens segs) {i k : Nat} {seg : List Value} (hi : segs[i]? = some seg) (hk : (lens.take i).sum = k) : w.rangeAt b (o + k) seg := by
  obtain ⟨hr, hl⟩ := h
  have hlt : i < segs.length := (List.getElem?_eq_some_iff.1 hi).1
  have he : segs[i] = seg := (List.getElem?_eq_some_iff.1 hi).2
  intro j v hv
  have hj : j < seg.length := (List.getElem?_eq_some_iff.1 hv).1
  have e : segs = segs.take i ++ (segs[i] :: segs.drop (i + 1)) := by
    rw [List.getElem_cons_drop, List.take_append_drop]
  have hko : (segs.take i).flatten.length = k := by rw [← offs_flat, offs_lens hl, hk]
  have := hr (k + j) v (by
    rw [e]
    simp only [List.flatten_append, List.flatten_cons]
    rw [List.getElem?_append_right (by omega), hko, Nat.add_sub_cancel_left, he, List.getElem?_append_left hj]
    exact hv)
  rw [Nat.add_assoc]; exact this
theorem SR.c (h : SR w b o lens segs) (i : Nat) {k : Nat} {v : Value} (hi : segs[i]? = some [v]) (hk : (lens.take i).sum = k) : w.cell? ⟨b, o + k, none⟩ = some v := by
  have := h.seg hi hk 0 v rfl
  exact this
theorem SR.sub (h : SR w b o lens segs) (i m : Nat) {k : Nat} (hk : (lens.take i).sum = k) : SR w b (o + k) ((lens.drop i).take m) ((segs.drop i).take m) := by
  obtain ⟨hr, hl⟩ := h
  refine ⟨fun j v hv => ?_, by rw [← hl]; simp⟩
  have e : segs = segs.take i ++ ((segs.drop i).take m ++ (segs.drop i).drop m) := by
    rw [List.take_append_drop, List.take_append_drop]
  have hko : (segs.take i).flatten.length = k := by rw [← offs_flat, offs_lens hl, hk]
  have hj : j < ((segs.drop i).take m).flatten.length := (List.getElem?_eq_some_iff.1 hv).1
  have := hr (k + j) v (by
    rw [e]
    simp only [List.flatten_append]
    rw [List.getElem?_append_right (by omega), hko, Nat.add_sub_cancel_left, List.getElem?_append_left hj]
    exact hv)
  rw [Nat.add_assoc]; exact this
theorem SR.all (h : SR w b o lens segs) : w.rangeAt b o segs.flatten := h.1
theorem SR.len (h : SR w b o lens segs) : segs.flatten.length = lens.sum := by rw [List.length_flatten, h.2]
theorem SB.len (h : SB w b lens segs) : segs.flatten.length = lens.sum := by rw [List.length_flatten, h.2]
end

section
variable {P : Program} {n : Nat} {l : List (Nat × Value)} {w : World} {ty : TypeId} {x y : Operand} {v : Value}
theorem xstF {T : TypeId} {b k : Nat} {lens : List Nat} {segs : List (List Value)} (i : Nat) {u : Value} (hT : szB P T 1 = true) (hb : SB w b lens segs) (hi : segs[i]? = some [u]) (hk : (lens.take i).sum = k) (hx : ev n l x = some (.pointer (some ⟨b, 0 + k, none⟩))) (hy : ev n l y = some v) (h1 : v.oneCell' = true) :
    ExUK P n l (.store T x y) ty w (fun w' => Fr (· = b) w w' ∧ SB w' b lens (segs.set i [v]) ∧ w'.heap.size = w.heap.size) := by
  have hlt : i < segs.length := (List.getElem?_eq_some_iff.1 hi).1
  have he : segs[i] = [u] := (List.getElem?_eq_some_iff.1 hi).2
  have hk' : offs segs i = k := by rw [offs_lens hb.2, hk]
  have hle := offs_le segs i hlt
  rw [he, hk'] at hle
  simp only [List.length_cons, List.length_nil] at hle
  rw [Nat.zero_add] at hx
  obtain ⟨w', h, hf, hB, hs⟩ := xst (ty := ty) hT hx hy hb.1 (by omega) h1
  refine ⟨w', h, hf, ⟨?_, ?_⟩, hs⟩
  · have := splice_flat segs i [v] hlt (by rw [he]; rfl)
    rw [hk', ← splice_cons _ _ _ _ (by omega), splice_nil] at this
    rw [← this]; exact hB
  · rw [List.map_set, ← hb.2]
    apply List.ext_getElem
    · simp
    · intro m h1 h2
      rw [List.getElem_set]
      split
      · rename_i hm; subst hm; simp [he]
      · rfl
theorem xstW {T : TypeId} {b : Nat} {lens lens' : List Nat} {segs segs' : List (List Value)} (hb : SB w b lens segs) (hT : szB P T lens'.sum = true) (hl' : segs'.map List.length = lens') (hsum : lens'.sum = lens.sum) (h1 : segs'.flatten.all (·.oneCell') = true) (hx : ev n l x = some (.pointer (some ⟨b, 0, none⟩))) (hy : ev n l y = some (ag segs')) :
    ExUK P n l (.store T x y) ty w (fun w' => Fr (· = b) w w' ∧ SB w' b lens' segs' ∧ w'.heap.size = w.heap.size) := by
  have hlen : segs'.flatten.length = lens'.sum := by rw [List.length_flatten, hl']
  obtain ⟨w', h, hf, hB, hs⟩ := xstR (ty := ty) (by rw [hlen]; exact hT) hx hy hb.1 (by rw [hb.len, hlen, hsum]; omega) h1
  refine ⟨w', h, hf, ⟨?_, hl'⟩, hs⟩
  have : splice segs.flatten 0 segs'.flatten = segs'.flatten := by
    simp only [splice, List.take_zero, List.nil_append, Nat.zero_add]
    rw [List.drop_of_length_le (by rw [hb.len, hlen, hsum]; exact Nat.le_refl _), List.append_nil]
  rw [this] at hB
  exact hB
theorem xstS {T : TypeId} {b k : Nat} {lens lens' : List Nat} {segs segs' : List (List Value)} (i : Nat) (hb : SB w b lens segs) (hT : szB P T lens'.sum = true) (hl' : segs'.map List.length = lens') (hk : (lens.take i).sum = k) (hsub : (lens.drop i).take lens'.length = lens') (h1 : segs'.flatten.all (·.oneCell') = true) (hx : ev n l x = some (.pointer (some ⟨b, 0 + k, none⟩))) (hy : ev n l y = some (ag segs')) :
    ExUK P n l (.store T x y) ty w (fun w' => Fr (· = b) w w' ∧ SB w' b lens (segs.take i ++ (segs' ++ segs.drop (i + lens'.length))) ∧ w'.heap.size = w.heap.size) := by
  have hlen : segs'.flatten.length = lens'.sum := by rw [List.length_flatten, hl']
  have hk' : (segs.take i).flatten.length = k := by rw [← offs_flat, offs_lens hb.2, hk]
  have e : segs = segs.take i ++ ((segs.drop i).take lens'.length ++ segs.drop (i + lens'.length)) := by
    rw [← List.drop_drop, List.take_append_drop, List.take_append_drop]
  have hmid : ((segs.drop i).take lens'.length).map List.length = lens' := by
    conv => rhs; rw [← hsub]
    rw [← hb.2]; simp
  have hmidl : ((segs.drop i).take lens'.length).flatten.length = lens'.sum := by rw [List.length_flatten, hmid]
  rw [Nat.zero_add] at hx
  have hfit : k + segs'.flatten.length ≤ segs.flatten.length := by
    conv => rhs; rw [e]
    simp only [List.flatten_append, List.length_append]
    omega
  obtain ⟨w', h, hf, hB, hs⟩ := xstR (ty := ty) (by rw [hlen]; exact hT) hx hy hb.1 hfit h1
  refine ⟨w', h, hf, ⟨?_, ?_⟩, hs⟩
  · have : splice segs.flatten k segs'.flatten = (segs.take i ++ (segs' ++ segs.drop (i + lens'.length))).flatten := by
      conv => lhs; arg 1; rw [e]
      simp only [List.flatten_append]
      rw [← hk']
      exact splice_mid _ _ _ _ (by rw [hlen, hmidl])
    rw [this] at hB
    exact hB
  · rw [← hb.2]
    conv => rhs; rw [e]
    simp only [List.map_append, hl', hmid]
theorem xldS {T : TypeId} {b o : Nat} {lens : List Nat} {segs : List (List Value)} (hT : rowB P T lens.sum = true) (hx : ev n l x = some (.pointer (some ⟨b, o, none⟩))) (hr : SR w b o lens segs) : Ex P n l (.load T x) ty w (ag segs) w :=
  xldR hT hx hr.all hr.len
theorem ldS {T : TypeId} {b o : Nat} {lens : List Nat} {segs : List (List Value)} (hT : rowB P T lens.sum = true) (hr : SR w b o lens segs) : (loadVar T ⟨b, o, none⟩).run P w = .ok (ag segs) w :=
  ld_row (by rw [hr.len]; exact hT) hr.all
theorem xboxS {T : TypeId} {lens : List Nat} {segs : List (List Value)} (hx : ev n l x = some (ag segs)) (hl : segs.map List.length = lens) :
    ExK P n l (.box T x) ty w (fun u w' => ∃ b, u = .pointer (some ⟨b, 0, none⟩) ∧ Fr0 w w' ∧ SB w' b lens segs ∧ b = w.heap.size ∧ w'.heap.size = w.heap.size + 1) := by
  obtain ⟨u, w', h, b, h1, h2, h3, h4⟩ := xbox (P := P) (w := w) (ty := ty) (T := T) hx (cs := segs.flatten) rfl
  exact ⟨u, w', h, b, h1, h2, ⟨h3, hl⟩, h4⟩
theorem xallS {T : TypeId} {sz by' : Nat} {lens : List Nat} {segs : List (List Value)} (hT : Inf P T (ag segs) sz by') (hl : segs.map List.length = lens) :
    ExK P n l (.alloc T) ty w (fun u w' => ∃ b, u = .pointer (some ⟨b, 0, none⟩) ∧ Fr0 w w' ∧ SB w' b lens segs ∧ b = w.heap.size ∧ w'.heap.size = w.heap.size + 1) := by
  obtain ⟨u, w', h, b, h1, h2, h3, h4⟩ := xalloc (P := P) (w := w) (ty := ty) (n := n) (l := l) hT (cs := segs.flatten) rfl
  exact ⟨u, w', h, b, h1, h2, ⟨h3, hl⟩, h4⟩
end

section
variable {P : Program} {n : Nat} {l : List (Nat × Value)} {w : World} {ty : TypeId}
theorem xbuildS {T : TypeId} {ps : List (Nat × Operand)} {vs : List (Nat × Value)} {zs : List (List Value)} (segs : List (List Value)) (hz : (P.info? T).map (·.zero) = some (some (.agg zs.flatten.toArray))) (hl : layB P T (zs.map List.length) = true)
    (hp : evp n l ps = some vs) (hf : fitAll zs vs) (hc : (setAll zs vs).flatten = segs.flatten) : Ex P n l (.build T ps.toArray) ty w (ag segs) w := xbuild _ hz hl hp hf hc
end
section
variable {P : Program} {n : Nat} {l : List (Nat × Value)} {w : World} {ty : TypeId} {x y : Operand}
theorem xidx1 {T E : TypeId} {k : IntKind} {i b o m c : Nat} (hT : slcB P T E = true) (hE : szB P E 1 = true) (hx : ev n l x = some (.slice (some ⟨b, o, none⟩) m c)) {j : Int} (hy : ev n l y = some (.int k j)) (hj : j = (i : Int)) (hi : i < m) :
    Ex P n l (.indexAddr T x y) ty w (.pointer (some ⟨b, o + i, none⟩)) w := by
  have := xidx (w := w) (ty := ty) hT hE hx hy hj hi
  rwa [Nat.mul_one] at this
theorem xidxA1 {T E : TypeId} {k : IntKind} {i b o m : Nat} (hT : arrB P T m E = true) (hE : szB P E 1 = true) (hx : ev n l x = some (.pointer (some ⟨b, o, none⟩))) {j : Int} (hy : ev n l y = some (.int k j)) (hj : j = (i : Int)) (hi : i < m) :
    Ex P n l (.indexAddr T x y) ty w (.pointer (some ⟨b, o + i, none⟩)) w := by
  have := xidxA (w := w) (ty := ty) hT hE hx hy hj hi
  rwa [Nat.mul_one] at this
end
theorem rng_fr {S : Nat → Prop} {w w' : World} {b o : Nat} {cs : List Value} (h : w.rangeAt b o cs) (m : Fr S w w') (hb : b < w.heap.size) (hn : ¬ S b) : w'.rangeAt b o cs := rng_keep h (m.block b hb hn)
def All2 {α β : Type} (R : α → β → Prop) (l : List α) (r : List β) : Prop := l.length = r.length ∧ ∀ (i : Nat) a b, l[i]? = some a → r[i]? = some b → R a b
theorem All2.get {α β : Type} {R : α → β → Prop} {l : List α} {r : List β} (h : All2 R l r) {k : Nat} (hk : k < r.length) : ∃ a b, l[k]? = some a ∧ r[k]? = some b ∧ R a b := by
  have hk' : k < l.length := by rw [h.1]; exact hk
  exact ⟨l[k], r[k], List.getElem?_eq_getElem hk', List.getElem?_eq_getElem hk, h.2 k _ _ (List.getElem?_eq_getElem hk') (List.getElem?_eq_getElem hk)⟩
theorem All2.nil {α β : Type} {R : α → β → Prop} : All2 R ([] : List α) ([] : List β) := ⟨rfl, fun i a b h => by simp at h⟩
theorem All2.cons {α β : Type} {R : α → β → Prop} {a : α} {b : β} {l : List α} {r : List β} (h : R a b) (t : All2 R l r) : All2 R (a :: l) (b :: r) :=
  ⟨by simp [t.1], fun i x y hx hy => by
    cases i with
    | zero => simp at hx hy; subst hx; subst hy; exact h
    | succ i => simp at hx hy; exact t.2 i x y hx hy⟩
theorem All2.imp {α β : Type} {R R' : α → β → Prop} {l : List α} {r : List β} (h : All2 R l r) (hi : ∀ a b, R a b → R' a b) : All2 R' l r := ⟨h.1, fun i a b ha hb => hi a b (h.2 i a b ha hb)⟩
theorem All2.snoc {α β : Type} {R : α → β → Prop} {a : α} {b : β} {l : List α} {r : List β} (t : All2 R l r) (h : R a b) : All2 R (l ++ [a]) (r ++ [b]) :=
  ⟨by simp [t.1], fun i x y hx hy => by
    by_cases hi : i < l.length
    · rw [List.getElem?_append_left hi] at hx
      rw [List.getElem?_append_left (by rw [← t.1]; exact hi)] at hy
      exact t.2 i x y hx hy
    · rw [List.getElem?_append_right (by omega)] at hx
      rw [List.getElem?_append_right (by rw [← t.1]; omega)] at hy
      rw [← t.1] at hy
      cases hk : i - l.length with
      | zero => rw [hk] at hx hy; simp at hx hy; subst hx; subst hy; exact h
      | succ k => rw [hk] at hx; simp at hx⟩
theorem take_snoc {α : Type} {l : List α} {k : Nat} {a : α} (h : l[k]? = some a) : l.take (k + 1) = l.take k ++ [a] := by
  rw [List.take_add_one, h]; rfl
theorem flat_take_le {α : Type} {l : List (List α)} {k : Nat} {a : List α} (h : l[k]? = some a) : (l.take k).flatten.length + a.length ≤ l.flatten.length := by
  have e : l = l.take (k + 1) ++ l.drop (k + 1) := (List.take_append_drop _ _).symm
  conv => rhs; rw [e]
  rw [take_snoc h]
  simp only [List.flatten_append, List.length_append, List.flatten_cons, List.flatten_nil, List.length_nil]
  omega
theorem SR.keep {S : Nat → Prop} {w w' : World} {b o : Nat} {lens : List Nat} {segs : List (List Value)} (h : SR w b o lens segs) (m : Fr S w w') (hb : b < w.heap.size) (hn : ¬ S b) : SR w' b o lens segs := h.heap (m.block b hb hn)
theorem mixed : PP.follows .mixedOrders = true := by kernel_rfl

section
variable {P : Program} {ops : Array Oper} {Q : Exit → Act → World → Prop} {n : Nat} {l : List (Nat × Value)} {r : Nat → Value} {w w' : World}
  {op : Op} {ty : TypeId} {pos : String} {af : Array Edge} {d i : Nat} {p : Prop} [Decidable p]
theorem exT (h : Ex P n l op ty w (.bool (decide p)) w') (hp : p) : Ex P n l op ty w (.bool true) w' := by rw [← decide_eq_true hp]; exact h
theorem exF (h : Ex P n l op ty w (.bool (decide p)) w') (hp : ¬ p) : Ex P n l op ty w (.bool false) w' := by rw [← decide_eq_false hp]; exact h
theorem svP {rest : List Oper} (h : Ex P n l op ty w (.bool (decide p)) w') (k1 : p → WL P ops Q rest (env n ((d, .bool true) :: l) r) w') (k2 : ¬ p → WL P ops Q rest (env n ((d, .bool false) :: l) r) w') :
    WL P ops Q (⟨some d, op, ty, pos, af, none⟩ :: rest) (env n l r) w := by
  by_cases hp : p
  · exact sv (exT h hp) (k1 hp)
  · exact sv (exF h hp) (k2 hp)
theorem hvP {S : World → Prop} {rest : List (Nat × Kd)} (ho : ops[i]? = some ⟨some d, op, ty, pos, af, none⟩) (h : ∀ w, S w → Ex P n l op ty w (.bool (decide p)) w) (hS : S w)
    (k1 : p → runH P ops Q S rest (env n ((d, .bool true) :: l) r) w) (k2 : ¬ p → runH P ops Q S rest (env n ((d, .bool false) :: l) r) w) : runH P ops Q S ((i, .rd) :: rest) (env n l r) w := by
  by_cases hp : p
  · exact hv ho (fun w hw => exT (h w hw) hp) hS (k1 hp)
  · exact hv ho (fun w hw => exF (h w hw) hp) hS (k2 hp)
end
theorem SB.k {w w' : World} {b : Nat} {lens : List Nat} {segs : List (List Value)} (h : SB w b lens segs) (m : Fr0 w w') : SB w' b lens segs := h.keep m id
end Go.Proofs.YtifnodoffgfpbaaGreatDoor

namespace Go.Proofs.YtifnodoffgfpbaaGreatDoor
open Go
set_option maxRecDepth 100000
def zs24 : List (List Value) := [[.int .u16 0], [.bool false], [.int .u16 0], [.bool false], [.bool false], [.bool false], [.bool false], [.bool false], [.bool false], [.int .u16 0]]
def zs28 : List (List Value) := [[[.int .u16 0], [.bool false], [.int .u16 0], [.bool false], [.bool false], [.bool false], [.bool false], [.bool false], [.bool false], [.int .u16 0]].flatten, [.slice none 0 0], [.slice none 0 0], [.slice none 0 0], [.slice none 0 0]]
def zs34 : List (List Value) := [[[.int .u16 0], [.bool false], [.int .u16 0], [.bool false], [.bool false], [.bool false], [.bool false], [.bool false], [.bool false], [.int .u16 0]].flatten, [.slice none 0 0], [.slice none 0 0], [.slice none 0 0], [.slice none 0 0]]
def zs58 : List (List Value) := [[.string ⟨#[]⟩], [.int .u16 0], [.int .u16 0]]
def zs65 : List (List Value) := [[.string ⟨#[]⟩], [.int .u16 0], [.int .u16 0], [.int .u32 0], [.int .u16 0], [.int .i64 0], [.slice none 0 0], [.string ⟨#[]⟩], [.string ⟨#[]⟩], [.int .u32 0], [.int .u32 0], [.int .u32 0], [.int .u32 0], [.int .u32 0], [.slice none 0 0], [.slice none 0 0]]
def zs73 : List (List Value) := [[.int .u16 0], [.bool false], [.int .u16 0], [.bool false], [.bool false], [.bool false], [.bool false], [.bool false], [.bool false], [.int .u16 0]]
def zs86 : List (List Value) := [nm [], [.int .u16 0], [.int .u16 0]]
def zs112 : List (List Value) := [[.string ⟨#[]⟩], [.int .u16 0], [.int .u16 0], [.int .u32 0], [.int .u16 0], [.int .i64 0], [.slice none 0 0], [.string ⟨#[]⟩], [.string ⟨#[]⟩], [.int .u32 0], [.int .u32 0], [.int .u32 0], [.int .u32 0], [.int .u32 0], [.slice none 0 0], [.slice none 0 0]]
def zs116 : List (List Value) := [[.slice none 0 0], [.slice none 0 0], [.slice none 0 0]]
def zs124 : List (List Value) := [[.slice none 0 0], [[.int .u16 0], [.int .u16 0], [.int .u16 0], [.int .u16 0], [.int .u16 0], [.int .u16 0]].flatten, [.int .u8 0], [.int .i64 0], [.int .i64 0], [.bool false], [.int .i64 0], [.int .u16 0], [.int .u16 0]]
def zs135 : List (List Value) := [nm [], [.int .u16 0], [.int .u16 0], [.int .u32 0], [.int .u16 0]]
def zs139 : List (List Value) := [[nm [], [.int .u16 0], [.int .u16 0], [.int .u32 0], [.int .u16 0]].flatten, [.nilIface]]
def zs145 : List (List Value) := [[.int .u16 0], [.slice none 0 0]]
def zs168 : List (List Value) := [[.string ⟨#[]⟩], [.nilIface]]
def zs189 : List (List Value) := [bvs (List.replicate 4 0)]
def zs192 : List (List Value) := [nm []]
def zs195 : List (List Value) := [nm []]
def zs198 : List (List Value) := [nm [], nm [], [.int .u32 0], [.int .u32 0], [.int .u32 0], [.int .u32 0], [.int .u32 0]]
def zs201 : List (List Value) := [nm []]
def zs204 : List (List Value) := [[.int .u16 0], nm []]
def zs207 : List (List Value) := [[.slice none 0 0]]
def zs211 : List (List Value) := [bvs (List.replicate 16 0)]
def zs214 : List (List Value) := [[.int .u16 0], [.int .u16 0], [.int .u16 0], nm []]
def zs218 : List (List Value) := [[.slice none 0 0]]
def zs224 : List (List Value) := [[.int .u16 0], nm [], [.slice none 0 0]]
def zs231 : List (List Value) := [[.int .u16 0], [.slice none 0 0]]
theorem ar80 : arrB PP 80 255 5 = true := by kernel_rfl
theorem ar187 : arrB PP 187 4 5 = true := by kernel_rfl
theorem ar209 : arrB PP 209 16 5 = true := by kernel_rfl
theorem ar265 : arrB PP 265 14 22 = true := by kernel_rfl
theorem ca12 : callB PP 12 = true := by kernel_rfl
theorem ca13 : callB PP 13 = true := by kernel_rfl
theorem ca14 : callB PP 14 = true := by kernel_rfl
theorem ca16 : callB PP 16 = true := by kernel_rfl
theorem ca19 : callB PP 19 = true := by kernel_rfl
theorem ca20 : callB PP 20 = true := by kernel_rfl
theorem ca21 : callB PP 21 = true := by kernel_rfl
theorem ca23 : callB PP 23 = true := by kernel_rfl
theorem ca24 : callB PP 24 = true := by kernel_rfl
theorem ca25 : callB PP 25 = true := by kernel_rfl
theorem ca26 : callB PP 26 = true := by kernel_rfl
theorem ca27 : callB PP 27 = true := by kernel_rfl
theorem ca29 : callB PP 29 = true := by kernel_rfl
theorem ca31 : callB PP 31 = true := by kernel_rfl
theorem ca32 : callB PP 32 = true := by kernel_rfl
theorem ca33 : callB PP 33 = true := by kernel_rfl
theorem ca35 : callB PP 35 = true := by kernel_rfl
theorem ca44 : callB PP 44 = true := by kernel_rfl
theorem ca45 : callB PP 45 = true := by kernel_rfl
theorem ca46 : callB PP 46 = true := by kernel_rfl
theorem ca48 : callB PP 48 = true := by kernel_rfl
theorem ca49 : callB PP 49 = true := by kernel_rfl
theorem ca50 : callB PP 50 = true := by kernel_rfl
theorem ca51 : callB PP 51 = true := by kernel_rfl
theorem ca52 : callB PP 52 = true := by kernel_rfl
theorem ca53 : callB PP 53 = true := by kernel_rfl
theorem ca54 : callB PP 54 = true := by kernel_rfl
theorem ca55 : callB PP 55 = true := by kernel_rfl
theorem ca56 : callB PP 56 = true := by kernel_rfl
theorem ca57 : callB PP 57 = true := by kernel_rfl
theorem ca58 : callB PP 58 = true := by kernel_rfl
theorem ca59 : callB PP 59 = true := by kernel_rfl
theorem ca60 : callB PP 60 = true := by kernel_rfl
theorem ca61 : callB PP 61 = true := by kernel_rfl
theorem ca62 : callB PP 62 = true := by kernel_rfl
theorem ca63 : callB PP 63 = true := by kernel_rfl
theorem ca64 : callB PP 64 = true := by kernel_rfl
theorem ca80 : callB PP 80 = true := by kernel_rfl
theorem ca81 : callB PP 81 = true := by kernel_rfl
theorem ca82 : callB PP 82 = true := by kernel_rfl
theorem ca83 : callB PP 83 = true := by kernel_rfl
theorem ca84 : callB PP 84 = true := by kernel_rfl
theorem ca85 : callB PP 85 = true := by kernel_rfl
theorem ca86 : callB PP 86 = true := by kernel_rfl
theorem ca97 : callB PP 97 = true := by kernel_rfl
theorem ca98 : callB PP 98 = true := by kernel_rfl
theorem ca99 : callB PP 99 = true := by kernel_rfl
theorem ca100 : callB PP 100 = true := by kernel_rfl
theorem ca101 : callB PP 101 = true := by kernel_rfl
theorem ca102 : callB PP 102 = true := by kernel_rfl
theorem ca103 : callB PP 103 = true := by kernel_rfl
theorem ca104 : callB PP 104 = true := by kernel_rfl
theorem ca105 : callB PP 105 = true := by kernel_rfl
theorem ca106 : callB PP 106 = true := by kernel_rfl
theorem ca107 : callB PP 107 = true := by kernel_rfl
theorem ca108 : callB PP 108 = true := by kernel_rfl
theorem ca109 : callB PP 109 = true := by kernel_rfl
theorem ca142 : callB PP 142 = true := by kernel_rfl
theorem ca143 : callB PP 143 = true := by kernel_rfl
theorem ca144 : callB PP 144 = true := by kernel_rfl
theorem ca145 : callB PP 145 = true := by kernel_rfl
theorem ca146 : callB PP 146 = true := by kernel_rfl
theorem ca147 : callB PP 147 = true := by kernel_rfl
theorem ca156 : callB PP 156 = true := by kernel_rfl
theorem ca157 : callB PP 157 = true := by kernel_rfl
theorem ca158 : callB PP 158 = true := by kernel_rfl
theorem ca159 : callB PP 159 = true := by kernel_rfl
theorem ca190 : callB PP 190 = true := by kernel_rfl
theorem ca194 : callB PP 194 = true := by kernel_rfl
theorem ca195 : callB PP 195 = true := by kernel_rfl
theorem ca196 : callB PP 196 = true := by kernel_rfl
theorem ca197 : callB PP 197 = true := by kernel_rfl
theorem ca198 : callB PP 198 = true := by kernel_rfl
theorem ca199 : callB PP 199 = true := by kernel_rfl
theorem ca200 : callB PP 200 = true := by kernel_rfl
theorem ca201 : callB PP 201 = true := by kernel_rfl
theorem ca202 : callB PP 202 = true := by kernel_rfl
theorem ca203 : callB PP 203 = true := by kernel_rfl
theorem ca204 : callB PP 204 = true := by kernel_rfl
theorem ca205 : callB PP 205 = true := by kernel_rfl
theorem ca206 : callB PP 206 = true := by kernel_rfl
theorem ca211 : callB PP 211 = true := by kernel_rfl
theorem ca212 : callB PP 212 = true := by kernel_rfl
theorem ca213 : callB PP 213 = true := by kernel_rfl
theorem fl28_0 : fldB PP 28 0 0 = true := by kernel_rfl
theorem fl28_1 : fldB PP 28 1 10 = true := by kernel_rfl
theorem fl28_2 : fldB PP 28 2 11 = true := by kernel_rfl
theorem fl28_3 : fldB PP 28 3 12 = true := by kernel_rfl
theorem fl28_4 : fldB PP 28 4 13 = true := by kernel_rfl
theorem fl30_0 : fldB PP 30 0 0 = true := by kernel_rfl
theorem fl30_1 : fldB PP 30 1 1 = true := by kernel_rfl
theorem fl30_2 : fldB PP 30 2 2 = true := by kernel_rfl
theorem fl30_3 : fldB PP 30 3 3 = true := by kernel_rfl
theorem fl30_4 : fldB PP 30 4 4 = true := by kernel_rfl
theorem fl30_5 : fldB PP 30 5 5 = true := by kernel_rfl
theorem fl30_6 : fldB PP 30 6 6 = true := by kernel_rfl
theorem fl30_7 : fldB PP 30 7 7 = true := by kernel_rfl
theorem fl30_8 : fldB PP 30 8 8 = true := by kernel_rfl
theorem fl30_9 : fldB PP 30 9 9 = true := by kernel_rfl
theorem fl34_0 : fldB PP 34 0 0 = true := by kernel_rfl
theorem fl34_1 : fldB PP 34 1 10 = true := by kernel_rfl
theorem fl34_2 : fldB PP 34 2 11 = true := by kernel_rfl
theorem fl34_3 : fldB PP 34 3 12 = true := by kernel_rfl
theorem fl34_4 : fldB PP 34 4 13 = true := by kernel_rfl
theorem fl58_0 : fldB PP 58 0 0 = true := by kernel_rfl
theorem fl59_0 : fldB PP 59 0 0 = true := by kernel_rfl
theorem fl59_1 : fldB PP 59 1 1 = true := by kernel_rfl
theorem fl59_2 : fldB PP 59 2 2 = true := by kernel_rfl
theorem fl65_0 : fldB PP 65 0 0 = true := by kernel_rfl
theorem fl65_1 : fldB PP 65 1 1 = true := by kernel_rfl
theorem fl65_2 : fldB PP 65 2 2 = true := by kernel_rfl
theorem fl65_3 : fldB PP 65 3 3 = true := by kernel_rfl
theorem fl65_5 : fldB PP 65 5 5 = true := by kernel_rfl
theorem fl65_6 : fldB PP 65 6 6 = true := by kernel_rfl
theorem fl65_7 : fldB PP 65 7 7 = true := by kernel_rfl
theorem fl65_8 : fldB PP 65 8 8 = true := by kernel_rfl
theorem fl65_9 : fldB PP 65 9 9 = true := by kernel_rfl
theorem fl65_10 : fldB PP 65 10 10 = true := by kernel_rfl
theorem fl65_11 : fldB PP 65 11 11 = true := by kernel_rfl
theorem fl65_12 : fldB PP 65 12 12 = true := by kernel_rfl
theorem fl65_13 : fldB PP 65 13 13 = true := by kernel_rfl
theorem fl65_14 : fldB PP 65 14 14 = true := by kernel_rfl
theorem fl65_15 : fldB PP 65 15 15 = true := by kernel_rfl
theorem fl67_0 : fldB PP 67 0 0 = true := by kernel_rfl
theorem fl67_1 : fldB PP 67 1 1 = true := by kernel_rfl
theorem fl73_0 : fldB PP 73 0 0 = true := by kernel_rfl
theorem fl73_1 : fldB PP 73 1 1 = true := by kernel_rfl
theorem fl73_2 : fldB PP 73 2 2 = true := by kernel_rfl
theorem fl73_3 : fldB PP 73 3 3 = true := by kernel_rfl
theorem fl73_4 : fldB PP 73 4 4 = true := by kernel_rfl
theorem fl73_5 : fldB PP 73 5 5 = true := by kernel_rfl
theorem fl73_6 : fldB PP 73 6 6 = true := by kernel_rfl
theorem fl73_7 : fldB PP 73 7 7 = true := by kernel_rfl
theorem fl73_8 : fldB PP 73 8 8 = true := by kernel_rfl
theorem fl73_9 : fldB PP 73 9 9 = true := by kernel_rfl
theorem fl82_0 : fldB PP 82 0 0 = true := by kernel_rfl
theorem fl82_1 : fldB PP 82 1 255 = true := by kernel_rfl
theorem fl86_0 : fldB PP 86 0 0 = true := by kernel_rfl
theorem fl86_1 : fldB PP 86 1 256 = true := by kernel_rfl
theorem fl86_2 : fldB PP 86 2 257 = true := by kernel_rfl
theorem fl112_0 : fldB PP 112 0 0 = true := by kernel_rfl
theorem fl112_1 : fldB PP 112 1 1 = true := by kernel_rfl
theorem fl112_2 : fldB PP 112 2 2 = true := by kernel_rfl
theorem fl112_3 : fldB PP 112 3 3 = true := by kernel_rfl
theorem fl112_4 : fldB PP 112 4 4 = true := by kernel_rfl
theorem fl112_5 : fldB PP 112 5 5 = true := by kernel_rfl
theorem fl112_6 : fldB PP 112 6 6 = true := by kernel_rfl
theorem fl112_7 : fldB PP 112 7 7 = true := by kernel_rfl
theorem fl112_8 : fldB PP 112 8 8 = true := by kernel_rfl
theorem fl112_9 : fldB PP 112 9 9 = true := by kernel_rfl
theorem fl112_10 : fldB PP 112 10 10 = true := by kernel_rfl
theorem fl112_11 : fldB PP 112 11 11 = true := by kernel_rfl
theorem fl112_12 : fldB PP 112 12 12 = true := by kernel_rfl
theorem fl112_13 : fldB PP 112 13 13 = true := by kernel_rfl
theorem fl112_14 : fldB PP 112 14 14 = true := by kernel_rfl
theorem fl112_15 : fldB PP 112 15 15 = true := by kernel_rfl
theorem fl116_0 : fldB PP 116 0 0 = true := by kernel_rfl
theorem fl116_1 : fldB PP 116 1 1 = true := by kernel_rfl
theorem fl116_2 : fldB PP 116 2 2 = true := by kernel_rfl
theorem fl121_0 : fldB PP 121 0 0 = true := by kernel_rfl
theorem fl121_1 : fldB PP 121 1 1 = true := by kernel_rfl
theorem fl121_2 : fldB PP 121 2 2 = true := by kernel_rfl
theorem fl121_3 : fldB PP 121 3 3 = true := by kernel_rfl
theorem fl121_4 : fldB PP 121 4 4 = true := by kernel_rfl
theorem fl121_5 : fldB PP 121 5 5 = true := by kernel_rfl
theorem fl124_0 : fldB PP 124 0 0 = true := by kernel_rfl
theorem fl124_1 : fldB PP 124 1 1 = true := by kernel_rfl
theorem fl124_2 : fldB PP 124 2 7 = true := by kernel_rfl
theorem fl124_3 : fldB PP 124 3 8 = true := by kernel_rfl
theorem fl124_4 : fldB PP 124 4 9 = true := by kernel_rfl
theorem fl124_5 : fldB PP 124 5 10 = true := by kernel_rfl
theorem fl124_6 : fldB PP 124 6 11 = true := by kernel_rfl
theorem fl124_7 : fldB PP 124 7 12 = true := by kernel_rfl
theorem fl124_8 : fldB PP 124 8 13 = true := by kernel_rfl
theorem fl135_0 : fldB PP 135 0 0 = true := by kernel_rfl
theorem fl135_1 : fldB PP 135 1 256 = true := by kernel_rfl
theorem fl135_2 : fldB PP 135 2 257 = true := by kernel_rfl
theorem fl135_3 : fldB PP 135 3 258 = true := by kernel_rfl
theorem fl135_4 : fldB PP 135 4 259 = true := by kernel_rfl
theorem fl139_0 : fldB PP 139 0 0 = true := by kernel_rfl
theorem fl139_1 : fldB PP 139 1 260 = true := by kernel_rfl
theorem fl145_1 : fldB PP 145 1 1 = true := by kernel_rfl
theorem fl189_0 : fldB PP 189 0 0 = true := by kernel_rfl
theorem fl192_0 : fldB PP 192 0 0 = true := by kernel_rfl
theorem fl195_0 : fldB PP 195 0 0 = true := by kernel_rfl
theorem fl198_0 : fldB PP 198 0 0 = true := by kernel_rfl
theorem fl198_1 : fldB PP 198 1 256 = true := by kernel_rfl
theorem fl198_2 : fldB PP 198 2 512 = true := by kernel_rfl
theorem fl198_3 : fldB PP 198 3 513 = true := by kernel_rfl
theorem fl198_4 : fldB PP 198 4 514 = true := by kernel_rfl
theorem fl198_5 : fldB PP 198 5 515 = true := by kernel_rfl
theorem fl198_6 : fldB PP 198 6 516 = true := by kernel_rfl
theorem fl201_0 : fldB PP 201 0 0 = true := by kernel_rfl
theorem fl204_0 : fldB PP 204 0 0 = true := by kernel_rfl
theorem fl204_1 : fldB PP 204 1 1 = true := by kernel_rfl
theorem fl207_0 : fldB PP 207 0 0 = true := by kernel_rfl
theorem fl211_0 : fldB PP 211 0 0 = true := by kernel_rfl
theorem fl214_0 : fldB PP 214 0 0 = true := by kernel_rfl
theorem fl214_1 : fldB PP 214 1 1 = true := by kernel_rfl
theorem fl214_2 : fldB PP 214 2 2 = true := by kernel_rfl
theorem fl214_3 : fldB PP 214 3 3 = true := by kernel_rfl
theorem fl218_0 : fldB PP 218 0 0 = true := by kernel_rfl
theorem fl220_0 : fldB PP 220 0 0 = true := by kernel_rfl
theorem fl220_1 : fldB PP 220 1 1 = true := by kernel_rfl
theorem fl224_0 : fldB PP 224 0 0 = true := by kernel_rfl
theorem fl224_1 : fldB PP 224 1 1 = true := by kernel_rfl
theorem fl224_2 : fldB PP 224 2 257 = true := by kernel_rfl
theorem fl228_0 : fldB PP 228 0 0 = true := by kernel_rfl
theorem fl231_1 : fldB PP 231 1 1 = true := by kernel_rfl
theorem fl291_0 : fldB PP 291 0 0 = true := by kernel_rfl
theorem fl291_1 : fldB PP 291 1 1 = true := by kernel_rfl
theorem hs3 : hasB PP 3 = true := by kernel_rfl
theorem hs5 : hasB PP 5 = true := by kernel_rfl
theorem hs22 : hasB PP 22 = true := by kernel_rfl
theorem hs61 : hasB PP 61 = true := by kernel_rfl
theorem if89 : ifcB PP 89 = true := by kernel_rfl
theorem in3 : Inf PP 3 (.int .i64 0) 1 8 := inf_of (by kernel_rfl)
theorem in5 : Inf PP 5 (.int .u8 0) 1 1 := inf_of (by kernel_rfl)
theorem in9 : Inf PP 9 (.string ⟨#[]⟩) 1 16 := inf_of (by kernel_rfl)
theorem in22 : Inf PP 22 (.int .u16 0) 1 2 := inf_of (by kernel_rfl)
theorem in24 : Inf PP 24 (ag [[.int .u16 0], [.bool false], [.int .u16 0], [.bool false], [.bool false], [.bool false], [.bool false], [.bool false], [.bool false], [.int .u16 0]]) 10 14 := inf_of (by kernel_rfl)
theorem in26 : Inf PP 26 (.slice none 0 0) 1 24 := inf_of (by kernel_rfl)
theorem in28 : Inf PP 28 (ag [[.int .u16 0], [.bool false], [.int .u16 0], [.bool false], [.bool false], [.bool false], [.bool false], [.bool false], [.bool false], [.int .u16 0], [.slice none 0 0], [.slice none 0 0], [.slice none 0 0], [.slice none 0 0]]) 14 112 := inf_of (by kernel_rfl)
theorem in32 : Inf PP 32 (.slice none 0 0) 1 24 := inf_of (by kernel_rfl)
theorem in34 : Inf PP 34 (ag [[.int .u16 0], [.bool false], [.int .u16 0], [.bool false], [.bool false], [.bool false], [.bool false], [.bool false], [.bool false], [.int .u16 0], [.slice none 0 0], [.slice none 0 0], [.slice none 0 0], [.slice none 0 0]]) 14 112 := inf_of (by kernel_rfl)
theorem in37 : Inf PP 37 (.slice none 0 0) 1 24 := inf_of (by kernel_rfl)
theorem in58 : Inf PP 58 (ag [[.string ⟨#[]⟩], [.int .u16 0], [.int .u16 0]]) 3 24 := inf_of (by kernel_rfl)
theorem in59 : Inf PP 59 (ag [[.string ⟨#[]⟩], [.int .u16 0], [.int .u16 0]]) 3 24 := inf_of (by kernel_rfl)
theorem in65 : Inf PP 65 (ag [[.string ⟨#[]⟩], [.int .u16 0], [.int .u16 0], [.int .u32 0], [.int .u16 0], [.int .i64 0], [.slice none 0 0], [.string ⟨#[]⟩], [.string ⟨#[]⟩], [.int .u32 0], [.int .u32 0], [.int .u32 0], [.int .u32 0], [.int .u32 0], [.slice none 0 0], [.slice none 0 0]]) 16 168 := inf_of (by kernel_rfl)
theorem in67 : Inf PP 67 (ag [[.int .u16 0], [.slice none 0 0]]) 2 32 := inf_of (by kernel_rfl)
theorem in73 : Inf PP 73 (ag [[.int .u16 0], [.bool false], [.int .u16 0], [.bool false], [.bool false], [.bool false], [.bool false], [.bool false], [.bool false], [.int .u16 0]]) 10 14 := inf_of (by kernel_rfl)
theorem in82 : Inf PP 82 (ag [nm []]) 256 256 := inf_of (by kernel_rfl)
theorem in86 : Inf PP 86 (ag [nm [], [.int .u16 0], [.int .u16 0]]) 258 260 := inf_of (by kernel_rfl)
theorem in112 : Inf PP 112 (ag [[.string ⟨#[]⟩], [.int .u16 0], [.int .u16 0], [.int .u32 0], [.int .u16 0], [.int .i64 0], [.slice none 0 0], [.string ⟨#[]⟩], [.string ⟨#[]⟩], [.int .u32 0], [.int .u32 0], [.int .u32 0], [.int .u32 0], [.int .u32 0], [.slice none 0 0], [.slice none 0 0]]) 16 168 := inf_of (by kernel_rfl)
theorem in124 : Inf PP 124 (ag [[.slice none 0 0], [.int .u16 0], [.int .u16 0], [.int .u16 0], [.int .u16 0], [.int .u16 0], [.int .u16 0], [.int .u8 0], [.int .i64 0], [.int .i64 0], [.bool false], [.int .i64 0], [.int .u16 0], [.int .u16 0]]) 14 80 := inf_of (by kernel_rfl)
theorem in135 : Inf PP 135 (ag [nm [], [.int .u16 0], [.int .u16 0], [.int .u32 0], [.int .u16 0]]) 260 268 := inf_of (by kernel_rfl)
theorem in139 : Inf PP 139 (ag [nm [], [.int .u16 0], [.int .u16 0], [.int .u32 0], [.int .u16 0], [.nilIface]]) 261 288 := inf_of (by kernel_rfl)
theorem in145 : Inf PP 145 (ag [[.int .u16 0], [.slice none 0 0]]) 2 32 := inf_of (by kernel_rfl)
theorem in186 : Inf PP 186 (.pointer none) 1 8 := inf_of (by kernel_rfl)
theorem in187 : Inf PP 187 (ag [bvs (List.replicate 4 0)]) 4 4 := inf_of (by kernel_rfl)
theorem in189 : Inf PP 189 (ag [bvs (List.replicate 4 0)]) 4 4 := inf_of (by kernel_rfl)
theorem in190 : Inf PP 190 (.pointer none) 1 8 := inf_of (by kernel_rfl)
theorem in192 : Inf PP 192 (ag [nm []]) 256 256 := inf_of (by kernel_rfl)
theorem in193 : Inf PP 193 (.pointer none) 1 8 := inf_of (by kernel_rfl)
theorem in195 : Inf PP 195 (ag [nm []]) 256 256 := inf_of (by kernel_rfl)
theorem in196 : Inf PP 196 (.pointer none) 1 8 := inf_of (by kernel_rfl)
theorem in198 : Inf PP 198 (ag [nm [], nm [], [.int .u32 0], [.int .u32 0], [.int .u32 0], [.int .u32 0], [.int .u32 0]]) 517 532 := inf_of (by kernel_rfl)
theorem in199 : Inf PP 199 (.pointer none) 1 8 := inf_of (by kernel_rfl)
theorem in201 : Inf PP 201 (ag [nm []]) 256 256 := inf_of (by kernel_rfl)
theorem in202 : Inf PP 202 (.pointer none) 1 8 := inf_of (by kernel_rfl)
theorem in204 : Inf PP 204 (ag [[.int .u16 0], nm []]) 257 258 := inf_of (by kernel_rfl)
theorem in205 : Inf PP 205 (.pointer none) 1 8 := inf_of (by kernel_rfl)
theorem in207 : Inf PP 207 (ag [[.slice none 0 0]]) 1 24 := inf_of (by kernel_rfl)
theorem in208 : Inf PP 208 (.pointer none) 1 8 := inf_of (by kernel_rfl)
theorem in209 : Inf PP 209 (ag [bvs (List.replicate 16 0)]) 16 16 := inf_of (by kernel_rfl)
theorem in211 : Inf PP 211 (ag [bvs (List.replicate 16 0)]) 16 16 := inf_of (by kernel_rfl)
theorem in212 : Inf PP 212 (.pointer none) 1 8 := inf_of (by kernel_rfl)
theorem in214 : Inf PP 214 (ag [[.int .u16 0], [.int .u16 0], [.int .u16 0], nm []]) 259 262 := inf_of (by kernel_rfl)
theorem in215 : Inf PP 215 (.pointer none) 1 8 := inf_of (by kernel_rfl)
theorem in218 : Inf PP 218 (ag [[.slice none 0 0]]) 1 24 := inf_of (by kernel_rfl)
theorem in220 : Inf PP 220 (ag [[.int .u16 0], [.slice none 0 0]]) 2 32 := inf_of (by kernel_rfl)
theorem in221 : Inf PP 221 (.pointer none) 1 8 := inf_of (by kernel_rfl)
theorem in224 : Inf PP 224 (ag [[.int .u16 0], nm [], [.slice none 0 0]]) 258 288 := inf_of (by kernel_rfl)
theorem in226 : Inf PP 226 (.pointer none) 1 8 := inf_of (by kernel_rfl)
theorem in228 : Inf PP 228 (ag [[.int .u16 0], nm [], [.slice none 0 0]]) 258 288 := inf_of (by kernel_rfl)
theorem in231 : Inf PP 231 (ag [[.int .u16 0], [.slice none 0 0]]) 2 32 := inf_of (by kernel_rfl)
theorem in265 : Inf PP 265 (ag [[.int .u16 0], [.int .u16 0], [.int .u16 0], [.int .u16 0], [.int .u16 0], [.int .u16 0], [.int .u16 0], [.int .u16 0], [.int .u16 0], [.int .u16 0], [.int .u16 0], [.int .u16 0], [.int .u16 0], [.int .u16 0]]) 14 28 := inf_of (by kernel_rfl)
theorem in291 : Inf PP 291 (ag [[.int .u16 0], [.slice none 0 0]]) 2 32 := inf_of (by kernel_rfl)
theorem ki3 : intB PP 3 .i64 = true := by kernel_rfl
theorem ki5 : intB PP 5 .u8 = true := by kernel_rfl
theorem ki22 : intB PP 22 .u16 = true := by kernel_rfl
theorem ki61 : intB PP 61 .u32 = true := by kernel_rfl
theorem ly24 : layB PP 24 (zs24.map List.length) = true := by kernel_rfl
theorem ly28 : layB PP 28 (zs28.map List.length) = true := by kernel_rfl
theorem ly34 : layB PP 34 (zs34.map List.length) = true := by kernel_rfl
theorem ly58 : layB PP 58 (zs58.map List.length) = true := by kernel_rfl
theorem ly65 : layB PP 65 (zs65.map List.length) = true := by kernel_rfl
theorem ly73 : layB PP 73 (zs73.map List.length) = true := by kernel_rfl
theorem ly86 : layB PP 86 (zs86.map List.length) = true := by kernel_rfl
theorem ly112 : layB PP 112 (zs112.map List.length) = true := by kernel_rfl
theorem ly116 : layB PP 116 (zs116.map List.length) = true := by kernel_rfl
theorem ly124 : layB PP 124 (zs124.map List.length) = true := by kernel_rfl
theorem ly135 : layB PP 135 (zs135.map List.length) = true := by kernel_rfl
theorem ly139 : layB PP 139 (zs139.map List.length) = true := by kernel_rfl
theorem ly145 : layB PP 145 (zs145.map List.length) = true := by kernel_rfl
theorem ly168 : layB PP 168 (zs168.map List.length) = true := by kernel_rfl
theorem ly189 : layB PP 189 (zs189.map List.length) = true := by kernel_rfl
theorem ly192 : layB PP 192 (zs192.map List.length) = true := by kernel_rfl
theorem ly195 : layB PP 195 (zs195.map List.length) = true := by kernel_rfl
theorem ly198 : layB PP 198 (zs198.map List.length) = true := by kernel_rfl
theorem ly201 : layB PP 201 (zs201.map List.length) = true := by kernel_rfl
theorem ly204 : layB PP 204 (zs204.map List.length) = true := by kernel_rfl
theorem ly207 : layB PP 207 (zs207.map List.length) = true := by kernel_rfl
theorem ly211 : layB PP 211 (zs211.map List.length) = true := by kernel_rfl
theorem ly214 : layB PP 214 (zs214.map List.length) = true := by kernel_rfl
theorem ly218 : layB PP 218 (zs218.map List.length) = true := by kernel_rfl
theorem ly224 : layB PP 224 (zs224.map List.length) = true := by kernel_rfl
theorem ly231 : layB PP 231 (zs231.map List.length) = true := by kernel_rfl
theorem ni166 : notIfB PP 166 = true := by kernel_rfl
theorem ni186 : notIfB PP 186 = true := by kernel_rfl
theorem ni190 : notIfB PP 190 = true := by kernel_rfl
theorem ni193 : notIfB PP 193 = true := by kernel_rfl
theorem ni196 : notIfB PP 196 = true := by kernel_rfl
theorem ni199 : notIfB PP 199 = true := by kernel_rfl
theorem ni202 : notIfB PP 202 = true := by kernel_rfl
theorem ni205 : notIfB PP 205 = true := by kernel_rfl
theorem ni208 : notIfB PP 208 = true := by kernel_rfl
theorem ni212 : notIfB PP 212 = true := by kernel_rfl
theorem ni215 : notIfB PP 215 = true := by kernel_rfl
theorem ni221 : notIfB PP 221 = true := by kernel_rfl
theorem ni226 : notIfB PP 226 = true := by kernel_rfl
theorem ni229 : notIfB PP 229 = true := by kernel_rfl
theorem on3 : oneB PP 3 = true := by kernel_rfl
theorem on4 : oneB PP 4 = true := by kernel_rfl
theorem on5 : oneB PP 5 = true := by kernel_rfl
theorem on9 : oneB PP 9 = true := by kernel_rfl
theorem on22 : oneB PP 22 = true := by kernel_rfl
theorem on25 : oneB PP 25 = true := by kernel_rfl
theorem on26 : oneB PP 26 = true := by kernel_rfl
theorem on31 : oneB PP 31 = true := by kernel_rfl
theorem on32 : oneB PP 32 = true := by kernel_rfl
theorem on37 : oneB PP 37 = true := by kernel_rfl
theorem on61 : oneB PP 61 = true := by kernel_rfl
theorem on62 : oneB PP 62 = true := by kernel_rfl
theorem on63 : oneB PP 63 = true := by kernel_rfl
theorem on70 : oneB PP 70 = true := by kernel_rfl
theorem on71 : oneB PP 71 = true := by kernel_rfl
theorem on83 : oneB PP 83 = true := by kernel_rfl
theorem on84 : oneB PP 84 = true := by kernel_rfl
theorem on89 : oneB PP 89 = true := by kernel_rfl
theorem on99 : oneB PP 99 = true := by kernel_rfl
theorem on110 : oneB PP 110 = true := by kernel_rfl
theorem on122 : oneB PP 122 = true := by kernel_rfl
theorem on137 : oneB PP 137 = true := by kernel_rfl
theorem on216 : oneB PP 216 = true := by kernel_rfl
theorem on222 : oneB PP 222 = true := by kernel_rfl
theorem on288 : oneB PP 288 = true := by kernel_rfl
theorem on289 : oneB PP 289 = true := by kernel_rfl
theorem ro24 : rowB PP 24 10 = true := by kernel_rfl
theorem ro28 : rowB PP 28 14 = true := by kernel_rfl
theorem ro30 : rowB PP 30 10 = true := by kernel_rfl
theorem ro34 : rowB PP 34 14 = true := by kernel_rfl
theorem ro58 : rowB PP 58 3 = true := by kernel_rfl
theorem ro59 : rowB PP 59 3 = true := by kernel_rfl
theorem ro65 : rowB PP 65 16 = true := by kernel_rfl
theorem ro67 : rowB PP 67 2 = true := by kernel_rfl
theorem ro73 : rowB PP 73 10 = true := by kernel_rfl
theorem ro82 : rowB PP 82 256 = true := by kernel_rfl
theorem ro86 : rowB PP 86 258 = true := by kernel_rfl
theorem ro112 : rowB PP 112 16 = true := by kernel_rfl
theorem ro135 : rowB PP 135 260 = true := by kernel_rfl
theorem ro139 : rowB PP 139 261 = true := by kernel_rfl
theorem ro145 : rowB PP 145 2 = true := by kernel_rfl
theorem ro187 : rowB PP 187 4 = true := by kernel_rfl
theorem ro189 : rowB PP 189 4 = true := by kernel_rfl
theorem ro192 : rowB PP 192 256 = true := by kernel_rfl
theorem ro195 : rowB PP 195 256 = true := by kernel_rfl
theorem ro198 : rowB PP 198 517 = true := by kernel_rfl
theorem ro201 : rowB PP 201 256 = true := by kernel_rfl
theorem ro204 : rowB PP 204 257 = true := by kernel_rfl
theorem ro207 : rowB PP 207 1 = true := by kernel_rfl
theorem ro209 : rowB PP 209 16 = true := by kernel_rfl
theorem ro211 : rowB PP 211 16 = true := by kernel_rfl
theorem ro214 : rowB PP 214 259 = true := by kernel_rfl
theorem ro218 : rowB PP 218 1 = true := by kernel_rfl
theorem ro220 : rowB PP 220 2 = true := by kernel_rfl
theorem ro224 : rowB PP 224 258 = true := by kernel_rfl
theorem ro231 : rowB PP 231 2 = true := by kernel_rfl
theorem ro291 : rowB PP 291 2 = true := by kernel_rfl
theorem sl25 : slcB PP 25 58 = true := by kernel_rfl
theorem sl26 : slcB PP 26 112 = true := by kernel_rfl
theorem sl31 : slcB PP 31 59 = true := by kernel_rfl
theorem sl32 : slcB PP 32 65 = true := by kernel_rfl
theorem sl37 : slcB PP 37 5 = true := by kernel_rfl
theorem sl60 : slcB PP 60 32 = true := by kernel_rfl
theorem sl62 : slcB PP 62 9 = true := by kernel_rfl
theorem sl63 : slcB PP 63 67 = true := by kernel_rfl
theorem sl75 : slcB PP 75 139 = true := by kernel_rfl
theorem sl77 : slcB PP 77 86 = true := by kernel_rfl
theorem sl99 : slcB PP 99 3 = true := by kernel_rfl
theorem sl105 : slcB PP 105 37 = true := by kernel_rfl
theorem sl110 : slcB PP 110 145 = true := by kernel_rfl
theorem sl133 : slcB PP 133 26 = true := by kernel_rfl
theorem sl216 : slcB PP 216 220 = true := by kernel_rfl
theorem sl222 : slcB PP 222 291 = true := by kernel_rfl
theorem sl262 : slcB PP 262 22 = true := by kernel_rfl
theorem st9 : strB PP 9 = true := by kernel_rfl
theorem sz3 : szB PP 3 1 = true := by kernel_rfl
theorem sz4 : szB PP 4 1 = true := by kernel_rfl
theorem sz5 : szB PP 5 1 = true := by kernel_rfl
theorem sz9 : szB PP 9 1 = true := by kernel_rfl
theorem sz22 : szB PP 22 1 = true := by kernel_rfl
theorem sz24 : szB PP 24 10 = true := by kernel_rfl
theorem sz25 : szB PP 25 1 = true := by kernel_rfl
theorem sz26 : szB PP 26 1 = true := by kernel_rfl
theorem sz28 : szB PP 28 14 = true := by kernel_rfl
theorem sz31 : szB PP 31 1 = true := by kernel_rfl
theorem sz32 : szB PP 32 1 = true := by kernel_rfl
theorem sz34 : szB PP 34 14 = true := by kernel_rfl
theorem sz37 : szB PP 37 1 = true := by kernel_rfl
theorem sz58 : szB PP 58 3 = true := by kernel_rfl
theorem sz59 : szB PP 59 3 = true := by kernel_rfl
theorem sz61 : szB PP 61 1 = true := by kernel_rfl
theorem sz62 : szB PP 62 1 = true := by kernel_rfl
theorem sz65 : szB PP 65 16 = true := by kernel_rfl
theorem sz67 : szB PP 67 2 = true := by kernel_rfl
theorem sz73 : szB PP 73 10 = true := by kernel_rfl
theorem sz83 : szB PP 83 1 = true := by kernel_rfl
theorem sz84 : szB PP 84 1 = true := by kernel_rfl
theorem sz86 : szB PP 86 258 = true := by kernel_rfl
theorem sz99 : szB PP 99 1 = true := by kernel_rfl
theorem sz110 : szB PP 110 1 = true := by kernel_rfl
theorem sz112 : szB PP 112 16 = true := by kernel_rfl
theorem sz122 : szB PP 122 1 = true := by kernel_rfl
theorem sz124 : szB PP 124 14 = true := by kernel_rfl
theorem sz135 : szB PP 135 260 = true := by kernel_rfl
theorem sz137 : szB PP 137 1 = true := by kernel_rfl
theorem sz139 : szB PP 139 261 = true := by kernel_rfl
theorem sz145 : szB PP 145 2 = true := by kernel_rfl
theorem sz189 : szB PP 189 4 = true := by kernel_rfl
theorem sz192 : szB PP 192 256 = true := by kernel_rfl
theorem sz195 : szB PP 195 256 = true := by kernel_rfl
theorem sz198 : szB PP 198 517 = true := by kernel_rfl
theorem sz201 : szB PP 201 256 = true := by kernel_rfl
theorem sz204 : szB PP 204 257 = true := by kernel_rfl
theorem sz207 : szB PP 207 1 = true := by kernel_rfl
theorem sz211 : szB PP 211 16 = true := by kernel_rfl
theorem sz214 : szB PP 214 259 = true := by kernel_rfl
theorem sz218 : szB PP 218 1 = true := by kernel_rfl
theorem sz220 : szB PP 220 2 = true := by kernel_rfl
theorem sz222 : szB PP 222 1 = true := by kernel_rfl
theorem sz224 : szB PP 224 258 = true := by kernel_rfl
theorem sz231 : szB PP 231 2 = true := by kernel_rfl
theorem sz265 : szB PP 265 14 = true := by kernel_rfl
theorem sz289 : szB PP 289 1 = true := by kernel_rfl
theorem sz291 : szB PP 291 2 = true := by kernel_rfl
theorem zr24 : (PP.info? 24).map (·.zero) = some (some (.agg zs24.flatten.toArray)) := by kernel_rfl
theorem zr28 : (PP.info? 28).map (·.zero) = some (some (.agg zs28.flatten.toArray)) := by kernel_rfl
theorem zr34 : (PP.info? 34).map (·.zero) = some (some (.agg zs34.flatten.toArray)) := by kernel_rfl
theorem zr58 : (PP.info? 58).map (·.zero) = some (some (.agg zs58.flatten.toArray)) := by kernel_rfl
theorem zr65 : (PP.info? 65).map (·.zero) = some (some (.agg zs65.flatten.toArray)) := by kernel_rfl
theorem zr73 : (PP.info? 73).map (·.zero) = some (some (.agg zs73.flatten.toArray)) := by kernel_rfl
theorem zr86 : (PP.info? 86).map (·.zero) = some (some (.agg zs86.flatten.toArray)) := by kernel_rfl
theorem zr112 : (PP.info? 112).map (·.zero) = some (some (.agg zs112.flatten.toArray)) := by kernel_rfl
theorem zr116 : (PP.info? 116).map (·.zero) = some (some (.agg zs116.flatten.toArray)) := by kernel_rfl
theorem zr124 : (PP.info? 124).map (·.zero) = some (some (.agg zs124.flatten.toArray)) := by kernel_rfl
theorem zr135 : (PP.info? 135).map (·.zero) = some (some (.agg zs135.flatten.toArray)) := by kernel_rfl
theorem zr139 : (PP.info? 139).map (·.zero) = some (some (.agg zs139.flatten.toArray)) := by kernel_rfl
theorem zr145 : (PP.info? 145).map (·.zero) = some (some (.agg zs145.flatten.toArray)) := by kernel_rfl
theorem zr168 : (PP.info? 168).map (·.zero) = some (some (.agg zs168.flatten.toArray)) := by kernel_rfl
theorem zr189 : (PP.info? 189).map (·.zero) = some (some (.agg zs189.flatten.toArray)) := by kernel_rfl
theorem zr192 : (PP.info? 192).map (·.zero) = some (some (.agg zs192.flatten.toArray)) := by kernel_rfl
theorem zr195 : (PP.info? 195).map (·.zero) = some (some (.agg zs195.flatten.toArray)) := by kernel_rfl
theorem zr198 : (PP.info? 198).map (·.zero) = some (some (.agg zs198.flatten.toArray)) := by kernel_rfl
theorem zr201 : (PP.info? 201).map (·.zero) = some (some (.agg zs201.flatten.toArray)) := by kernel_rfl
theorem zr204 : (PP.info? 204).map (·.zero) = some (some (.agg zs204.flatten.toArray)) := by kernel_rfl
theorem zr207 : (PP.info? 207).map (·.zero) = some (some (.agg zs207.flatten.toArray)) := by kernel_rfl
theorem zr211 : (PP.info? 211).map (·.zero) = some (some (.agg zs211.flatten.toArray)) := by kernel_rfl
theorem zr214 : (PP.info? 214).map (·.zero) = some (some (.agg zs214.flatten.toArray)) := by kernel_rfl
theorem zr218 : (PP.info? 218).map (·.zero) = some (some (.agg zs218.flatten.toArray)) := by kernel_rfl
theorem zr224 : (PP.info? 224).map (·.zero) = some (some (.agg zs224.flatten.toArray)) := by kernel_rfl
theorem zr231 : (PP.info? 231).map (·.zero) = some (some (.agg zs231.flatten.toArray)) := by kernel_rfl
end Go.Proofs.YtifnodoffgfpbaaGreatDoor

namespace Go.Proofs.YtifnodoffgfpbaaGreatDoor
open Go

abbrev BR (w : World) (v : Value) (g n : Nat) (bs : List UInt8) : Prop := Rw w v g 5 1 n (bvs bs)
def New (w : World) (n : Nat) (bs : List UInt8) (u : Value) (w' : World) : Prop :=
  ∃ a c g, u = .slice a n c ∧ BR w' (.slice a n c) g n bs ∧ Fr0 w w' ∧ w.heap.size ≤ g ∧ g < w'.heap.size
theorem xshr {P : Program} {n : Nat} {l : List (Nat × Value)} {w : World} {ty : TypeId} {x y : Operand} {T U : TypeId} {k j : IntKind} {a : Int} {b : Nat} (hb : b ≤ k.bits) (hx : ev n l x = some (.int k a)) (hy : ev n l y = some (.int j b)) :
    Ex P n l (.binOp .shr T x y U) ty w (.int k (a / 2 ^ b)) w :=
  xbin hx hy rfl (by
    have : min b k.bits = b := by omega
    simp only [binOp, Op.shift]
    rw [if_neg (by omega)]
    simp only [Int.toNat_natCast, this, Sem.run_pure]
    congr 2
    exact Int.fdiv_eq_ediv_of_nonneg _ (Int.le_of_lt (Int.pow_pos (by decide))))
theorem BR.len {w : World} {v : Value} {g n : Nat} {bs : List UInt8} (h : BR w v g n bs) : bs.length = n := by
  have := Rw.len h
  simpa [bvs] using this
theorem src_str {P : Program} {T : Nat} {w : World} (hT : strB P T = true) (s : ByteArray) : Src P 1 T (.string s) s.size (bvs (bt s)) w := Src.ofString w (strB_spec hT) s

def Stays {α : Type} (El : (Nat → Prop) → World → List (List Value) → α → Prop) : Prop :=
  ∀ (U : Nat → Prop) (S : Nat → Prop) (w w' : World) segs x, El U w segs x → (∀ k, U k → k < w.heap.size) → Fr S w w' → (∀ k, U k → ¬ S k) → El U w' segs x
def Grows {α : Type} (El : (Nat → Prop) → World → List (List Value) → α → Prop) : Prop :=
  ∀ (U U' : Nat → Prop) (w : World) segs x, El U w segs x → (∀ k, U k → U' k) → El U' w segs x

def BA (U : Nat → Prop) (w : World) (v : Value) (bs : List UInt8) : Prop :=
  ∃ a c, v = .slice a bs.length c ∧ (bs ≠ [] → ∃ b o, a = some ⟨b, o, none⟩ ∧ U b ∧ w.rangeAt b o (bvs bs))
theorem BA.keep {U S : Nat → Prop} {w w' : World} {v : Value} {bs : List UInt8} (h : BA U w v bs) (hU : ∀ k, U k → k < w.heap.size) (m : Fr S w w') (hn : ∀ k, U k → ¬ S k) : BA U w' v bs := by
  obtain ⟨a, c, rfl, h⟩ := h
  refine ⟨a, c, rfl, fun hb => ?_⟩
  obtain ⟨b, o, rfl, hlt, hr⟩ := h hb
  exact ⟨b, o, rfl, hlt, rng_keep hr (m.block b (hU b hlt) (hn b hlt))⟩
theorem BA.mono {U U' : Nat → Prop} {w : World} {v : Value} {bs : List UInt8} (h : BA U w v bs) (hU : ∀ k, U k → U' k) : BA U' w v bs := by
  obtain ⟨a, c, rfl, h⟩ := h
  refine ⟨a, c, rfl, fun hb => ?_⟩
  obtain ⟨b, o, rfl, hlt, hr⟩ := h hb
  exact ⟨b, o, rfl, hU b hlt, hr⟩
theorem BA.src {P : Program} {T E : Nat} {U : Nat → Prop} {w : World} {v : Value} {bs : List UInt8} (h : BA U w v bs) (hT : slcB P T E = true) : Src P 1 T v bs.length (bvs bs) w := by
  obtain ⟨a, c, rfl, h⟩ := h
  by_cases hb : bs = []
  · subst hb
    cases a with
    | none => exact Src.ofNil w (slcB_spec hT) c
    | some a => exact Src.ofSlice w (slcB_spec hT) a 0 c [] rfl (fun j u h => by simp at h) (fun u h => by cases h)
  · obtain ⟨b, o, rfl, _, hr⟩ := h hb
    exact src_rng hT (by simp [bvs]) hr (bvs_one _)
theorem BR.ba {w : World} {v : Value} {g n : Nat} {bs : List UInt8} (h : BR w v g n bs) {U : Nat → Prop} (hU : U g) : BA U w v bs := by
  have hl := h.len
  obtain ⟨a, c, rfl, _, _, h5, h6⟩ := Rw.form h
  refine ⟨a, c, by rw [hl], fun hb => ?_⟩
  have : 0 < n := by
    cases bs with
    | nil => exact absurd rfl hb
    | cons x xs => simp at hl; omega
  exact ⟨g, 0, h5 this, hU, Rw.rng h⟩
def LA {α : Type} (El : (Nat → Prop) → World → List (List Value) → α → Prop) (lens : List Nat) (U : Nat → Prop) (w : World) (v : Value) (l : List α) : Prop :=
  ∃ a c, v = .slice a l.length c ∧ (l ≠ [] → ∃ b o, a = some ⟨b, o, none⟩ ∧ U b ∧ ∀ (i : Nat) x, l[i]? = some x → ∃ segs, SR w b (o + i * lens.sum) lens segs ∧ El U w segs x)
section
variable {α : Type} {El : (Nat → Prop) → World → List (List Value) → α → Prop} {lens : List Nat} {U : Nat → Prop} {w w' : World} {v : Value} {l : List α}
theorem LA.keep {S : Nat → Prop} (h : LA El lens U w v l) (hE : Stays El) (hU : ∀ k, U k → k < w.heap.size) (m : Fr S w w') (hn : ∀ k, U k → ¬ S k) : LA El lens U w' v l := by
  obtain ⟨a, c, rfl, h⟩ := h
  refine ⟨a, c, rfl, fun hb => ?_⟩
  obtain ⟨b, o, rfl, hlt, hr⟩ := h hb
  refine ⟨b, o, rfl, hlt, fun i x hx => ?_⟩
  obtain ⟨segs, hs, he⟩ := hr i x hx
  exact ⟨segs, hs.keep m (hU b hlt) (hn b hlt), hE _ _ _ _ _ _ he hU m hn⟩
theorem LA.mono {U' : Nat → Prop} (h : LA El lens U w v l) (hE : Grows El) (hU : ∀ k, U k → U' k) : LA El lens U' w v l := by
  obtain ⟨a, c, rfl, h⟩ := h
  refine ⟨a, c, rfl, fun hb => ?_⟩
  obtain ⟨b, o, rfl, hlt, hr⟩ := h hb
  refine ⟨b, o, rfl, hU b hlt, fun i x hx => ?_⟩
  obtain ⟨segs, hs, he⟩ := hr i x hx
  exact ⟨segs, hs, hE _ _ _ _ _ he hU⟩
theorem LA.form (h : LA El lens U w v l) : ∃ a c, v = .slice a l.length c := by obtain ⟨a, c, h, _⟩ := h; exact ⟨a, c, h⟩
theorem LA.get {a : Option Addr} {n c : Nat} (h : LA El lens U w (.slice a n c) l) {i : Nat} {x : α} (hx : l[i]? = some x) : ∃ b o segs, a = some ⟨b, o, none⟩ ∧ U b ∧ SR w b (o + i * lens.sum) lens segs ∧ El U w segs x := by
  obtain ⟨a', c', he, h⟩ := h
  simp only [Value.slice.injEq] at he
  obtain ⟨rfl, _, rfl⟩ := he
  obtain ⟨b, o, rfl, hlt, hr⟩ := h (by intro h0; rw [h0] at hx; simp at hx)
  obtain ⟨segs, hs, he⟩ := hr i x hx
  exact ⟨b, o, segs, rfl, hlt, hs, he⟩
theorem LA.nil {a : Option Addr} {c : Nat} : LA El lens U w (.slice a 0 c) [] := ⟨a, c, rfl, fun h => absurd rfl h⟩
end

def RA {α : Type} (El : (Nat → Prop) → World → List (List Value) → α → Prop) (lens : List Nat) (U : Nat → Prop) (w : World) (v : Value) (g E n : Nat) (l : List α) : Prop :=
  ∃ ss : List (List (List Value)), Rw w v g E lens.sum n (ss.map List.flatten).flatten ∧ All2 (fun segs x => segs.map List.length = lens ∧ El U w segs x) ss l
section
variable {α : Type} {El : (Nat → Prop) → World → List (List Value) → α → Prop} {lens : List Nat} {U : Nat → Prop} {w w' : World} {v : Value} {g E n : Nat} {l : List α}
theorem flat_len {ss : List (List (List Value))} (h : ∀ s ∈ ss, s.map List.length = lens) : (ss.map List.flatten).flatten.length = ss.length * lens.sum := by
  induction ss with
  | nil => simp
  | cons s ss ih =>
    simp only [List.map_cons, List.flatten_cons, List.length_append, List.length_cons, Nat.add_mul, Nat.one_mul]
    rw [ih (fun t ht => h t (by simp [ht])), List.length_flatten, h s (by simp)]
    omega
theorem RA.parts (h : RA El lens U w v g E n l) : ∃ ss : List (List (List Value)), Rw w v g E lens.sum n (ss.map List.flatten).flatten ∧ All2 (fun segs x => segs.map List.length = lens ∧ El U w segs x) ss l ∧ ∀ s ∈ ss, s.map List.length = lens := by
  obtain ⟨ss, hR, hA⟩ := h
  refine ⟨ss, hR, hA, fun s hs => ?_⟩
  obtain ⟨i, hi, rfl⟩ := List.mem_iff_getElem.1 hs
  obtain ⟨a, b, ha, _, hb⟩ := hA.get (k := i) (by rw [← hA.1]; exact hi)
  rw [List.getElem?_eq_getElem hi] at ha
  simp only [Option.some.injEq] at ha
  subst ha
  exact hb.1
theorem RA.keep {S : Nat → Prop} (h : RA El lens U w v g E n l) (hE : Stays El) (hU : ∀ k, U k → k < w.heap.size) (m : Fr S w w') (hn : ∀ k, U k → ¬ S k) (hg : ¬ S g) : RA El lens U w' v g E n l := by
  obtain ⟨ss, hR, hA⟩ := h
  exact ⟨ss, hR.keep m hg, hA.imp fun _ _ h => ⟨h.1, hE _ _ _ _ _ _ h.2 hU m hn⟩⟩
theorem RA.mono {U' : Nat → Prop} (h : RA El lens U w v g E n l) (hE : Grows El) (hU : ∀ k, U k → U' k) : RA El lens U' w v g E n l := by
  obtain ⟨ss, hR, hA⟩ := h
  exact ⟨ss, hR, hA.imp fun _ _ h => ⟨h.1, hE _ _ _ _ _ h.2 hU⟩⟩
theorem RA.nil (U : Nat → Prop) (w : World) (g E : Nat) : RA El lens U w (.slice none 0 0) g E 0 [] := ⟨[], Rw.nil _ _ _ _, All2.nil⟩
theorem RA.num (h : RA El lens U w v g E n l) (hs : 0 < lens.sum) : l.length = n := by
  obtain ⟨ss, hR, hA, hl⟩ := h.parts
  have := hR.len
  rw [flat_len hl, hA.1] at this
  exact Nat.eq_of_mul_eq_mul_right hs this
theorem RA.la (h : RA El lens U w v g E n l) (hs : 0 < lens.sum) {U' : Nat → Prop} (hE : Grows El) (hU : ∀ k, U k → U' k) (hg : U' g) : LA El lens U' w v l := by
  have hnum := h.num hs
  obtain ⟨ss, hR, hA, hl⟩ := h.parts
  obtain ⟨a, c, rfl, _, _, h5, _⟩ := hR.form
  subst hnum
  refine ⟨a, c, rfl, fun hb => ?_⟩
  have hpos : 0 < l.length := by cases l with
    | nil => exact absurd rfl hb
    | cons x xs => simp
  refine ⟨g, 0, h5 hpos, hg, fun i x hx => ?_⟩
  have hi : i < l.length := (List.getElem?_eq_some_iff.1 hx).1
  obtain ⟨segs, x', hs1, hs2, hs3⟩ := hA.get hi
  rw [hx] at hs2
  simp only [Option.some.injEq] at hs2
  subst hs2
  refine ⟨segs, ⟨fun j u hu => ?_, hs3.1⟩, hE _ _ _ _ _ hs3.2 hU⟩
  have hj : j < segs.flatten.length := (List.getElem?_eq_some_iff.1 hu).1
  have e : ss = ss.take i ++ (segs :: ss.drop (i + 1)) := by
    have h1 : i < ss.length := (List.getElem?_eq_some_iff.1 hs1).1
    have h2 : ss[i] = segs := (List.getElem?_eq_some_iff.1 hs1).2
    rw [← h2, List.getElem_cons_drop, List.take_append_drop]
  have hpre : ((ss.take i).map List.flatten).flatten.length = i * lens.sum := by
    rw [flat_len (fun s hs => hl s (List.mem_of_mem_take hs)), List.length_take, Nat.min_eq_left]
    have h1 : i < ss.length := (List.getElem?_eq_some_iff.1 hs1).1
    omega
  have := hR.rng (i * lens.sum + j) u (by
    rw [e]
    simp only [List.map_append, List.map_cons, List.flatten_append, List.flatten_cons]
    rw [List.getElem?_append_right (by omega), hpre, Nat.add_sub_cancel_left, List.getElem?_append_left hj]
    exact hu)
  have e2 : 0 + i * lens.sum + j = 0 + (i * lens.sum + j) := by omega
  rw [e2]; exact this
theorem RA.snoc {ss : List (List (List Value))} {segs : List (List Value)} {x : α} {v' : Value} {g' n' : Nat} (hA : All2 (fun segs x => segs.map List.length = lens ∧ El U w segs x) ss l)
    (hE : Stays El) (hG : Grows El) {S : Nat → Prop} (hU : ∀ k, U k → k < w.heap.size) (m : Fr S w w') (hn : ∀ k, U k → ¬ S k) {U' : Nat → Prop} (hUU : ∀ k, U k → U' k)
    (hR : Rw w' v' g' E lens.sum n' ((ss.map List.flatten).flatten ++ segs.flatten)) (hl : segs.map List.length = lens) (he : El U' w' segs x) : RA El lens U' w' v' g' E n' (l ++ [x]) :=
  ⟨ss ++ [segs], by simpa using hR, (hA.imp fun _ _ h => ⟨h.1, hG _ _ _ _ _ (hE _ _ _ _ _ _ h.2 hU m hn) hUU⟩).snoc ⟨hl, he⟩⟩
end

def headSegs (h : HeadD) : List (List Value) := [[.int .u16 h.id.toNat], [.bool h.resp], [.int .u16 h.op.toNat], [.bool h.auth], [.bool h.cut], [.bool h.des], [.bool h.avail], [.bool h.authc], [.bool h.unch], [.int .u16 h.code.toNat]]
def askSegs (a : AskD) : List (List Value) := [[.string a.name], [.int .u16 a.typ.toNat], [.int .u16 a.cls.toNat]]
def pairSegs (p : PairD) (vd : Value) : List (List Value) := [[.int .u16 p.key.toNat], [vd]]
def recSegs (r : RecD) (vd vt vp : Value) : List (List Value) :=
  [[.string r.name], [.int .u16 r.typ.toNat], [.int .u16 r.cls.toNat], [.int .u32 r.ttl.toNat], [.int .u16 r.len.toNat], [.int .i64 r.kind], [vd], [.string r.host], [.string r.box],
    [.int .u32 r.n1.toNat], [.int .u32 r.n2.toNat], [.int .u32 r.n3.toNat], [.int .u32 r.n4.toNat], [.int .u32 r.n5.toNat], [vt], [vp]]
def msgSegs (h : HeadD) (va v1 v2 v3 : Value) : List (List Value) := [[.int .u16 h.id.toNat], [.bool h.resp], [.int .u16 h.op.toNat], [.bool h.auth], [.bool h.cut], [.bool h.des], [.bool h.avail], [.bool h.authc], [.bool h.unch], [.int .u16 h.code.toNat], [va], [v1], [v2], [v3]]
abbrev lAsk : List Nat := [1, 1, 1]
abbrev lPair : List Nat := [1, 1]
abbrev lRec : List Nat := [1, 1, 1, 1, 1, 1, 1, 1, 1, 1, 1, 1, 1, 1, 1, 1]
abbrev lMsg : List Nat := [1, 1, 1, 1, 1, 1, 1, 1, 1, 1, 1, 1, 1, 1]
def AskEl (_ : Nat → Prop) (_ : World) (segs : List (List Value)) (a : AskD) : Prop := segs = askSegs a
def TextEl (_ : Nat → Prop) (_ : World) (segs : List (List Value)) (s : ByteArray) : Prop := segs = [[.string s]]
def PairEl (U : Nat → Prop) (w : World) (segs : List (List Value)) (p : PairD) : Prop := ∃ vd, segs = pairSegs p vd ∧ BA U w vd p.data
def RecEl (U : Nat → Prop) (w : World) (segs : List (List Value)) (r : RecD) : Prop :=
  ∃ vd vt vp, segs = recSegs r vd vt vp ∧ BA U w vd r.data ∧ LA TextEl [1] U w vt r.texts ∧ LA PairEl lPair U w vp r.pairs
theorem ask_st : Stays AskEl := fun _ _ _ _ _ _ h _ _ _ => h
theorem ask_gr : Grows AskEl := fun _ _ _ _ _ h _ => h
theorem text_st : Stays TextEl := fun _ _ _ _ _ _ h _ _ _ => h
theorem text_gr : Grows TextEl := fun _ _ _ _ _ h _ => h
theorem pair_st : Stays PairEl := fun _ _ _ _ _ _ ⟨vd, h1, h2⟩ hU m hn => ⟨vd, h1, h2.keep hU m hn⟩
theorem pair_gr : Grows PairEl := fun _ _ _ _ _ ⟨vd, h1, h2⟩ hU => ⟨vd, h1, h2.mono hU⟩
theorem rec_st : Stays RecEl := fun _ _ _ _ _ _ ⟨vd, vt, vp, h1, h2, h3, h4⟩ hU m hn => ⟨vd, vt, vp, h1, h2.keep hU m hn, h3.keep text_st hU m hn, h4.keep pair_st hU m hn⟩
theorem rec_gr : Grows RecEl := fun _ _ _ _ _ ⟨vd, vt, vp, h1, h2, h3, h4⟩ hU => ⟨vd, vt, vp, h1, h2.mono hU, h3.mono text_gr hU, h4.mono pair_gr hU⟩
end Go.Proofs.YtifnodoffgfpbaaGreatDoor

namespace Go.Proofs.YtifnodoffgfpbaaGreatDoor
open Go Go.ChangeShapes Go.WideShapes Go.Deep

section
variable {H : Type} {enc : TypeId × Value → H} {W : World}
abbrev Rd (enc : TypeId × Value → H) (W : World) (fuel : Nat) (t : TypeId) (cs : List Value) (x : DataW H × List MemPlace) : Prop := DataW.trod enc PP W 0 (fun _ => true) true fuel t cs = some x
abbrev UW (W : World) : Nat → Prop := fun k => k < W.heap.size
abbrev bulk (d : DataW H) : Nat := Rows.uptoBulk d

theorem rd_u8 {t fuel : Nat} {cs : List Value} {x : DataW H × List MemPlace} (ht : intB PP t .u8 = true) (h : Rd enc W fuel t cs x) : ∃ n : UInt8, cs = [bv n] := by
  obtain ⟨n, rfl, _, hw⟩ := DataW.trod_int (intB_spec ht) h
  simp only [Lit.wf, IntKind.min, IntKind.max, IntKind.signed, IntKind.bits, Bool.and_eq_true] at hw
  refine ⟨UInt8.ofNat n.toNat, ?_⟩
  simp only [bv, UInt8.toNat_ofNat']
  simp at hw
  have e : ((n.toNat % 2 ^ 8 : Nat) : Int) = n := by omega
  rw [e]
theorem rd_u16 {t fuel : Nat} {cs : List Value} {x : DataW H × List MemPlace} (ht : intB PP t .u16 = true) (h : Rd enc W fuel t cs x) : ∃ n : UInt16, cs = [.int .u16 (n.toNat : Int)] := by
  obtain ⟨n, rfl, _, hw⟩ := DataW.trod_int (intB_spec ht) h
  simp only [Lit.wf, IntKind.min, IntKind.max, IntKind.signed, IntKind.bits, Bool.and_eq_true] at hw
  refine ⟨UInt16.ofNat n.toNat, ?_⟩
  simp only [UInt16.toNat_ofNat']
  simp at hw
  have e : ((n.toNat % 2 ^ 16 : Nat) : Int) = n := by omega
  rw [e]
theorem rd_u32 {t fuel : Nat} {cs : List Value} {x : DataW H × List MemPlace} (ht : intB PP t .u32 = true) (h : Rd enc W fuel t cs x) : ∃ n : UInt32, cs = [.int .u32 (n.toNat : Int)] := by
  obtain ⟨n, rfl, _, hw⟩ := DataW.trod_int (intB_spec ht) h
  simp only [Lit.wf, IntKind.min, IntKind.max, IntKind.signed, IntKind.bits, Bool.and_eq_true] at hw
  refine ⟨UInt32.ofNat n.toNat, ?_⟩
  simp only [UInt32.toNat_ofNat']
  simp at hw
  have e : ((n.toNat % 2 ^ 32 : Nat) : Int) = n := by omega
  rw [e]
theorem rd_i64 {t fuel : Nat} {cs : List Value} {x : DataW H × List MemPlace} (ht : intB PP t .i64 = true) (h : Rd enc W fuel t cs x) : ∃ n : Int, cs = [.int .i64 n] ∧ -9223372036854775808 ≤ n ∧ n ≤ 9223372036854775807 := by
  obtain ⟨n, rfl, _, hw⟩ := DataW.trod_int (intB_spec ht) h
  simp only [Lit.wf, IntKind.min, IntKind.max, IntKind.signed, IntKind.bits, Bool.and_eq_true, decide_eq_true_eq] at hw
  refine ⟨n, rfl, ?_⟩
  simp at hw
  omega
theorem rd_str {t fuel : Nat} {cs : List Value} {x : DataW H × List MemPlace} (ht : strB PP t = true) (h : Rd enc W fuel t cs x) : ∃ s : ByteArray, cs = [.string s] ∧ s.size + 1 = bulk x.1 := by
  obtain ⟨s, rfl, rfl, _⟩ := DataW.trod_string (strB_spec ht) h
  refine ⟨s, rfl, ?_⟩
  simp only [bulk, Rows.uptoBulk]
  rw [show s.data.toList.length = s.size from bt_length s]
def booB (P : Program) (T : TypeId) : Bool := match P.underlying T with
  | some .bool => true
  | _ => false
theorem booB_spec {P : Program} {T : TypeId} (h : booB P T = true) : P.underlying T = some .bool := by
  unfold booB at h
  split at h
  · assumption
  · cases h
theorem rd_bool {t fuel : Nat} {cs : List Value} {x : DataW H × List MemPlace} (ht : booB PP t = true) (h : Rd enc W fuel t cs x) : ∃ b : Bool, cs = [.bool b] := by
  obtain ⟨b, rfl, _⟩ := DataW.trod_bool (booB_spec ht) h
  exact ⟨b, rfl⟩

def strF (P : Program) (t : TypeId) (ts : List TypeId) : Bool := match P.underlying t with
  | some (.struct fs) => fs.toList.map (fun f => ((f.type : Nat), f.offset, P.cellsOf f.type)) == (ts.mapIdx fun i t => (((t : Nat), i, 1) : Nat × Nat × Nat)) && P.cellsOf t == ts.length
  | _ => false
theorem rd_struct {t fuel : Nat} {ts : List TypeId} {cs : List Value} {x : DataW H × List MemPlace} (hB : strF PP t ts = true) (h : Rd enc W fuel t cs x) :
    ∃ (xs : List (DataW H × List MemPlace)) (n : Nat), x.1 = .agg (xs.map (·.1)) ∧ cs.length = ts.length ∧ xs.length = ts.length ∧
      ∀ (i : Nat) ft v y, ts[i]? = some ft → cs[i]? = some v → xs[i]? = some y → Rd enc W n ft [v] y := by
  unfold strF at hB
  split at hB
  · rename_i fs hfs
    simp only [Bool.and_eq_true, beq_iff_eq] at hB
    obtain ⟨hl, hc⟩ := hB
    obtain ⟨xs, n, _, rfl, hcl, hxl, hf⟩ := DataW.trod_struct hfs h
    have hsz : fs.size = ts.length := by have := congrArg List.length hl; simpa using this
    refine ⟨xs, n, rfl, by rw [hcl, hc], by rw [hxl, hsz], fun i ft v y hi hv hy => ?_⟩
    have hil : i < ts.length := (List.getElem?_eq_some_iff.1 hi).1
    have hfi := congrArg (fun l => l[i]?) hl
    simp only [List.getElem?_map, List.getElem?_mapIdx, hi, Option.map_some] at hfi
    obtain ⟨f, hfe, hft⟩ := Option.map_eq_some_iff.1 hfi
    simp only [Prod.mk.injEq] at hft
    obtain ⟨h1, h2, h3⟩ := hft
    have := hf i f (by simpa using hfe)
    rw [h2, h3, hy] at this
    have hcv : (cs.drop i).take 1 = [v] := by
      have hic : i < cs.length := (List.getElem?_eq_some_iff.1 hv).1
      rw [List.drop_eq_getElem_cons hic]
      simp only [List.take_succ_cons, List.take_zero]
      rw [(List.getElem?_eq_some_iff.1 hv).2]
    rw [hcv, h1] at this
    exact this
  · cases hB
theorem addr_spot {W : World} {a : Addr} {v : Value} (h : W.cell? a = some v) : a = ⟨a.block, a.off, none⟩ ∧ a.block < W.heap.size := by
  unfold World.cell? at h
  split at h
  · rename_i c _ _ hc
    split at h
    · cases h
    · rename_i hs
      refine ⟨?_, (Array.getElem?_eq_some_iff.1 hc).1⟩
      cases a with
      | mk b o s => cases s with
        | none => rfl
        | some s => simp at hs
  · cases h
theorem list_choose {β : Type} {p : Nat → β → Prop} : ∀ n : Nat, (∀ i, i < n → ∃ q, p i q) → ∃ l : List β, l.length = n ∧ ∀ (i : Nat) q, l[i]? = some q → p i q
  | 0, _ => ⟨[], rfl, fun i q h => by simp at h⟩
  | n + 1, h => by
    obtain ⟨l, hl, hp⟩ := list_choose n (fun i hi => h i (by omega))
    obtain ⟨q, hq⟩ := h n (by omega)
    refine ⟨l ++ [q], by simp [hl], fun i q' hi => ?_⟩
    by_cases hin : i < l.length
    · rw [List.getElem?_append_left hin] at hi
      exact hp i q' hi
    · rw [List.getElem?_append_right (by omega)] at hi
      have : i - l.length = 0 := by
        have := (List.getElem?_eq_some_iff.1 hi).1
        simp at this; omega
      rw [this] at hi
      simp at hi
      subst hi
      have : i = n := by omega
      subst this; exact hq
theorem rd_list {α : Type} {El : (Nat → Prop) → World → List (List Value) → α → Prop} {lens : List Nat} {B : DataW H → α → Prop} {t e fuel : Nat} {v : Value} {x : DataW H × List MemPlace} (ht : slcB PP t e = true) (hs : PP.cellsOf e = lens.sum) (hp : 0 < lens.sum)
    (hel : ∀ n cs y, Rd enc W n e cs y → ∃ segs z, cs = segs.flatten ∧ segs.map List.length = lens ∧ El (UW W) W segs z ∧ B y.1 z) (h : Rd enc W fuel t [v] x) :
    ∃ l : List α, LA El lens (UW W) W v l ∧ ((x.1 = .nil ∧ l = []) ∨ ∃ ds sp, x.1 = .slice ds sp ∧ All2 B ds l) := by
  rcases open_slice (slcB_spec ht) h with ⟨hv, rfl⟩ | ⟨a, len, cap, m, n, D, Pl, hv, _, hlc, hcm, hm, rfl, hx⟩
  · simp only [List.cons.injEq, and_true] at hv
    subst hv
    exact ⟨[], LA.nil, .inl ⟨rfl, rfl⟩⟩
  · simp only [List.cons.injEq, and_true] at hv
    subst hv
    simp only [if_true] at hm
    subst hm
    have each : ∀ i, i < len → ∃ q : List (List Value) × α, (∀ j u, q.1.flatten[j]? = some u → W.cell? ((a.add (i * lens.sum)).add j) = some u) ∧ q.1.map List.length = lens ∧ El (UW W) W q.1 q.2 ∧ B (D i) q.2 := by
      intro i hi
      obtain ⟨cs', h1, h2⟩ := hx i (by omega)
      obtain ⟨segs, z, hcs, hl, hE, hb⟩ := hel _ _ _ h2
      obtain ⟨_, hcl, hat⟩ := World.cells?_some h1
      rw [hs] at hat hcl
      refine ⟨(segs, z), fun j u hu => ?_, hl, hE, hb⟩
      have hj : j < segs.flatten.length := (List.getElem?_eq_some_iff.1 hu).1
      have hfl : segs.flatten.length = lens.sum := by rw [List.length_flatten, hl]
      rw [hat j (by omega), hcs]; exact hu
    obtain ⟨Q, hQl, hQ⟩ := list_choose len each
    have hq : ∀ i, (hi : i < len) → ∃ q, Q[i]? = some q ∧ (∀ j u, q.1.flatten[j]? = some u → W.cell? ((a.add (i * lens.sum)).add j) = some u) ∧ q.1.map List.length = lens ∧ El (UW W) W q.1 q.2 ∧ B (D i) q.2 := fun i hi => ⟨Q[i], List.getElem?_eq_getElem (by omega), hQ i _ (List.getElem?_eq_getElem (by omega))⟩
    refine ⟨Q.map (fun q => q.2), ?_, .inr ⟨_, _, rfl, ?_⟩⟩
    · refine ⟨some a, m, by simp [hQl], fun hne => ?_⟩
      have hlen : 0 < len := by
        cases len with
        | zero => exact absurd (by simpa using hQl) hne
        | succ k => omega
      obtain ⟨q0, _, h0, h0l, _⟩ := hq 0 hlen
      have hfl : q0.1.flatten.length = lens.sum := by rw [List.length_flatten, h0l]
      have hc0 := h0 0 _ (List.getElem?_eq_getElem (by omega))
      rw [Nat.zero_mul] at hc0
      have e00 : (a.add 0).add 0 = a := by
        cases a
        simp [Addr.add]
      rw [e00] at hc0
      obtain ⟨ea, hb⟩ := addr_spot hc0
      refine ⟨a.block, a.off, by rw [← ea], hb, fun i z hz => ?_⟩
      simp only [List.getElem?_map, Option.map_eq_some_iff] at hz
      obtain ⟨q, hqi, rfl⟩ := hz
      obtain ⟨h1, h2, h3, _⟩ := hQ i q hqi
      refine ⟨q.1, ⟨fun j u hu => ?_, h2⟩, h3⟩
      have := h1 j u hu
      rw [ea, addr_add, addr_add] at this
      exact this
    · refine ⟨by simp [hQl], fun i d z hd hz => ?_⟩
      have hil : i < len := by
        have := (List.getElem?_eq_some_iff.1 hd).1
        simpa using this
      simp only [List.getElem?_map, List.getElem?_range hil, Option.map_some, Option.some.injEq] at hd
      simp only [List.getElem?_map, Option.map_eq_some_iff] at hz
      obtain ⟨q, hqi, rfl⟩ := hz
      subst hd
      exact (hQ i q hqi).2.2.2
theorem mem_sum_le' {α : Type} {f : α → Nat} {l : List α} {a : α} (h : a ∈ l) : f a ≤ (l.map f).sum := by
  induction l with
  | nil => cases h
  | cons x xs ih =>
    simp only [List.map_cons, List.sum_cons]
    rcases List.mem_cons.1 h with rfl | h
    · omega
    · have := ih h; omega
theorem all2_bulk {α : Type} {B : DataW H → α → Prop} {f : α → Nat} (hB : ∀ d z, B d z → f z + 1 ≤ bulk d) : ∀ {ds : List (DataW H)} {l : List α}, All2 B ds l → (l.map f).sum + l.length ≤ Rows.uptoBulkAll ds
  | [], [], _ => by simp [Rows.uptoBulkAll]
  | [], z :: l, h => by have := h.1; simp at this
  | d :: ds, [], h => by have := h.1; simp at this
  | d :: ds, z :: l, h => by
    have h1 := hB d z (h.2 0 d z rfl rfl)
    have ih := all2_bulk hB (ds := ds) (l := l) ⟨by have := h.1; simpa using this, fun i a b ha hb => h.2 (i + 1) a b ha hb⟩
    simp only [List.map_cons, List.sum_cons, List.length_cons, Rows.uptoBulkAll] at ih ⊢
    simp only [bulk] at h1
    omega
theorem list_bulk {α : Type} {B : DataW H → α → Prop} {f : α → Nat} (hB : ∀ d z, B d z → f z + 1 ≤ bulk d) {d : DataW H} {l : List α} (h : (d = .nil ∧ l = []) ∨ ∃ ds sp, d = .slice ds sp ∧ All2 B ds l) : (l.map f).sum + l.length + 1 ≤ bulk d := by
  rcases h with ⟨rfl, rfl⟩ | ⟨ds, sp, rfl, h⟩
  · simp [bulk, Rows.uptoBulk]
  · have := all2_bulk hB h
    simp only [bulk, Rows.uptoBulk]
    omega
theorem all2_mem {α β : Type} {R : α → β → Prop} {l : List α} {r : List β} (h : All2 R l r) {b : β} (hb : b ∈ r) : ∃ a ∈ l, R a b := by
  obtain ⟨i, hi, rfl⟩ := List.mem_iff_getElem.1 hb
  have hil : i < l.length := by rw [h.1]; exact hi
  exact ⟨l[i], List.getElem_mem hil, h.2 i _ _ (List.getElem?_eq_getElem hil) (List.getElem?_eq_getElem hi)⟩
theorem list_mem {α : Type} {B : DataW H → α → Prop} {d : DataW H} {l : List α} (h : (d = .nil ∧ l = []) ∨ ∃ ds sp, d = .slice ds sp ∧ All2 B ds l) {z : α} (hz : z ∈ l) : ∃ dz, B dz z ∧ bulk dz ≤ bulk d := by
  rcases h with ⟨rfl, rfl⟩ | ⟨ds, sp, rfl, h⟩
  · cases hz
  · obtain ⟨a, ha, hb⟩ := all2_mem h hz
    refine ⟨a, hb, ?_⟩
    have := bulks.part_le ha
    simp only [bulk, Rows.uptoBulk]
    omega

def ByEl (_ : Nat → Prop) (_ : World) (segs : List (List Value)) (b : UInt8) : Prop := segs = [[bv b]]
theorem la_ba {U : Nat → Prop} {w : World} {v : Value} {l : List UInt8} (h : LA ByEl [1] U w v l) : BA U w v l := by
  obtain ⟨a, c, rfl, h⟩ := h
  refine ⟨a, c, rfl, fun hne => ?_⟩
  obtain ⟨b, o, rfl, hb, hr⟩ := h hne
  refine ⟨b, o, rfl, hb, fun j u hu => ?_⟩
  simp only [bvs, List.getElem?_map, Option.map_eq_some_iff] at hu
  obtain ⟨x, hx, rfl⟩ := hu
  obtain ⟨segs, hs, rfl⟩ := hr j x hx
  have := hs.c 0 rfl rfl
  simpa using this
theorem ce5 : PP.cellsOf 5 = 1 := by kernel_rfl
theorem ki5' : intB PP 5 .u8 = true := by kernel_rfl
theorem rd_bytes {t fuel : Nat} {v : Value} {x : DataW H × List MemPlace} (ht : slcB PP t 5 = true) (h : Rd enc W fuel t [v] x) : ∃ l : List UInt8, BA (UW W) W v l ∧ l.length + 1 ≤ bulk x.1 := by
  obtain ⟨l, hl, hd⟩ := rd_list (El := ByEl) (lens := [1]) (B := fun _ _ => True) ht ce5 (by decide) (fun n cs y hy => by
    obtain ⟨b, rfl⟩ := rd_u8 ki5' hy
    exact ⟨[[bv b]], b, rfl, rfl, rfl, trivial⟩) h
  refine ⟨l, la_ba hl, ?_⟩
  rcases hd with ⟨hd, rfl⟩ | ⟨ds, sp, hd, ha⟩
  · simp [bulk, hd, Rows.uptoBulk]
  · rw [hd]
    have := bulks.slice_le ds sp
    have := ha.1
    simp only [bulk] at *
    omega
theorem ce9 : PP.cellsOf 9 = 1 := by kernel_rfl
theorem rd_texts {t fuel : Nat} {v : Value} {x : DataW H × List MemPlace} (ht : slcB PP t 9 = true) (h : Rd enc W fuel t [v] x) : ∃ l : List ByteArray, LA TextEl [1] (UW W) W v l ∧ (l.map (·.size)).sum + l.length + 1 ≤ bulk x.1 := by
  obtain ⟨l, hl, hd⟩ := rd_list (El := TextEl) (lens := [1]) (B := fun d z => z.size + 1 ≤ bulk d) ht ce9 (by decide) (fun n cs y hy => by
    obtain ⟨s, rfl, hs⟩ := rd_str st9 hy
    exact ⟨[[.string s]], s, rfl, rfl, rfl, by omega⟩) h
  exact ⟨l, hl, list_bulk (f := fun s : ByteArray => s.size) (fun d z h => h) hd⟩

theorem sf145 : strF PP 145 [22, 37] = true := by kernel_rfl
theorem sf58 : strF PP 58 [9, 22, 22] = true := by kernel_rfl
theorem sf24 : strF PP 24 [22, 4, 22, 4, 4, 4, 4, 4, 4, 22] = true := by kernel_rfl
theorem sf112 : strF PP 112 [9, 22, 22, 61, 22, 3, 37, 9, 9, 61, 61, 61, 61, 61, 62, 110] = true := by kernel_rfl
theorem bo4 : booB PP 4 = true := by kernel_rfl
theorem i22 : intB PP 22 .u16 = true := by kernel_rfl
theorem i61 : intB PP 61 .u32 = true := by kernel_rfl
theorem i3 : intB PP 3 .i64 = true := by kernel_rfl
theorem s37 : slcB PP 37 5 = true := by kernel_rfl
theorem s62 : slcB PP 62 9 = true := by kernel_rfl
theorem s110 : slcB PP 110 145 = true := by kernel_rfl
theorem s25 : slcB PP 25 58 = true := by kernel_rfl
theorem s26 : slcB PP 26 112 = true := by kernel_rfl
theorem t9 : strB PP 9 = true := by kernel_rfl
theorem ce145 : PP.cellsOf 145 = lPair.sum := by kernel_rfl
theorem ce58 : PP.cellsOf 58 = lAsk.sum := by kernel_rfl
theorem ce112 : PP.cellsOf 112 = lRec.sum := by kernel_rfl
theorem rd_pair {n : Nat} {cs : List Value} {y : DataW H × List MemPlace} (h : Rd enc W n 145 cs y) : ∃ segs z, cs = segs.flatten ∧ segs.map List.length = lPair ∧ PairEl (UW W) W segs z ∧ z.data.length + 1 ≤ bulk y.1 := by
  obtain ⟨xs, k, hx, hc, hl, hf⟩ := rd_struct sf145 h
  match cs, hc, xs, hl with
  | [v0, v1], _, [x0, x1], _ =>
    obtain ⟨key, e0⟩ := rd_u16 i22 (hf 0 _ v0 x0 rfl rfl rfl)
    obtain ⟨d, hd, hb⟩ := rd_bytes s37 (hf 1 _ v1 x1 rfl rfl rfl)
    simp only [List.cons.injEq, and_true] at e0
    subst e0
    refine ⟨pairSegs ⟨key, d⟩ v1, ⟨key, d⟩, rfl, rfl, ⟨v1, rfl, hd⟩, ?_⟩
    rw [hx]
    simp only [bulk, Rows.uptoBulk, List.map_cons, List.map_nil, Rows.uptoBulkAll] at hb ⊢
    omega
theorem rd_ask {n : Nat} {cs : List Value} {y : DataW H × List MemPlace} (h : Rd enc W n 58 cs y) : ∃ segs z, cs = segs.flatten ∧ segs.map List.length = lAsk ∧ AskEl (UW W) W segs z ∧ z.name.size + 1 ≤ bulk y.1 := by
  obtain ⟨xs, k, hx, hc, hl, hf⟩ := rd_struct sf58 h
  match cs, hc, xs, hl with
  | [v0, v1, v2], _, [x0, x1, x2], _ =>
    obtain ⟨s, e0, hb⟩ := rd_str t9 (hf 0 _ v0 x0 rfl rfl rfl)
    obtain ⟨a, e1⟩ := rd_u16 i22 (hf 1 _ v1 x1 rfl rfl rfl)
    obtain ⟨b, e2⟩ := rd_u16 i22 (hf 2 _ v2 x2 rfl rfl rfl)
    simp only [List.cons.injEq, and_true] at e0 e1 e2
    subst e0 e1 e2
    refine ⟨askSegs ⟨s, a, b⟩, ⟨s, a, b⟩, rfl, rfl, rfl, ?_⟩
    rw [hx]
    simp only [bulk, Rows.uptoBulk, List.map_cons, List.map_nil, Rows.uptoBulkAll] at hb ⊢
    omega
theorem rd_head {n : Nat} {cs : List Value} {y : DataW H × List MemPlace} (h : Rd enc W n 24 cs y) : ∃ z : HeadD, cs = (headSegs z).flatten := by
  obtain ⟨xs, k, hx, hc, hl, hf⟩ := rd_struct sf24 h
  match cs, hc, xs, hl with
  | [v0, v1, v2, v3, v4, v5, v6, v7, v8, v9], _, [x0, x1, x2, x3, x4, x5, x6, x7, x8, x9], _ =>
    obtain ⟨a0, e0⟩ := rd_u16 i22 (hf 0 _ v0 x0 rfl rfl rfl)
    obtain ⟨a1, e1⟩ := rd_bool bo4 (hf 1 _ v1 x1 rfl rfl rfl)
    obtain ⟨a2, e2⟩ := rd_u16 i22 (hf 2 _ v2 x2 rfl rfl rfl)
    obtain ⟨a3, e3⟩ := rd_bool bo4 (hf 3 _ v3 x3 rfl rfl rfl)
    obtain ⟨a4, e4⟩ := rd_bool bo4 (hf 4 _ v4 x4 rfl rfl rfl)
    obtain ⟨a5, e5⟩ := rd_bool bo4 (hf 5 _ v5 x5 rfl rfl rfl)
    obtain ⟨a6, e6⟩ := rd_bool bo4 (hf 6 _ v6 x6 rfl rfl rfl)
    obtain ⟨a7, e7⟩ := rd_bool bo4 (hf 7 _ v7 x7 rfl rfl rfl)
    obtain ⟨a8, e8⟩ := rd_bool bo4 (hf 8 _ v8 x8 rfl rfl rfl)
    obtain ⟨a9, e9⟩ := rd_u16 i22 (hf 9 _ v9 x9 rfl rfl rfl)
    simp only [List.cons.injEq, and_true] at e0 e1 e2 e3 e4 e5 e6 e7 e8 e9
    subst e0 e1 e2 e3 e4 e5 e6 e7 e8 e9
    exact ⟨⟨a0, a1, a2, a3, a4, a5, a6, a7, a8, a9⟩, rfl⟩
theorem rd_rec {n : Nat} {cs : List Value} {y : DataW H × List MemPlace} (h : Rd enc W n 112 cs y) : ∃ segs z, cs = segs.flatten ∧ segs.map List.length = lRec ∧ RecEl (UW W) W segs z ∧ (bulk y.1 ≤ 1048576 → z.fits) := by
  obtain ⟨xs, k, hx, hc, hl, hf⟩ := rd_struct sf112 h
  match cs, hc, xs, hl with
  | [v0, v1, v2, v3, v4, v5, v6, v7, v8, v9, v10, v11, v12, v13, v14, v15], _, [x0, x1, x2, x3, x4, x5, x6, x7, x8, x9, x10, x11, x12, x13, x14, x15], _ =>
    obtain ⟨a0, e0, b0⟩ := rd_str t9 (hf 0 _ v0 x0 rfl rfl rfl)
    obtain ⟨a1, e1⟩ := rd_u16 i22 (hf 1 _ v1 x1 rfl rfl rfl)
    obtain ⟨a2, e2⟩ := rd_u16 i22 (hf 2 _ v2 x2 rfl rfl rfl)
    obtain ⟨a3, e3⟩ := rd_u32 i61 (hf 3 _ v3 x3 rfl rfl rfl)
    obtain ⟨a4, e4⟩ := rd_u16 i22 (hf 4 _ v4 x4 rfl rfl rfl)
    obtain ⟨a5, e5, k1, k2⟩ := rd_i64 i3 (hf 5 _ v5 x5 rfl rfl rfl)
    obtain ⟨a6, hd, b6⟩ := rd_bytes s37 (hf 6 _ v6 x6 rfl rfl rfl)
    obtain ⟨a7, e7, b7⟩ := rd_str t9 (hf 7 _ v7 x7 rfl rfl rfl)
    obtain ⟨a8, e8, b8⟩ := rd_str t9 (hf 8 _ v8 x8 rfl rfl rfl)
    obtain ⟨a9, e9⟩ := rd_u32 i61 (hf 9 _ v9 x9 rfl rfl rfl)
    obtain ⟨a10, e10⟩ := rd_u32 i61 (hf 10 _ v10 x10 rfl rfl rfl)
    obtain ⟨a11, e11⟩ := rd_u32 i61 (hf 11 _ v11 x11 rfl rfl rfl)
    obtain ⟨a12, e12⟩ := rd_u32 i61 (hf 12 _ v12 x12 rfl rfl rfl)
    obtain ⟨a13, e13⟩ := rd_u32 i61 (hf 13 _ v13 x13 rfl rfl rfl)
    obtain ⟨a14, ht, b14⟩ := rd_texts s62 (hf 14 _ v14 x14 rfl rfl rfl)
    obtain ⟨a15, hp, b15⟩ := rd_list (El := PairEl) (lens := lPair) (B := fun d z => z.data.length + 1 ≤ bulk d) s110 ce145 (by decide) (fun n cs y hy => rd_pair hy) (hf 15 _ v15 x15 rfl rfl rfl)
    have b15' := list_bulk (f := fun p : PairD => p.data.length) (fun d z h => h) b15
    simp only [List.cons.injEq, and_true] at e0 e1 e2 e3 e4 e5 e7 e8 e9 e10 e11 e12 e13
    subst e0 e1 e2 e3 e4 e5 e7 e8 e9 e10 e11 e12 e13
    refine ⟨recSegs ⟨a0, a1, a2, a3, a4, a5, a6, a7, a8, a9, a10, a11, a12, a13, a14, a15⟩ v6 v14 v15, _, rfl, rfl, ⟨v6, v14, v15, rfl, hd, ht, hp⟩, fun hb => ?_⟩
    rw [hx] at hb
    simp only [bulk, Rows.uptoBulk, List.map_cons, List.map_nil, Rows.uptoBulkAll] at hb b0 b6 b7 b8 b14 b15'
    have m1 : ∀ s ∈ a14, s.size ≤ 1048576 := fun s hs => by
      have := mem_sum_le' (f := fun s : ByteArray => s.size) hs
      omega
    have m2 : ∀ p ∈ a15, p.data.length ≤ 1048576 := fun p hp => by
      have := mem_sum_le' (f := fun p : PairD => p.data.length) hp
      omega
    show a0.size ≤ 1048576 ∧ a6.length ≤ 1048576 ∧ a7.size ≤ 1048576 ∧ a8.size ≤ 1048576 ∧ a14.length ≤ 1048576 ∧ _ ∧ (a14.map (·.size)).sum ≤ 1048576 ∧ a15.length ≤ 1048576 ∧ _ ∧ (a15.map (·.data.length)).sum ≤ 1048576 ∧ _
    exact ⟨by omega, by omega, by omega, by omega, by omega, m1, by omega, by omega, m2, by omega, k1, k2⟩
def msgF (P : Program) (t : TypeId) : Bool := match P.underlying t with
  | some (.struct fs) => fs.toList.map (fun f => ((f.type : Nat), f.offset, P.cellsOf f.type)) == [(24, 0, 10), (25, 10, 1), (26, 11, 1), (26, 12, 1), (26, 13, 1)] && P.cellsOf t == 14
  | _ => false
theorem mf28 : msgF PP 28 = true := by kernel_rfl
theorem rd_msg {n : Nat} {cs : List Value} {y : DataW H × List MemPlace} (h : Rd enc W n 28 cs y) (hb : bulk y.1 ≤ 1048576) :
    ∃ (m : MsgD) (va v1 v2 v3 : Value), cs = (msgSegs m.head va v1 v2 v3).flatten ∧ LA AskEl lAsk (UW W) W va m.asks ∧ LA RecEl lRec (UW W) W v1 m.one ∧ LA RecEl lRec (UW W) W v2 m.two ∧ LA RecEl lRec (UW W) W v3 m.three ∧ m.fits := by
  have hB := mf28
  unfold msgF at hB
  split at hB
  · rename_i fs hfs
    simp only [Bool.and_eq_true, beq_iff_eq] at hB
    obtain ⟨hl, hc⟩ := hB
    obtain ⟨xs, k, _, rfl, hcl, hxl, hf⟩ := DataW.trod_struct hfs h
    have hsz : fs.size = 5 := by have := congrArg List.length hl; simpa using this
    rw [hc] at hcl
    rw [hsz] at hxl
    have key : ∀ (i : Nat) (t o q : Nat) (x : DataW H × List MemPlace), ([(24, 0, 10), (25, 10, 1), (26, 11, 1), (26, 12, 1), (26, 13, 1)] : List (Nat × Nat × Nat))[i]? = some (t, o, q) → xs[i]? = some x → Rd enc W k t ((cs.drop o).take q) x := by
      intro i t o q x hi hx
      have hfi := congrArg (fun l => l[i]?) hl
      simp only [List.getElem?_map] at hfi
      rw [hi] at hfi
      obtain ⟨f, hfe, hft⟩ := Option.map_eq_some_iff.1 hfi
      simp only [Prod.mk.injEq] at hft
      obtain ⟨h1, h2, h3⟩ := hft
      have := hf i f (by simpa using hfe)
      rw [h2, h3, hx, h1] at this
      exact this
    match cs, hcl, xs, hxl with
    | [c0, c1, c2, c3, c4, c5, c6, c7, c8, c9, va, v1, v2, v3], _, [x0, x1, x2, x3, x4], _ =>
      obtain ⟨hd, eh⟩ := rd_head (key 0 _ _ _ x0 rfl rfl)
      obtain ⟨l0, ha, d0⟩ := rd_list (El := AskEl) (lens := lAsk) (B := fun d z => z.name.size + 1 ≤ bulk d) s25 ce58 (by decide) (fun n cs y hy => rd_ask hy) (key 1 _ _ _ x1 rfl rfl)
      obtain ⟨l1, h1, d1⟩ := rd_list (El := RecEl) (lens := lRec) (B := fun d z => bulk d ≤ 1048576 → z.fits) s26 ce112 (by decide) (fun n cs y hy => rd_rec hy) (key 2 _ _ _ x2 rfl rfl)
      obtain ⟨l2, h2, d2⟩ := rd_list (El := RecEl) (lens := lRec) (B := fun d z => bulk d ≤ 1048576 → z.fits) s26 ce112 (by decide) (fun n cs y hy => rd_rec hy) (key 3 _ _ _ x3 rfl rfl)
      obtain ⟨l3, h3, d3⟩ := rd_list (El := RecEl) (lens := lRec) (B := fun d z => bulk d ≤ 1048576 → z.fits) s26 ce112 (by decide) (fun n cs y hy => rd_rec hy) (key 4 _ _ _ x4 rfl rfl)
      simp only [bulk, Rows.uptoBulk, List.map_cons, List.map_nil, Rows.uptoBulkAll] at hb
      have b0 := list_bulk (f := fun a : AskD => a.name.size) (fun d z h => h) d0
      have len : ∀ {l : List RecD} {d : DataW H}, ((d = .nil ∧ l = []) ∨ ∃ ds sp, d = .slice ds sp ∧ All2 (fun d z => bulk d ≤ 1048576 → RecD.fits z) ds l) → bulk d ≤ 1048576 → l.length ≤ 1048576 ∧ ∀ r ∈ l, r.fits := by
        intro l d hd hbd
        refine ⟨?_, fun r hr => ?_⟩
        · rcases hd with ⟨_, rfl⟩ | ⟨ds, sp, rfl, ha⟩
          · simp
          · have := bulks.slice_le ds sp
            have := ha.1
            simp only [bulk] at hbd
            omega
        · obtain ⟨dz, hz, hle⟩ := list_mem hd hr
          exact hz (by omega)
      have f1 := len d1 (by simp only [bulk]; omega)
      have f2 := len d2 (by simp only [bulk]; omega)
      have f3 := len d3 (by simp only [bulk]; omega)
      refine ⟨⟨hd, l0, l1, l2, l3⟩, va, v1, v2, v3, ?_, ha, h1, h2, h3, ?_⟩
      · have eh' : [c0, c1, c2, c3, c4, c5, c6, c7, c8, c9] = (headSegs hd).flatten := eh
        have e2 : [c0, c1, c2, c3, c4, c5, c6, c7, c8, c9, va, v1, v2, v3] = [c0, c1, c2, c3, c4, c5, c6, c7, c8, c9] ++ [va, v1, v2, v3] := rfl
        rw [e2, eh']; rfl
      · simp only [bulk] at b0
        refine ⟨by show l0.length ≤ _; omega, fun a ha => ?_, f1.1, f2.1, f3.1, f1.2, f2.2, f3.2⟩
        have ha : a ∈ l0 := ha
        have := mem_sum_le' (f := fun a : AskD => a.name.size) ha
        show a.name.size ≤ _
        omega
  · cases hB
end
end Go.Proofs.YtifnodoffgfpbaaGreatDoor

namespace Go.Proofs.YtifnodoffgfpbaaGreatDoor
open Go Go.ChangeShapes Go.WideShapes Go.RowKit

theorem laidOut : laidOutB PP = true := by kernel_rfl
theorem Fr.below {W W' : World} (h : Fr0 W W') : Below W.heap.size W W' := ⟨h.os, h.tape, h.output, h.size, fun k hk => h.block k hk id⟩

section
variable {H : Type} {enc : TypeId × Value → H}
def parsB (P : Program) (ts : List TypeId) : Bool := ts.all fun t => P.readableRec t && decide (t < P.types.size)
def varsB (P : Program) (ns : List String) : Bool := ns.all fun n => match P.globalNamed n with
  | some g => match (P.globals[g]?).map (·.type) with
    | some t => P.readableRec t && decide (t < P.types.size)
    | none => false
  | none => false
theorem all_stay {P : Program} (hlo : laidOutB P = true) {W W' : World} (hb : Below W.heap.size W W') {sp : Nat → Bool} : ∀ {ts : List TypeId} {vs : List Value} {ds : List (DataW H)} {p : List MemPlace}, parsB P ts = true →
    DataW.TrodAll enc P W 0 (fun _ => true) true ts vs ds p → (∀ x ∈ p, x.block < W.heap.size) → (∀ x ∈ p, sp x.block = true) → DataW.TrodAll enc P W' 0 sp true ts vs ds p
  | [], _, _, _, _, h, _, _ => by
    obtain ⟨rfl, rfl, rfl⟩ := trodAll_nil h
    rfl
  | t :: ts, _, _, _, hB, h, hl, hs => by
    obtain ⟨v, vs1, d, ds1, a, b, rfl, rfl, rfl, h1, h2⟩ := trodAll_cons h
    simp only [parsB, List.all_cons, Bool.and_eq_true, decide_eq_true_eq] at hB
    exact ⟨a, b, WideElems.Trod_stays hlo hB.1.1 hB.1.2 h1 (fun x hx => hb.same (hl x (List.mem_append_left _ hx))) (fun x hx => hs x (List.mem_append_left _ hx)),
      all_stay hlo hb (by simpa [parsB] using hB.2) h2 (fun x hx => hl x (List.mem_append_right _ hx)) (fun x hx => hs x (List.mem_append_right _ hx)), rfl⟩
theorem var_stays {P : Program} {W W' : World} (hb : Below W.heap.size W W') {n : String} {cs : Array Value} (h : W.var? P n = some cs) : W'.var? P n = some cs := by
  unfold World.var? at h ⊢
  cases hg : P.globalNamed n with
  | none => rw [hg] at h; cases h
  | some g =>
    rw [hg] at h
    simp only [Option.bind_some] at h ⊢
    have hlt : g < W.heap.size := by
      cases hgo : W.heap[g]? with
      | none => rw [hgo] at h; cases h
      | some o => exact (Array.getElem?_eq_some_iff.1 hgo).1
    rw [hb.block g hlt]
    exact h
theorem vars_stay {P : Program} (hlo : laidOutB P = true) {W W' : World} (hb : Below W.heap.size W W') {sp : Nat → Bool} : ∀ {ns : List String} {gs : List (DataW H)} {p : List MemPlace}, varsB P ns = true →
    DataW.TrodVars enc P W (fun _ => true) ns gs p → (∀ x ∈ p, x.block < W.heap.size) → (∀ x ∈ p, sp x.block = true) → DataW.TrodVars enc P W' sp ns gs p
  | [], [], _, _, h, _, _ => h
  | [], _ :: _, _, _, h, _, _ => by simp [DataW.TrodVars] at h
  | _ :: _, [], _, _, h, _, _ => by simp [DataW.TrodVars] at h
  | n :: ns, d :: gs, _, hB, h, hl, hs => by
    obtain ⟨g, t, cs, fuel, p, q, h1, h2, h3, h4, h5, rfl⟩ := h
    simp only [varsB, List.all_cons, h1, h2, Bool.and_eq_true, decide_eq_true_eq] at hB
    have hl1 : ∀ x ∈ p, x.block < W.heap.size := fun x hx => hl x (List.mem_append_left _ (List.mem_append_right _ hx))
    have hs1 : ∀ x ∈ p, sp x.block = true := fun x hx => hs x (List.mem_append_left _ (List.mem_append_right _ hx))
    refine ⟨g, t, cs, fuel, p, q, h1, h2, var_stays hb h3, ?_, vars_stay hlo hb (by simpa [varsB] using hB.2) h5 (fun x hx => hl x (List.mem_append_right _ hx)) (fun x hx => hs x (List.mem_append_right _ hx)), rfl⟩
    exact DataW.trod_stays (kids_book hlo hB.1.1) (book_sized hB.1.1) (fun h => by cases h) ⟨hB.1.2, book_self t⟩ h4 (fun x hx => hb.same (hl1 x hx)) hs1
theorem all_len {P : Program} {W : World} {base : Nat} {sp : Nat → Bool} {held : Bool} : ∀ {ts : List TypeId} {vs : List Value} {ds : List (DataW H)} {p : List MemPlace}, DataW.TrodAll enc P W base sp held ts vs ds p → ds.length = ts.length ∧ vs.length = ts.length
  | [], _, _, _, h => by
    obtain ⟨rfl, rfl, rfl⟩ := trodAll_nil h
    exact ⟨rfl, rfl⟩
  | t :: ts, _, _, _, h => by
    obtain ⟨v, vs1, d, ds1, a, b, rfl, rfl, rfl, h1, h2⟩ := trodAll_cons h
    have := all_len h2
    simp [this]
theorem vars_len {P : Program} {W : World} {sp : Nat → Bool} : ∀ {ns : List String} {gs : List (DataW H)} {p : List MemPlace}, DataW.TrodVars enc P W sp ns gs p → gs.length = ns.length
  | [], [], _, _ => rfl
  | [], _ :: _, _, h => by simp [DataW.TrodVars] at h
  | _ :: _, [], _, h => by simp [DataW.TrodVars] at h
  | n :: ns, d :: gs, _, h => by
    obtain ⟨g, t, cs, fuel, p, q, h1, h2, h3, h4, h5, rfl⟩ := h
    simp [vars_len h5]

theorem un4 : PP.underlying 4 = some .bool := by kernel_rfl
theorem post_law {fn : Func} {s : ChangeSpec} (hp : parsB PP fn.params.toList = true) (hvs : varsB PP s.vars = true) (hr : fn.resultTypes = #[4])
    (hfn : ∀ ds gs : List (DataW H), ds.length = fn.params.toList.length → gs.length = s.vars.length → s.fn H (ds ++ gs) = { results := [.lit (.bool true)], args := ds, vars := gs })
    {W W' : World} {args : Array Value} {ds gs : List (DataW H)} {before : List MemPlace} (hW : DataW.Whole enc PP fn.params.toList s.vars false W args.toList ds gs before) (hF : Fr0 W W') :
    s.post enc PP fn false true false false W args (.bool true) W' := by
  have hb := hF.below
  have hlt : ∀ p ∈ before, p.block < W.heap.size := fun p hp => hW.lt p hp
  have hold : ∀ p ∈ before, (fun b => decide (b < W.heap.size)) p.block = true := fun p hp => by simpa using hlt p hp
  have hW' := hW
  obtain ⟨pa, pv, hA, hV, rfl, hz, hn⟩ := hW
  have e := hfn ds gs (all_len hA).1 (vars_len hV)
  have la : ∀ x ∈ pa, x.block < W.heap.size := fun x hx => hlt x (List.mem_append_left _ hx)
  have lv : ∀ x ∈ pv, x.block < W.heap.size := fun x hx => hlt x (List.mem_append_right _ hx)
  have hres : ∀ (b : Nat) (sp : Nat → Bool) (hd : Bool), DataW.TrodAll enc PP W' b sp hd fn.resultTypes.toList ((Value.bool true).resultList fn.resultTypes.size) (s.fn H (ds ++ gs)).results [] := fun b sp hd => by
    rw [e, hr]
    exact trodAll_cons_mk (shut_bool un4 _) trodAll_mk0
  refine ⟨ds, gs, pa ++ pv, [], pa, pv, hW', hres _ _ _, ?_, ?_, World.keptBut_mono (fun p hp => ⟨hp, ?_⟩) (hb.frame (· ∈ pa ++ pv)), fun h => by cases h⟩
  · rw [e]
    exact all_stay laidOut hb hp hA la (fun x hx => by simpa using la x hx)
  · rw [e]
    exact vars_stay laidOut hb hvs hV lv (fun x hx => by simpa using lv x hx)
  · exact .inr (List.mem_append.1 hp)
end

end Go.Proofs.YtifnodoffgfpbaaGreatDoor

namespace Go.Proofs.YtifnodoffgfpbaaGreatDoor
open Go
theorem c53 {w : World} {x : Nat} (_hx : x < 65536) :
  Ret PP 53 [.int .u16 x] w (New w 2 (be16 x)) := by
 have hf : Fr (fun _ => False) w w := Fr.refl _ _
 refine ret_of Tryz.func53 rfl rfl rfl [(0, _)] rfl ?_
 refine sreg (sA rfl (send (fbg 0 rfl fun _ => sreg (sM rfl (sv (xshr (b := 8) (by decide) rfl rfl) (sv (xconv hs22 ki5 rfl (wu8m _)) (sM rfl (sv (xconv hs22 ki5 rfl (wu8m _)) (svK (xslit (bvs (be16 x)) sl37 in5 rfl (by decide) rfl rfl rfl rfl (by decide) (by simp [be16, bvs, bv, Value.cells]) (bvs_one _)) ?_)))))))))
 rintro _ w2 ⟨b8, rfl, m3, h8, e8, s8, r8⟩
 have hf := hf.s m3
 refine sA rfl (send (fbg 2 rfl fun _ => wp_ret (rp1 rfl rfl ?_)))
 exact ⟨_, _, _, rfl, r8, hf, by omega, by omega⟩
theorem c21 {w : World} {b o m c : Nat} {vs : List Value} {bss : List (List UInt8)} (hr : w.rangeAt b o vs) (hb : b < w.heap.size) (hm : vs.length = m) {U : Nat → Prop} (hU : ∀ k, U k → k < w.heap.size) (hv : All2 (BA U w) vs bss) (hl : bss.flatten.length < 1000000000) (hm2 : m < 1000000) :
  Ret PP 21 [.slice (some ⟨b, o, none⟩) m c] w (New w bss.flatten.length bss.flatten) := by
 have hf : Fr (fun _ => False) w w := Fr.refl _ _
 refine ret_of Tryz.func21 rfl rfl rfl [(0, _)] rfl ?_
 refine sreg (sA rfl (send (fbg 0 rfl fun _ => sreg (svK (xslit (bvs []) sl37 in5 rfl (by decide) rfl rfl rfl rfl (by decide) rfl (bvs_one _)) ?_))))
 rintro _ w2 ⟨b6, rfl, m3, h6, e6, s6, r6⟩
 refine sA rfl (send ((wp_seq (sreg (sM rfl (sv (xlen sl105 rfl) (sM rfl (send (feg 3 7 8 9 rfl fun _ => wp_block (lp [(7, _), (8, _)] (fun (x : Nat × Value × Nat) => match x with | (k, v, g) => [(3, v), (9, .int .i64 (k : Int))]) (fun (x : Nat × Value × Nat) wx => match x with | (k, v, g) => Fr (fun k => k = b6) w2 wx ∧ (k ≤ m) ∧ (BR wx v g (bss.take k).flatten.length (bss.take k).flatten) ∧ (w.heap.size ≤ g) ∧ (g < wx.heap.size) ∧ (g = b6 ∨ w2.heap.size ≤ g)) (fun (x : Nat × Value × Nat) => match x with | (k, v, g) => m - k) (0, _, b6) ⟨rfl, rfl, rfl, rfl, trivial⟩ ⟨Fr.refl _ _, Nat.zero_le _, r6, (by omega), (by omega), (.inl rfl)⟩ ?_))))))))))
 rintro ⟨k, v, g⟩ _ w5 ⟨hL4, hk, hv3, hg, hg2, hg3⟩
 refine feg 3 7 8 9 rfl fun _ => ?_
 have z6 := hL4.size
 have hf := (hf.s m3).t hL4 (by omega)
 refine sreg (svP (xlss rfl rfl) (fun hc10 => ?_) (fun hc10 => ?_))
 ·
  refine send ((wp_seq (cyes rfl (wp_skip (nThen (feg 3 7 8 9 rfl fun _ => wp_seq (wp_block ?_)))))))
  obtain ⟨vk, bk, hvk, hbk, hba⟩ := hv.get (k := k) (by have := hv.1; omega)
  have hle := flat_take_le hbk
  have hr := rng_fr (rng_fr hr m3 (by omega) id) hL4 (by omega) (nE (by omega))
  have hba := hba.keep hU hf nF
  refine sreg (sv (xidx1 sl105 sz37 rfl rfl rfl (by omega)) (sv (xld on37 rfl (hr k vk hvk)) (sA rfl (send (ffg 3 5 7 8 9 rfl fun _ => lreg (sM rfl (sM rfl (svK (xapp sl37 in5 rfl (by decide) rfl rfl hv3 (hba.src sl37) (by simp only [maxLen]; omega) (by omega)) ?_))))))))
  rintro v15 w7 ⟨g15, r15, m8, a15, l15⟩
  have z9 := m8.size
  have hL4 := hL4.step m8 (fun k hk hS => by have hS : k = g := hS; show k = b6; omega)
  refine sA rfl (lend (nBlock (nThen (feg 3 7 8 9 rfl fun _ => lreg (sv (xadd rfl rfl (w64 (by omega) (by omega))) (sM rfl (lend (nThen ?_))))))))
  refine ⟨(k + 1, v15, g15), _, env_okl ⟨rfl, rfl, rfl, rfl, trivial⟩, ⟨hL4, (by omega), (by rw [take_snoc hbk]; simpa [BR, bvs_app] using r15), (by omega), (l15 (by omega)), (by omega)⟩, ?_⟩
  show m - (k + 1) < m - k; omega
 refine send ((wp_seq (cno rfl (wp_exit (eThen (eThen (eHit (nThen ((sreg (sM rfl (sA rfl (send (fbg 2 rfl fun _ => wp_ret (rp1 rfl rfl ?_)))))))))))))))
 have e : bss.take k = bss := List.take_of_length_le (by rw [← hv.1]; omega)
 rw [e] at hv3
 obtain ⟨p, q, rfl, -⟩ := Rw.form hv3
 exact ⟨_, _, _, rfl, hv3, hf, hg, hg2⟩
end Go.Proofs.YtifnodoffgfpbaaGreatDoor

namespace Go.Proofs.YtifnodoffgfpbaaGreatDoor
open Go

theorem ofInt_nat (n x : Nat) : BitVec.ofInt n (x : Int) = BitVec.ofNat n x := by simp
theorem wu16n {c : Int} (n : Nat) (h : c % 65536 = (n : Int)) : IntKind.u16.wrap c = (n : Int) := by rw [wu16m, h]
theorem wu8n {c : Int} (n : Nat) (h : c % 256 = (n : Int)) : IntKind.u8.wrap c = (n : Int) := by rw [wu8m, h]
theorem wu32n {c : Int} (n : Nat) (h : c % 4294967296 = (n : Int)) : IntKind.u32.wrap c = (n : Int) := by rw [wu32m, h]
theorem u16lt (x : UInt16) : x.toNat < 65536 := x.toNat_lt
theorem u32lt (x : UInt32) : x.toNat < 4294967296 := x.toNat_lt
theorem u8lt (x : UInt8) : x.toNat < 256 := x.toNat_lt

theorem bits_or16 (a b : UInt16) : bits .or .u16 (a.toNat : Int) (b.toNat : Int) = ((a ||| b).toNat : Int) := by
  show IntKind.u16.wrap ((BitVec.ofInt 16 (a.toNat : Int) ||| BitVec.ofInt 16 (b.toNat : Int)).toNat : Int) = _
  refine wu16n _ ?_
  simp only [ofInt_nat, BitVec.toNat_or, BitVec.toNat_ofNat]
  rw [Nat.mod_eq_of_lt (u16lt a), Nat.mod_eq_of_lt (u16lt b), ← UInt16.toNat_or]
  have := u16lt (a ||| b)
  omega
section
variable {P : Program} {n : Nat} {l : List (Nat × Value)} {w : World} {ty : TypeId} {x y : Operand}
theorem xor16 {T U : TypeId} {a b : UInt16} (hx : ev n l x = some (.int .u16 (a.toNat : Int))) (hy : ev n l y = some (.int .u16 (b.toNat : Int))) : Ex P n l (.binOp .or T x y U) ty w (.int .u16 ((a ||| b).toNat : Int)) w :=
  xbin hx hy rfl (by rw [binOp_or, intBits_or, bits_or16]; rfl)
theorem xshl {T U : TypeId} {k j : IntKind} {a c : Int} {b : Nat} (hb : b ≤ k.bits) (hx : ev n l x = some (.int k a)) (hy : ev n l y = some (.int j b)) (hw : k.wrap (a * 2 ^ b) = c) :
    Ex P n l (.binOp .shl T x y U) ty w (.int k c) w :=
  xbin hx hy rfl (by
    have : min b k.bits = b := by omega
    simp only [binOp, Op.shift]
    rw [if_neg (by omega)]
    simp only [Int.toNat_natCast, this, Sem.run_pure, hw])
theorem shl16 (a : UInt16) (b : UInt16) (hb : b.toNat < 16) : IntKind.u16.wrap ((a.toNat : Int) * 2 ^ b.toNat) = ((a <<< b).toNat : Int) := by
  refine wu16n _ ?_
  rw [UInt16.toNat_shiftLeft, Nat.mod_eq_of_lt hb, Nat.shiftLeft_eq]
  simp
theorem xshl16 {T U : TypeId} {j : IntKind} {a b : UInt16} (hb : b.toNat < 16) (hx : ev n l x = some (.int .u16 (a.toNat : Int))) (hy : ev n l y = some (.int j (b.toNat : Int))) : Ex P n l (.binOp .shl T x y U) ty w (.int .u16 ((a <<< b).toNat : Int)) w :=
  xshl (Nat.le_of_lt hb) hx hy (shl16 a b hb)
end

theorem ofNat_mod {a b : Nat} (h : a % 256 = b % 256) : UInt8.ofNat a = UInt8.ofNat b := by
  apply UInt8.toNat_inj.1
  simp only [UInt8.toNat_ofNat']
  exact h
theorem be16_mod (n : Nat) : be16 (n % 65536) = be16 n := by
  simp only [be16]
  rw [ofNat_mod (a := n % 65536 / 256) (b := n / 256) (by omega), ofNat_mod (a := n % 65536) (b := n) (by omega)]
theorem be32_split (x : Nat) : be16 (x / 65536) ++ be16 (x % 65536) = be32 x := by
  rw [be16_mod]
  simp only [be16, be32, List.cons_append, List.nil_append]
  rw [show x / 65536 / 256 = x / 16777216 by omega]
end Go.Proofs.YtifnodoffgfpbaaGreatDoor

namespace Go.Proofs.YtifnodoffgfpbaaGreatDoor
open Go

theorem new_cast {w w' : World} {a : Option Addr} {c g n : Nat} {bs bs' : List UInt8} (h : BR w' (.slice a n c) g n bs) (e : bs = bs') (hf : Fr0 w w') (h1 : w.heap.size ≤ g) (h2 : g < w'.heap.size) : New w bs'.length bs' (.slice a n c) w' := by
  subst e
  have := BR.len h
  subst this
  exact ⟨a, c, g, rfl, h, hf, h1, h2⟩
theorem br_cast {w : World} {v : Value} {g n m : Nat} {cs : List Value} {bs : List UInt8} (h : Rw w v g 5 1 n cs) (e : cs = bvs bs) (hn : n = m) : BR w v g m bs := by
  subst e hn; exact h
theorem wire_one {s : ByteArray} {k : Nat} (hk : k < s.size) : (bt s).drop k = s[k] :: (bt s).drop (k + 1) := by
  have : k < (bt s).length := by rw [bt_length]; exact hk
  rw [List.drop_eq_getElem_cons this]
  rfl
theorem u8_ne {c : UInt8} (h : (c.toNat : Int) ≠ 46) : c ≠ 46 := by
  intro e; subst e; exact h rfl
theorem u8_eq {c : UInt8} (h : ¬ (c.toNat : Int) ≠ 46) : c = 46 := by
  apply UInt8.toNat_inj.1
  have : (46 : UInt8).toNat = 46 := rfl
  omega
theorem wire_stepA {o lab rest full : List UInt8} {c : UInt8} (h : o ++ wireGo lab (c :: rest) = full) (hc : c ≠ 46) : o ++ wireGo (lab ++ [c]) rest = full := by
  simpa [wireGo, hc] using h
theorem wire_stepB {o rest full : List UInt8} {c : UInt8} (h : o ++ wireGo [] (c :: rest) = full) (hc : c = 46) : o ++ wireGo [] rest = full := by
  simpa [wireGo, hc] using h
theorem wire_stepC {o lab rest full : List UInt8} {c : UInt8} (h : o ++ wireGo lab (c :: rest) = full) (hc : c = 46) (hl : lab ≠ []) : (o ++ (UInt8.ofNat lab.length :: lab)) ++ wireGo [] rest = full := by
  simpa [wireGo, hc, hl] using h
theorem c97 {w : World} (b : Bool) (x : UInt16) :
  Ret PP 97 [.bool b, .int .u16 (x.toNat : Int)] w (fun u w' => u = .int .u16 ((flagN b x).toNat : Int) ∧ Fr0 w w') := by
 have hf : Fr (fun _ => False) w w := Fr.refl _ _
 refine ret_of Tryz.func97 rfl rfl rfl [(0, _), (1, _)] rfl ?_
 refine sreg (sA rfl (send ((wp_seq (sreg (sM rfl (send (fcg 1 5 rfl fun _ => ?_))))))))
 refine cB rfl (fun hb => ?_) (fun hb => ?_)
 ·
  refine sreg (sM rfl (sA rfl (send (fbg 4 rfl fun _ => wp_ret (rThen (rp1 rfl rfl ?_))))))
  subst hb
  exact ⟨by simp [flagN], hf⟩
 refine wp_skip (nThen (fg [] trivial fun _ => sreg (sA rfl (send (fbg 4 rfl fun _ => wp_ret (rp1 rfl rfl ?_))))))
 subst hb
 exact ⟨by simp [flagN], hf⟩
theorem c98 {w : World} {s : ByteArray} (hs : s.size ≤ 1048576) :
  Ret PP 98 [.string s] w (fun u w' => New w (wire (bt s)).length (wire (bt s)) u w') := by
 have hf : Fr (fun _ => False) w w := Fr.refl _ _
 refine ret_of Tryz.func98 rfl rfl rfl [(0, _)] rfl ?_
 refine sreg (sA rfl (send (fbg 0 rfl fun _ => sreg (svK (xslit (bvs []) sl37 in5 rfl (by decide) rfl rfl rfl rfl (by decide) rfl (bvs_one _)) ?_))))
 rintro _ w2 ⟨b6, rfl, m3, h6, e6, s6, r6⟩
 refine sA rfl (send (fcg 0 3 rfl fun _ => sreg (svK (xslit (bvs []) sl37 in5 rfl (by decide) rfl rfl rfl rfl (by decide) rfl (bvs_one _)) ?_)))
 rintro _ w5 ⟨b7, rfl, m6, h7, e7, s7, r7⟩
 have r6 := r6.k m6
 refine sA rfl (send ((wp_seq (sreg (sM rfl (sv (xlenS st9 rfl) (sM rfl (send (ffg 0 3 4 9 10 rfl fun _ => wp_block (lp [(0, _), (9, _)] (fun (x : Nat × Value × Nat × List UInt8 × Value × Nat × List UInt8) => match x with | (k, v3, go, o, v4, gl, lab) => [(3, v3), (4, v4), (10, .int .i64 (k : Int))]) (fun (x : Nat × Value × Nat × List UInt8 × Value × Nat × List UInt8) wx => match x with | (k, v3, go, o, v4, gl, lab) => Fr (fun k => k = b6 ∨ k = b7) w5 wx ∧ (k ≤ s.size) ∧ (BR wx v3 go o.length o) ∧ (BR wx v4 gl lab.length lab) ∧ (go ≠ gl) ∧ (w.heap.size ≤ go) ∧ (go < wx.heap.size) ∧ (w.heap.size ≤ gl) ∧ (gl < wx.heap.size) ∧ (go = b6 ∨ go = b7 ∨ w5.heap.size ≤ go) ∧ (gl = b6 ∨ gl = b7 ∨ w5.heap.size ≤ gl) ∧ (o ++ wireGo lab ((bt s).drop k) = wireGo [] (bt s)) ∧ (o.length + lab.length ≤ 2 * k)) (fun (x : Nat × Value × Nat × List UInt8 × Value × Nat × List UInt8) => match x with | (k, v3, go, o, v4, gl, lab) => s.size - k) (0, _, b6, [], _, b7, []) ⟨rfl, rfl, rfl, rfl, rfl, trivial⟩ ⟨Fr.refl _ _, Nat.zero_le _, r6, r7, by omega, by omega, by omega, by omega, by omega, by omega, by omega, rfl, by simp⟩ ?_))))))))))
 rintro ⟨k, v3, go, o, v4, gl, lab⟩ _ w8 ⟨hL7, hk, hv3, hv4, hne, hgo, hgo2, hgl, hgl2, hgo3, hgl3, hE, hle⟩
 refine ffg 0 3 4 9 10 rfl fun _ => ?_
 have z9 := hL7.size
 obtain ⟨a4, c4, rfl, -⟩ := hv4.form
 have hf := ((hf.s m3).s m6).step hL7 (fun k hk hS => by have hS : k = b6 ∨ k = b7 := hS; show False; omega)
 refine sreg (svP (xlss rfl rfl) (fun hc11 => ?_) (fun hc11 => ?_))
 rotate_left
 ·
  refine send ((wp_seq (cno rfl (wp_exit (eThen (eThen (eHit (nThen (fbg 3 rfl fun _ => sreg (sM rfl (svK (xslit (bvs [0]) sl37 in5 rfl (by decide) rfl rfl rfl rfl (by decide) (by simp [bvs, bv, Value.cells]) (bvs_one _)) ?_)))))))))))
  rintro _ w32 ⟨b37, rfl, m33, h37, e37, s37, r37⟩
  have hv3 := hv3.k m33
  refine svK (xapp sl37 in5 rfl (by decide) rfl rfl hv3 (r37.src sl37) (by simp only [maxLen]; omega) (by omega)) ?_
  rintro _ w34 ⟨g38, r38, m35, a38, l38⟩
  have z36 := m35.size
  obtain ⟨p38, q38, rfl, -⟩ := r38.form
  have hf := (hf.s m33).t m35 (by omega)
  refine sA rfl (send (fbg 2 rfl fun _ => wp_ret (rp1 rfl rfl ?_)))
  exact new_cast (bs := o ++ [0]) (by simpa [BR, bvs_app] using r38) (by have : (bt s).drop k = [] := List.drop_eq_nil_of_le (by rw [bt_length]; omega); rw [this] at hE; simp [wireGo] at hE; simp [wire, hE]) hf (by omega) (l38 (by omega))
 refine send ((wp_seq (cyes rfl (wp_skip (nThen (ffg 0 3 4 9 10 rfl fun _ => wp_seq (wp_block ?_)))))))
 rw [wire_one (by omega)] at hE
 refine sreg (sM rfl (sA rfl (send (fgg 0 3 4 5 9 10 rfl fun _ => wp_seq (sreg (sM rfl (sM rfl (sv (xidxS st9 rfl rfl rfl (by omega)) (svP (xneq rfl rfl) (fun hc16 => ?_) (fun hc16 => ?_))))))))))
 ·
  refine send (fhg 0 3 4 5 9 10 16 rfl fun _ => cyes rfl (sreg (sM rfl (sM rfl (sM rfl (sv (xidxS st9 rfl rfl rfl (by omega)) (svK (xslit (bvs [s[k]]) sl37 in5 rfl (by decide) rfl rfl rfl rfl (by decide) (by simp [bvs, bv, Value.cells]) (bvs_one _)) ?_)))))))
  rintro _ w11 ⟨b21, rfl, m12, h21, e21, s21, r21⟩
  have hv4 := hv4.k m12
  refine svK (xapp sl37 in5 rfl (by decide) rfl rfl hv4 (r21.src sl37) (by simp only [maxLen]; omega) (by omega)) ?_
  rintro _ w13 ⟨g22, r22, m14, a22, l22⟩
  have z15 := m14.size
  obtain ⟨p22, q22, rfl, -⟩ := r22.form
  refine sA rfl (send ((wp_exit (eThen (eHit (nThen (ffg 0 3 4 9 10 rfl fun _ => lreg (sv (xadd rfl rfl (w64 (by omega) (by omega))) (sM rfl (lend (nThen ?_)))))))))))
  have l22 := l22 (by omega)
  have e := wire_stepA hE (u8_ne hc16)
  have hv3 := (hv3.k m12).keep m14 (nE (by omega))
  have hL7 := (hL7.s m12).step m14 (fun k hk hS => by have hS : k = gl := hS; show k = b6 ∨ k = b7; omega)
  refine ⟨(k + 1, _, go, o, _, g22, lab ++ [s[k]]), _, env_okl ⟨rfl, rfl, rfl, rfl, rfl, trivial⟩, ⟨hL7, (by omega), (hv3), (by simpa [BR, bvs_app, bvs, bv] using r22), (by omega), (by omega), (by omega), (by omega), (by omega), (by omega), (by omega), (e), (by simp; omega)⟩, ?_⟩
  show s.size - (k + 1) < s.size - k; omega
 refine send ((cno rfl (wp_skip (nThen (ffg 0 3 4 9 10 rfl fun _ => wp_seq (sreg (sM rfl (sv (xlen sl37 rfl) (svP (xgtr rfl rfl) (fun hc25 => ?_) (fun hc25 => ?_))))))))))
 ·
  refine send (fgg 0 3 4 9 10 25 rfl fun _ => cyes rfl (lreg (sM rfl (sM rfl (sv (xlen sl37 rfl) (sv (xconv hs3 ki5 rfl (wu8m _)) (svK (xslit (bvs [UInt8.ofNat lab.length]) sl37 in5 rfl (by decide) rfl rfl rfl rfl (by decide) (by simp [bvs, bv, Value.cells]) (bvs_one _)) ?_)))))))
  rintro _ w17 ⟨b30, rfl, m18, h30, e30, s30, r30⟩
  have hv3 := hv3.k m18
  refine svK (xapp sl37 in5 rfl (by decide) rfl rfl hv3 (r30.src sl37) (by simp only [maxLen]; omega) (by omega)) ?_
  rintro _ w19 ⟨g31, r31, m20, a31, l31⟩
  have z21 := m20.size
  obtain ⟨p31, q31, rfl, -⟩ := r31.form
  have hv4 := (hv4.k m18).keep m20 (nE (by omega))
  refine sM rfl (svK (xapp sl37 in5 rfl (by decide) rfl rfl r31 (hv4.src sl37) (by simp only [maxLen]; omega) (by omega)) ?_)
  rintro _ w22 ⟨g33, r33, m23, a33, l33⟩
  have z24 := m23.size
  obtain ⟨p33, q33, rfl, -⟩ := r33.form
  refine sA rfl (lend (nThen (feg 0 3 9 10 rfl fun _ => lreg (svK (xslit (bvs []) sl37 in5 rfl (by decide) rfl rfl rfl rfl (by decide) rfl (bvs_one _)) ?_))))
  rintro _ w26 ⟨b34, rfl, m27, h34, e34, s34, r34⟩
  refine sA rfl (lend (nBlock (nThen (ffg 0 3 4 9 10 rfl fun _ => lreg (sv (xadd rfl rfl (w64 (by omega) (by omega))) (sM rfl (lend (nThen ?_))))))))
  have l33 := l33 (by omega)
  have e := wire_stepC hE (u8_eq hc16) (by intro h0; subst h0; simp at hc25)
  have hL7 := (((hL7.s m18).step m20 (fun k hk hS => by have hS : k = go := hS; show k = b6 ∨ k = b7; omega)).step m23 (fun k hk hS => by have hS : k = g31 := hS; show k = b6 ∨ k = b7; omega)).s m27
  have r33 := r33.k m27
  refine ⟨(k + 1, _, g33, o ++ (UInt8.ofNat lab.length :: lab), _, b34, []), _, env_okl ⟨rfl, rfl, rfl, rfl, rfl, trivial⟩, ⟨hL7, (by omega), (br_cast r33 (by simp [bvs, bv]) (by simp; omega)), (r34), (by omega), (by omega), (by omega), (by omega), (by omega), (by omega), (by omega), (e), (by simp; omega)⟩, ?_⟩
  show s.size - (k + 1) < s.size - k; omega
 refine send ((cno rfl (wp_skip (nThen (feg 0 3 9 10 rfl fun _ => lreg (svK (xslit (bvs []) sl37 in5 rfl (by decide) rfl rfl rfl rfl (by decide) rfl (bvs_one _)) ?_))))))
 rintro _ w29 ⟨b34, rfl, m30, h34, e34, s34, r34⟩
 refine sA rfl (lend (nBlock (nThen (ffg 0 3 4 9 10 rfl fun _ => lreg (sv (xadd rfl rfl (w64 (by omega) (by omega))) (sM rfl (lend (nThen ?_))))))))
 obtain rfl : lab = [] := List.eq_nil_of_length_eq_zero (by omega)
 have e := wire_stepB hE (u8_eq hc16)
 have hv3 := hv3.k m30
 have hL7 := hL7.s m30
 refine ⟨(k + 1, _, go, o, _, b34, []), _, env_okl ⟨rfl, rfl, rfl, rfl, rfl, trivial⟩, ⟨hL7, (by omega), (hv3), (r34), (by omega), (by omega), (by omega), (by omega), (by omega), (by omega), (by omega), (e), (by simp; omega)⟩, ?_⟩
 show s.size - (k + 1) < s.size - k; omega
theorem c99 {w : World} {x : Nat} (hx : x < 4294967296) :
  Ret PP 99 [.int .u32 x] w (New w 4 (be32 x)) := by
 have hf : Fr (fun _ => False) w w := Fr.refl _ _
 refine ret_of Tryz.func99 rfl rfl rfl [(0, _)] rfl ?_
 refine sreg (sA rfl (send (fbg 0 rfl fun _ => sreg (sM rfl (sv (xshr (b := 16) (by decide) rfl rfl) (sv (xconv hs61 ki22 rfl (wu16n (x / 65536) (by omega))) (sc (xcall ca53 rfl) (c53 (by first | omega | exact u16lt _)) ?_)))))))
 rintro _ w1 ⟨p6, q6, g6, rfl, r6, m2, a6, l6⟩
 have z3 := m2.size
 refine sM rfl (sv (xconv hs61 ki22 rfl (wu16n (x % 65536) (by omega))) (sc (xcall ca53 rfl) (c53 (by first | omega | exact u16lt _)) ?_))
 rintro _ w4 ⟨p9, q9, g9, rfl, r9, m5, a9, l9⟩
 have z6 := m5.size
 refine svK (xslit [_, _] sl105 in37 rfl (by decide) rfl rfl rfl rfl (by decide) rfl rfl) ?_
 rintro _ w8 ⟨b10, rfl, m9, h10, e10, s10, r10⟩
 have r6 := (r6.k m5).k m9
 have r9 := r9.k m9
 refine sc (xcall ca21 rfl) (c21 (U := fun k => k = g6 ∨ k = g9) (Rw.rng r10) (by omega) rfl (fun k hk => by have hk : k = g6 ∨ k = g9 := hk; rcases hk with hk | hk <;> first | omega | (have := hU k hk; omega)) (All2.cons (BR.ba r6 (.inl rfl)) (All2.cons (BR.ba r9 (.inr rfl)) All2.nil)) (by simp only [fC, fN, List.length_append, be16_length, List.length_nil]; omega) (by decide)) ?_
 rintro _ w10 ⟨p11, q11, g11, rfl, r11, m11, a11, l11⟩
 have z12 := m11.size
 refine sA rfl (send (fbg 2 rfl fun _ => wp_ret (rp1 rfl rfl ?_)))
 have e : [be16 (x / 65536), be16 (x % 65536)].flatten = be32 x := by simp [← be32_split]
 rw [e] at r11
 have hf := (((hf.s m2).s m5).s m9).s m11
 exact ⟨_, _, _, rfl, r11, hf, by omega, by omega⟩
end Go.Proofs.YtifnodoffgfpbaaGreatDoor

namespace Go.Proofs.YtifnodoffgfpbaaGreatDoor
open Go

theorem fixedL_min (bs : List UInt8) (m : Nat) : fixedL bs m = bs.take (min bs.length m) ++ List.replicate (m - min bs.length m) 0 := by
  simp only [fixedL]
  rw [List.take_append]
  congr 1
  · by_cases h : bs.length ≤ m
    · rw [Nat.min_eq_left h, List.take_of_length_le (Nat.le_refl _), List.take_of_length_le h]
    · rw [Nat.min_eq_right (by omega)]
  · rw [List.take_replicate]
    congr 1
    omega
theorem splice_zero (bs : List UInt8) (m : Nat) (rest : List Value) : splice (bvs (List.replicate m 0) ++ rest) 0 (bvs (bs.take (min bs.length m))) = bvs (fixedL bs m) ++ rest := by
  rw [fixedL_min, bvs_app]
  simp only [splice, List.take_zero, List.nil_append, Nat.zero_add, List.append_assoc]
  congr 1
  have : (bvs (bs.take (min bs.length m))).length = min bs.length m := by simp [bvs]
  rw [this, List.drop_append_of_le_length (by simp [bvs]; omega)]
  congr 1
  simp only [bvs, ← List.map_drop, List.drop_replicate]
theorem rep_zero (n : Nat) : (List.replicate n (Value.int .u8 0).cells.toList).flatten = bvs (List.replicate n 0) := by
  simp only [bvs, List.map_replicate]
  induction n with
  | zero => rfl
  | succ n ih => rw [List.replicate_succ, List.flatten_cons, ih, List.replicate_succ]; rfl

section
variable {P : Program} {n : Nat} {l : List (Nat × Value)} {w : World} {ty : TypeId} {x y : Operand}
def Cpy (P : Program) (w : World) (u : Value) (bs : List UInt8) : Prop :=
  (∀ w' : World, (Builtin.lenOf u).run P w' = .ok bs.length w') ∧ ∀ m, m ≤ bs.length → (Builtin.firstCells 1 m u).run P w = .ok (bvs (bs.take m)).toArray w
theorem cpy_ba {U : Nat → Prop} {u : Value} {bs : List UInt8} (h : BA U w u bs) : Cpy P w u bs := by
  obtain ⟨a, c, rfl, h⟩ := h
  refine ⟨fun _ => rfl, fun m hm => ?_⟩
  by_cases hb : bs = []
  · subst hb
    obtain rfl : m = 0 := by simpa using hm
    cases a with
    | none => exact run_firstCells_none w 1 0 _ c
    | some a => exact run_firstCells_some w 1 0 a _ c [] rfl (fun j u h => by simp at h)
  · obtain ⟨b, o, rfl, _, hr⟩ := h hb
    refine run_firstCells_some w 1 m _ _ c _ (by simp [bvs]; omega) fun j v hv => ?_
    rw [addr_add]
    refine hr j v ?_
    simp only [bvs, List.map_take] at hv ⊢
    rw [List.getElem?_take] at hv
    split at hv
    · exact hv
    · cases hv
theorem xcopyR {T TX E : TypeId} {b m c e : Nat} {bs : List UInt8} {u : Value} (hT : slcB P T E = true) (hE : szB P E 1 = true) (hx : ev n l x = some (.slice (some ⟨b, 0, none⟩) m c)) (hy : ev n l y = some u)
    (hc : Cpy P w u bs) (hb : Rw w (.slice (some ⟨b, 0, none⟩) m c) b e 1 m (bvs (List.replicate m 0))) (hmc : Blk w b (bvs (List.replicate m 0))) :
    ExK P n l (.call { callee := .builtin .copy, args := #[x, y], argTypes := #[T, TX] }) ty w
      (fun _ w' => Fr (· = b) w w' ∧ Rw w' (.slice (some ⟨b, 0, none⟩) m c) b e 1 m (bvs (fixedL bs m)) ∧ w'.heap.size = w.heap.size) := by
  have hl : (bvs (bs.take (min bs.length m))).length = min bs.length m := by simp [bvs]
  have hs := szB_spec hE
  cases hi' : P.info? E with
  | none => rw [hi'] at hs; cases hs
  | some j =>
    rw [hi'] at hs
    simp only [Option.map_some, Option.some.injEq] at hs
    obtain ⟨⟨h1, h2⟩, h3, h4⟩ := hb
    rcases h2 with h2 | ⟨k, cap, cur, hv, hb0, hk, r1, r2, r3, r4⟩
    · cases h2.1
    · simp only [Value.slice.injEq, Option.some.injEq, Addr.mk.injEq, true_and] at hv
      obtain ⟨⟨rfl, _⟩, rfl⟩ := hv
      have hcur : cur.toList = bvs (List.replicate m 0) := by
        obtain ⟨T', hm⟩ := hmc
        rw [hk] at hm
        simp only [Option.some.injEq, Obj.cells.injEq] at hm
        rw [hm.1]
      have hblk : w.heap[b]? = some (.cells (bvs (List.replicate m 0)).toArray e (0, 0)) := by rw [← hcur]; simpa using hk
      have hfit : 0 + (bvs (bs.take (min bs.length m))).length ≤ (bvs (List.replicate m 0)).length := by rw [hl]; simp [bvs]; omega
      have hsets := heap_sets (bvs (bs.take (min bs.length m))) 0 hblk hfit
      have hB : Blk w b (bvs (List.replicate m 0)) := hmc
      have hst := run_storeCells_cells (P := P) b 0 (bvs (bs.take (min bs.length m))) 0 w (fun j hj => by rw [Nat.add_zero]; exact (hB.there hfit j hj).1) (fun j hj => by rw [Nat.add_zero]; exact (hB.there hfit j hj).2) (by simpa using bvs_one (bs.take (min bs.length m)))
      simp only [Nat.add_zero] at hst
      have hz := splice_zero bs m []
      simp only [List.append_nil] at hz
      rw [hz] at hsets
      refine ⟨.int .i64 ((min bs.length m : Nat) : Int), w.setCells b 0 (bvs (bs.take (min bs.length m))), fun r _ _ _ _ => ?_, hsets.2.1, ⟨⟨?_, .inr ⟨b, _, _, rfl, hb0, hsets.1, r1, r2, ?_, ?_⟩⟩, h3, bvs_one _⟩, hsets.2.2⟩
      · simp only [execOp]
        have hf := hc.2 (min bs.length m) (Nat.min_le_left _ _)
        simp [resolve, invoke, builtin, ev_eval r hx, ev_eval r hy, Builtin.copy_, run_underlying (slcB_spec hT), hc.1, sizeOf, typeInfo, hi', hs, hf, hst, goInt]
      · simp [bvs, fixedL_length]
      · have : (bvs (List.replicate m 0)).length = m := by simp [bvs]
        have h5 : cur.size = m := by rw [← Array.length_toList, hcur, this]
        rw [h5] at r3
        simp [bvs, fixedL_length, r3]
      · simp only [Nat.mul_one]
        rw [List.take_of_length_le]
        simp [bvs, fixedL_length]
theorem xbuildA {T E : TypeId} {m : Nat} {ps : List (Nat × Operand)} {vs : List (Nat × Value)} {zs : List (List Value)} {sz by' : Nat} (segs : List (List Value)) (hI : Inf P T (ag zs) sz by') (hT : arrB P T m E = true) (hE : szB P E 1 = true)
    (hl : zs.map List.length = List.replicate m 1) (hp : evp n l ps = some vs) (hf : fitAll zs vs) (hc : (setAll zs vs).flatten = segs.flatten) : Ex P n l (.build T ps.toArray) ty w (ag segs) w := fun r _ _ _ _ => by
  have hs := szB_spec hE
  have hev := evp_eval r hp
  have hm : zs.length = m := by have := congrArg List.length hl; simpa using this
  obtain ⟨i, hi, hz, _, _⟩ := hI
  · cases hi' : P.info? E with
    | none => rw [hi'] at hs; cases hs
    | some j =>
      rw [hi'] at hs
      simp only [Option.map_some, Option.some.injEq] at hs
      have hplace : ∀ k, (h : k < zs.length) → (fun i => some (i * 1, 1)) k = some (offs zs k, zs[k].length) := by
        intro k hk
        have h1 : offs zs k = k := by
          rw [offs_lens hl, List.take_replicate, List.sum_replicate_nat]
          omega
        have h2 : zs[k].length = 1 := by
          have := congrArg (fun l => l[k]?) hl
          simp only [List.getElem?_map] at this
          rw [List.getElem?_eq_getElem hk, List.getElem?_replicate, if_pos (by omega)] at this
          simpa using this
        rw [h1, h2]; simp
      have hfill := fill_all (fun i => some (i * 1, 1)) vs zs hplace hf
      rw [hc] at hfill
      simp only [execOp]
      simp only [List.map_toArray]
      rw [show (List.map (fun x => (x.1, (env n l r).eval x.2)) ps) = vs from hev]
      simp only [Instr.build]
      simp at hfill
      simp [zeroValue, typeInfo, run_underlying (arrB_spec hT), hi, hz, sizeOf, hi', hs, hfill, Value.cells]
end
end Go.Proofs.YtifnodoffgfpbaaGreatDoor
