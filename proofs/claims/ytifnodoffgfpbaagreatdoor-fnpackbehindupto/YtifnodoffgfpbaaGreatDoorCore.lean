/- The calculus of this seat's walks: the frame of a call as a list of known slots over unknown ones, and one rule for each operation; conditions: none. -/
import Derived.Test.YtifnodoffgfpbaaGreatDoorProg
import Derived.WalkKit
import Derived.OrdersHeld
import Derived.Deep.MidRow
import Derived.Deep.Draws
namespace Go.Proofs.YtifnodoffgfpbaaGreatDoor
open Go

/-- what a list of slots says of a slot -/
def lk : List (Nat × Value) → Nat → Option Value
  | [], _ => none
  | (d, v) :: l, t => bif Nat.beq d t then some v else lk l t
def over (l : List (Nat × Value)) (r : Nat → Value) : Nat → Value := fun t => (lk l t).getD (r t)
def act (n : Nat) (r : Nat → Value) : Act := { tmps := Array.ofFn (fun i : Fin n => r i.1), defers := [] }
def env (n : Nat) (l : List (Nat × Value)) (r : Nat → Value) : Act := act n (over l r)
def ev (n : Nat) (l : List (Nat × Value)) : Operand → Option Value
  | .tmp t => bif Nat.blt t n then lk l t else none
  | .const v => some v
  | .global g => some (.pointer (some ⟨g, 0, none⟩))
  | .func f => some (.func (.func f) #[] #[])
def evs (n : Nat) (l : List (Nat × Value)) : List Operand → Option (List Value)
  | [] => some []
  | x :: xs => (ev n l x).bind fun v => (evs n l xs).bind fun vs => some (v :: vs)

theorem act_getD (n : Nat) (r : Nat → Value) (t : Nat) (d : Value) (h : t < n) : (act n r).tmps.getD t d = r t := by
  simp [act, Array.getD_eq_getD_getElem?, h]

theorem ev_eval {n : Nat} {l : List (Nat × Value)} {x : Operand} {v : Value} (r : Nat → Value) (h : ev n l x = some v) : (env n l r).eval x = v := by
  cases x with
  | tmp t =>
    simp only [ev] at h
    by_cases ht : t < n
    · rw [show Nat.blt t n = true by rw [Nat.blt_eq]; exact ht] at h
      simp only [cond_true] at h
      simp only [Act.eval, env]
      rw [act_getD _ _ _ _ ht]
      simp [over, h]
    · have : Nat.blt t n = false := by
        cases hb : Nat.blt t n with
        | false => rfl
        | true => rw [Nat.blt_eq] at hb; exact absurd hb ht
      rw [this] at h
      simp at h
  | const u => simpa [ev, Act.eval] using h
  | global g => simpa [ev, Act.eval] using h
  | func f => simpa [ev, Act.eval] using h

theorem evs_eval {n : Nat} {l : List (Nat × Value)} (r : Nat → Value) : ∀ {xs : List Operand} {vs : List Value}, evs n l xs = some vs → xs.map (env n l r).eval = vs
  | [], vs, h => by simp only [evs, Option.some.injEq] at h; subst h; rfl
  | x :: xs, vs, h => by
    simp only [evs, Option.bind_eq_some_iff, Option.some.injEq] at h
    obtain ⟨v, hv, us, hus, rfl⟩ := h
    simp only [List.map_cons, ev_eval r hv, evs_eval r hus]

theorem env_put (n : Nat) (l : List (Nat × Value)) (r : Nat → Value) (d : Nat) (v : Value) : (env n l r).put (some d) v = env n ((d, v) :: l) r := by
  simp only [Act.put, env, act]
  congr 1
  apply Array.ext
  · simp
  · intro i h1 h2
    simp only [Array.size_setIfInBounds, Array.size_ofFn] at h1
    rw [Array.getElem_setIfInBounds (by simpa using h1)]
    simp only [Array.getElem_ofFn, over, lk]
    by_cases h : d = i
    · subst h; simp
    · have hb : Nat.beq d i = false := by
        cases hb : Nat.beq d i with
        | false => rfl
        | true => exact absurd (Nat.eq_of_beq_eq_true hb) h
      rw [hb]; simp [h]

/-- the list l' is what l says of its slots -/
def okl (l : List (Nat × Value)) : List (Nat × Value) → Prop
  | [] => True
  | (t, v) :: r => lk l t = some v ∧ okl l r

theorem okl_lk {l : List (Nat × Value)} : ∀ {l' : List (Nat × Value)} {t : Nat} {v : Value}, okl l l' → lk l' t = some v → lk l t = some v
  | [], _, _, _, h => by simp [lk] at h
  | (p1, p2) :: r, t, v, ho, h => by
    simp only [lk] at h
    cases hb : Nat.beq p1 t with
    | true =>
      have := Nat.eq_of_beq_eq_true hb
      subst this
      rw [hb] at h
      simp only [cond_true, Option.some.injEq] at h
      subst h
      exact ho.1
    | false =>
      rw [hb] at h
      exact okl_lk ho.2 h

theorem over_okl {l l' : List (Nat × Value)} (h : okl l l') (r : Nat → Value) : over l r = over l' (over l r) := by
  funext t
  simp only [over]
  cases hl : lk l' t with
  | none => simp
  | some v => simp [okl_lk h hl]

/-- forget what is not needed any more -/
theorem forget {n : Nat} {l : List (Nat × Value)} {r : Nat → Value} {G : Act → Prop} (l' : List (Nat × Value)) (h : okl l l') (k : ∀ r', G (env n l' r')) : G (env n l r) := by
  have : env n l r = env n l' (over l r) := by simp only [env]; exact congrArg (act n) (over_okl h r)
  rw [this]
  exact k _

theorem forget_wp {P : Program} {c : Code} {Q : Exit → Act → World → Prop} {w : World} {n : Nat} {l : List (Nat × Value)} {r : Nat → Value} (l' : List (Nat × Value)) (h : okl l l') (k : ∀ r', c.wp P Q (env n l' r') w) : c.wp P Q (env n l r) w :=
  forget (G := fun a => c.wp P Q a w) l' h k

def enum : Nat → List Value → List (Nat × Value)
  | _, [] => []
  | k, v :: vs => (k, v) :: enum (k + 1) vs

theorem lk_enum : ∀ (vs : List Value) (k t : Nat), lk (enum k vs) t = if t < k then none else vs[t - k]?
  | [], k, t => by simp [enum, lk]
  | v :: vs, k, t => by
    simp only [enum, lk]
    rw [lk_enum vs (k + 1) t]
    by_cases h : k = t
    · subst h; simp
    · have hb : Nat.beq k t = false := by
        cases hb : Nat.beq k t with
        | false => rfl
        | true => exact absurd (Nat.eq_of_beq_eq_true hb) h
      rw [hb]
      simp only [cond_false]
      by_cases h1 : t < k
      · rw [if_pos h1, if_pos (by omega)]
      · rw [if_neg h1, if_neg (by omega)]
        have : t - k = (t - (k + 1)) + 1 := by omega
        rw [this, List.getElem?_cons_succ]

/-- WHAT A CALL GIVES BACK: a value, in a world. -/
def Ret (P : Program) (f : FuncId) (vs : List Value) (w : World) (R : Value → World → Prop) : Prop :=
  Calls P f vs.toArray w fun e w' => ∃ v, e = .returned v ∧ R v w'

theorem Ret.mono {P : Program} {f : FuncId} {vs : List Value} {w : World} {R R' : Value → World → Prop} (h : Ret P f vs w R) (hr : ∀ v w', R v w' → R' v w') : Ret P f vs w R' :=
  Calls.mono h fun _ _ ⟨v, he, hv⟩ => ⟨v, he, hr _ _ hv⟩

/-- the end of a body that returns -/
def RP (P : Program) (fn : Func) (R : Value → World → Prop) : Exit → Act → World → Prop
  | .normal, a, w | .ret, a, w => a.defers = [] ∧ ∃ v, (results fn a.tmps).run P w = .ok v w ∧ R v w
  | _, _, _ => False

theorem ret_of {P : Program} {f : FuncId} {fn : Func} {c : Code} {n : Nat} {vs : List Value} {w : World} {R : Value → World → Prop}
    (hf : P.funcs[f]? = some fn) (hb : fn.body = some c) (hn : fn.ntmps = n) (hlen : Nat.ble vs.length n = true) (l : List (Nat × Value)) (hl : enum 0 vs = l)
    (h : c.wp P (RP P fn R) (env n l (fun _ => undef)) w) : Ret P f vs w R := by
  subst hl
  have hlen := Nat.le_of_ble_eq_true hlen
  refine calls_of_wp hf hb ?_
  have he : ({ tmps := vs.toArray ++ Array.replicate (fn.ntmps - vs.toArray.size) undef, defers := [] } : Act) = env n (enum 0 vs) (fun _ => undef) := by
    subst hn
    simp only [env, act]
    congr 1
    apply Array.ext
    · simp; omega
    · intro i h1 h2
      simp only [Array.size_ofFn] at h2
      simp only [Array.getElem_ofFn, over, lk_enum, Nat.not_lt_zero, if_false, Nat.sub_zero]
      rw [Array.getElem_append]
      split
      · rename_i hi
        simp only [List.size_toArray] at hi
        simp [hi]
      · rename_i hi
        simp only [List.size_toArray, Nat.not_lt] at hi
        simp [List.getElem?_eq_none hi]
  rw [he]
  refine wp_mono h fun e a w' hq => ?_
  cases e <;> simp only [RP] at hq <;> try exact hq.elim
  · obtain ⟨hd, v, hr, hR⟩ := hq; exact ⟨hd, v, hr, v, rfl, hR⟩
  · obtain ⟨hd, v, hr, hR⟩ := hq; exact ⟨hd, v, hr, v, rfl, hR⟩

/-- one result variable -/
def RV (P : Program) (n : Nat) (l : List (Nat × Value)) (w : World) (rv : ResultVar) (v : Value) : Prop :=
  match rv with
  | .tmp t => ev n l (.tmp t) = some v
  | .cell t T => ∃ a, ev n l (.tmp t) = some (.pointer (some a)) ∧ (loadVar T a).run P w = .ok v w

theorem getD_ev {n : Nat} {l : List (Nat × Value)} {t : Nat} {v : Value} (r : Nat → Value) (h : ev n l (.tmp t) = some v) : (env n l r).tmps.getD t undef = v := ev_eval (x := .tmp t) r h

theorem RV.split {P : Program} {n : Nat} {l : List (Nat × Value)} {w : World} {rv : ResultVar} {v : Value} (r : Nat → Value) (h : RV P n l w rv v) :
    (∃ t, rv = .tmp t ∧ (env n l r).tmps.getD t undef = v) ∨ ∃ t T a, rv = .cell t T ∧ (env n l r).tmps.getD t undef = .pointer (some a) ∧ (loadVar T a).run P w = .ok v w := by
  cases rv with
  | tmp t => exact .inl ⟨t, rfl, getD_ev r h⟩
  | cell t T =>
    obtain ⟨a, h1, h2⟩ := h
    exact .inr ⟨t, T, a, rfl, getD_ev r h1, h2⟩

section
variable {P : Program} {fn : Func} {R : Value → World → Prop} {n : Nat} {l : List (Nat × Value)} {r : Nat → Value} {w : World}

theorem rp0 (hr : fn.results = #[]) (hR : R (.tuple #[]) w) : RP P fn R .ret (env n l r) w :=
  ⟨rfl, _, by simp [results, hr], hR⟩
theorem rp0n (hr : fn.results = #[]) (hR : R (.tuple #[]) w) : RP P fn R .normal (env n l r) w :=
  ⟨rfl, _, by simp [results, hr], hR⟩
theorem rp1 {x : ResultVar} {v : Value} (hr : fn.results = #[x]) (h : RV P n l w x v) (hR : R v w) : RP P fn R .ret (env n l r) w := by
  refine ⟨rfl, v, ?_, hR⟩
  rcases h.split r with ⟨t, rfl, e⟩ | ⟨t, T, a, rfl, e, e'⟩ <;>
    simp [results, asAddr, *, -Array.getD_eq_getD_getElem?]
theorem rp2 {x y : ResultVar} {v u : Value} (hr : fn.results = #[x, y]) (h : RV P n l w x v) (h' : RV P n l w y u) (hR : R (.tuple #[v, u]) w) : RP P fn R .ret (env n l r) w := by
  refine ⟨rfl, .tuple #[v, u], ?_, hR⟩
  rcases h.split r with ⟨t, rfl, e⟩ | ⟨t, T, a, rfl, e, e'⟩ <;> rcases h'.split r with ⟨t2, rfl, e2⟩ | ⟨t2, T2, a2, rfl, e2, e2'⟩ <;>
    simp [results, asAddr, *, -Array.getD_eq_getD_getElem?]
theorem rp3 {x y z : ResultVar} {v u t : Value} (hr : fn.results = #[x, y, z]) (h : RV P n l w x v) (h' : RV P n l w y u) (h'' : RV P n l w z t) (hR : R (.tuple #[v, u, t]) w) : RP P fn R .ret (env n l r) w := by
  refine ⟨rfl, .tuple #[v, u, t], ?_, hR⟩
  rcases h.split r with ⟨t, rfl, e⟩ | ⟨t, T, a, rfl, e, e'⟩ <;> rcases h'.split r with ⟨t2, rfl, e2⟩ | ⟨t2, T2, a2, rfl, e2, e2'⟩ <;> rcases h''.split r with ⟨t3, rfl, e3⟩ | ⟨t3, T3, a3, rfl, e3, e3'⟩ <;>
    simp [results, asAddr, *, -Array.getD_eq_getD_getElem?]
end
end Go.Proofs.YtifnodoffgfpbaaGreatDoor
