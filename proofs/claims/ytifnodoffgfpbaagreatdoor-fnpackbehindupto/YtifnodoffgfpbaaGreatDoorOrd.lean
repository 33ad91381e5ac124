/- An operation that only reads may be met ahead of others although later ones write: what it reads is to stand still only till it has been met; conditions: none. -/
import Derived.Test.YtifnodoffgfpbaaGreatDoorCore
namespace Go.Proofs.YtifnodoffgfpbaaGreatDoor
open Go

section
variable {P : Program} {ops : Array Oper} {Q : Exit → Act → World → Prop} {S : World → Prop} {st : List Nat}

/-- operation j waits, through others, for i -/
def waits (ops : Array Oper) : Nat → Nat → Nat → Bool
  | 0, _, _ => false
  | fuel + 1, j, i => match ops[j]? with
    | some o => o.after.any fun e => Region.binds .any e && (e.on == i || waits ops fuel e.on i)
    | none => false
/-- what has come up waits for nothing that has not -/
def closedUp (ops : Array Oper) (listed : Array Bool) : Prop := ∀ k o, listed.getD k false = true → ops[k]? = some o → ∀ e ∈ o.after, Region.binds .any e = true → listed.getD e.on false = true

theorem waits_up {listed : Array Bool} (hc : closedUp ops listed) {i : Nat} : ∀ (fuel j : Nat) (o : Oper), ops[j]? = some o → (∀ e ∈ o.after, Region.binds .any e = true → listed.getD e.on false = true) → waits ops fuel j i = true → listed.getD i false = true
  | 0, _, _, _, _, h => by cases h
  | fuel + 1, j, o, ho, hall, h => by
    simp only [waits, ho] at h
    rw [Array.any_eq_true] at h
    obtain ⟨k, hk, h⟩ := h
    simp only [Bool.and_eq_true, Bool.or_eq_true, beq_iff_eq] at h
    have hup := hall _ (Array.getElem_mem hk) h.1
    rcases h.2 with he | he
    · rw [← he]; exact hup
    · cases ho' : ops[(o.after[k]).on]? with
      | none =>
        cases fuel with
        | zero => cases he
        | succ f => simp only [waits, ho'] at he; cases he
      | some o' => exact waits_up hc fuel _ o' ho' (hc _ o' hup ho') he

theorem closedUp_set {listed : Array Bool} (hc : closedUp ops listed) {j : Nat} (hj : j ∈ Region.ready .any ops listed) : closedUp ops (listed.setIfInBounds j true) := by
  intro k o hk ho e he hb
  obtain ⟨_, oj, hoj, hall⟩ := mem_ready.1 hj
  by_cases hjk : j = k
  · subst hjk
    obtain rfl : oj = o := Option.some.inj (hoj.symm.trans ho)
    exact getD_set_true (hall e he hb)
  · rw [getD_set_ne false hjk] at hk
    exact getD_set_true (hc k o hk ho e he hb)
theorem closedUp_start (n : Nat) : closedUp ops (Array.replicate n false) := by
  intro k o hk
  simp only [Array.getD_eq_getD_getElem?, Array.getElem?_replicate] at hk
  split at hk <;> simp at hk

/-- operation j stands behind all of st -/
def behind (ops : Array Oper) (st : List Nat) (j : Nat) : Bool := st.all fun i => waits ops ops.size j i

/-- Whatever comes up; S holds behind each that does not stand behind all of st. -/
def wpAnyP (P : Program) (ops : Array Oper) (Q : Exit → Act → World → Prop) (S : World → Prop) (st : List Nat) : Nat → Array Bool → Act → World → Prop
  | 0, listed, a, w => Region.ready .any ops listed = [] ∧ Q .normal a w
  | fuel + 1, listed, a, w =>
    (Region.ready .any ops listed = [] → Q .normal a w) ∧
    ∀ i ∈ Region.ready .any ops listed, wpOp P ops Q i (fun a' w' => (behind ops st i = true ∨ S w') ∧ wpAnyP P ops Q S st fuel (listed.setIfInBounds i true) a' w') a w

theorem wpAny_of_P : ∀ (fuel : Nat) (listed : Array Bool) (a : Act) (w : World), wpAnyP P ops Q S st fuel listed a w → wpAny P .any ops Q fuel listed a w
  | 0, _, _, _, h => h
  | fuel + 1, _, _, _, h => ⟨h.1, fun i hi => wpOp_mono (fun a' w' h' => wpAny_of_P fuel _ a' w' h'.2) (h.2 i hi)⟩

/-- **A reading operation of st that may come up now may be met first.** -/
theorem wpAnyP_first {i : Nat} {oi : Oper} {v : Value} (hi : ops[i]? = some oi) (his : i ∈ st) (hsel : ∀ (j : Nat) (o : Oper) cs b, ops[j]? = some o → o.op ≠ .select cs b)
    (hQ : ∀ c a w, Q (.panic c) (a.put oi.dst v) w → Q (.panic c) a w) :
    ∀ (fuel : Nat) (listed : Array Bool) (a : Act) (w : World), closedUp ops listed → Region.free .any ops listed i = true → i ∈ Region.ready .any ops listed → YieldsIf P ops S oi v a → S w →
      wpAnyP P ops Q S st fuel (listed.setIfInBounds i true) (a.put oi.dst v) w → wpAnyP P ops Q S st (fuel + 1) listed a w := by
  intro fuel
  induction fuel with
  | zero =>
    intro listed a w _ _ hr hy hS H
    refine ⟨fun h => (by rw [h] at hr; cases hr), fun j hj => ?_⟩
    by_cases hji : j = i
    · subst hji; exact hy.wpOp hi hS ⟨.inr hS, H⟩
    · have := ready_mono hj hji
      rw [H.1] at this
      cases this
  | succ fuel ih =>
    intro listed a w hcl hfree hr hy hS H
    refine ⟨fun h => (by rw [h] at hr; cases hr), fun j hj => ?_⟩
    by_cases hji : j = i
    · subst hji; exact hy.wpOp hi hS ⟨.inr hS, H⟩
    · have hnow := H.2 j (ready_mono hj hji)
      obtain ⟨hjun, oj, hoj, hall⟩ := mem_ready.1 hj
      have hiun : listed.getD i true = false := (mem_ready.1 hr).1
      have hiun0 : listed.getD i false ≠ true := by
        intro hup
        rcases Nat.lt_or_ge i listed.size with hlt | hge
        · simp [hlt] at hiun hup; rw [hiun] at hup; cases hup
        · simp [Array.getElem?_eq_none hge] at hup
      have hwait : ∀ e ∈ oj.after, Region.binds .any e = true → e.on ≠ i := fun e he hb heq => by
        have hup := hall e he hb
        rw [heq] at hup
        exact hiun0 hup
      have hap := Region.free_spec hi hfree j oj hoj hji hjun hwait
      have hswap := wpOp_putIf hoj hap (fun cs b => hsel i oi cs b hi) (fun cs b => hsel j oj cs b hoj) hQ hy hnow
      have hfree' : Region.free .any ops (listed.setIfInBounds j true) i = true := by
        unfold Region.free at hfree ⊢
        rw [hi] at hfree ⊢
        simp only [List.all_eq_true] at hfree ⊢
        intro k hk
        have hk' := hfree k hk
        simp only [Bool.or_eq_true] at hk' ⊢
        rcases hk' with (h1 | h2) | h3
        · exact .inl (.inl h1)
        · refine .inl (.inr ?_)
          by_cases hjk : j = k
          · subst hjk; rw [hjun] at h2; cases h2
          · rw [getD_set_ne true hjk]; exact h2
        · exact .inr h3
      refine wpOp_mono (fun a' w' ⟨hy', hor, hrest⟩ => ?_) hswap
      have hS' : S w' := by
        rcases hor with hup | hS'
        · exact absurd (waits_up hcl _ j oj hoj hall (List.all_eq_true.1 hup i his)) hiun0
        · exact hS'
      refine ⟨.inr hS', ih (listed.setIfInBounds j true) a' w' (closedUp_set hcl hj) hfree' (ready_mono hr (Ne.symm hji)) hy' hS' ?_⟩
      rw [Array.setIfInBounds_comm _ _ hji]
      exact hrest
end
end Go.Proofs.YtifnodoffgfpbaaGreatDoor
