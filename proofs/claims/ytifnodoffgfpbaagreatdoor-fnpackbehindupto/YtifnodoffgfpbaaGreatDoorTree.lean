/- A region in which more than one operation that turns memory may be next: a tree of orders; conditions: none. -/
import Derived.Test.YtifnodoffgfpbaaGreatDoorGrow
namespace Go.Proofs.YtifnodoffgfpbaaGreatDoor
open Go

theorem Uw.num {U : Nat → Prop} {n0 nb g n k : Nat} (hU : ∀ k, U k → k < n) (h : Uw U n0 nb g k) : (k < n ∨ (n0 ≤ k ∧ k < nb)) ∧ k ≠ g := ⟨h.1.imp_left (hU k), h.2⟩

inductive Tr where
  | lst (o : List (Nat × Kd))
  | rd (i : Nat) (t : Tr)
  | ld (i : Nat) (t : Tr)
  | two (i : Nat) (a : Tr) (j : Nat) (b : Tr)
def runT (P : Program) (ops : Array Oper) (Q : Exit → Act → World → Prop) (S : World → Prop) : Tr → Act → World → Prop
  | .lst o, a, w => runH P ops Q S o a w
  | .rd i t, a, w => ∃ o v, ops[i]? = some o ∧ YieldsIf P ops S o v a ∧ S w ∧ runT P ops Q S t (a.put o.dst v) w
  | .ld i t, a, w => wpOp P ops Q i (fun a' w' => S w' ∧ runT P ops Q S t a' w') a w
  | .two i t j u, a, w => wpOp P ops Q i (fun a' w' => S w' ∧ runT P ops Q S t a' w') a w ∧ wpOp P ops Q j (fun a' w' => S w' ∧ runT P ops Q S u a' w') a w
def readsT : Tr → List Nat
  | .lst o => reads o
  | .rd i t => i :: readsT t
  | .ld _ t => readsT t
  | .two _ a _ _ => readsT a
def okT (ops : Array Oper) (st : List Nat) : Array Bool → Tr → Bool
  | listed, .lst o => okRun ops st listed o
  | listed, .rd i t => st.contains i && Region.free .any ops listed i && (Region.ready .any ops listed).contains i && okT ops st (listed.setIfInBounds i true) t
  | listed, .ld i t => (Region.ready .any ops listed == [i]) && okT ops st (listed.setIfInBounds i true) t
  | listed, .two i a j b => (Region.ready .any ops listed == [i, j]) && okT ops st (listed.setIfInBounds i true) a && okT ops st (listed.setIfInBounds j true) b
def lenT : Tr → Nat
  | .lst o => o.length
  | .rd _ t => lenT t + 1
  | .ld _ t => lenT t + 1
  | .two _ a _ b => max (lenT a) (lenT b) + 1

section
variable {P : Program} {ops : Array Oper} {Q : Exit → Act → World → Prop} {S : World → Prop} {st : List Nat}
theorem runT_sound (hs : Region.noSelect ops = true) (hQ : ∀ c d v a w, Q (.panic c) (a.put d v) w → Q (.panic c) a w) :
    ∀ (t : Tr) (listed : Array Bool) (a : Act) (w : World) (fuel : Nat), closedUp ops listed → okT ops st listed t = true → lenT t ≤ fuel → runT P ops Q S t a w → wpAnyP P ops Q S st fuel listed a w
  | .lst o, listed, a, w, fuel, hc, hok, hf, h => runH_sound hs hQ o listed a w fuel hc hok hf h
  | .rd i t, listed, a, w, fuel, hc, hok, hf, h => by
    simp only [okT, Bool.and_eq_true] at hok
    obtain ⟨o, v, ho, hy, hS, hk⟩ := h
    cases fuel with
    | zero => simp [lenT] at hf
    | succ fuel =>
      have hr : i ∈ Region.ready .any ops listed := by simpa using hok.1.2
      refine wpAnyP_first ho (by simpa using hok.1.1.1) (Region.noSelect_spec hs) (fun c a w => hQ c _ _ a w) fuel listed a w hc hok.1.1.2 hr hy hS ?_
      exact runT_sound hs hQ t _ _ _ _ (closedUp_set hc hr) hok.2 (by simpa [lenT] using hf) hk
  | .ld i t, listed, a, w, fuel, hc, hok, hf, h => by
    simp only [okT, Bool.and_eq_true, beq_iff_eq] at hok
    cases fuel with
    | zero => simp [lenT] at hf
    | succ fuel =>
      refine wpAnyP_one hok.1 (wpOp_mono (fun a' w' h' => ⟨.inr h'.1, ?_⟩) h)
      exact runT_sound hs hQ t _ _ _ _ (closedUp_set hc (by rw [hok.1]; simp)) hok.2 (by simpa [lenT] using hf) h'.2
  | .two i t j u, listed, a, w, fuel, hc, hok, hf, h => by
    simp only [okT, Bool.and_eq_true, beq_iff_eq] at hok
    cases fuel with
    | zero => simp [lenT] at hf
    | succ fuel =>
      simp only [lenT] at hf
      refine ⟨fun h0 => (by rw [hok.1.1] at h0; cases h0), fun k hk => ?_⟩
      rw [hok.1.1] at hk
      simp only [List.mem_cons, List.not_mem_nil, or_false] at hk
      rcases hk with rfl | rfl
      · exact wpOp_mono (fun a' w' h' => ⟨.inr h'.1, runT_sound hs hQ t _ _ _ _ (closedUp_set hc (by rw [hok.1.1]; simp)) hok.1.2 (by omega) h'.2⟩) h.1
      · exact wpOp_mono (fun a' w' h' => ⟨.inr h'.1, runT_sound hs hQ u _ _ _ _ (closedUp_set hc (by rw [hok.1.1]; simp)) hok.2 (by omega) h'.2⟩) h.2

/-- what stands behind the region knows only J -/
theorem sdrawI {id : Nat} {y : Code} {n : Nat} {l : List (Nat × Value)} {r : Nat → Value} {w : World} {α : Type} (u : List (Nat × Value)) (_hu : okl l u) (ch : α → List (Nat × Value)) (J : α → World → Prop) (S : World → Prop) (t : Tr) (hm : P.follows .mixedOrders = true)
    (hc : (Region.noSelect ops && okT ops (readsT t) (Array.replicate ops.size false) t && (lenT t).ble ops.size) = true)
    (h : runT P ops (fun e a' w' => e = .normal ∧ ∃ x r', a' = env n (ch x ++ u) r' ∧ J x w') S t (env n l r) w.drew)
    (k : ∀ x r w', J x w' → y.wp P Q (env n (ch x ++ u) r) w') : (Code.seq (.region id ops true) y).wp P Q (env n l r) w := by
  simp only [Bool.and_eq_true] at hc
  refine wp_seq (wp_mono (wp_region_any hm (wpAny_of_P _ _ _ _ (runT_sound hc.1.1 (fun c d v a w h => by cases h.1) t _ _ _ _ (closedUp_start _) hc.1.2 (Nat.le_of_ble_eq_true hc.2) h))) ?_)
  rintro e a' w' ⟨rfl, x, r', rfl, hJ⟩
  exact k x r' w' hJ

variable {n : Nat} {l : List (Nat × Value)} {r : Nat → Value} {w w' : World} {op : Op} {ty : TypeId} {pos : String} {af : Array Edge} {v : Value} {d i : Nat} {t : Tr}
theorem lstT {o : List (Nat × Kd)} {a : Act} (h : runH P ops Q S o a w) : runT P ops Q S (.lst o) a w := h
theorem twoT {j : Nat} {u : Tr} {a : Act} (h1 : runT P ops Q S (.ld i t) a w) (h2 : runT P ops Q S (.ld j u) a w) : runT P ops Q S (.two i t j u) a w := ⟨h1, h2⟩
theorem hvT (ho : ops[i]? = some ⟨some d, op, ty, pos, af, none⟩) (h : ∀ w, S w → Ex P n l op ty w v w) (hS : S w)
    (k : runT P ops Q S t (env n ((d, v) :: l) r) w) : runT P ops Q S (.rd i t) (env n l r) w :=
  ⟨_, v, ho, .inl ⟨by simp [Region.wanted], fun w hw => h w hw r _ _ _ _⟩, hS, by rw [env_put]; exact k⟩
theorem hlT (ho : ops[i]? = some ⟨some d, op, ty, pos, af, none⟩) (h : Ex P n l op ty w v w') (hS : S w')
    (k : runT P ops Q S t (env n ((d, v) :: l) r) w') : runT P ops Q S (.ld i t) (env n l r) w := by
  simp only [runT, wpOp, ho]
  rw [if_pos (by simp [Region.wanted])]
  left
  unfold Oper.wp
  rw [h r _ _ _ _]
  simp only [Oper.upon]
  rw [env_put]
  exact ⟨hS, k⟩
theorem hlKT {R : Value → World → Prop} (ho : ops[i]? = some ⟨some d, op, ty, pos, af, none⟩) (h : ExK P n l op ty w R)
    (k : ∀ v w', R v w' → S w' ∧ runT P ops Q S t (env n ((d, v) :: l) r) w') : runT P ops Q S (.ld i t) (env n l r) w := by
  obtain ⟨v, w', he, hR⟩ := h
  exact hlT ho he (k v w' hR).1 (k v w' hR).2
theorem hluT (ho : ops[i]? = some ⟨none, op, ty, pos, af, none⟩) (h : ExU P n l op ty w w') (hS : S w')
    (k : runT P ops Q S t (env n l r) w') : runT P ops Q S (.ld i t) (env n l r) w := by
  simp only [runT, wpOp, ho]
  rw [if_pos (by simp [Region.wanted])]
  left
  unfold Oper.wp
  rw [h r _ _ _ _]
  exact ⟨hS, k⟩
theorem hluKT {R : World → Prop} (ho : ops[i]? = some ⟨none, op, ty, pos, af, none⟩) (h : ExUK P n l op ty w R)
    (k : ∀ w', R w' → S w' ∧ runT P ops Q S t (env n l r) w') : runT P ops Q S (.ld i t) (env n l r) w := by
  obtain ⟨w', he, hR⟩ := h
  exact hluT ho he (k w' hR).1 (k w' hR).2
theorem hcT {f : FuncId} {vs : List Value} {R : Value → World → Prop} (ho : ops[i]? = some ⟨some d, op, ty, pos, af, none⟩) (h : ExC P n l op ty w f vs) (hc : Ret P f vs w R)
    (k : ∀ v w', R v w' → S w' ∧ runT P ops Q S t (env n ((d, v) :: l) r) w') : runT P ops Q S (.ld i t) (env n l r) w := by
  simp only [runT, wpOp, ho]
  rw [if_pos (by simp [Region.wanted])]
  left
  unfold Oper.wp
  rw [h r _ _ _ _]
  simp only [Oper.upon]
  refine Calls.mono hc fun e w'' ⟨u, he, hR⟩ => ?_
  subst he
  simp only []
  rw [env_put]
  exact k _ _ hR
end
end Go.Proofs.YtifnodoffgfpbaaGreatDoor
