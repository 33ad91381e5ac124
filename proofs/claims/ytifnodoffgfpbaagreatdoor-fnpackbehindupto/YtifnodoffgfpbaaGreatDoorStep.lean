/- One rule for each way an operation of a region is met: in the text's order, or in an order that Go leaves open; conditions: none. -/
import Derived.Test.YtifnodoffgfpbaaGreatDoorOrd
namespace Go.Proofs.YtifnodoffgfpbaaGreatDoor
open Go

/-- operation op, in a frame that l tells of, gives v and leaves the world w' -/
def Ex (P : Program) (n : Nat) (l : List (Nat × Value)) (op : Op) (ty : TypeId) (w : World) (v : Value) (w' : World) : Prop :=
  ∀ (r : Nat → Value) (d : Option Tmp) (pos : String) (af : Array Edge) (g : Option (Nat × Bool)),
    (execOp (env n l r).eval ⟨d, op, ty, pos, af, g⟩).run P w = .ok (.value v) w'
/-- operation op gives nothing and leaves the world w' -/
def ExU (P : Program) (n : Nat) (l : List (Nat × Value)) (op : Op) (ty : TypeId) (w : World) (w' : World) : Prop :=
  ∀ (r : Nat → Value) (d : Option Tmp) (pos : String) (af : Array Edge) (g : Option (Nat × Bool)),
    (execOp (env n l r).eval ⟨d, op, ty, pos, af, g⟩).run P w = .ok .skip w'
/-- operation op calls function f -/
def ExC (P : Program) (n : Nat) (l : List (Nat × Value)) (op : Op) (ty : TypeId) (w : World) (f : FuncId) (vs : List Value) : Prop :=
  ∀ (r : Nat → Value) (d : Option Tmp) (pos : String) (af : Array Edge) (g : Option (Nat × Bool)),
    (execOp (env n l r).eval ⟨d, op, ty, pos, af, g⟩).run P w = .ok (.enter f vs.toArray) w

/-- the list of operations that are left, as a word of its own: it is not to be unfolded -/
structure WL (P : Program) (ops : Array Oper) (Q : Exit → Act → World → Prop) (rest : List Oper) (a : Act) (w : World) : Prop where
  out : wpList P ops Q rest a w

section
variable {P : Program} {ops : Array Oper} {Q : Exit → Act → World → Prop} {rest : List Oper} {n : Nat} {l : List (Nat × Value)} {r : Nat → Value} {w w' : World}
  {op : Op} {ty : TypeId} {pos : String} {af : Array Edge} {v : Value} {d : Nat}

theorem sv (h : Ex P n l op ty w v w') (k : WL P ops Q rest (env n ((d, v) :: l) r) w') : WL P ops Q (⟨some d, op, ty, pos, af, none⟩ :: rest) (env n l r) w := by
  constructor
  unfold wpList
  rw [if_pos (by simp [Region.wanted])]
  left
  unfold Oper.wp
  rw [h r _ _ _ _]
  simp only [Oper.upon]
  rw [env_put]
  exact k.out
theorem su (h : ExU P n l op ty w w') (k : WL P ops Q rest (env n l r) w') : WL P ops Q (⟨none, op, ty, pos, af, none⟩ :: rest) (env n l r) w := by
  constructor
  unfold wpList
  rw [if_pos (by simp [Region.wanted])]
  left
  unfold Oper.wp
  rw [h r _ _ _ _]
  exact k.out
theorem sc {f : FuncId} {vs : List Value} {R : Value → World → Prop} (h : ExC P n l op ty w f vs) (hc : Ret P f vs w R)
    (k : ∀ v w', R v w' → WL P ops Q rest (env n ((d, v) :: l) r) w') : WL P ops Q (⟨some d, op, ty, pos, af, none⟩ :: rest) (env n l r) w := by
  constructor
  unfold wpList
  rw [if_pos (by simp [Region.wanted])]
  left
  unfold Oper.wp
  rw [h r _ _ _ _]
  simp only [Oper.upon]
  refine Calls.mono hc fun e w'' ⟨u, he, hR⟩ => ?_
  subst he
  simp only []
  rw [env_put]
  exact (k _ _ hR).out
theorem sc0 {f : FuncId} {vs : List Value} {R : Value → World → Prop} (h : ExC P n l op ty w f vs) (hc : Ret P f vs w R)
    (k : ∀ v w', R v w' → WL P ops Q rest (env n l r) w') : WL P ops Q (⟨none, op, ty, pos, af, none⟩ :: rest) (env n l r) w := by
  constructor
  unfold wpList
  rw [if_pos (by simp [Region.wanted])]
  left
  unfold Oper.wp
  rw [h r _ _ _ _]
  simp only [Oper.upon]
  refine Calls.mono hc fun e w'' ⟨u, he, hR⟩ => ?_
  subst he
  exact (k _ _ hR).out

theorem yielded_ev {j dj : Nat} {b : Bool} (hj : (ops[j]?).bind (·.dst) = some dj) (hb : ev n l (.tmp dj) = some (.bool b)) : yielded ops (env n l r).tmps j = some b := by
  have := getD_ev r hb
  simp only [yielded, hj]
  simp only [Option.bind_some]
  rw [Array.getD_eq_getD_getElem?] at this
  cases h : (env n l r).tmps[dj]? with
  | none => rw [h] at this; simp [undef] at this
  | some u => rw [h] at this; simp only [Option.getD_some] at this; subst this; rfl

theorem gyes {dst : Option Tmp} {j dj : Nat} {want : Bool} {a : Act} (hj : (ops[j]?).bind (·.dst) = some dj) (ha : a = env n l r) (hb : ev n l (.tmp dj) = some (.bool want))
    (k : WL P ops Q (⟨dst, op, ty, pos, af, none⟩ :: rest) a w) : WL P ops Q (⟨dst, op, ty, pos, af, some (j, want)⟩ :: rest) a w := by
  subst ha
  have k := k.out
  constructor
  unfold wpList at k ⊢
  rw [if_pos (by simp [Region.wanted])] at k
  rw [if_pos (by simp [Region.wanted, yielded_ev hj hb])]
  exact k
theorem gno {j dj : Nat} {want b : Bool} (hj : (ops[j]?).bind (·.dst) = some dj) (hb : ev n l (.tmp dj) = some (.bool b)) (hne : (b == want) = false)
    (k : WL P ops Q rest (env n ((d, undef) :: l) r) w) : WL P ops Q (⟨some d, op, ty, pos, af, some (j, want)⟩ :: rest) (env n l r) w := by
  constructor
  unfold wpList
  rw [if_neg (by simp only [Region.wanted, yielded_ev hj hb]; cases b <;> cases want <;> simp_all)]
  rw [env_put]
  exact k.out
end

/-! ### a region whose order is open -/
/-- how an operation of such a region is met: it reads; it turns what may be turned; it stands behind all that read -/
inductive Kd where
  | rd | ld | bh
def runH (P : Program) (ops : Array Oper) (Q : Exit → Act → World → Prop) (S : World → Prop) : List (Nat × Kd) → Act → World → Prop
  | [], a, w => Q .normal a w
  | (i, .rd) :: r, a, w => ∃ o v, ops[i]? = some o ∧ YieldsIf P ops S o v a ∧ S w ∧ runH P ops Q S r (a.put o.dst v) w
  | (i, .ld) :: r, a, w => wpOp P ops Q i (fun a' w' => S w' ∧ runH P ops Q S r a' w') a w
  | (i, .bh) :: r, a, w => wpOp P ops Q i (fun a' w' => runH P ops Q S r a' w') a w

def reads : List (Nat × Kd) → List Nat
  | [] => []
  | (i, .rd) :: r => i :: reads r
  | (_, .ld) :: r => reads r
  | (_, .bh) :: r => reads r

def okRun (ops : Array Oper) (st : List Nat) : Array Bool → List (Nat × Kd) → Bool
  | listed, [] => (Region.ready .any ops listed).isEmpty
  | listed, (i, .rd) :: r => st.contains i && Region.free .any ops listed i && (Region.ready .any ops listed).contains i && okRun ops st (listed.setIfInBounds i true) r
  | listed, (i, .ld) :: r => (Region.ready .any ops listed == [i]) && okRun ops st (listed.setIfInBounds i true) r
  | listed, (i, .bh) :: r => (Region.ready .any ops listed == [i]) && behind ops st i && okRun ops st (listed.setIfInBounds i true) r

section
variable {P : Program} {ops : Array Oper} {Q : Exit → Act → World → Prop} {S : World → Prop} {st : List Nat}

theorem wpAnyP_one {i : Nat} {fuel : Nat} {listed : Array Bool} {a : Act} {w : World} (hr : Region.ready .any ops listed = [i])
    (h : wpOp P ops Q i (fun a' w' => (behind ops st i = true ∨ S w') ∧ wpAnyP P ops Q S st fuel (listed.setIfInBounds i true) a' w') a w) : wpAnyP P ops Q S st (fuel + 1) listed a w :=
  ⟨fun h0 => (by rw [hr] at h0; cases h0), fun j hj => by
    rw [hr] at hj
    obtain rfl : j = i := by simpa using hj
    exact h⟩

theorem runH_sound (hs : Region.noSelect ops = true) (hQ : ∀ c d v a w, Q (.panic c) (a.put d v) w → Q (.panic c) a w) :
    ∀ (order : List (Nat × Kd)) (listed : Array Bool) (a : Act) (w : World) (fuel : Nat), closedUp ops listed → okRun ops st listed order = true → order.length ≤ fuel → runH P ops Q S order a w → wpAnyP P ops Q S st fuel listed a w
  | [], listed, a, w, fuel, _, hok, _, h => by
    simp only [okRun, List.isEmpty_iff] at hok
    cases fuel with
    | zero => exact ⟨hok, h⟩
    | succ fuel => exact ⟨fun _ => h, by rw [hok]; simp⟩
  | (i, .rd) :: r, listed, a, w, fuel, hc, hok, hf, h => by
    simp only [okRun, Bool.and_eq_true] at hok
    obtain ⟨o, v, ho, hy, hS, hk⟩ := h
    cases fuel with
    | zero => simp at hf
    | succ fuel =>
      have hr : i ∈ Region.ready .any ops listed := by simpa using hok.1.2
      refine wpAnyP_first ho (by simpa using hok.1.1.1) (Region.noSelect_spec hs) (fun c a w => hQ c _ _ a w) fuel listed a w hc hok.1.1.2 hr hy hS ?_
      exact runH_sound hs hQ r _ _ _ _ (closedUp_set hc hr) hok.2 (by simpa using hf) hk
  | (i, .ld) :: r, listed, a, w, fuel, hc, hok, hf, h => by
    simp only [okRun, Bool.and_eq_true, beq_iff_eq] at hok
    cases fuel with
    | zero => simp at hf
    | succ fuel =>
      refine wpAnyP_one hok.1 (wpOp_mono (fun a' w' h' => ⟨.inr h'.1, ?_⟩) h)
      exact runH_sound hs hQ r _ _ _ _ (closedUp_set hc (by rw [hok.1]; simp)) hok.2 (by simpa using hf) h'.2
  | (i, .bh) :: r, listed, a, w, fuel, hc, hok, hf, h => by
    simp only [okRun, Bool.and_eq_true, beq_iff_eq] at hok
    cases fuel with
    | zero => simp at hf
    | succ fuel =>
      refine wpAnyP_one hok.1.1 (wpOp_mono (fun a' w' h' => ⟨.inl hok.1.2, ?_⟩) h)
      exact runH_sound hs hQ r _ _ _ _ (closedUp_set hc (by rw [hok.1.1]; simp)) hok.2 (by simpa using hf) h'

theorem reg_draw {id : Nat} {a : Act} {w : World} (S : World → Prop) (order : List (Nat × Kd)) (hm : P.follows .mixedOrders = true)
    (hc : (Region.noSelect ops && okRun ops (reads order) (Array.replicate ops.size false) order && order.length.ble ops.size) = true)
    (hQ : ∀ c d v a w, Q (.panic c) (a.put d v) w → Q (.panic c) a w)
    (h : runH P ops Q S order a w.drew) : (Code.region id ops true).wp P Q a w := by
  simp only [Bool.and_eq_true] at hc
  exact wp_region_any hm (wpAny_of_P _ _ _ _ (runH_sound hc.1.1 hQ order _ _ _ _ (closedUp_start _) hc.1.2 (Nat.le_of_ble_eq_true hc.2) h))

variable {rest : List (Nat × Kd)} {n : Nat} {l : List (Nat × Value)} {r : Nat → Value} {w w' : World}
  {op : Op} {ty : TypeId} {pos : String} {af : Array Edge} {v : Value} {d i : Nat}

theorem hv (ho : ops[i]? = some ⟨some d, op, ty, pos, af, none⟩) (h : ∀ w, S w → Ex P n l op ty w v w) (hS : S w)
    (k : runH P ops Q S rest (env n ((d, v) :: l) r) w) : runH P ops Q S ((i, .rd) :: rest) (env n l r) w :=
  ⟨_, v, ho, .inl ⟨by simp [Region.wanted], fun w hw => h w hw r _ _ _ _⟩, hS, by rw [env_put]; exact k⟩
theorem hvg {j dj : Nat} {want : Bool} (ho : ops[i]? = some ⟨some d, op, ty, pos, af, some (j, want)⟩) (hj : (ops[j]?).bind (·.dst) = some dj) (hb : ev n l (.tmp dj) = some (.bool want))
    (h : ∀ w, S w → Ex P n l op ty w v w) (hS : S w)
    (k : runH P ops Q S rest (env n ((d, v) :: l) r) w) : runH P ops Q S ((i, .rd) :: rest) (env n l r) w :=
  ⟨_, v, ho, .inl ⟨by simp [Region.wanted, yielded_ev hj hb], fun w hw => h w hw r _ _ _ _⟩, hS, by rw [env_put]; exact k⟩
theorem hno {j dj : Nat} {want b : Bool} (ho : ops[i]? = some ⟨some d, op, ty, pos, af, some (j, want)⟩) (hj : (ops[j]?).bind (·.dst) = some dj) (hb : ev n l (.tmp dj) = some (.bool b)) (hne : (b == want) = false)
    (hS : S w) (k : runH P ops Q S rest (env n ((d, undef) :: l) r) w) : runH P ops Q S ((i, .rd) :: rest) (env n l r) w :=
  ⟨_, undef, ho, .inr ⟨by simp only [Region.wanted, yielded_ev hj hb]; cases b <;> cases want <;> simp_all, rfl⟩, hS, by rw [env_put]; exact k⟩
theorem hl (ho : ops[i]? = some ⟨some d, op, ty, pos, af, none⟩) (h : Ex P n l op ty w v w') (hS : S w')
    (k : runH P ops Q S rest (env n ((d, v) :: l) r) w') : runH P ops Q S ((i, .ld) :: rest) (env n l r) w := by
  simp only [runH, wpOp, ho]
  rw [if_pos (by simp [Region.wanted])]
  left
  unfold Oper.wp
  rw [h r _ _ _ _]
  simp only [Oper.upon]
  rw [env_put]
  exact ⟨hS, k⟩
theorem hlu (ho : ops[i]? = some ⟨none, op, ty, pos, af, none⟩) (h : ExU P n l op ty w w') (hS : S w')
    (k : runH P ops Q S rest (env n l r) w') : runH P ops Q S ((i, .ld) :: rest) (env n l r) w := by
  simp only [runH, wpOp, ho]
  rw [if_pos (by simp [Region.wanted])]
  left
  unfold Oper.wp
  rw [h r _ _ _ _]
  exact ⟨hS, k⟩
theorem hc {f : FuncId} {vs : List Value} {R : Value → World → Prop} (ho : ops[i]? = some ⟨some d, op, ty, pos, af, none⟩) (h : ExC P n l op ty w f vs) (hc : Ret P f vs w R)
    (k : ∀ v w', R v w' → S w' ∧ runH P ops Q S rest (env n ((d, v) :: l) r) w') : runH P ops Q S ((i, .ld) :: rest) (env n l r) w := by
  simp only [runH, wpOp, ho]
  rw [if_pos (by simp [Region.wanted])]
  left
  unfold Oper.wp
  rw [h r _ _ _ _]
  simp only [Oper.upon]
  refine Calls.mono hc fun e w'' ⟨u, he, hR⟩ => ?_
  subst he
  simp only []
  rw [env_put]
  exact k _ _ hR
theorem hc0 {f : FuncId} {vs : List Value} {R : Value → World → Prop} (ho : ops[i]? = some ⟨none, op, ty, pos, af, none⟩) (h : ExC P n l op ty w f vs) (hc : Ret P f vs w R)
    (k : ∀ v w', R v w' → S w' ∧ runH P ops Q S rest (env n l r) w') : runH P ops Q S ((i, .ld) :: rest) (env n l r) w := by
  simp only [runH, wpOp, ho]
  rw [if_pos (by simp [Region.wanted])]
  left
  unfold Oper.wp
  rw [h r _ _ _ _]
  simp only [Oper.upon]
  refine Calls.mono hc fun e w'' ⟨u, he, hR⟩ => ?_
  subst he
  exact k _ _ hR
/-! the same for an operation behind all that read -/
theorem bl (ho : ops[i]? = some ⟨some d, op, ty, pos, af, none⟩) (h : Ex P n l op ty w v w')
    (k : runH P ops Q S rest (env n ((d, v) :: l) r) w') : runH P ops Q S ((i, .bh) :: rest) (env n l r) w := by
  simp only [runH, wpOp, ho]
  rw [if_pos (by simp [Region.wanted])]
  left
  unfold Oper.wp
  rw [h r _ _ _ _]
  simp only [Oper.upon]
  rw [env_put]
  exact k
theorem blu (ho : ops[i]? = some ⟨none, op, ty, pos, af, none⟩) (h : ExU P n l op ty w w')
    (k : runH P ops Q S rest (env n l r) w') : runH P ops Q S ((i, .bh) :: rest) (env n l r) w := by
  simp only [runH, wpOp, ho]
  rw [if_pos (by simp [Region.wanted])]
  left
  unfold Oper.wp
  rw [h r _ _ _ _]
  exact k
theorem bc {f : FuncId} {vs : List Value} {R : Value → World → Prop} (ho : ops[i]? = some ⟨some d, op, ty, pos, af, none⟩) (h : ExC P n l op ty w f vs) (hc : Ret P f vs w R)
    (k : ∀ v w', R v w' → runH P ops Q S rest (env n ((d, v) :: l) r) w') : runH P ops Q S ((i, .bh) :: rest) (env n l r) w := by
  simp only [runH, wpOp, ho]
  rw [if_pos (by simp [Region.wanted])]
  left
  unfold Oper.wp
  rw [h r _ _ _ _]
  simp only [Oper.upon]
  refine Calls.mono hc fun e w'' ⟨u, he, hR⟩ => ?_
  subst he
  simp only []
  rw [env_put]
  exact k _ _ hR
/-- a call under a guard that holds -/
theorem hcg {f : FuncId} {vs : List Value} {R : Value → World → Prop} {j dj : Nat} {want : Bool} (ho : ops[i]? = some ⟨some d, op, ty, pos, af, some (j, want)⟩)
    (hj : (ops[j]?).bind (·.dst) = some dj) (hb : ev n l (.tmp dj) = some (.bool want)) (h : ExC P n l op ty w f vs) (hc : Ret P f vs w R)
    (k : ∀ v w', R v w' → S w' ∧ runH P ops Q S rest (env n ((d, v) :: l) r) w') : runH P ops Q S ((i, .ld) :: rest) (env n l r) w := by
  simp only [runH, wpOp, ho]
  rw [if_pos (by simp [Region.wanted, yielded_ev hj hb])]
  left
  unfold Oper.wp
  rw [h r _ _ _ _]
  simp only [Oper.upon]
  refine Calls.mono hc fun e w'' ⟨u, he, hR⟩ => ?_
  subst he
  simp only []
  rw [env_put]
  exact k _ _ hR
end

/-! ### code -/
section
variable {P : Program} {Q : Exit → Act → World → Prop} {a : Act} {w : World} {n : Nat} {l : List (Nat × Value)} {r : Nat → Value}

/-- a region, and what follows -/
theorem sreg {id : Nat} {ops : List Oper} {y : Code} (h : WL P ops.toArray (Exit.then (y.wp P Q) Q) ops a w) : (Code.seq (.region id ops.toArray false) y).wp P Q a w :=
  wp_seq (wp_region_lit h.out)
theorem send {ops : Array Oper} {y : Code} (h : y.wp P Q a w) : WL P ops (Exit.then (y.wp P Q) Q) [] a w := ⟨h⟩
theorem sdraw {id : Nat} {ops : Array Oper} {y : Code} (S : World → Prop) (order : List (Nat × Kd)) (hm : P.follows .mixedOrders = true)
    (hc : (Region.noSelect ops && okRun ops (reads order) (Array.replicate ops.size false) order && order.length.ble ops.size) = true)
    (hQ : ∀ c d v a w, Q (.panic c) (a.put d v) w → Q (.panic c) a w)
    (h : runH P ops (Exit.then (y.wp P Q) Q) S order a w.drew) : (Code.seq (.region id ops true) y).wp P Q a w :=
  wp_seq (reg_draw S order hm hc hQ h)
theorem hend {ops : Array Oper} {S : World → Prop} {y : Code} (h : y.wp P Q a w) : runH P ops (Exit.then (y.wp P Q) Q) S [] a w := h
/-- a region that stands last -/
theorem lreg {id : Nat} {ops : List Oper} (h : WL P ops.toArray Q ops a w) : (Code.region id ops.toArray false).wp P Q a w := wp_region_lit h.out
theorem lend {ops : Array Oper} (h : Q .normal a w) : WL P ops Q [] a w := ⟨h⟩
theorem ldraw {id : Nat} {ops : Array Oper} (S : World → Prop) (order : List (Nat × Kd)) (hm : P.follows .mixedOrders = true)
    (hc : (Region.noSelect ops && okRun ops (reads order) (Array.replicate ops.size false) order && order.length.ble ops.size) = true)
    (hQ : ∀ c d v a w, Q (.panic c) (a.put d v) w → Q (.panic c) a w)
    (h : runH P ops Q S order a w.drew) : (Code.region id ops true).wp P Q a w := reg_draw S order hm hc hQ h
theorem lhend {ops : Array Oper} {S : World → Prop} (h : Q .normal a w) : runH P ops Q S [] a w := h

theorem cyes {x : Operand} {p q : Code} (hx : ev n l x = some (.bool true)) (h : p.wp P Q (env n l r) w) : (Code.cond x p q).wp P Q (env n l r) w := wp_cond_true (ev_eval r hx) h
theorem cno {x : Operand} {p q : Code} (hx : ev n l x = some (.bool false)) (h : q.wp P Q (env n l r) w) : (Code.cond x p q).wp P Q (env n l r) w := wp_cond_false (ev_eval r hx) h
theorem cT {x : Operand} {p q : Code} {b : Bool} (hx : ev n l x = some (.bool b)) (hb : b = true) (h : p.wp P Q (env n l r) w) : (Code.cond x p q).wp P Q (env n l r) w := by subst hb; exact cyes hx h
theorem cF {x : Operand} {p q : Code} {b : Bool} (hx : ev n l x = some (.bool b)) (hb : b = false) (h : q.wp P Q (env n l r) w) : (Code.cond x p q).wp P Q (env n l r) w := by subst hb; exact cno hx h
theorem cB {x : Operand} {p q : Code} {b : Bool} (hx : ev n l x = some (.bool b)) (h1 : b = true → p.wp P Q (env n l r) w) (h2 : b = false → q.wp P Q (env n l r) w) : (Code.cond x p q).wp P Q (env n l r) w := by
  cases b with
  | true => exact cyes hx (h1 rfl)
  | false => exact cno hx (h2 rfl)

theorem eThen {K : Act → World → Prop} {id : Nat} (h : Q (.exit id) a w) : Exit.then K Q (.exit id) a w := h
theorem rThen {K : Act → World → Prop} (h : Q .ret a w) : Exit.then K Q .ret a w := h
theorem nThen {K : Act → World → Prop} (h : K a w) : Exit.then K Q .normal a w := h
theorem nBlock {id : Nat} (h : Q .normal a w) : Exit.inBlock id Q .normal a w := h
theorem rBlock {id : Nat} (h : Q .ret a w) : Exit.inBlock id Q .ret a w := h
theorem eHit {id : Nat} (h : Q .normal a w) : Exit.inBlock id Q (.exit id) a w := by simpa [Exit.inBlock] using h
theorem eMiss {id id' : Nat} (hne : id' ≠ id) (h : Q (.exit id') a w) : Exit.inBlock id Q (.exit id') a w := by simpa [Exit.inBlock, hne] using h

/-- A LOOP: u: the slots that the rounds leave alone; ch: those that they write and that are read later, of what goes from round to round. -/
theorem lp {c : Code} {α : Type} (u : List (Nat × Value)) (ch : α → List (Nat × Value)) (J : α → World → Prop) (μ : α → Nat) (x0 : α)
    (hl0 : okl l (ch x0 ++ u)) (h0 : J x0 w)
    (round : ∀ x r w, J x w → c.wp P (Exit.then (fun a' w' => ∃ y r', a' = env n (ch y ++ u) r' ∧ J y w' ∧ μ y < μ x) Q) (env n (ch x ++ u) r) w) :
    (Code.loop c).wp P Q (env n l r) w := by
  refine forget_wp (ch x0 ++ u) hl0 fun r0 => ?_
  intro b k cs
  have key : ∀ m x r w, μ x = m → J x w → ∃ e a' w', Q e a' w' ∧ Arrives P (lone (b.at (env n (ch x ++ u) r) (.code c :: .inLoop c :: k)) cs w) b k cs e a' w' := by
    intro m
    induction m using Nat.strongRecOn with
    | _ m ih =>
      intro x r w hm hJ
      obtain ⟨e, a1, w1, hq, harr⟩ := round x r w hJ b (.inLoop c :: k) cs
      cases e with
      | normal =>
        obtain ⟨y, r', rfl, hJ', hlt⟩ := hq
        obtain ⟨e2, a2, w2, hq2, harr2⟩ := ih (μ y) (hm ▸ hlt) y r' w1 rfl hJ'
        exact ⟨e2, a2, w2, hq2, .of_steps (Steps.trans harr (.one step_inLoop)) harr2⟩
      | exit id => exact ⟨_, a1, w1, hq, .pass (x := .inLoop c) rfl (fun _ _ => .inl (by simp)) harr⟩
      | goto g => exact ⟨_, a1, w1, hq, .pass (x := .inLoop c) rfl (fun _ _ => .inl (by simp)) harr⟩
      | ret => exact ⟨_, a1, w1, hq, .pass (x := .inLoop c) rfl (fun _ _ => .inl (by simp)) harr⟩
      | panic ch => exact ⟨_, a1, w1, hq, .pass (x := .inLoop c) rfl (fun _ _ => .inl (by simp)) harr⟩
      | outgrown => exact ⟨_, a1, w1, hq, .pass (x := .inLoop c) rfl (fun _ _ => .inl (by simp)) harr⟩
  obtain ⟨e, a', w', hq, harr⟩ := key _ x0 r0 w rfl h0
  exact ⟨e, a', w', hq, .of_steps (.one step_loop) harr⟩
/-- the end of a round -/
theorem env_okl {l' : List (Nat × Value)} (h : okl l l') : env n l r = env n l' (over l r) := congrArg (act n) (over_okl h r)
end
end Go.Proofs.YtifnodoffgfpbaaGreatDoor
