/- How a whole message is packed, and that what is packed is read as what it was, in plain Lean; conditions: none. -/
import Derived.Test.YtifnodoffgfpbaaGreatDoorRel
namespace Go.Proofs.YtifnodoffgfpbaaGreatDoor
open Go

def soaL (r : RecD) : List UInt8 := be32 r.n1.toNat ++ (be32 r.n2.toNat ++ (be32 r.n3.toNat ++ (be32 r.n4.toNat ++ be32 r.n5.toNat)))
theorem soaL_length (r : RecD) : (soaL r).length = 20 := rfl
def packMx (C : Option Ent) (pos : Nat) (r : RecD) : List UInt8 × Option Ent := (be16 r.n1.toNat ++ (packName C (pos + 2) (bt r.host)).1, (packName C (pos + 2) (bt r.host)).2)
def packSoa (C : Option Ent) (pos : Nat) (r : RecD) : List UInt8 × Option Ent :=
  ((packName C pos (bt r.host)).1 ++ ((packName (packName C pos (bt r.host)).2 (pos + (packName C pos (bt r.host)).1.length) (bt r.box)).1 ++ soaL r), (packName (packName C pos (bt r.host)).2 (pos + (packName C pos (bt r.host)).1.length) (bt r.box)).2)
def packBody (C : Option Ent) (pos : Nat) (r : RecD) : List UInt8 × Option Ent :=
  if r.kind = 2 ∨ r.kind = 3 ∨ r.kind = 5 then packName C pos (bt r.host)
  else if r.kind = 6 then packMx C pos r
  else if r.kind = 4 then packSoa C pos r
  else (bodyL r, C)
/-- the parts of a record behind its name -/
def packTail (r : RecD) (body : List UInt8) : List UInt8 := be16 (typeN r).toNat ++ (be16 r.cls.toNat ++ (be32 r.ttl.toNat ++ (be16 body.length ++ body)))
def packRec (C : Option Ent) (pos : Nat) (r : RecD) : List UInt8 × Option Ent :=
  ((packName C pos (bt r.name)).1 ++ packTail r (packBody (packName C pos (bt r.name)).2 (pos + (packName C pos (bt r.name)).1.length + 10) r).1, (packBody (packName C pos (bt r.name)).2 (pos + (packName C pos (bt r.name)).1.length + 10) r).2)
def packAsk (C : Option Ent) (pos : Nat) (a : AskD) : List UInt8 × Option Ent := ((packName C pos (bt a.name)).1 ++ (be16 a.typ.toNat ++ be16 a.cls.toNat), (packName C pos (bt a.name)).2)
def packAll {α : Type} (f : Option Ent → Nat → α → List UInt8 × Option Ent) : Option Ent → Nat → List α → List UInt8 × Option Ent
  | C, _, [] => ([], C)
  | C, pos, x :: xs => ((f C pos x).1 ++ (packAll f (f C pos x).2 (pos + (f C pos x).1.length) xs).1, (packAll f (f C pos x).2 (pos + (f C pos x).1.length) xs).2)
theorem packAll_snoc {α : Type} (f : Option Ent → Nat → α → List UInt8 × Option Ent) : ∀ (xs : List α) (C : Option Ent) (pos : Nat) (x : α),
    packAll f C pos (xs ++ [x]) = ((packAll f C pos xs).1 ++ (f (packAll f C pos xs).2 (pos + (packAll f C pos xs).1.length) x).1, (f (packAll f C pos xs).2 (pos + (packAll f C pos xs).1.length) x).2)
  | [], C, pos, x => by simp [packAll]
  | y :: ys, C, pos, x => by
    simp only [List.cons_append, packAll]
    rw [packAll_snoc f ys]
    simp only [List.append_assoc, List.length_append, Nat.add_assoc]
def countsM (m : MsgD) : List Nat := [m.asks.length, m.one.length, m.two.length, m.three.length]
/-- the parts of a message: what each adds, and the map behind it -/
def packA (C : Option Ent) (m : MsgD) := packAll packAsk C 12 m.asks
def pack1 (C : Option Ent) (m : MsgD) := packAll packRec (packA C m).2 (12 + (packA C m).1.length) m.one
def pack2 (C : Option Ent) (m : MsgD) := packAll packRec (pack1 C m).2 (12 + (packA C m).1.length + (pack1 C m).1.length) m.two
def pack3 (C : Option Ent) (m : MsgD) := packAll packRec (pack2 C m).2 (12 + (packA C m).1.length + (pack1 C m).1.length + (pack2 C m).1.length) m.three
def packM (C : Option Ent) (m : MsgD) : List UInt8 := headL m.head (countsM m) ++ ((packA C m).1 ++ ((pack1 C m).1 ++ ((pack2 C m).1 ++ (pack3 C m).1)))

/-! ### without a map -/
def NamesOk (r : RecD) : Prop := nameL (bt r.name) ∧ (r.kind = 2 ∨ r.kind = 3 ∨ r.kind = 5 ∨ r.kind = 6 ∨ r.kind = 9 ∨ r.kind = 11 ∨ r.kind = 12 ∨ r.kind = 4 → nameL (bt r.host)) ∧ (r.kind = 4 → nameL (bt r.box))
theorem packName_non {s : List UInt8} (h : nameL s) (pos : Nat) : packName none pos s = (wire s, none) := by
  simp only [packName]
  by_cases hd : s = [46]
  · rw [if_pos hd, hd]; rfl
  · rw [if_neg hd]
    rcases h with h | ⟨_, h, _⟩
    · exact absurd h hd
    · rw [packGo_none _ [] _ h]; rfl
theorem packBody_non {r : RecD} (h : NamesOk r) (pos : Nat) : packBody none pos r = (bodyL r, none) := by
  simp only [packBody, packMx, packSoa, bodyL]
  by_cases h1 : r.kind = 2 ∨ r.kind = 3 ∨ r.kind = 5
  · rw [if_pos h1, if_neg (by omega), if_neg (by omega), if_pos h1, packName_non (h.2.1 (by omega))]
  · rw [if_neg h1]
    by_cases h2 : r.kind = 6
    · rw [if_pos h2, if_neg (by omega), if_neg (by omega), if_neg h1, if_pos h2, packName_non (h.2.1 (by omega))]
    · rw [if_neg h2]
      by_cases h3 : r.kind = 4
      · rw [if_pos h3, if_neg (by omega), if_neg (by omega), if_neg h1, if_neg h2, if_pos h3, packName_non (h.2.1 (by omega)), packName_non (h.2.2 h3)]; rfl
      · rw [if_neg h3]
theorem packRec_non {r : RecD} (h : NamesOk r) (pos : Nat) : packRec none pos r = (recL r, none) := by
  simp only [packRec, packName_non h.1, packBody_non h, packTail, recL]
theorem packAsk_non {a : AskD} (h : nameL (bt a.name)) (pos : Nat) : packAsk none pos a = (askL a, none) := by
  simp only [packAsk, packName_non h, askL]
theorem packAll_non {α : Type} {f : Option Ent → Nat → α → List UInt8 × Option Ent} {g : α → List UInt8} : ∀ (xs : List α) (pos : Nat), (∀ x ∈ xs, ∀ pos, f none pos x = (g x, none)) → packAll f none pos xs = ((xs.map g).flatten, none)
  | [], pos, _ => rfl
  | x :: xs, pos, h => by
    simp only [packAll]
    rw [h x (by simp) pos]
    simp only []
    rw [packAll_non xs _ (fun y hy => h y (by simp [hy]))]
    rfl
def MsgNames (m : MsgD) : Prop := (∀ a ∈ m.asks, nameL (bt a.name)) ∧ (∀ r ∈ m.one, NamesOk r) ∧ (∀ r ∈ m.two, NamesOk r) ∧ (∀ r ∈ m.three, NamesOk r)
theorem packM_non {m : MsgD} (h : MsgNames m) : packM none m = msgL m := by
  have ha : packA none m = (asksL m.asks, none) := packAll_non _ _ (fun a ha pos => packAsk_non (h.1 a ha) pos)
  have h1 : pack1 none m = (recsL m.one, none) := by rw [pack1, ha]; exact packAll_non _ _ (fun a ha pos => packRec_non (h.2.1 a ha) pos)
  have h2 : pack2 none m = (recsL m.two, none) := by rw [pack2, h1]; exact packAll_non _ _ (fun a ha pos => packRec_non (h.2.2.1 a ha) pos)
  have h3 : pack3 none m = (recsL m.three, none) := by rw [pack3, h2]; exact packAll_non _ _ (fun a ha pos => packRec_non (h.2.2.2 a ha) pos)
  rw [packM, ha, h1, h2, h3]; rfl

/-! ### how long it is -/
theorem packGo_short : ∀ (cs lab : List UInt8) (M : Ent) (pos : Nat), nameGo lab.length cs = true → (packGo (some M) pos lab cs).1.length ≤ (wireGo lab cs).length + 1
  | [], lab, M, pos, _ => by simp [packGo, wireGo]
  | c :: cs, lab, M, pos, hn => by
    by_cases hc : c = 46
    · subst hc
      rw [nameGo, if_pos rfl] at hn
      split at hn
      · cases hn
      · rename_i hl
        have h0 : lab ≠ [] := by intro h; subst h; simp at hl
        have ih := packGo_short cs [] M (pos + (lab.length + 1)) (by simpa using hn)
        simp only [packGo, wireGo, if_true, if_neg h0, List.length_append, List.length_cons] at ih ⊢
        omega
    · have hn' : nameGo (lab.length + 1) cs = true := nameGo_let hn hc
      by_cases hl : lab = []
      · subst hl
        cases hlk : look M (mkB (c :: cs)) with
        | some p =>
          rw [pk_hit hc hlk]
          simp only [wireGo, hc, if_false, List.nil_append, ptrL, List.length_cons, List.length_nil]
          have : ∀ (cs lab : List UInt8), lab ≠ [] → nameGo lab.length cs = true → 1 ≤ (wireGo lab cs).length := by
            intro cs
            induction cs with
            | nil => intro lab h0 hn; cases lab with
              | nil => exact absurd rfl h0
              | cons x xs => simp [nameGo] at hn
            | cons d ds ih =>
              intro lab h0 hn
              by_cases hd : d = 46
              · subst hd; simp only [wireGo, if_true, if_neg h0, List.length_append, List.length_cons]; omega
              · simp only [wireGo, hd, if_false]
                exact ih (lab ++ [d]) (by simp) (by simpa using nameGo_let hn hd)
          have := this cs [c] (by simp) (by simpa using hn')
          omega
        | none =>
          rw [pk_miss hc hlk]
          have ih := packGo_short cs [c] (if pos ≤ 16383 then M ++ [(mkB (c :: cs), UInt16.ofNat pos)] else M) pos (by simpa using hn')
          simp only [wireGo, hc, if_false, List.nil_append]
          exact ih
      · rw [pk_mid hc hl]
        have ih := packGo_short cs (lab ++ [c]) M pos (by simpa using hn')
        simp only [wireGo, hc, if_false]
        exact ih
theorem packName_short {s : List UInt8} (h : nameL s) (M : Ent) (pos : Nat) : (packName (some M) pos s).1.length ≤ (wire s).length := by
  simp only [packName]
  by_cases hd : s = [46]
  · rw [if_pos hd, hd]; exact Nat.le_refl _
  · rw [if_neg hd]
    rcases h with h | ⟨_, h, _⟩
    · exact absurd h hd
    · have := packGo_short s [] M pos h
      simpa [wire] using this
theorem packName_some (s : List UInt8) (M : Ent) (pos : Nat) : ∃ M', (packName (some M) pos s).2 = some M' := by
  simp only [packName]
  split
  · exact ⟨M, rfl⟩
  · exact packGo_some s [] M pos
theorem packBody_short {r : RecD} (h : NamesOk r) (M : Ent) (pos : Nat) : (packBody (some M) pos r).1.length ≤ (bodyL r).length ∧ ∃ M', (packBody (some M) pos r).2 = some M' := by
  simp only [packBody, packMx, packSoa, bodyL]
  by_cases h1 : r.kind = 2 ∨ r.kind = 3 ∨ r.kind = 5
  · rw [if_pos h1, if_neg (by omega), if_neg (by omega), if_pos h1]
    exact ⟨packName_short (h.2.1 (by omega)) M pos, packName_some _ _ _⟩
  · rw [if_neg h1]
    by_cases h2 : r.kind = 6
    · rw [if_pos h2, if_neg (by omega), if_neg (by omega), if_neg h1, if_pos h2]
      refine ⟨?_, packName_some _ _ _⟩
      have := packName_short (h.2.1 (by omega)) M (pos + 2)
      simp only [List.length_append]; omega
    · rw [if_neg h2]
      by_cases h3 : r.kind = 4
      · rw [if_pos h3, if_neg (by omega), if_neg (by omega), if_neg h1, if_neg h2, if_pos h3]
        have e1 := packName_short (h.2.1 (by omega)) M pos
        obtain ⟨M1, hM1⟩ := packName_some (bt r.host) M pos
        simp only [hM1]
        have e2 := packName_short (h.2.2 h3) M1 (pos + (packName (some M) pos (bt r.host)).1.length)
        refine ⟨?_, packName_some _ _ _⟩
        simp only [List.length_append, soaL_length, be32_length]; omega
      · rw [if_neg h3, if_neg h1, if_neg h2, if_neg h3]
        exact ⟨Nat.le_refl _, M, rfl⟩
theorem packRec_short {r : RecD} (h : NamesOk r) (M : Ent) (pos : Nat) : (packRec (some M) pos r).1.length ≤ (recL r).length ∧ ∃ M', (packRec (some M) pos r).2 = some M' := by
  obtain ⟨M1, hM1⟩ := packName_some (bt r.name) M pos
  have e1 := packName_short h.1 M pos
  simp only [packRec, hM1]
  have e2 := packBody_short h M1 (pos + (packName (some M) pos (bt r.name)).1.length + 10)
  refine ⟨?_, e2.2⟩
  simp only [packTail, recL, List.length_append, be16_length, be32_length]
  omega
theorem packAsk_short {a : AskD} (h : nameL (bt a.name)) (M : Ent) (pos : Nat) : (packAsk (some M) pos a).1.length ≤ (askL a).length ∧ ∃ M', (packAsk (some M) pos a).2 = some M' := by
  have e1 := packName_short h M pos
  simp only [packAsk]
  refine ⟨?_, packName_some _ _ _⟩
  simp only [askL, List.length_append, be16_length]; omega
theorem packAll_short {α : Type} {f : Option Ent → Nat → α → List UInt8 × Option Ent} {g : α → List UInt8} : ∀ (xs : List α) (M : Ent) (pos : Nat), (∀ x ∈ xs, ∀ M pos, (f (some M) pos x).1.length ≤ (g x).length ∧ ∃ M', (f (some M) pos x).2 = some M') →
    (packAll f (some M) pos xs).1.length ≤ ((xs.map g).flatten).length ∧ ∃ M', (packAll f (some M) pos xs).2 = some M'
  | [], M, pos, _ => ⟨Nat.le_refl _, M, rfl⟩
  | x :: xs, M, pos, h => by
    obtain ⟨h1, M1, hM1⟩ := h x (by simp) M pos
    simp only [packAll, hM1]
    have ih := packAll_short xs M1 (pos + (f (some M) pos x).1.length) (fun y hy => h y (by simp [hy]))
    refine ⟨?_, ih.2⟩
    simp only [List.length_append, List.map_cons, List.flatten_cons]
    omega
theorem packM_short {m : MsgD} (h : MsgNames m) (M : Ent) : (packM (some M) m).length ≤ (msgL m).length := by
  obtain ⟨a1, Ma, ha⟩ := packAll_short (f := packAsk) (g := askL) m.asks M 12 (fun x hx => packAsk_short (h.1 x hx))
  obtain ⟨b1, Mb, hb⟩ := packAll_short (f := packRec) (g := recL) m.one Ma (12 + (packA (some M) m).1.length) (fun x hx => packRec_short (h.2.1 x hx))
  obtain ⟨c1, Mc, hc⟩ := packAll_short (f := packRec) (g := recL) m.two Mb (12 + (packA (some M) m).1.length + (pack1 (some M) m).1.length) (fun x hx => packRec_short (h.2.2.1 x hx))
  obtain ⟨d1, Md, hd⟩ := packAll_short (f := packRec) (g := recL) m.three Mc (12 + (packA (some M) m).1.length + (pack1 (some M) m).1.length + (pack2 (some M) m).1.length) (fun x hx => packRec_short (h.2.2.2 x hx))
  have e1 : pack1 (some M) m = packAll packRec (some Ma) (12 + (packA (some M) m).1.length) m.one := by rw [pack1, packA, ha]
  rw [← e1] at b1 hb
  have e2 : pack2 (some M) m = packAll packRec (some Mb) (12 + (packA (some M) m).1.length + (pack1 (some M) m).1.length) m.two := by rw [pack2, hb]
  rw [← e2] at c1 hc
  have e3 : pack3 (some M) m = packAll packRec (some Mc) (12 + (packA (some M) m).1.length + (pack1 (some M) m).1.length + (pack2 (some M) m).1.length) m.three := by rw [pack3, hc]
  rw [← e3] at d1 hd
  have e0 : (packA (some M) m).1.length ≤ (asksL m.asks).length := a1
  simp only [packM, msgL, List.length_append, recsL, countsM] at b1 c1 d1 ⊢
  omega

/-! ### how it is read -/
def BodyR (K : Nat → Prop) (b : List UInt8) (i : Nat) (r : RecD) (e : Nat) : Prop :=
  (r.kind = 2 ∨ r.kind = 3 ∨ r.kind = 5 → ∃ k, K k ∧ NameAt b k i (bt r.host) e) ∧
  (r.kind = 6 → Std b i (be16 r.n1.toNat) ∧ ∃ k, K k ∧ NameAt b k (i + 2) (bt r.host) e) ∧
  (r.kind = 4 → ∃ e1 e2, (∃ k, K k ∧ NameAt b k i (bt r.host) e1) ∧ (∃ k, K k ∧ NameAt b k e1 (bt r.box) e2) ∧ Std b e2 (soaL r) ∧ e = e2 + 20) ∧
  (r.kind = 9 → Std b i (be16 r.n1.toNat ++ (be16 r.n2.toNat ++ be16 r.n3.toNat)) ∧ NameAt b 0 (i + 6) (bt r.host) e) ∧
  (r.kind = 11 ∨ r.kind = 12 → Std b i (be16 r.n1.toNat) ∧ ∃ e1, NameAt b 0 (i + 2) (bt r.host) e1 ∧ Std b e1 (pairsL r.pairs) ∧ e = e1 + (pairsL r.pairs).length) ∧
  (r.kind = 1 ∨ r.kind = 7 ∨ r.kind = 8 ∨ r.kind = 10 ∨ r.kind = 13 → Std b i (bodyL r) ∧ e = i + (bodyL r).length)
def RecR (K : Nat → Prop) (b : List UInt8) (i : Nat) (r : RecD) (e : Nat) : Prop :=
  ∃ e0 len, (∃ k, K k ∧ NameAt b k i (bt r.name) e0) ∧ Std b e0 (be16 (typeN r).toNat ++ (be16 r.cls.toNat ++ (be32 r.ttl.toNat ++ be16 len))) ∧ len < 65536 ∧ BodyR K b (e0 + 10) r (e0 + 10 + len) ∧ e = e0 + 10 + len
def AskR (K : Nat → Prop) (b : List UInt8) (i : Nat) (a : AskD) (e : Nat) : Prop := ∃ e0, (∃ k, K k ∧ NameAt b k i (bt a.name) e0) ∧ Std b e0 (be16 a.typ.toNat ++ be16 a.cls.toNat) ∧ e = e0 + 4
def ListR {α : Type} (R : Nat → α → Nat → Prop) : Nat → List α → Nat → Prop
  | i, [], e => i = e
  | i, x :: xs, e => ∃ e1, R i x e1 ∧ ListR R e1 xs e
def MsgR (K : Nat → Prop) (b : List UInt8) (m : MsgD) : Prop :=
  Std b 0 (headL m.head (countsM m)) ∧ ∃ e0 e1 e2, ListR (AskR K b) 12 m.asks e0 ∧ ListR (RecR K b) e0 m.one e1 ∧ ListR (RecR K b) e1 m.two e2 ∧ ListR (RecR K b) e2 m.three b.length

/-- how many pointers the names of a record may have -/
def KName (K : Nat → Prop) (s : ByteArray) : Prop := ∀ k, k ≤ ((bt s).drop 1).count 46 → K k
def KRec (K : Nat → Prop) (r : RecD) : Prop := KName K r.name ∧ KName K r.host ∧ KName K r.box
def KMsg (K : Nat → Prop) (m : MsgD) : Prop := (∀ a ∈ m.asks, KName K a.name) ∧ (∀ r ∈ m.one, KRec K r) ∧ (∀ r ∈ m.two, KRec K r) ∧ (∀ r ∈ m.three, KRec K r)

theorem bodyL_simple {r : RecD} {K : Nat → Prop} {b : List UInt8} {i : Nat} (h : NamesOk r) (h1 : ¬ (r.kind = 2 ∨ r.kind = 3 ∨ r.kind = 5)) (h2 : ¬ r.kind = 6) (h3 : ¬ r.kind = 4) (hb : Std b i (bodyL r)) : BodyR K b i r (i + (bodyL r).length) := by
  refine ⟨fun h => absurd h h1, fun h => absurd h h2, fun h => absurd h h3, fun h9 => ?_, fun h11 => ?_, fun _ => ⟨hb, rfl⟩⟩
  · have e : bodyL r = (be16 r.n1.toNat ++ (be16 r.n2.toNat ++ be16 r.n3.toNat)) ++ wire (bt r.host) := by
      rw [bodyL, if_neg (by omega), if_neg (by omega), if_neg h1, if_neg h2, if_neg h3, if_neg (by omega), if_pos h9]
      simp
    rw [e] at hb ⊢
    refine ⟨hb.left, ?_⟩
    have := wire_at (h.2.1 (by omega)) (hb.right' (k := i + 6) (by simp [be16_length]))
    rw [List.length_append, show (be16 r.n1.toNat ++ (be16 r.n2.toNat ++ be16 r.n3.toNat)).length = 6 from rfl, ← Nat.add_assoc]
    exact this
  · have e : bodyL r = be16 r.n1.toNat ++ (wire (bt r.host) ++ pairsL r.pairs) := by
      rw [bodyL, if_neg (by omega), if_neg (by omega), if_neg h1, if_neg h2, if_neg h3, if_neg (by omega), if_neg (by omega), if_neg (by omega), if_pos h11]
    rw [e] at hb ⊢
    have hb2 := hb.right' (k := i + 2) (by simp [be16_length])
    refine ⟨hb.left, _, wire_at (h.2.1 (by omega)) hb2.left, hb2.right, ?_⟩
    simp only [List.length_append, be16_length]; omega
theorem packBody_at {r : RecD} {K : Nat → Prop} {b : List UInt8} {M : Ent} {pos : Nat} (h : NamesOk r) (hK : KRec K r) (hM : GoodM b pos M) (hb : Std b pos (packBody (some M) pos r).1) :
    BodyR K b pos r (pos + (packBody (some M) pos r).1.length) ∧ ∃ M', (packBody (some M) pos r).2 = some M' ∧ GoodM b (pos + (packBody (some M) pos r).1.length) M' := by
  have upM : ∀ {M : Ent} {p q : Nat}, GoodM b p M → p ≤ q → GoodM b q M := fun h hl key p hp => (h key p hp).up hl
  simp only [packBody] at hb ⊢
  by_cases h1 : r.kind = 2 ∨ r.kind = 3 ∨ r.kind = 5
  · rw [if_pos h1] at hb ⊢
    obtain ⟨⟨k, hk, hkl⟩, M', hM', hg⟩ := packName_at (h.2.1 (by omega)) hb hM
    exact ⟨⟨fun _ => ⟨k, hK.2.1 k hkl, hk⟩, fun _ => by omega, fun _ => by omega, fun _ => by omega, fun _ => by omega, fun _ => by omega⟩, M', hM', hg⟩
  · rw [if_neg h1] at hb ⊢
    by_cases h2 : r.kind = 6
    · rw [if_pos h2] at hb ⊢
      simp only [packMx] at hb ⊢
      obtain ⟨⟨k, hk, hkl⟩, M', hM', hg⟩ := packName_at (h.2.1 (by omega)) (hb.right' (k := pos + 2) rfl) (upM hM (by omega))
      have e : pos + (be16 r.n1.toNat ++ (packName (some M) (pos + 2) (bt r.host)).1).length = pos + 2 + (packName (some M) (pos + 2) (bt r.host)).1.length := by simp [be16_length]; omega
      rw [e]
      exact ⟨⟨fun _ => by omega, fun _ => ⟨hb.left, k, hK.2.1 k hkl, hk⟩, fun _ => by omega, fun _ => by omega, fun _ => by omega, fun _ => by omega⟩, M', hM', hg⟩
    · rw [if_neg h2] at hb ⊢
      by_cases h3 : r.kind = 4
      · rw [if_pos h3] at hb ⊢
        simp only [packSoa] at hb ⊢
        obtain ⟨⟨k, hk, hkl⟩, M', hM', hg⟩ := packName_at (h.2.1 (by omega)) hb.left hM
        rw [hM'] at hb ⊢
        have hb2 := hb.right
        obtain ⟨⟨k2, hk2, hkl2⟩, M2, hM2, hg2⟩ := packName_at (h.2.2 h3) hb2.left hg
        rw [hM2]
        refine ⟨⟨fun _ => by omega, fun _ => by omega, fun _ => ⟨_, _, ⟨k, hK.2.1 k hkl, hk⟩, ⟨k2, hK.2.2 k2 hkl2, hk2⟩, hb2.right, ?_⟩, fun _ => by omega, fun _ => by omega, fun _ => by omega⟩, M2, rfl, upM hg2 ?_⟩
        · simp only [List.length_append, soaL_length]; omega
        · simp only [List.length_append, soaL_length]; omega
      · rw [if_neg h3] at hb ⊢
        exact ⟨bodyL_simple h h1 h2 h3 hb, M, rfl, upM hM (by omega)⟩
theorem be16_of_mod {n : Nat} (h : n < 65536) : n % 65536 = n := by omega
theorem packRec_at {r : RecD} {K : Nat → Prop} {b : List UInt8} {M : Ent} {pos : Nat} (h : NamesOk r) (hl : (bodyL r).length < 65536) (hK : KRec K r) (hM : GoodM b pos M) (hb : Std b pos (packRec (some M) pos r).1) :
    RecR K b pos r (pos + (packRec (some M) pos r).1.length) ∧ ∃ M', (packRec (some M) pos r).2 = some M' ∧ GoodM b (pos + (packRec (some M) pos r).1.length) M' := by
  simp only [packRec] at hb ⊢
  obtain ⟨⟨k, hk, hkl⟩, M', hM', hg⟩ := packName_at h.1 hb.left hM
  rw [hM'] at hb ⊢
  have hb2 := hb.right
  simp only [packTail] at hb2
  have e0 : ∀ body : List UInt8, be16 (typeN r).toNat ++ (be16 r.cls.toNat ++ (be32 r.ttl.toNat ++ (be16 body.length ++ body))) = (be16 (typeN r).toNat ++ (be16 r.cls.toNat ++ (be32 r.ttl.toNat ++ be16 body.length))) ++ body := by intro body; simp
  rw [e0] at hb2
  have hb3 := hb2.right' (k := pos + (packName (some M) pos (bt r.name)).1.length + 10) rfl
  have hs := (packBody_short h M' (pos + (packName (some M) pos (bt r.name)).1.length + 10)).1
  obtain ⟨hbody, M2, hM2, hg2⟩ := packBody_at h hK (fun key p hp => (hg key p hp).up (by omega)) hb3
  have elen : pos + ((packName (some M) pos (bt r.name)).1 ++ packTail r (packBody (some M') (pos + (packName (some M) pos (bt r.name)).1.length + 10) r).1).length = pos + (packName (some M) pos (bt r.name)).1.length + 10 + (packBody (some M') (pos + (packName (some M) pos (bt r.name)).1.length + 10) r).1.length := by
    simp only [packTail, List.length_append, be16_length, be32_length]; omega
  rw [elen]
  exact ⟨⟨_, _, ⟨k, hK.1 k hkl, hk⟩, hb2.left, by omega, hbody, rfl⟩, M2, hM2, hg2⟩
theorem packAsk_at {a : AskD} {K : Nat → Prop} {b : List UInt8} {M : Ent} {pos : Nat} (h : nameL (bt a.name)) (hK : KName K a.name) (hM : GoodM b pos M) (hb : Std b pos (packAsk (some M) pos a).1) :
    AskR K b pos a (pos + (packAsk (some M) pos a).1.length) ∧ ∃ M', (packAsk (some M) pos a).2 = some M' ∧ GoodM b (pos + (packAsk (some M) pos a).1.length) M' := by
  simp only [packAsk] at hb ⊢
  obtain ⟨⟨k, hk, hkl⟩, M', hM', hg⟩ := packName_at h hb.left hM
  have elen : pos + ((packName (some M) pos (bt a.name)).1 ++ (be16 a.typ.toNat ++ be16 a.cls.toNat)).length = pos + (packName (some M) pos (bt a.name)).1.length + 4 := by
    simp only [List.length_append, be16_length]; omega
  rw [elen]
  exact ⟨⟨_, ⟨k, hK k hkl, hk⟩, hb.right, rfl⟩, M', hM', fun key p hp => (hg key p hp).up (by omega)⟩
theorem packAll_at {α : Type} {f : Option Ent → Nat → α → List UInt8 × Option Ent} {R : Nat → α → Nat → Prop} {b : List UInt8} : ∀ (xs : List α) (M : Ent) (pos : Nat), GoodM b pos M → Std b pos (packAll f (some M) pos xs).1 →
    (∀ x ∈ xs, ∀ M pos, GoodM b pos M → Std b pos (f (some M) pos x).1 → R pos x (pos + (f (some M) pos x).1.length) ∧ ∃ M', (f (some M) pos x).2 = some M' ∧ GoodM b (pos + (f (some M) pos x).1.length) M') →
    ListR R pos xs (pos + (packAll f (some M) pos xs).1.length) ∧ ∃ M', (packAll f (some M) pos xs).2 = some M' ∧ GoodM b (pos + (packAll f (some M) pos xs).1.length) M'
  | [], M, pos, hM, _, _ => ⟨rfl, M, rfl, hM⟩
  | x :: xs, M, pos, hM, hb, h => by
    simp only [packAll] at hb ⊢
    obtain ⟨h1, M1, hM1, hg⟩ := h x (by simp) M pos hM hb.left
    rw [hM1] at hb ⊢
    obtain ⟨h2, M2, hM2, hg2⟩ := packAll_at xs M1 _ hg hb.right (fun y hy => h y (by simp [hy]))
    have e : pos + ((f (some M) pos x).1 ++ (packAll f (some M1) (pos + (f (some M) pos x).1.length) xs).1).length = pos + (f (some M) pos x).1.length + (packAll f (some M1) (pos + (f (some M) pos x).1.length) xs).1.length := by
      simp only [List.length_append]; omega
    rw [e]
    exact ⟨⟨_, h1, h2⟩, M2, hM2, hg2⟩
theorem headL_len (h : HeadD) (m : MsgD) : (headL h (countsM m)).length = 12 := rfl
/-- WHAT IS PACKED WITH A MAP IS READ AS WHAT IT WAS. -/
theorem packM_at {m : MsgD} {K : Nat → Prop} (h : MsgNames m) (hl : ∀ r, r ∈ m.one ∨ r ∈ m.two ∨ r ∈ m.three → (bodyL r).length < 65536) (hK : KMsg K m) : MsgR K (packM (some []) m) m := by
  have hb : Std (packM (some []) m) 0 (packM (some []) m) := Std.self _
  obtain ⟨b, hbd⟩ : ∃ b, b = packM (some []) m := ⟨_, rfl⟩
  rw [← hbd] at hb ⊢
  conv at hb => arg 3; rw [hbd]
  simp only [packM] at hb
  have hb1 := hb.right' (k := 12) (by rw [headL_len])
  have hlen : b.length = 12 + (packA (some []) m).1.length + (pack1 (some []) m).1.length + (pack2 (some []) m).1.length + (pack3 (some []) m).1.length := by
    rw [hbd]; simp only [packM, List.length_append, headL_len]; omega
  obtain ⟨ha, Ma, hMa, ga⟩ := packAll_at (f := packAsk) (R := AskR K b) m.asks [] 12 (fun key p hp => by simp [look] at hp) hb1.left (fun x hx M pos hM hs => packAsk_at (h.1 x hx) (hK.1 x hx) hM hs)
  have e1 : pack1 (some []) m = packAll packRec (some Ma) (12 + (packA (some []) m).1.length) m.one := by rw [pack1, packA, hMa]
  have hb2 := hb1.right
  obtain ⟨h1, M1, hM1, g1⟩ := packAll_at (f := packRec) (R := RecR K b) m.one Ma (12 + (packA (some []) m).1.length) ga (by rw [← e1]; exact hb2.left) (fun x hx M pos hM hs => packRec_at (h.2.1 x hx) (hl x (.inl hx)) (hK.2.1 x hx) hM hs)
  rw [← e1] at h1 hM1 g1
  have e2 : pack2 (some []) m = packAll packRec (some M1) (12 + (packA (some []) m).1.length + (pack1 (some []) m).1.length) m.two := by rw [pack2, hM1]
  have hb3 := hb2.right
  obtain ⟨h2, M2, hM2, g2⟩ := packAll_at (f := packRec) (R := RecR K b) m.two M1 _ g1 (by rw [← e2]; exact hb3.left) (fun x hx M pos hM hs => packRec_at (h.2.2.1 x hx) (hl x (.inr (.inl hx))) (hK.2.2.1 x hx) hM hs)
  rw [← e2] at h2 hM2 g2
  have e3 : pack3 (some []) m = packAll packRec (some M2) (12 + (packA (some []) m).1.length + (pack1 (some []) m).1.length + (pack2 (some []) m).1.length) m.three := by rw [pack3, hM2]
  obtain ⟨h3, M3, hM3, g3⟩ := packAll_at (f := packRec) (R := RecR K b) m.three M2 _ g2 (by rw [← e3]; exact hb3.right) (fun x hx M pos hM hs => packRec_at (h.2.2.2 x hx) (hl x (.inr (.inr hx))) (hK.2.2.2 x hx) hM hs)
  rw [← e3] at h3
  rw [← hlen] at h3
  exact ⟨hb.left, _, _, _, ha, h1, h2, h3⟩
/-! ### what is written whole -/
theorem recL_at {r : RecD} {K : Nat → Prop} {b : List UInt8} {pos : Nat} (h : NamesOk r) (hl : (bodyL r).length < 65536) (h0 : K 0) (hb : Std b pos (recL r)) : RecR K b pos r (pos + (recL r).length) := by
  simp only [recL] at hb ⊢
  have hb2 := hb.right
  have e0 : ∀ body : List UInt8, be16 (typeN r).toNat ++ (be16 r.cls.toNat ++ (be32 r.ttl.toNat ++ (be16 body.length ++ body))) = (be16 (typeN r).toNat ++ (be16 r.cls.toNat ++ (be32 r.ttl.toNat ++ be16 body.length))) ++ body := by intro body; simp
  rw [e0] at hb2
  have hb3 := hb2.right' (k := pos + (wire (bt r.name)).length + 10) rfl
  refine ⟨_, (bodyL r).length, ⟨0, h0, wire_at h.1 hb.left⟩, hb2.left, hl, ?_, ?_⟩
  · by_cases h1 : r.kind = 2 ∨ r.kind = 3 ∨ r.kind = 5
    · have e : bodyL r = wire (bt r.host) := by rw [bodyL, if_neg (by omega), if_neg (by omega), if_pos h1]
      rw [e] at hb3 ⊢
      exact ⟨fun _ => ⟨0, h0, wire_at (h.2.1 (by omega)) hb3⟩, fun _ => by omega, fun _ => by omega, fun _ => by omega, fun _ => by omega, fun _ => by omega⟩
    · by_cases h2 : r.kind = 6
      · have e : bodyL r = be16 r.n1.toNat ++ wire (bt r.host) := by rw [bodyL, if_neg (by omega), if_neg (by omega), if_neg h1, if_pos h2]
        rw [e] at hb3 ⊢
        refine ⟨fun _ => by omega, fun _ => ⟨hb3.left, 0, h0, ?_⟩, fun _ => by omega, fun _ => by omega, fun _ => by omega, fun _ => by omega⟩
        have := wire_at (h.2.1 (by omega)) hb3.right
        rw [List.length_append, ← Nat.add_assoc]; exact this
      · by_cases h3 : r.kind = 4
        · have e : bodyL r = wire (bt r.host) ++ (wire (bt r.box) ++ soaL r) := by rw [bodyL, if_neg (by omega), if_neg (by omega), if_neg h1, if_neg h2, if_pos h3]; rfl
          rw [e] at hb3 ⊢
          refine ⟨fun _ => by omega, fun _ => by omega, fun _ => ⟨_, _, ⟨0, h0, wire_at (h.2.1 (by omega)) hb3.left⟩, ⟨0, h0, wire_at (h.2.2 h3) hb3.right.left⟩, hb3.right.right, ?_⟩, fun _ => by omega, fun _ => by omega, fun _ => by omega⟩
          simp only [List.length_append, soaL_length]; omega
        · exact bodyL_simple h h1 h2 h3 hb3
  · simp only [List.length_append, be16_length, be32_length]; omega
theorem askL_at {a : AskD} {K : Nat → Prop} {b : List UInt8} {pos : Nat} (h : nameL (bt a.name)) (h0 : K 0) (hb : Std b pos (askL a)) : AskR K b pos a (pos + (askL a).length) := by
  simp only [askL] at hb ⊢
  refine ⟨_, ⟨0, h0, wire_at h hb.left⟩, hb.right, ?_⟩
  simp only [List.length_append, be16_length]; omega
theorem list_at {α : Type} {g : α → List UInt8} {R : Nat → α → Nat → Prop} {b : List UInt8} : ∀ (xs : List α) (pos : Nat), Std b pos ((xs.map g).flatten) → (∀ x ∈ xs, ∀ pos, Std b pos (g x) → R pos x (pos + (g x).length)) → ListR R pos xs (pos + ((xs.map g).flatten).length)
  | [], pos, _, _ => rfl
  | x :: xs, pos, hb, h => by
    simp only [List.map_cons, List.flatten_cons] at hb ⊢
    have h2 := list_at xs _ hb.right (fun y hy => h y (by simp [hy]))
    rw [List.length_append, ← Nat.add_assoc]
    exact ⟨_, h x (by simp) pos hb.left, h2⟩
/-- WHAT IS WRITTEN WITH WHOLE NAMES IS READ AS WHAT IT WAS. -/
theorem msgL_at {m : MsgD} {K : Nat → Prop} (h : MsgNames m) (hl : ∀ r, r ∈ m.one ∨ r ∈ m.two ∨ r ∈ m.three → (bodyL r).length < 65536) (h0 : K 0) : MsgR K (msgL m) m := by
  have hb : Std (msgL m) 0 (msgL m) := Std.self _
  obtain ⟨b, hbd⟩ : ∃ b, b = msgL m := ⟨_, rfl⟩
  rw [← hbd] at hb ⊢
  conv at hb => arg 3; rw [hbd]
  simp only [msgL] at hb
  have hb1 := hb.right' (k := 12) rfl
  have hlen : b.length = 12 + (asksL m.asks).length + (recsL m.one).length + (recsL m.two).length + (recsL m.three).length := by
    rw [hbd]
    have : (headL m.head [m.asks.length, m.one.length, m.two.length, m.three.length]).length = 12 := rfl
    simp only [msgL, List.length_append, this]; omega
  have ha := list_at (g := askL) (R := AskR K b) m.asks 12 hb1.left (fun x hx pos hs => askL_at (h.1 x hx) h0 hs)
  have h1 := list_at (g := recL) (R := RecR K b) m.one _ hb1.right.left (fun x hx pos hs => recL_at (h.2.1 x hx) (hl x (.inl hx)) h0 hs)
  have h2 := list_at (g := recL) (R := RecR K b) m.two _ hb1.right.right.left (fun x hx pos hs => recL_at (h.2.2.1 x hx) (hl x (.inr (.inl hx))) h0 hs)
  have h3 := list_at (g := recL) (R := RecR K b) m.three _ hb1.right.right.right (fun x hx pos hs => recL_at (h.2.2.2 x hx) (hl x (.inr (.inr hx))) h0 hs)
  refine ⟨hb.left, _, _, _, ha, h1, h2, ?_⟩
  rw [hlen]; exact h3
end Go.Proofs.YtifnodoffgfpbaaGreatDoor
