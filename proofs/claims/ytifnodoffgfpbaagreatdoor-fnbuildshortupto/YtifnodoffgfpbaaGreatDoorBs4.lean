/- Part 4 of the texts for a law of this seat: walks, and plain laws about messages; conditions: none. -/
import Derived.Test.YtifnodoffgfpbaaGreatDoorBs3
namespace Go.Proofs.YtifnodoffgfpbaaGreatDoor
open Go

def soaL (r : RecD) : List UInt8 := be32 r.n1.toNat ++ (be32 r.n2.toNat ++ (be32 r.n3.toNat ++ (be32 r.n4.toNat ++ be32 r.n5.toNat)))
theorem soaL_length (r : RecD) : (soaL r).length = 20 := rfl
def packMx (C : Option Ent) (pos : Nat) (r : RecD) : List UInt8 × Option Ent := (be16 r.n1.toNat ++ (packName C (pos + 2) (bt r.host)).1, (packName C (pos + 2) (bt r.host)).2)
def packSoa (C : Option Ent) (pos : Nat) (r : RecD) : List UInt8 × Option Ent :=
  ((packName C pos (bt r.host)).1 ++ ((packName (packName C pos (bt r.host)).2 (pos + (packName C pos (bt r.host)).1.length) (bt r.box)).1 ++ soaL r), (packName (packName C pos (bt r.host)).2 (pos + (packName C pos (bt r.host)).1.length) (bt r.box)).2)
def packBody (C : Option Ent) (pos : Nat) (r : RecD) : List UInt8 × Option Ent :=
  if r.kind = 2 ∨ r.kind = 3 ∨ r.kind = 5 then packName C pos (bt r.host)
  else if r.kind = 6 then packMx C pos r
  else if r.kind = 4 then packSoa C pos r
  else (bodyL r, C)
/-- the parts of a record behind its name -/
def packTail (r : RecD) (body : List UInt8) : List UInt8 := be16 (typeN r).toNat ++ (be16 r.cls.toNat ++ (be32 r.ttl.toNat ++ (be16 body.length ++ body)))
def packRec (C : Option Ent) (pos : Nat) (r : RecD) : List UInt8 × Option Ent :=
  ((packName C pos (bt r.name)).1 ++ packTail r (packBody (packName C pos (bt r.name)).2 (pos + (packName C pos (bt r.name)).1.length + 10) r).1, (packBody (packName C pos (bt r.name)).2 (pos + (packName C pos (bt r.name)).1.length + 10) r).2)
def packAsk (C : Option Ent) (pos : Nat) (a : AskD) : List UInt8 × Option Ent := ((packName C pos (bt a.name)).1 ++ (be16 a.typ.toNat ++ be16 a.cls.toNat), (packName C pos (bt a.name)).2)
def packAll {α : Type} (f : Option Ent → Nat → α → List UInt8 × Option Ent) : Option Ent → Nat → List α → List UInt8 × Option Ent
  | C, _, [] => ([], C)
  | C, pos, x :: xs => ((f C pos x).1 ++ (packAll f (f C pos x).2 (pos + (f C pos x).1.length) xs).1, (packAll f (f C pos x).2 (pos + (f C pos x).1.length) xs).2)
theorem packAll_snoc {α : Type} (f : Option Ent → Nat → α → List UInt8 × Option Ent) : ∀ (xs : List α) (C : Option Ent) (pos : Nat) (x : α),
    packAll f C pos (xs ++ [x]) = ((packAll f C pos xs).1 ++ (f (packAll f C pos xs).2 (pos + (packAll f C pos xs).1.length) x).1, (f (packAll f C pos xs).2 (pos + (packAll f C pos xs).1.length) x).2)
  | [], C, pos, x => by simp [packAll]
  | y :: ys, C, pos, x => by
    simp only [List.cons_append, packAll]
    rw [packAll_snoc f ys]
    simp only [List.append_assoc, List.length_append, Nat.add_assoc]
def countsM (m : MsgD) : List Nat := [m.asks.length, m.one.length, m.two.length, m.three.length]
/-- the parts of a message: what each adds, and the map behind it -/
def packA (C : Option Ent) (m : MsgD) := packAll packAsk C 12 m.asks
def pack1 (C : Option Ent) (m : MsgD) := packAll packRec (packA C m).2 (12 + (packA C m).1.length) m.one
def pack2 (C : Option Ent) (m : MsgD) := packAll packRec (pack1 C m).2 (12 + (packA C m).1.length + (pack1 C m).1.length) m.two
def pack3 (C : Option Ent) (m : MsgD) := packAll packRec (pack2 C m).2 (12 + (packA C m).1.length + (pack1 C m).1.length + (pack2 C m).1.length) m.three
def packM (C : Option Ent) (m : MsgD) : List UInt8 := headL m.head (countsM m) ++ ((packA C m).1 ++ ((pack1 C m).1 ++ ((pack2 C m).1 ++ (pack3 C m).1)))

def NamesOk (r : RecD) : Prop := nameL (bt r.name) ∧ (r.kind = 2 ∨ r.kind = 3 ∨ r.kind = 5 ∨ r.kind = 6 ∨ r.kind = 9 ∨ r.kind = 11 ∨ r.kind = 12 ∨ r.kind = 4 → nameL (bt r.host)) ∧ (r.kind = 4 → nameL (bt r.box))
theorem packName_non {s : List UInt8} (h : nameL s) (pos : Nat) : packName none pos s = (wire s, none) := by
  simp only [packName]
  by_cases hd : s = [46]
  · rw [if_pos hd, hd]; rfl
  · rw [if_neg hd]
    rcases h with h | ⟨_, h, _⟩
    · exact absurd h hd
    · rw [packGo_none _ [] _ h]; rfl
theorem packBody_non {r : RecD} (h : NamesOk r) (pos : Nat) : packBody none pos r = (bodyL r, none) := by
  simp only [packBody, packMx, packSoa, bodyL]
  by_cases h1 : r.kind = 2 ∨ r.kind = 3 ∨ r.kind = 5
  · rw [if_pos h1, if_neg (by omega), if_neg (by omega), if_pos h1, packName_non (h.2.1 (by omega))]
  · rw [if_neg h1]
    by_cases h2 : r.kind = 6
    · rw [if_pos h2, if_neg (by omega), if_neg (by omega), if_neg h1, if_pos h2, packName_non (h.2.1 (by omega))]
    · rw [if_neg h2]
      by_cases h3 : r.kind = 4
      · rw [if_pos h3, if_neg (by omega), if_neg (by omega), if_neg h1, if_neg h2, if_pos h3, packName_non (h.2.1 (by omega)), packName_non (h.2.2 h3)]; rfl
      · rw [if_neg h3]
theorem packRec_non {r : RecD} (h : NamesOk r) (pos : Nat) : packRec none pos r = (recL r, none) := by
  simp only [packRec, packName_non h.1, packBody_non h, packTail, recL]
theorem packAsk_non {a : AskD} (h : nameL (bt a.name)) (pos : Nat) : packAsk none pos a = (askL a, none) := by
  simp only [packAsk, packName_non h, askL]
theorem packAll_non {α : Type} {f : Option Ent → Nat → α → List UInt8 × Option Ent} {g : α → List UInt8} : ∀ (xs : List α) (pos : Nat), (∀ x ∈ xs, ∀ pos, f none pos x = (g x, none)) → packAll f none pos xs = ((xs.map g).flatten, none)
  | [], pos, _ => rfl
  | x :: xs, pos, h => by
    simp only [packAll]
    rw [h x (by simp) pos]
    simp only []
    rw [packAll_non xs _ (fun y hy => h y (by simp [hy]))]
    rfl
def MsgNames (m : MsgD) : Prop := (∀ a ∈ m.asks, nameL (bt a.name)) ∧ (∀ r ∈ m.one, NamesOk r) ∧ (∀ r ∈ m.two, NamesOk r) ∧ (∀ r ∈ m.three, NamesOk r)
theorem packM_non {m : MsgD} (h : MsgNames m) : packM none m = msgL m := by
  have ha : packA none m = (asksL m.asks, none) := packAll_non _ _ (fun a ha pos => packAsk_non (h.1 a ha) pos)
  have h1 : pack1 none m = (recsL m.one, none) := by rw [pack1, ha]; exact packAll_non _ _ (fun a ha pos => packRec_non (h.2.1 a ha) pos)
  have h2 : pack2 none m = (recsL m.two, none) := by rw [pack2, h1]; exact packAll_non _ _ (fun a ha pos => packRec_non (h.2.2.1 a ha) pos)
  have h3 : pack3 none m = (recsL m.three, none) := by rw [pack3, h2]; exact packAll_non _ _ (fun a ha pos => packRec_non (h.2.2.2 a ha) pos)
  rw [packM, ha, h1, h2, h3]; rfl

theorem packGo_short : ∀ (cs lab : List UInt8) (M : Ent) (pos : Nat), nameGo lab.length cs = true → (packGo (some M) pos lab cs).1.length ≤ (wireGo lab cs).length + 1
  | [], lab, M, pos, _ => by simp [packGo, wireGo]
  | c :: cs, lab, M, pos, hn => by
    by_cases hc : c = 46
    · subst hc
      rw [nameGo, if_pos rfl] at hn
      split at hn
      · cases hn
      · rename_i hl
        have h0 : lab ≠ [] := by intro h; subst h; simp at hl
        have ih := packGo_short cs [] M (pos + (lab.length + 1)) (by simpa using hn)
        simp only [packGo, wireGo, if_true, if_neg h0, List.length_append, List.length_cons] at ih ⊢
        omega
    · have hn' : nameGo (lab.length + 1) cs = true := nameGo_let hn hc
      by_cases hl : lab = []
      · subst hl
        cases hlk : look M (mkB (c :: cs)) with
        | some p =>
          rw [pk_hit hc hlk]
          simp only [wireGo, hc, if_false, List.nil_append, ptrL, List.length_cons, List.length_nil]
          have : ∀ (cs lab : List UInt8), lab ≠ [] → nameGo lab.length cs = true → 1 ≤ (wireGo lab cs).length := by
            intro cs
            induction cs with
            | nil => intro lab h0 hn; cases lab with
              | nil => exact absurd rfl h0
              | cons x xs => simp [nameGo] at hn
            | cons d ds ih =>
              intro lab h0 hn
              by_cases hd : d = 46
              · subst hd; simp only [wireGo, if_true, if_neg h0, List.length_append, List.length_cons]; omega
              · simp only [wireGo, hd, if_false]
                exact ih (lab ++ [d]) (by simp) (by simpa using nameGo_let hn hd)
          have := this cs [c] (by simp) (by simpa using hn')
          omega
        | none =>
          rw [pk_miss hc hlk]
          have ih := packGo_short cs [c] (if pos ≤ 16383 then M ++ [(mkB (c :: cs), UInt16.ofNat pos)] else M) pos (by simpa using hn')
          simp only [wireGo, hc, if_false, List.nil_append]
          exact ih
      · rw [pk_mid hc hl]
        have ih := packGo_short cs (lab ++ [c]) M pos (by simpa using hn')
        simp only [wireGo, hc, if_false]
        exact ih
theorem packName_short {s : List UInt8} (h : nameL s) (M : Ent) (pos : Nat) : (packName (some M) pos s).1.length ≤ (wire s).length := by
  simp only [packName]
  by_cases hd : s = [46]
  · rw [if_pos hd, hd]; exact Nat.le_refl _
  · rw [if_neg hd]
    rcases h with h | ⟨_, h, _⟩
    · exact absurd h hd
    · have := packGo_short s [] M pos h
      simpa [wire] using this
theorem packName_some (s : List UInt8) (M : Ent) (pos : Nat) : ∃ M', (packName (some M) pos s).2 = some M' := by
  simp only [packName]
  split
  · exact ⟨M, rfl⟩
  · exact packGo_some s [] M pos
theorem packBody_short {r : RecD} (h : NamesOk r) (M : Ent) (pos : Nat) : (packBody (some M) pos r).1.length ≤ (bodyL r).length ∧ ∃ M', (packBody (some M) pos r).2 = some M' := by
  simp only [packBody, packMx, packSoa, bodyL]
  by_cases h1 : r.kind = 2 ∨ r.kind = 3 ∨ r.kind = 5
  · rw [if_pos h1, if_neg (by omega), if_neg (by omega), if_pos h1]
    exact ⟨packName_short (h.2.1 (by omega)) M pos, packName_some _ _ _⟩
  · rw [if_neg h1]
    by_cases h2 : r.kind = 6
    · rw [if_pos h2, if_neg (by omega), if_neg (by omega), if_neg h1, if_pos h2]
      refine ⟨?_, packName_some _ _ _⟩
      have := packName_short (h.2.1 (by omega)) M (pos + 2)
      simp only [List.length_append]; omega
    · rw [if_neg h2]
      by_cases h3 : r.kind = 4
      · rw [if_pos h3, if_neg (by omega), if_neg (by omega), if_neg h1, if_neg h2, if_pos h3]
        have e1 := packName_short (h.2.1 (by omega)) M pos
        obtain ⟨M1, hM1⟩ := packName_some (bt r.host) M pos
        simp only [hM1]
        have e2 := packName_short (h.2.2 h3) M1 (pos + (packName (some M) pos (bt r.host)).1.length)
        refine ⟨?_, packName_some _ _ _⟩
        simp only [List.length_append, soaL_length, be32_length]; omega
      · rw [if_neg h3, if_neg h1, if_neg h2, if_neg h3]
        exact ⟨Nat.le_refl _, M, rfl⟩
theorem packRec_short {r : RecD} (h : NamesOk r) (M : Ent) (pos : Nat) : (packRec (some M) pos r).1.length ≤ (recL r).length ∧ ∃ M', (packRec (some M) pos r).2 = some M' := by
  obtain ⟨M1, hM1⟩ := packName_some (bt r.name) M pos
  have e1 := packName_short h.1 M pos
  simp only [packRec, hM1]
  have e2 := packBody_short h M1 (pos + (packName (some M) pos (bt r.name)).1.length + 10)
  refine ⟨?_, e2.2⟩
  simp only [packTail, recL, List.length_append, be16_length, be32_length]
  omega
theorem packAsk_short {a : AskD} (h : nameL (bt a.name)) (M : Ent) (pos : Nat) : (packAsk (some M) pos a).1.length ≤ (askL a).length ∧ ∃ M', (packAsk (some M) pos a).2 = some M' := by
  have e1 := packName_short h M pos
  simp only [packAsk]
  refine ⟨?_, packName_some _ _ _⟩
  simp only [askL, List.length_append, be16_length]; omega
theorem packAll_short {α : Type} {f : Option Ent → Nat → α → List UInt8 × Option Ent} {g : α → List UInt8} : ∀ (xs : List α) (M : Ent) (pos : Nat), (∀ x ∈ xs, ∀ M pos, (f (some M) pos x).1.length ≤ (g x).length ∧ ∃ M', (f (some M) pos x).2 = some M') →
    (packAll f (some M) pos xs).1.length ≤ ((xs.map g).flatten).length ∧ ∃ M', (packAll f (some M) pos xs).2 = some M'
  | [], M, pos, _ => ⟨Nat.le_refl _, M, rfl⟩
  | x :: xs, M, pos, h => by
    obtain ⟨h1, M1, hM1⟩ := h x (by simp) M pos
    simp only [packAll, hM1]
    have ih := packAll_short xs M1 (pos + (f (some M) pos x).1.length) (fun y hy => h y (by simp [hy]))
    refine ⟨?_, ih.2⟩
    simp only [List.length_append, List.map_cons, List.flatten_cons]
    omega
theorem packM_short {m : MsgD} (h : MsgNames m) (M : Ent) : (packM (some M) m).length ≤ (msgL m).length := by
  obtain ⟨a1, Ma, ha⟩ := packAll_short (f := packAsk) (g := askL) m.asks M 12 (fun x hx => packAsk_short (h.1 x hx))
  obtain ⟨b1, Mb, hb⟩ := packAll_short (f := packRec) (g := recL) m.one Ma (12 + (packA (some M) m).1.length) (fun x hx => packRec_short (h.2.1 x hx))
  obtain ⟨c1, Mc, hc⟩ := packAll_short (f := packRec) (g := recL) m.two Mb (12 + (packA (some M) m).1.length + (pack1 (some M) m).1.length) (fun x hx => packRec_short (h.2.2.1 x hx))
  obtain ⟨d1, Md, hd⟩ := packAll_short (f := packRec) (g := recL) m.three Mc (12 + (packA (some M) m).1.length + (pack1 (some M) m).1.length + (pack2 (some M) m).1.length) (fun x hx => packRec_short (h.2.2.2 x hx))
  have e1 : pack1 (some M) m = packAll packRec (some Ma) (12 + (packA (some M) m).1.length) m.one := by rw [pack1, packA, ha]
  rw [← e1] at b1 hb
  have e2 : pack2 (some M) m = packAll packRec (some Mb) (12 + (packA (some M) m).1.length + (pack1 (some M) m).1.length) m.two := by rw [pack2, hb]
  rw [← e2] at c1 hc
  have e3 : pack3 (some M) m = packAll packRec (some Mc) (12 + (packA (some M) m).1.length + (pack1 (some M) m).1.length + (pack2 (some M) m).1.length) m.three := by rw [pack3, hc]
  rw [← e3] at d1 hd
  have e0 : (packA (some M) m).1.length ≤ (asksL m.asks).length := a1
  simp only [packM, msgL, List.length_append, recsL, countsM] at b1 c1 d1 ⊢
  omega

def BodyR (K : Nat → Prop) (b : List UInt8) (i : Nat) (r : RecD) (e : Nat) : Prop :=
  (r.kind = 2 ∨ r.kind = 3 ∨ r.kind = 5 → ∃ k, K k ∧ NameAt b k i (bt r.host) e) ∧
  (r.kind = 6 → Std b i (be16 r.n1.toNat) ∧ ∃ k, K k ∧ NameAt b k (i + 2) (bt r.host) e) ∧
  (r.kind = 4 → ∃ e1 e2, (∃ k, K k ∧ NameAt b k i (bt r.host) e1) ∧ (∃ k, K k ∧ NameAt b k e1 (bt r.box) e2) ∧ Std b e2 (soaL r) ∧ e = e2 + 20) ∧
  (r.kind = 9 → Std b i (be16 r.n1.toNat ++ (be16 r.n2.toNat ++ be16 r.n3.toNat)) ∧ NameAt b 0 (i + 6) (bt r.host) e) ∧
  (r.kind = 11 ∨ r.kind = 12 → Std b i (be16 r.n1.toNat) ∧ ∃ e1, NameAt b 0 (i + 2) (bt r.host) e1 ∧ Std b e1 (pairsL r.pairs) ∧ e = e1 + (pairsL r.pairs).length) ∧
  (r.kind = 1 ∨ r.kind = 7 ∨ r.kind = 8 ∨ r.kind = 10 ∨ r.kind = 13 → Std b i (bodyL r) ∧ e = i + (bodyL r).length)
def RecR (K : Nat → Prop) (b : List UInt8) (i : Nat) (r : RecD) (e : Nat) : Prop :=
  ∃ e0 len, (∃ k, K k ∧ NameAt b k i (bt r.name) e0) ∧ Std b e0 (be16 (typeN r).toNat ++ (be16 r.cls.toNat ++ (be32 r.ttl.toNat ++ be16 len))) ∧ len < 65536 ∧ BodyR K b (e0 + 10) r (e0 + 10 + len) ∧ e = e0 + 10 + len
def AskR (K : Nat → Prop) (b : List UInt8) (i : Nat) (a : AskD) (e : Nat) : Prop := ∃ e0, (∃ k, K k ∧ NameAt b k i (bt a.name) e0) ∧ Std b e0 (be16 a.typ.toNat ++ be16 a.cls.toNat) ∧ e = e0 + 4
def ListR {α : Type} (R : Nat → α → Nat → Prop) : Nat → List α → Nat → Prop
  | i, [], e => i = e
  | i, x :: xs, e => ∃ e1, R i x e1 ∧ ListR R e1 xs e
def MsgR (K : Nat → Prop) (b : List UInt8) (m : MsgD) : Prop :=
  Std b 0 (headL m.head (countsM m)) ∧ ∃ e0 e1 e2, ListR (AskR K b) 12 m.asks e0 ∧ ListR (RecR K b) e0 m.one e1 ∧ ListR (RecR K b) e1 m.two e2 ∧ ListR (RecR K b) e2 m.three b.length

/-- how many pointers the names of a record may have -/
def KName (K : Nat → Prop) (s : ByteArray) : Prop := ∀ k, k ≤ ((bt s).drop 1).count 46 → K k
def KRec (K : Nat → Prop) (r : RecD) : Prop := KName K r.name ∧ KName K r.host ∧ KName K r.box
def KMsg (K : Nat → Prop) (m : MsgD) : Prop := (∀ a ∈ m.asks, KName K a.name) ∧ (∀ r ∈ m.one, KRec K r) ∧ (∀ r ∈ m.two, KRec K r) ∧ (∀ r ∈ m.three, KRec K r)

theorem bodyL_simple {r : RecD} {K : Nat → Prop} {b : List UInt8} {i : Nat} (h : NamesOk r) (h1 : ¬ (r.kind = 2 ∨ r.kind = 3 ∨ r.kind = 5)) (h2 : ¬ r.kind = 6) (h3 : ¬ r.kind = 4) (hb : Std b i (bodyL r)) : BodyR K b i r (i + (bodyL r).length) := by
  refine ⟨fun h => absurd h h1, fun h => absurd h h2, fun h => absurd h h3, fun h9 => ?_, fun h11 => ?_, fun _ => ⟨hb, rfl⟩⟩
  · have e : bodyL r = (be16 r.n1.toNat ++ (be16 r.n2.toNat ++ be16 r.n3.toNat)) ++ wire (bt r.host) := by
      rw [bodyL, if_neg (by omega), if_neg (by omega), if_neg h1, if_neg h2, if_neg h3, if_neg (by omega), if_pos h9]
      simp
    rw [e] at hb ⊢
    refine ⟨hb.left, ?_⟩
    have := wire_at (h.2.1 (by omega)) (hb.right' (k := i + 6) (by simp [be16_length]))
    rw [List.length_append, show (be16 r.n1.toNat ++ (be16 r.n2.toNat ++ be16 r.n3.toNat)).length = 6 from rfl, ← Nat.add_assoc]
    exact this
  · have e : bodyL r = be16 r.n1.toNat ++ (wire (bt r.host) ++ pairsL r.pairs) := by
      rw [bodyL, if_neg (by omega), if_neg (by omega), if_neg h1, if_neg h2, if_neg h3, if_neg (by omega), if_neg (by omega), if_neg (by omega), if_pos h11]
    rw [e] at hb ⊢
    have hb2 := hb.right' (k := i + 2) (by simp [be16_length])
    refine ⟨hb.left, _, wire_at (h.2.1 (by omega)) hb2.left, hb2.right, ?_⟩
    simp only [List.length_append, be16_length]; omega
theorem packBody_at {r : RecD} {K : Nat → Prop} {b : List UInt8} {M : Ent} {pos : Nat} (h : NamesOk r) (hK : KRec K r) (hM : GoodM b pos M) (hb : Std b pos (packBody (some M) pos r).1) :
    BodyR K b pos r (pos + (packBody (some M) pos r).1.length) ∧ ∃ M', (packBody (some M) pos r).2 = some M' ∧ GoodM b (pos + (packBody (some M) pos r).1.length) M' := by
  have upM : ∀ {M : Ent} {p q : Nat}, GoodM b p M → p ≤ q → GoodM b q M := fun h hl key p hp => (h key p hp).up hl
  simp only [packBody] at hb ⊢
  by_cases h1 : r.kind = 2 ∨ r.kind = 3 ∨ r.kind = 5
  · rw [if_pos h1] at hb ⊢
    obtain ⟨⟨k, hk, hkl⟩, M', hM', hg⟩ := packName_at (h.2.1 (by omega)) hb hM
    exact ⟨⟨fun _ => ⟨k, hK.2.1 k hkl, hk⟩, fun _ => by omega, fun _ => by omega, fun _ => by omega, fun _ => by omega, fun _ => by omega⟩, M', hM', hg⟩
  · rw [if_neg h1] at hb ⊢
    by_cases h2 : r.kind = 6
    · rw [if_pos h2] at hb ⊢
      simp only [packMx] at hb ⊢
      obtain ⟨⟨k, hk, hkl⟩, M', hM', hg⟩ := packName_at (h.2.1 (by omega)) (hb.right' (k := pos + 2) rfl) (upM hM (by omega))
      have e : pos + (be16 r.n1.toNat ++ (packName (some M) (pos + 2) (bt r.host)).1).length = pos + 2 + (packName (some M) (pos + 2) (bt r.host)).1.length := by simp [be16_length]; omega
      rw [e]
      exact ⟨⟨fun _ => by omega, fun _ => ⟨hb.left, k, hK.2.1 k hkl, hk⟩, fun _ => by omega, fun _ => by omega, fun _ => by omega, fun _ => by omega⟩, M', hM', hg⟩
    · rw [if_neg h2] at hb ⊢
      by_cases h3 : r.kind = 4
      · rw [if_pos h3] at hb ⊢
        simp only [packSoa] at hb ⊢
        obtain ⟨⟨k, hk, hkl⟩, M', hM', hg⟩ := packName_at (h.2.1 (by omega)) hb.left hM
        rw [hM'] at hb ⊢
        have hb2 := hb.right
        obtain ⟨⟨k2, hk2, hkl2⟩, M2, hM2, hg2⟩ := packName_at (h.2.2 h3) hb2.left hg
        rw [hM2]
        refine ⟨⟨fun _ => by omega, fun _ => by omega, fun _ => ⟨_, _, ⟨k, hK.2.1 k hkl, hk⟩, ⟨k2, hK.2.2 k2 hkl2, hk2⟩, hb2.right, ?_⟩, fun _ => by omega, fun _ => by omega, fun _ => by omega⟩, M2, rfl, upM hg2 ?_⟩
        · simp only [List.length_append, soaL_length]; omega
        · simp only [List.length_append, soaL_length]; omega
      · rw [if_neg h3] at hb ⊢
        exact ⟨bodyL_simple h h1 h2 h3 hb, M, rfl, upM hM (by omega)⟩
theorem packRec_at {r : RecD} {K : Nat → Prop} {b : List UInt8} {M : Ent} {pos : Nat} (h : NamesOk r) (hl : (bodyL r).length < 65536) (hK : KRec K r) (hM : GoodM b pos M) (hb : Std b pos (packRec (some M) pos r).1) :
    RecR K b pos r (pos + (packRec (some M) pos r).1.length) ∧ ∃ M', (packRec (some M) pos r).2 = some M' ∧ GoodM b (pos + (packRec (some M) pos r).1.length) M' := by
  simp only [packRec] at hb ⊢
  obtain ⟨⟨k, hk, hkl⟩, M', hM', hg⟩ := packName_at h.1 hb.left hM
  rw [hM'] at hb ⊢
  have hb2 := hb.right
  simp only [packTail] at hb2
  have e0 : ∀ body : List UInt8, be16 (typeN r).toNat ++ (be16 r.cls.toNat ++ (be32 r.ttl.toNat ++ (be16 body.length ++ body))) = (be16 (typeN r).toNat ++ (be16 r.cls.toNat ++ (be32 r.ttl.toNat ++ be16 body.length))) ++ body := by intro body; simp
  rw [e0] at hb2
  have hb3 := hb2.right' (k := pos + (packName (some M) pos (bt r.name)).1.length + 10) rfl
  have hs := (packBody_short h M' (pos + (packName (some M) pos (bt r.name)).1.length + 10)).1
  obtain ⟨hbody, M2, hM2, hg2⟩ := packBody_at h hK (fun key p hp => (hg key p hp).up (by omega)) hb3
  have elen : pos + ((packName (some M) pos (bt r.name)).1 ++ packTail r (packBody (some M') (pos + (packName (some M) pos (bt r.name)).1.length + 10) r).1).length = pos + (packName (some M) pos (bt r.name)).1.length + 10 + (packBody (some M') (pos + (packName (some M) pos (bt r.name)).1.length + 10) r).1.length := by
    simp only [packTail, List.length_append, be16_length, be32_length]; omega
  rw [elen]
  exact ⟨⟨_, _, ⟨k, hK.1 k hkl, hk⟩, hb2.left, by omega, hbody, rfl⟩, M2, hM2, hg2⟩
theorem packAsk_at {a : AskD} {K : Nat → Prop} {b : List UInt8} {M : Ent} {pos : Nat} (h : nameL (bt a.name)) (hK : KName K a.name) (hM : GoodM b pos M) (hb : Std b pos (packAsk (some M) pos a).1) :
    AskR K b pos a (pos + (packAsk (some M) pos a).1.length) ∧ ∃ M', (packAsk (some M) pos a).2 = some M' ∧ GoodM b (pos + (packAsk (some M) pos a).1.length) M' := by
  simp only [packAsk] at hb ⊢
  obtain ⟨⟨k, hk, hkl⟩, M', hM', hg⟩ := packName_at h hb.left hM
  have elen : pos + ((packName (some M) pos (bt a.name)).1 ++ (be16 a.typ.toNat ++ be16 a.cls.toNat)).length = pos + (packName (some M) pos (bt a.name)).1.length + 4 := by
    simp only [List.length_append, be16_length]; omega
  rw [elen]
  exact ⟨⟨_, ⟨k, hK k hkl, hk⟩, hb.right, rfl⟩, M', hM', fun key p hp => (hg key p hp).up (by omega)⟩
theorem packAll_at {α : Type} {f : Option Ent → Nat → α → List UInt8 × Option Ent} {R : Nat → α → Nat → Prop} {b : List UInt8} : ∀ (xs : List α) (M : Ent) (pos : Nat), GoodM b pos M → Std b pos (packAll f (some M) pos xs).1 →
    (∀ x ∈ xs, ∀ M pos, GoodM b pos M → Std b pos (f (some M) pos x).1 → R pos x (pos + (f (some M) pos x).1.length) ∧ ∃ M', (f (some M) pos x).2 = some M' ∧ GoodM b (pos + (f (some M) pos x).1.length) M') →
    ListR R pos xs (pos + (packAll f (some M) pos xs).1.length) ∧ ∃ M', (packAll f (some M) pos xs).2 = some M' ∧ GoodM b (pos + (packAll f (some M) pos xs).1.length) M'
  | [], M, pos, hM, _, _ => ⟨rfl, M, rfl, hM⟩
  | x :: xs, M, pos, hM, hb, h => by
    simp only [packAll] at hb ⊢
    obtain ⟨h1, M1, hM1, hg⟩ := h x (by simp) M pos hM hb.left
    rw [hM1] at hb ⊢
    obtain ⟨h2, M2, hM2, hg2⟩ := packAll_at xs M1 _ hg hb.right (fun y hy => h y (by simp [hy]))
    have e : pos + ((f (some M) pos x).1 ++ (packAll f (some M1) (pos + (f (some M) pos x).1.length) xs).1).length = pos + (f (some M) pos x).1.length + (packAll f (some M1) (pos + (f (some M) pos x).1.length) xs).1.length := by
      simp only [List.length_append]; omega
    rw [e]
    exact ⟨⟨_, h1, h2⟩, M2, hM2, hg2⟩
theorem headL_len (h : HeadD) (m : MsgD) : (headL h (countsM m)).length = 12 := rfl
/-- WHAT IS PACKED WITH A MAP IS READ AS WHAT IT WAS. -/
theorem packM_at {m : MsgD} {K : Nat → Prop} (h : MsgNames m) (hl : ∀ r, r ∈ m.one ∨ r ∈ m.two ∨ r ∈ m.three → (bodyL r).length < 65536) (hK : KMsg K m) : MsgR K (packM (some []) m) m := by
  have hb : Std (packM (some []) m) 0 (packM (some []) m) := Std.self _
  obtain ⟨b, hbd⟩ : ∃ b, b = packM (some []) m := ⟨_, rfl⟩
  rw [← hbd] at hb ⊢
  conv at hb => arg 3; rw [hbd]
  simp only [packM] at hb
  have hb1 := hb.right' (k := 12) (by rw [headL_len])
  have hlen : b.length = 12 + (packA (some []) m).1.length + (pack1 (some []) m).1.length + (pack2 (some []) m).1.length + (pack3 (some []) m).1.length := by
    rw [hbd]; simp only [packM, List.length_append, headL_len]; omega
  obtain ⟨ha, Ma, hMa, ga⟩ := packAll_at (f := packAsk) (R := AskR K b) m.asks [] 12 (fun key p hp => by simp [look] at hp) hb1.left (fun x hx M pos hM hs => packAsk_at (h.1 x hx) (hK.1 x hx) hM hs)
  have e1 : pack1 (some []) m = packAll packRec (some Ma) (12 + (packA (some []) m).1.length) m.one := by rw [pack1, packA, hMa]
  have hb2 := hb1.right
  obtain ⟨h1, M1, hM1, g1⟩ := packAll_at (f := packRec) (R := RecR K b) m.one Ma (12 + (packA (some []) m).1.length) ga (by rw [← e1]; exact hb2.left) (fun x hx M pos hM hs => packRec_at (h.2.1 x hx) (hl x (.inl hx)) (hK.2.1 x hx) hM hs)
  rw [← e1] at h1 hM1 g1
  have e2 : pack2 (some []) m = packAll packRec (some M1) (12 + (packA (some []) m).1.length + (pack1 (some []) m).1.length) m.two := by rw [pack2, hM1]
  have hb3 := hb2.right
  obtain ⟨h2, M2, hM2, g2⟩ := packAll_at (f := packRec) (R := RecR K b) m.two M1 _ g1 (by rw [← e2]; exact hb3.left) (fun x hx M pos hM hs => packRec_at (h.2.2.1 x hx) (hl x (.inr (.inl hx))) (hK.2.2.1 x hx) hM hs)
  rw [← e2] at h2 hM2 g2
  have e3 : pack3 (some []) m = packAll packRec (some M2) (12 + (packA (some []) m).1.length + (pack1 (some []) m).1.length + (pack2 (some []) m).1.length) m.three := by rw [pack3, hM2]
  obtain ⟨h3, M3, hM3, g3⟩ := packAll_at (f := packRec) (R := RecR K b) m.three M2 _ g2 (by rw [← e3]; exact hb3.right) (fun x hx M pos hM hs => packRec_at (h.2.2.2 x hx) (hl x (.inr (.inr hx))) (hK.2.2.2 x hx) hM hs)
  rw [← e3] at h3
  rw [← hlen] at h3
  exact ⟨hb.left, _, _, _, ha, h1, h2, h3⟩
end Go.Proofs.YtifnodoffgfpbaaGreatDoor

namespace Go.Proofs.YtifnodoffgfpbaaGreatDoor
open Go

/-- an append within a row: what stood there is written over -/
theorem xappIn {P : Program} {n : Nat} {l : List (Nat × Value)} {w : World} {ty : TypeId} {x y : Operand} {T TX E : TypeId} {z u V : Value} {g o m k c N bytes : Nat} {pre mid post news : List Value} (hT : slcB P T E = true) (hI : Inf P E z 1 bytes)
    (hx : ev n l x = some (.slice (some ⟨g, o, none⟩) m c)) (hy : ev n l y = some u) (hR : Rw w V g E 1 N (pre ++ (mid ++ post))) (hs : Src P 1 TX u k news w) (hp : pre.length = o + m) (hmid : mid.length = news.length) (h0 : 0 < N) (hroom : m + k ≤ c) (h1 : news.all (·.oneCell') = true) :
    ExK P n l (.call { callee := .builtin .append, args := #[x, y], argTypes := #[T, TX] }) ty w (fun v' w' => v' = .slice (some ⟨g, o, none⟩) (m + k) c ∧ Fr (· = g) w w' ∧ Rw w' V g E 1 N (pre ++ (news ++ post)) ∧ w'.heap.size = w.heap.size) := by
  obtain ⟨i, hi, hiz, hsz, rfl⟩ := hI
  have hu := slcB_spec hT
  obtain ⟨⟨hlen, hown⟩, hblk, hone⟩ := hR
  rcases hown with ⟨_, hn0⟩ | ⟨g', cap, cur, rfl, hb0, hheap, hnc, hcm, hcs, htake⟩
  · omega
  · obtain rfl := hblk g' rfl
    rw [Nat.mul_one] at hcs htake hlen
    have hcur : cur.toList = pre ++ (mid ++ (post ++ cur.toList.drop N)) := by
      have h1 := List.take_append_drop N cur.toList
      rw [htake] at h1
      exact h1.symm.trans (by simp only [List.append_assoc])
    have hheap' : w.heap[g']? = some (.cells (pre ++ (mid ++ (post ++ cur.toList.drop N))).toArray E (0, 0)) := by rw [hheap, ← hcur]
    have hfit : pre.length + news.length ≤ (pre ++ (mid ++ (post ++ cur.toList.drop N))).length := by simp only [List.length_append]; omega
    have hsets := heap_sets news pre.length hheap' hfit
    rw [splice_mid _ _ _ _ hmid.symm] at hsets
    have hB : Blk w g' (pre ++ (mid ++ (post ++ cur.toList.drop N))) := ⟨E, hheap'⟩
    rw [← hsz] at hs
    have hr := run_append_room_src (P := P) w T TX ty E i hu hi g' o m c u k news hs hroom
      (fun j hj => by rw [hsz, Nat.mul_one, ← hp]; exact (hB.there (i := pre.length) (n := news.length) hfit j hj).1)
      (fun j _ => hB.frozen _)
    rw [hsz, Nat.mul_one, ← hp] at hr
    refine ⟨_, _, fun r _ _ _ _ => ?_, rfl, hsets.2.1, ⟨⟨?_, .inr ⟨g', cap, _, rfl, hb0, hsets.1, hnc, hcm, ?_, ?_⟩⟩, hblk, ?_⟩, hsets.2.2⟩
    · simp only [execOp]
      simp [resolve, invoke, builtin, ev_eval r hx, ev_eval r hy, hr]
    · rw [Nat.mul_one]; simp only [List.length_append] at hlen ⊢; omega
    · have := congrArg List.length hcur
      simp only [Array.length_toList, List.length_append] at this
      simp only [List.size_toArray, List.length_append]; omega
    · rw [Nat.mul_one]
      simp only [List.length_append] at hlen
      have e : pre ++ (news ++ (post ++ cur.toList.drop N)) = (pre ++ (news ++ post)) ++ cur.toList.drop N := by simp
      show (pre ++ (news ++ (post ++ cur.toList.drop N))).take N = _
      rw [e, List.take_left' (by simp only [List.length_append]; omega)]
    · simp only [List.all_append, Bool.and_eq_true] at hone ⊢
      exact ⟨hone.1, h1, hone.2.2⟩
/-- a name that is packed without a map -/
theorem c149n {w : World} {v : Value} {g n start pos : Nat} {bs : List UInt8} (hR : BR w v g n bs) (hg : g < w.heap.size) {bo o : Nat} {s : List UInt8} (hN : SR w bo o [256] [nm s]) (hbo : bo < w.heap.size) (hbg : bo ≠ g) (hp : n = start + pos) (hl : n < 1000000000) (hs : nameL s) :
    Ret PP 149 [.pointer (some ⟨bo, o, none⟩), v, .map none, .int .i64 (start : Int)] w (fun u w' => ∃ t, u = .tuple #[t, .nilIface] ∧ AppTo w g (n + (wire s).length) (bs ++ wire s) t w') := by
  refine (c149 (gm := g) (cm := none) (C := none) (pos := pos) hR hg hN hbo hbg hbg trivial (fun b hb => by cases hb) hp hl hs).mono ?_
  rintro u w' ⟨a, c, g', rfl, r, m, h1, h2, _⟩
  rw [packName_non hs] at r ⊢
  exact ⟨_, rfl, a, c, g', rfl, r, m.mono (fun k _ h => h.elim id id), h1, h2⟩
theorem wire_bound {s : List UInt8} (hs : nameL s) : (wire s).length ≤ 509 := by
  have := wire_le s
  have := (name_pos hs).2
  omega
theorem hbits_alt (h : HeadD) : ((((((((h.op <<< 11) ||| h.code) ||| flagN h.avail 128) ||| flagN h.des 256) ||| flagN h.cut 512) ||| flagN h.auth 1024) ||| flagN h.resp 32768) ||| flagN h.authc 32) ||| flagN h.unch 16 = hbits h := by
  simp only [hbits]; ac_rfl
theorem flagN_T {b : Bool} {x : UInt16} (h : b = true) : flagN b x = x := by rw [h]; rfl
theorem flagN_F {b : Bool} {x : UInt16} (h : b = false) : flagN b x = 0 := by rw [h]; rfl
def hdrSegs (a b c d e f : Nat) : List (List Value) := [[.int .u16 (a : Int)], [.int .u16 (b : Int)], [.int .u16 (c : Int)], [.int .u16 (d : Int)], [.int .u16 (e : Int)], [.int .u16 (f : Int)]]
abbrev lHdr6 : List Nat := [1, 1, 1, 1, 1, 1]
abbrev lQ : List Nat := [256, 1, 1]
abbrev lRH : List Nat := [256, 1, 1, 1, 1]
theorem ba_rng {w : World} {b o c : Nat} {bs : List UInt8} (h : w.rangeAt b o (bvs bs)) : BA (· = b) w (.slice (some ⟨b, o, none⟩) bs.length c) bs := ⟨_, _, rfl, fun _ => ⟨b, o, rfl, rfl, h⟩⟩
theorem pb_name {C : Option Ent} {pos : Nat} {r : RecD} (h : r.kind = 2 ∨ r.kind = 3 ∨ r.kind = 5) : packBody C pos r = packName C pos (bt r.host) := by rw [packBody, if_pos h]
theorem pb_mx {C : Option Ent} {pos : Nat} {r : RecD} (h : r.kind = 6) : packBody C pos r = packMx C pos r := by rw [packBody, if_neg (by omega), if_pos h]
theorem pb_soa {C : Option Ent} {pos : Nat} {r : RecD} (h : r.kind = 4) : packBody C pos r = packSoa C pos r := by rw [packBody, if_neg (by omega), if_neg (by omega), if_pos h]
theorem pb_rest {C : Option Ent} {pos : Nat} {r : RecD} (h : ¬ (r.kind = 2 ∨ r.kind = 3 ∨ r.kind = 5 ∨ r.kind = 6 ∨ r.kind = 4)) : packBody C pos r = (bodyL r, C) := by rw [packBody, if_neg (by omega), if_neg (by omega), if_neg (by omega)]
theorem bodyL_simp {r : RecD} : (r.kind = 1 → bodyL r = fixedL r.data 4) ∧ (r.kind = 8 → bodyL r = fixedL r.data 16) ∧ (r.kind = 7 → bodyL r = textsL r.texts) ∧ (r.kind = 9 → bodyL r = be16 r.n1.toNat ++ (be16 r.n2.toNat ++ (be16 r.n3.toNat ++ wire (bt r.host)))) ∧ (r.kind = 10 → bodyL r = pairsL r.pairs) ∧
    (r.kind = 11 ∨ r.kind = 12 → bodyL r = be16 r.n1.toNat ++ (wire (bt r.host) ++ pairsL r.pairs)) ∧ (r.kind = 13 → bodyL r = r.data) := by
  refine ⟨fun h => ?_, fun h => ?_, fun h => ?_, fun h => ?_, fun h => ?_, fun h => ?_, fun h => ?_⟩
  · simp [bodyL, h]
  · simp [bodyL, h]
  · simp [bodyL, h]
  · simp [bodyL, h]
  · simp [bodyL, h]
  · rcases h with h | h <;> simp [bodyL, h]
  · simp [bodyL, h]

set_option maxHeartbeats 4000000 in
set_option maxRecDepth 100000 in
theorem c148i {w : World} {V : Value} {g o m c N : Nat} {b1 x2 b3 : List UInt8} {x : Nat} (hR : BR w V g N (b1 ++ (x2 ++ b3))) (hp : b1.length = o + m) (hx2 : x2.length = 2) (hmc : m + 2 ≤ c) (_hx : x < 65536) :
  Ret PP 148 [.slice (some ⟨g, o, none⟩) m c, .int .u16 x] w (fun u w' => u = .slice (some ⟨g, o, none⟩) (m + 2) c ∧ BR w' V g N (b1 ++ (be16 x ++ b3)) ∧ Fr (fun k => k = g) w w') := by
 rw [BR, bvs_app, bvs_app] at hR
 have hN := hR.len
 simp only [List.length_append, bvs_length, hx2, Nat.mul_one] at hN
 have hg := Rw.lt hR (by rintro rfl; have := hR.form; obtain ⟨a, c, h, _⟩ := this; simp only [Value.slice.injEq] at h; omega)
 have hf : Fr (fun k => k = g) w w := Fr.refl _ _
 refine ret_of Tryz.func148 rfl rfl rfl [(0, _), (1, _)] rfl ?_
 refine sreg (sA rfl (send (fg [(0, _), (1, _)] ⟨rfl, rfl, ⟨⟩⟩ fun _ => (sreg (sM rfl (sM rfl (sv (xshr (b := 8) (by decide) rfl rfl) (sv (xconv hs22 ki5 rfl (wu8m _)) (sM rfl (sv (xconv hs22 ki5 rfl (wu8m _)) ?_))))))))))
 refine svK (xslit (bvs (be16 x)) sl37 in5 rfl (by decide) rfl rfl rfl rfl (by decide) (by simp [be16, bvs, bv, Value.cells]) (bvs_one _)) ?_
 rintro _ w2 ⟨b11, rfl, m3, h11, e11, s11, r11⟩
 have hR := hR.keep m3 id
 have hf := hf.step0 m3
 refine svK (xappIn sl37 in5 rfl rfl hR (r11.src sl37) (by simpa [bvs] using hp) (by simp [bvs, be16, hx2]) (by omega) (by omega) (bvs_one _)) ?_
 rintro _ w4 ⟨rfl, m5, hR, s12⟩
 have hf := hf.step m5 (fun k hk hS => by have hS : k = g := hS; show k = g; omega)
 refine sA rfl (send (fg [(4, _)] ⟨rfl, ⟨⟩⟩ fun _ => (wp_ret ?_)))
 refine rp1 rfl rfl ?_
 refine ⟨rfl, ?_, hf⟩
 rw [BR, bvs_app, bvs_app]; exact hR
set_option maxHeartbeats 4000000 in
set_option maxRecDepth 100000 in
theorem c90 {w : World} {b o : Nat} {h : HeadD} (hN : SR w b o lHead (headSegs h)) (hb0 : b < w.heap.size) :
  Ret PP 90 [.pointer (some ⟨b, o, none⟩)] w (fun u w' => u = .tuple #[.int .u16 (h.id.toNat : Int), .int .u16 ((hbits h).toNat : Int)] ∧ Fr0 w w') := by
 have hf : Fr (fun _ => False) w w := Fr.refl _ _
 refine ret_of Tryz.func90 rfl rfl rfl [(0, _)] rfl ?_
 refine sreg (sA rfl (sA rfl (send (fg [(0, _)] ⟨rfl, ⟨⟩⟩ fun _ => (sreg (sM rfl (sN rfl (sv (xfld fl73_0 rfl) (sv (xld on22 rfl (hN.c 0 rfl rfl)) (sA rfl (send (fg [(0, _), (2, _)] ⟨rfl, rfl, ⟨⟩⟩ fun _ => ?_))))))))))))
 refine sdraw (Fr (fun _ => False) w.drew) [(0, .rd), (1, .rd), (2, .rd), (3, .rd), (4, .rd), (5, .rd), (6, .rd), (7, .rd), (8, .rd), (9, .rd), (10, .rd)] mixed (by kernel_rfl) (fun _ _ _ _ _ h => h) ?_
 have z1 : w.drew.heap.size = w.heap.size := rfl
 have hN := hN.keep (fd w) (by omega) id
 have hf := hf.drew
 have hS2 : Fr (fun _ => False) w.drew w.drew := Fr.refl _ _
 refine ggM rfl rfl hS2 (ggN rfl rfl hS2 (hv rfl (fun _ _ => xfld fl73_2 rfl) hS2 (hv rfl (fun w' hS => xld on70 rfl ((hN.keep hS (by omega) id).c 2 rfl rfl)) hS2 (hv rfl (fun _ _ => xshl16 (b := 11) (by decide) rfl rfl) hS2 (ggM rfl rfl hS2 (ggN rfl rfl hS2 (hv rfl (fun _ _ => xfld fl73_9 rfl) hS2 (hv rfl (fun w' hS => xld on71 rfl ((hN.keep hS (by omega) id).c 9 rfl rfl)) hS2 (hv rfl (fun _ _ => xor16 rfl rfl) hS2 (ggA rfl rfl hS2 (hend (fg [(0, _), (2, _), (3, _)] ⟨rfl, rfl, rfl, ⟨⟩⟩ fun _ => (wp_seq ?_)))))))))))))
 obtain ⟨y0, hy0⟩ : ∃ y, y = ((h.op <<< 11) ||| h.code) := ⟨_, rfl⟩
 rw [← hy0]
 refine sreg (sM rfl (sN rfl (sv (xfld fl73_6 rfl) (sv (xld on4 rfl (hN.c 6 rfl rfl)) (send (fg [(0, _), (2, _), (3, _), (21, _)] ⟨rfl, rfl, rfl, rfl, ⟨⟩⟩ fun _ => ?_))))))
 refine jcut [(0, _), (2, _)] ⟨rfl, rfl, trivial⟩ (fun (x : UInt16) => match x with | y1 => [(3, .int .u16 (y1.toNat : Int))]) (fun (x : UInt16) wx => match x with | y1 => Fr (fun _ => False) w.drew wx ∧ (y1 = (((h.op <<< 11) ||| h.code) ||| flagN h.avail 128))) ?_ ?_
 ·
  have hJ3 : Fr (fun _ => False) w.drew w.drew := Fr.refl _ _
  refine cB rfl (fun hb => ?_) (fun hb => ?_)
  ·
   refine lreg (sM rfl (sv (xor16 (b := 128) rfl rfl) (sA rfl (lend ?_))))
   exact ⟨rfl, (y0 ||| 128), _, env_okl ⟨rfl, rfl, rfl, trivial⟩, ⟨hJ3, (by rw [hy0, flagN_T (x := 128) (show h.avail = true from hb)])⟩⟩
  ·
   refine wp_skip ?_
   exact ⟨rfl, y0, _, env_okl ⟨rfl, rfl, rfl, trivial⟩, ⟨hJ3, (by rw [hy0, flagN_F (x := 128) (show h.avail = false from hb), UInt16.or_zero])⟩⟩
 ·
  rintro y1 _ w4 ⟨hJ3, hy1⟩
  have z5 := hJ3.size
  have hN := hN.keep hJ3 (by omega) id
  have hf := hf.step0 hJ3
  refine nThen (fg [(0, _), (2, _), (3, _)] ⟨rfl, rfl, rfl, ⟨⟩⟩ fun _ => (wp_seq (sreg (sM rfl (sN rfl (sv (xfld fl73_5 rfl) (sv (xld on4 rfl (hN.c 5 rfl rfl)) (send (fg [(0, _), (2, _), (3, _), (27, _)] ⟨rfl, rfl, rfl, rfl, ⟨⟩⟩ fun _ => ?_)))))))))
  refine jcut [(0, _), (2, _)] ⟨rfl, rfl, trivial⟩ (fun (x : UInt16) => match x with | y2 => [(3, .int .u16 (y2.toNat : Int))]) (fun (x : UInt16) wx => match x with | y2 => Fr (fun _ => False) w4 wx ∧ (y2 = ((((h.op <<< 11) ||| h.code) ||| flagN h.avail 128) ||| flagN h.des 256))) ?_ ?_
  ·
   have hJ6 : Fr (fun _ => False) w4 w4 := Fr.refl _ _
   refine cB rfl (fun hb => ?_) (fun hb => ?_)
   ·
    refine lreg (sM rfl (sv (xor16 (b := 256) rfl rfl) (sA rfl (lend ?_))))
    exact ⟨rfl, (y1 ||| 256), _, env_okl ⟨rfl, rfl, rfl, trivial⟩, ⟨hJ6, (by rw [hy1, flagN_T (x := 256) (show h.des = true from hb)])⟩⟩
   ·
    refine wp_skip ?_
    exact ⟨rfl, y1, _, env_okl ⟨rfl, rfl, rfl, trivial⟩, ⟨hJ6, (by rw [hy1, flagN_F (x := 256) (show h.des = false from hb), UInt16.or_zero])⟩⟩
  ·
   rintro y2 _ w7 ⟨hJ6, hy2⟩
   have z8 := hJ6.size
   have hN := hN.keep hJ6 (by omega) id
   have hf := hf.step0 hJ6
   refine nThen (fg [(0, _), (2, _), (3, _)] ⟨rfl, rfl, rfl, ⟨⟩⟩ fun _ => (wp_seq (sreg (sM rfl (sN rfl (sv (xfld fl73_4 rfl) (sv (xld on4 rfl (hN.c 4 rfl rfl)) (send (fg [(0, _), (2, _), (3, _), (33, _)] ⟨rfl, rfl, rfl, rfl, ⟨⟩⟩ fun _ => ?_)))))))))
   refine jcut [(0, _), (2, _)] ⟨rfl, rfl, trivial⟩ (fun (x : UInt16) => match x with | y3 => [(3, .int .u16 (y3.toNat : Int))]) (fun (x : UInt16) wx => match x with | y3 => Fr (fun _ => False) w7 wx ∧ (y3 = (((((h.op <<< 11) ||| h.code) ||| flagN h.avail 128) ||| flagN h.des 256) ||| flagN h.cut 512))) ?_ ?_
   ·
    have hJ9 : Fr (fun _ => False) w7 w7 := Fr.refl _ _
    refine cB rfl (fun hb => ?_) (fun hb => ?_)
    ·
     refine lreg (sM rfl (sv (xor16 (b := 512) rfl rfl) (sA rfl (lend ?_))))
     exact ⟨rfl, (y2 ||| 512), _, env_okl ⟨rfl, rfl, rfl, trivial⟩, ⟨hJ9, (by rw [hy2, flagN_T (x := 512) (show h.cut = true from hb)])⟩⟩
    ·
     refine wp_skip ?_
     exact ⟨rfl, y2, _, env_okl ⟨rfl, rfl, rfl, trivial⟩, ⟨hJ9, (by rw [hy2, flagN_F (x := 512) (show h.cut = false from hb), UInt16.or_zero])⟩⟩
   ·
    rintro y3 _ w10 ⟨hJ9, hy3⟩
    have z11 := hJ9.size
    have hN := hN.keep hJ9 (by omega) id
    have hf := hf.step0 hJ9
    refine nThen (fg [(0, _), (2, _), (3, _)] ⟨rfl, rfl, rfl, ⟨⟩⟩ fun _ => (wp_seq (sreg (sM rfl (sN rfl (sv (xfld fl73_3 rfl) (sv (xld on4 rfl (hN.c 3 rfl rfl)) (send (fg [(0, _), (2, _), (3, _), (39, _)] ⟨rfl, rfl, rfl, rfl, ⟨⟩⟩ fun _ => ?_)))))))))
    refine jcut [(0, _), (2, _)] ⟨rfl, rfl, trivial⟩ (fun (x : UInt16) => match x with | y4 => [(3, .int .u16 (y4.toNat : Int))]) (fun (x : UInt16) wx => match x with | y4 => Fr (fun _ => False) w10 wx ∧ (y4 = ((((((h.op <<< 11) ||| h.code) ||| flagN h.avail 128) ||| flagN h.des 256) ||| flagN h.cut 512) ||| flagN h.auth 1024))) ?_ ?_
    ·
     have hJ12 : Fr (fun _ => False) w10 w10 := Fr.refl _ _
     refine cB rfl (fun hb => ?_) (fun hb => ?_)
     ·
      refine lreg (sM rfl (sv (xor16 (b := 1024) rfl rfl) (sA rfl (lend ?_))))
      exact ⟨rfl, (y3 ||| 1024), _, env_okl ⟨rfl, rfl, rfl, trivial⟩, ⟨hJ12, (by rw [hy3, flagN_T (x := 1024) (show h.auth = true from hb)])⟩⟩
     ·
      refine wp_skip ?_
      exact ⟨rfl, y3, _, env_okl ⟨rfl, rfl, rfl, trivial⟩, ⟨hJ12, (by rw [hy3, flagN_F (x := 1024) (show h.auth = false from hb), UInt16.or_zero])⟩⟩
    ·
     rintro y4 _ w13 ⟨hJ12, hy4⟩
     have z14 := hJ12.size
     have hN := hN.keep hJ12 (by omega) id
     have hf := hf.step0 hJ12
     refine nThen (fg [(0, _), (2, _), (3, _)] ⟨rfl, rfl, rfl, ⟨⟩⟩ fun _ => (wp_seq (sreg (sM rfl (sN rfl (sv (xfld fl73_1 rfl) (sv (xld on4 rfl (hN.c 1 rfl rfl)) (send (fg [(0, _), (2, _), (3, _), (45, _)] ⟨rfl, rfl, rfl, rfl, ⟨⟩⟩ fun _ => ?_)))))))))
     refine jcut [(0, _), (2, _)] ⟨rfl, rfl, trivial⟩ (fun (x : UInt16) => match x with | y5 => [(3, .int .u16 (y5.toNat : Int))]) (fun (x : UInt16) wx => match x with | y5 => Fr (fun _ => False) w13 wx ∧ (y5 = (((((((h.op <<< 11) ||| h.code) ||| flagN h.avail 128) ||| flagN h.des 256) ||| flagN h.cut 512) ||| flagN h.auth 1024) ||| flagN h.resp 32768))) ?_ ?_
     ·
      have hJ15 : Fr (fun _ => False) w13 w13 := Fr.refl _ _
      refine cB rfl (fun hb => ?_) (fun hb => ?_)
      ·
       refine lreg (sM rfl (sv (xor16 (b := 32768) rfl rfl) (sA rfl (lend ?_))))
       exact ⟨rfl, (y4 ||| 32768), _, env_okl ⟨rfl, rfl, rfl, trivial⟩, ⟨hJ15, (by rw [hy4, flagN_T (x := 32768) (show h.resp = true from hb)])⟩⟩
      ·
       refine wp_skip ?_
       exact ⟨rfl, y4, _, env_okl ⟨rfl, rfl, rfl, trivial⟩, ⟨hJ15, (by rw [hy4, flagN_F (x := 32768) (show h.resp = false from hb), UInt16.or_zero])⟩⟩
     ·
      rintro y5 _ w16 ⟨hJ15, hy5⟩
      have z17 := hJ15.size
      have hN := hN.keep hJ15 (by omega) id
      have hf := hf.step0 hJ15
      refine nThen (fg [(0, _), (2, _), (3, _)] ⟨rfl, rfl, rfl, ⟨⟩⟩ fun _ => (wp_seq (sreg (sM rfl (sN rfl (sv (xfld fl73_7 rfl) (sv (xld on4 rfl (hN.c 7 rfl rfl)) (send (fg [(0, _), (2, _), (3, _), (51, _)] ⟨rfl, rfl, rfl, rfl, ⟨⟩⟩ fun _ => ?_)))))))))
      refine jcut [(0, _), (2, _)] ⟨rfl, rfl, trivial⟩ (fun (x : UInt16) => match x with | y6 => [(3, .int .u16 (y6.toNat : Int))]) (fun (x : UInt16) wx => match x with | y6 => Fr (fun _ => False) w16 wx ∧ (y6 = ((((((((h.op <<< 11) ||| h.code) ||| flagN h.avail 128) ||| flagN h.des 256) ||| flagN h.cut 512) ||| flagN h.auth 1024) ||| flagN h.resp 32768) ||| flagN h.authc 32))) ?_ ?_
      ·
       have hJ18 : Fr (fun _ => False) w16 w16 := Fr.refl _ _
       refine cB rfl (fun hb => ?_) (fun hb => ?_)
       ·
        refine lreg (sM rfl (sv (xor16 (b := 32) rfl rfl) (sA rfl (lend ?_))))
        exact ⟨rfl, (y5 ||| 32), _, env_okl ⟨rfl, rfl, rfl, trivial⟩, ⟨hJ18, (by rw [hy5, flagN_T (x := 32) (show h.authc = true from hb)])⟩⟩
       ·
        refine wp_skip ?_
        exact ⟨rfl, y5, _, env_okl ⟨rfl, rfl, rfl, trivial⟩, ⟨hJ18, (by rw [hy5, flagN_F (x := 32) (show h.authc = false from hb), UInt16.or_zero])⟩⟩
      ·
       rintro y6 _ w19 ⟨hJ18, hy6⟩
       have z20 := hJ18.size
       have hN := hN.keep hJ18 (by omega) id
       have hf := hf.step0 hJ18
       refine nThen (fg [(0, _), (2, _), (3, _)] ⟨rfl, rfl, rfl, ⟨⟩⟩ fun _ => (wp_seq (sreg (sM rfl (sN rfl (sv (xfld fl73_8 rfl) (sv (xld on4 rfl (hN.c 8 rfl rfl)) (send (fg [(2, _), (3, _), (57, _)] ⟨rfl, rfl, rfl, ⟨⟩⟩ fun _ => ?_)))))))))
       refine jcut [(2, _)] ⟨rfl, trivial⟩ (fun (x : UInt16) => match x with | y7 => [(3, .int .u16 (y7.toNat : Int))]) (fun (x : UInt16) wx => match x with | y7 => Fr (fun _ => False) w19 wx ∧ (y7 = (((((((((h.op <<< 11) ||| h.code) ||| flagN h.avail 128) ||| flagN h.des 256) ||| flagN h.cut 512) ||| flagN h.auth 1024) ||| flagN h.resp 32768) ||| flagN h.authc 32) ||| flagN h.unch 16))) ?_ ?_
       ·
        have hJ21 : Fr (fun _ => False) w19 w19 := Fr.refl _ _
        refine cB rfl (fun hb => ?_) (fun hb => ?_)
        ·
         refine lreg (sM rfl (sv (xor16 (b := 16) rfl rfl) (sA rfl (lend ?_))))
         exact ⟨rfl, (y6 ||| 16), _, env_okl ⟨rfl, rfl, trivial⟩, ⟨hJ21, (by rw [hy6, flagN_T (x := 16) (show h.unch = true from hb)])⟩⟩
        ·
         refine wp_skip ?_
         exact ⟨rfl, y6, _, env_okl ⟨rfl, rfl, trivial⟩, ⟨hJ21, (by rw [hy6, flagN_F (x := 16) (show h.unch = false from hb), UInt16.or_zero])⟩⟩
       ·
        rintro y7 _ w22 ⟨hJ21, hy7⟩
        have z23 := hJ21.size
        have hf := hf.step0 hJ21
        refine nThen (fg [(2, _), (3, _)] ⟨rfl, rfl, ⟨⟩⟩ fun _ => (wp_ret ?_))
        refine rp2 rfl rfl rfl ?_
        refine ⟨?_, hf⟩
        rw [← hbits_alt h, ← hy7]
end Go.Proofs.YtifnodoffgfpbaaGreatDoor

namespace Go.Proofs.YtifnodoffgfpbaaGreatDoor
open Go

theorem xcut1 {P : Program} {n : Nat} {l : List (Nat × Value)} {w : World} {ty : TypeId} {x : Operand} {T E : TypeId} {b o m c lo hi : Nat} {k k' : IntKind} {i j : Int} {p q : Operand} (hT : slcB P T E = true) (hE : szB P E 1 = true) (hx : ev n l x = some (.slice (some ⟨b, o, none⟩) m c))
    (hp : ev n l p = some (.int k i)) (hq : ev n l q = some (.int k' j)) (hi' : i = (lo : Int)) (hj : j = (hi : Int)) (h1 : lo ≤ hi) (h2 : hi ≤ c) (h3 : lo < c) : Ex P n l (.slice T x (some p) (some q) none) ty w (.slice (some ⟨b, o + lo, none⟩) (hi - lo) (c - lo)) w := by
  obtain ⟨v, w', h, o', rfl, ho, rfl⟩ := xcutLH (P := P) (w := w) (ty := ty) hT hE hx hp hq hi' hj h1 h2
  rw [ho h3, Nat.mul_one] at h
  exact h
theorem ba_fix {w : World} {b o n c : Nat} {d : List UInt8} (h : SR w b o [n] [bvs (fixedL d n)]) : BA (· = b) w (.slice (some ⟨b, o + 0, none⟩) n c) (fixedL d n) := by
  have := h.seg (i := 0) (k := 0) rfl rfl
  have := ba_rng (c := c) this
  rw [fixedL_length] at this
  exact this
def hdrL (a b c d e f : Nat) : List UInt8 := be16 a ++ (be16 b ++ (be16 c ++ (be16 d ++ (be16 e ++ be16 f))))
def hdTail (typ cls : UInt16) (ttl : UInt32) (len : Nat) : List UInt8 := be16 typ.toNat ++ (be16 cls.toNat ++ (be32 ttl.toNat ++ be16 len))
theorem hdTail_length (typ cls : UInt16) (ttl : UInt32) (len : Nat) : (hdTail typ cls ttl len).length = 10 := rfl
/-- what the packing of a record's header gives back -/
def HdrC (w : World) (g gm : Nat) (cm : Option Nat) (n k : Nat) (bs out : List UInt8) (C' : Option Ent) (u : Value) (w' : World) : Prop :=
  ∃ a c g', u = .tuple #[.slice a (n + out.length) c, .int .i64 (k : Int), .nilIface] ∧ BR w' (.slice a (n + out.length) c) g' (n + out.length) (bs ++ out) ∧ Fr (fun k => k = g ∨ k = gm) w w' ∧ (g' = g ∨ w.heap.size ≤ g') ∧ g' < w'.heap.size ∧ Cmp w' cm C'
theorem hdr_of {w w' : World} {g gm n m k : Nat} {cm : Option Nat} {bs out : List UInt8} {C' : Option Ent} {a : Option Addr} {c g' : Nat} {cs : List Value} {z : Int} (h : Rw w' (.slice a m c) g' 5 1 m cs) (hm : m = n + out.length) (hcs : cs = bvs (bs ++ out)) (hz : z = (k : Int)) (hf : Fr (fun k => k = g ∨ k = gm) w w') (hg : g' = g ∨ w.heap.size ≤ g') (hl : g' < w'.heap.size) (hC : Cmp w' cm C') :
    HdrC w g gm cm n k bs out C' (.tuple #[.slice a m c, .int .i64 z, .nilIface]) w' := by
  subst hm hcs hz
  exact ⟨a, c, g', rfl, h, hf, hg, hl, hC⟩
theorem n16 (x : UInt32) : be16 (x.toNat % 65536) = be16 x.toNat := be16_mod _
theorem packName_bound {C : Option Ent} {pos : Nat} {s : List UInt8} (hs : nameL s) : (packName C pos s).1.length ≤ 510 := by
  have := packName_le C pos s
  have := (name_pos hs).2
  omega

set_option maxHeartbeats 4000000 in
set_option maxRecDepth 100000 in
theorem c91i {w : World} {V : Value} {g c N b o lo : Nat} {b1 b3 : List UInt8} {y0a y0b y1a y1b y2a y2b y3a y3b y4a y4b y5a y5b : UInt8} {x0 x1 x2 x3 x4 x5 : Nat} (hR : BR w V g N (b1 ++ ([y0a, y0b] ++ ([y1a, y1b] ++ ([y2a, y2b] ++ ([y3a, y3b] ++ ([y4a, y4b] ++ ([y5a, y5b] ++ b3)))))))) (hb1 : b1.length = lo) (hc : 12 ≤ c) (_hg : g < w.heap.size) (hN : SR w b o lHdr6 (hdrSegs x0 x1 x2 x3 x4 x5)) (hb0 : b < w.heap.size) (hbg : b ≠ g) (hx : x0 < 65536 ∧ x1 < 65536 ∧ x2 < 65536 ∧ x3 < 65536 ∧ x4 < 65536 ∧ x5 < 65536) :
  Ret PP 91 [.pointer (some ⟨b, o, none⟩), .slice (some ⟨g, lo, none⟩) 0 c] w (fun _u w' => BR w' V g N (b1 ++ (hdrL x0 x1 x2 x3 x4 x5 ++ b3)) ∧ Fr (fun k => k = g) w w') := by
 have hf : Fr (fun k => k = g) w w := Fr.refl _ _
 refine ret_of Tryz.func91 rfl rfl rfl [(0, _), (1, _)] rfl ?_
 refine sreg (sA rfl (send (fg [(0, _), (1, _)] ⟨rfl, rfl, ⟨⟩⟩ fun _ => (sreg (sM rfl (sM rfl (sN rfl (sv (xfld fl121_0 rfl) (sv (xld on22 rfl (hN.c 0 rfl rfl)) ?_)))))))))
 refine sc (xcall ca148 rfl) (c148i (V := V) (N := N) (b1 := b1) (x2 := [y0a, y0b]) (b3 := ([y1a, y1b] ++ ([y2a, y2b] ++ ([y3a, y3b] ++ ([y4a, y4b] ++ ([y5a, y5b] ++ b3)))))) hR (by simp []; omega) rfl (by omega) (by omega)) ?_
 rintro _ w1 ⟨rfl, hR, m2⟩
 have z3 := m2.size
 have hN := hN.keep m2 (by omega) (by show ¬ (b = g); omega)
 have hf := hf.step m2 (fun k hk hS => by have hS : k = g := hS; show k = g; omega)
 rw [← List.append_assoc] at hR
 refine sA rfl (send (fg [(0, _), (1, _)] ⟨rfl, rfl, ⟨⟩⟩ fun _ => (sreg (sM rfl (sM rfl (sN rfl (sv (xfld fl121_1 rfl) (sv (xld on22 rfl (hN.c 1 rfl rfl)) ?_))))))))
 refine sc (xcall ca148 rfl) (c148i (V := V) (N := N) (b1 := (b1 ++ be16 x0)) (x2 := [y1a, y1b]) (b3 := ([y2a, y2b] ++ ([y3a, y3b] ++ ([y4a, y4b] ++ ([y5a, y5b] ++ b3))))) hR (by simp [be16]; omega) rfl (by omega) (by omega)) ?_
 rintro _ w4 ⟨rfl, hR, m5⟩
 have z6 := m5.size
 have hN := hN.keep m5 (by omega) (by show ¬ (b = g); omega)
 have hf := hf.step m5 (fun k hk hS => by have hS : k = g := hS; show k = g; omega)
 rw [← List.append_assoc] at hR
 refine sA rfl (send (fg [(0, _), (1, _)] ⟨rfl, rfl, ⟨⟩⟩ fun _ => (sreg (sM rfl (sM rfl (sN rfl (sv (xfld fl121_2 rfl) (sv (xld on22 rfl (hN.c 2 rfl rfl)) ?_))))))))
 refine sc (xcall ca148 rfl) (c148i (V := V) (N := N) (b1 := ((b1 ++ be16 x0) ++ be16 x1)) (x2 := [y2a, y2b]) (b3 := ([y3a, y3b] ++ ([y4a, y4b] ++ ([y5a, y5b] ++ b3)))) hR (by simp [be16]; omega) rfl (by omega) (by omega)) ?_
 rintro _ w7 ⟨rfl, hR, m8⟩
 have z9 := m8.size
 have hN := hN.keep m8 (by omega) (by show ¬ (b = g); omega)
 have hf := hf.step m8 (fun k hk hS => by have hS : k = g := hS; show k = g; omega)
 rw [← List.append_assoc] at hR
 refine sA rfl (send (fg [(0, _), (1, _)] ⟨rfl, rfl, ⟨⟩⟩ fun _ => (sreg (sM rfl (sM rfl (sN rfl (sv (xfld fl121_3 rfl) (sv (xld on22 rfl (hN.c 3 rfl rfl)) ?_))))))))
 refine sc (xcall ca148 rfl) (c148i (V := V) (N := N) (b1 := (((b1 ++ be16 x0) ++ be16 x1) ++ be16 x2)) (x2 := [y3a, y3b]) (b3 := ([y4a, y4b] ++ ([y5a, y5b] ++ b3))) hR (by simp [be16]; omega) rfl (by omega) (by omega)) ?_
 rintro _ w10 ⟨rfl, hR, m11⟩
 have z12 := m11.size
 have hN := hN.keep m11 (by omega) (by show ¬ (b = g); omega)
 have hf := hf.step m11 (fun k hk hS => by have hS : k = g := hS; show k = g; omega)
 rw [← List.append_assoc] at hR
 refine sA rfl (send (fg [(0, _), (1, _)] ⟨rfl, rfl, ⟨⟩⟩ fun _ => (sreg (sM rfl (sM rfl (sN rfl (sv (xfld fl121_4 rfl) (sv (xld on22 rfl (hN.c 4 rfl rfl)) ?_))))))))
 refine sc (xcall ca148 rfl) (c148i (V := V) (N := N) (b1 := ((((b1 ++ be16 x0) ++ be16 x1) ++ be16 x2) ++ be16 x3)) (x2 := [y4a, y4b]) (b3 := ([y5a, y5b] ++ b3)) hR (by simp [be16]; omega) rfl (by omega) (by omega)) ?_
 rintro _ w13 ⟨rfl, hR, m14⟩
 have z15 := m14.size
 have hN := hN.keep m14 (by omega) (by show ¬ (b = g); omega)
 have hf := hf.step m14 (fun k hk hS => by have hS : k = g := hS; show k = g; omega)
 rw [← List.append_assoc] at hR
 refine sA rfl (send (fg [(0, _), (1, _)] ⟨rfl, rfl, ⟨⟩⟩ fun _ => (sreg (sM rfl (sM rfl (sN rfl (sv (xfld fl121_5 rfl) (sv (xld on22 rfl (hN.c 5 rfl rfl)) ?_))))))))
 refine sc (xcall ca148 rfl) (c148i (V := V) (N := N) (b1 := (((((b1 ++ be16 x0) ++ be16 x1) ++ be16 x2) ++ be16 x3) ++ be16 x4)) (x2 := [y5a, y5b]) (b3 := b3) hR (by simp [be16]; omega) rfl (by omega) (by omega)) ?_
 rintro _ w16 ⟨rfl, hR, m17⟩
 have z18 := m17.size
 have hf := hf.step m17 (fun k hk hS => by have hS : k = g := hS; show k = g; omega)
 refine sA rfl (send (fg [(4, _)] ⟨rfl, ⟨⟩⟩ fun _ => (wp_ret ?_)))
 refine rp1 rfl rfl ?_
 refine ⟨br_cast hR (by simp [hdrL]) rfl, hf⟩
set_option maxHeartbeats 4000000 in
set_option maxRecDepth 100000 in
theorem c92 {w : World} {v : Value} {g gm n start pos : Nat} {bs : List UInt8} {cm : Option Nat} {C : Option Ent} (hR : BR w v g n bs) (hg : g < w.heap.size) {bo o : Nat} (hbo : bo < w.heap.size) (hbg : bo ≠ g) (hbm : bo ≠ gm) {a : AskD} (hN : SR w bo o lQ (questSegs a)) (hs : nameL (bt a.name)) (hC : Cmp w cm C) (hm : ∀ b, cm = some b → b = gm ∧ gm ≠ g ∧ gm < w.heap.size) (hp : n = start + pos) (hl : n < 999000000)  :
  Ret PP 92 [.pointer (some ⟨bo, o, none⟩), v, .map cm, .int .i64 (start : Int)] w (AppC w g gm cm n bs (packAsk C pos a).1 (packAsk C pos a).2) := by
 obtain ⟨a0, c0, rfl, -⟩ := hR.form
 have hf : Fr (fun k => k = g ∨ k = gm) w w := Fr.refl _ _
 refine ret_of Tryz.func92 rfl rfl rfl [(0, _), (1, _), (2, _), (3, _)] rfl ?_
 refine sreg (sA rfl (sA rfl (send (fg [(0, _), (1, _), (2, _), (3, _)] ⟨rfl, rfl, rfl, rfl, ⟨⟩⟩ fun _ => (sreg (sM rfl (sN rfl (sv (xfld fl86_0 rfl) (sM rfl (sM rfl (sM rfl ?_)))))))))))
 refine sc (xcall ca149 rfl) (c149 (gm := gm) (pos := pos) (s := bt a.name) hR (by omega) (SR.sub hN 0 1 rfl) (by omega) (by omega) (by omega) hC (fun b hb => by have hb := hm b hb; omega) (by omega) (by omega) hs) ?_
 rintro _ w1 ⟨p18, q18, g18, rfl, r18, m2, a18, l18, hC⟩
 have z3 := m2.size
 have hN := hN.keep m2 (by omega) (by show ¬ (bo = g ∨ bo = gm); omega)
 have hf := hf.step m2 (fun k hk hS => by have hS : k = g ∨ k = gm := hS; show k = g ∨ k = gm; omega)
 have hpl18 := packName_bound (C := C) (pos := pos) (s := bt a.name) hs
 refine sM rfl (sv (xextr rfl rfl) (sv (xextr rfl rfl) (sA rfl (sA rfl (send (fg [(0, _), (1, _), (10, _)] ⟨rfl, rfl, rfl, ⟨⟩⟩ fun _ => (wp_seq (sreg (sM rfl (sv (xneN if89 rfl) (send (fg [(0, _), (1, _), (10, _), (22, _)] ⟨rfl, rfl, rfl, rfl, ⟨⟩⟩ fun _ => (cno rfl (wp_skip (nThen (fg [(0, _), (1, _)] ⟨rfl, rfl, ⟨⟩⟩ fun _ => (sreg (sM rfl (sM rfl (sN rfl (sv (xfld fl86_1 rfl) (sv (xld on83 rfl (hN.c 1 rfl rfl)) ?_))))))))))))))))))))))
 refine sc (xcall ca150 rfl) (c150 r18 (by omega) (by first | omega | exact u16lt _) (by omega)) ?_
 rintro _ w4 ⟨p33, q33, g33, rfl, r33, m5, a33, l33⟩
 have z6 := m5.size
 have hN := hN.keep m5 (by omega) (by show ¬ (bo = g18); omega)
 have hf := hf.step m5 (fun k hk hS => by have hS : k = g18 := hS; show k = g ∨ k = gm; omega)
 have hC := hC.keep m5 (fun b hb => by have hb := hm b hb; show ¬ (b = g18); omega)
 refine sA rfl (send (fg [(0, _), (1, _)] ⟨rfl, rfl, ⟨⟩⟩ fun _ => (sreg (sM rfl (sM rfl (sN rfl (sv (xfld fl86_2 rfl) (sv (xld on84 rfl (hN.c 2 rfl rfl)) ?_))))))))
 refine sc (xcall ca151 rfl) (c151 r33 (by omega) (by first | omega | exact u16lt _) (by omega)) ?_
 rintro _ w7 ⟨p39, q39, g39, rfl, r39, m8, a39, l39⟩
 have z9 := m8.size
 have hf := hf.step m8 (fun k hk hS => by have hS : k = g33 := hS; show k = g ∨ k = gm; omega)
 have hC := hC.keep m8 (fun b hb => by have hb := hm b hb; show ¬ (b = g33); omega)
 refine sA rfl (sA rfl (send (fg [(8, _), (9, _)] ⟨rfl, rfl, ⟨⟩⟩ fun _ => (wp_ret ?_))))
 refine rp2 rfl rfl rfl ?_
 exact app_ofC r39 (by simp [packAsk, be16_length]; omega) (by simp [packAsk, bvs_app]) hf (by omega) (by omega) hC
set_option maxHeartbeats 4000000 in
set_option maxRecDepth 100000 in
theorem c152 {w : World} {v : Value} {g gm n start pos : Nat} {bs : List UInt8} {cm : Option Nat} {C : Option Ent} (hR : BR w v g n bs) (hg : g < w.heap.size) {bo o : Nat} (hbo : bo < w.heap.size) (hbg : bo ≠ g) (hbm : bo ≠ gm) {s : List UInt8} {typ cls : UInt16} {ttl : UInt32} {len : Nat} (hN : SR w bo o lRH (rhSegs s typ cls ttl len)) (hs : nameL s) (hlen : len < 65536) (hC : Cmp w cm C) (hm : ∀ b, cm = some b → b = gm ∧ gm ≠ g ∧ gm < w.heap.size) (hp : n = start + pos) (hl : n < 999000000)  :
  Ret PP 152 [.pointer (some ⟨bo, o, none⟩), v, .map cm, .int .i64 (start : Int)] w (HdrC w g gm cm n (n + (packName C pos s).1.length + 8) bs ((packName C pos s).1 ++ hdTail typ cls ttl len) (packName C pos s).2) := by
 obtain ⟨a0, c0, rfl, -⟩ := hR.form
 have hf : Fr (fun k => k = g ∨ k = gm) w w := Fr.refl _ _
 refine ret_of Tryz.func152 rfl rfl rfl [(0, _), (1, _), (2, _), (3, _)] rfl ?_
 refine sreg (sA rfl (sA rfl (sA rfl (send (fg [(0, _), (1, _), (2, _), (3, _)] ⟨rfl, rfl, rfl, rfl, ⟨⟩⟩ fun _ => (sreg (sM rfl (sA rfl (send (fg [(0, _), (1, _), (2, _), (3, _), (8, _)] ⟨rfl, rfl, rfl, rfl, rfl, ⟨⟩⟩ fun _ => (wp_seq (sreg (sM rfl (sN rfl (sv (xfld fl135_0 rfl) (sM rfl (sM rfl (sM rfl ?_))))))))))))))))))
 refine sc (xcall ca149 rfl) (c149 (gm := gm) (pos := pos) (s := s) hR (by omega) (SR.sub hN 0 1 rfl) (by omega) (by omega) (by omega) hC (fun b hb => by have hb := hm b hb; omega) (by omega) (by omega) hs) ?_
 rintro _ w1 ⟨p19, q19, g19, rfl, r19, m2, a19, l19, hC⟩
 have z3 := m2.size
 have hN := hN.keep m2 (by omega) (by show ¬ (bo = g ∨ bo = gm); omega)
 have hf := hf.step m2 (fun k hk hS => by have hS : k = g ∨ k = gm := hS; show k = g ∨ k = gm; omega)
 have hpl19 := packName_bound (C := C) (pos := pos) (s := s) hs
 refine sM rfl (sv (xextr rfl rfl) (sv (xextr rfl rfl) (sA rfl (sA rfl (send (fg [(0, _), (1, _), (8, _), (10, _)] ⟨rfl, rfl, rfl, rfl, ⟨⟩⟩ fun _ => (sreg (sM rfl (sv (xneN if89 rfl) (send (fg [(0, _), (1, _), (8, _), (10, _), (23, _)] ⟨rfl, rfl, rfl, rfl, rfl, ⟨⟩⟩ fun _ => (cno rfl (wp_skip (nThen (fg [(0, _), (8, _)] ⟨rfl, rfl, ⟨⟩⟩ fun _ => (sreg (sM rfl (sM rfl (sN rfl (sv (xfld fl135_1 rfl) (sv (xld on83 rfl (hN.c 1 rfl rfl)) ?_)))))))))))))))))))))
 refine sc (xcall ca150 rfl) (c150 r19 (by omega) (by first | omega | exact u16lt _) (by omega)) ?_
 rintro _ w4 ⟨p34, q34, g34, rfl, r34, m5, a34, l34⟩
 have z6 := m5.size
 have hN := hN.keep m5 (by omega) (by show ¬ (bo = g19); omega)
 have hf := hf.step m5 (fun k hk hS => by have hS : k = g19 := hS; show k = g ∨ k = gm; omega)
 have hC := hC.keep m5 (fun b hb => by have hb := hm b hb; show ¬ (b = g19); omega)
 refine sA rfl (send (fg [(0, _), (8, _)] ⟨rfl, rfl, ⟨⟩⟩ fun _ => (sreg (sM rfl (sM rfl (sN rfl (sv (xfld fl135_2 rfl) (sv (xld on84 rfl (hN.c 2 rfl rfl)) ?_))))))))
 refine sc (xcall ca151 rfl) (c151 r34 (by omega) (by first | omega | exact u16lt _) (by omega)) ?_
 rintro _ w7 ⟨p40, q40, g40, rfl, r40, m8, a40, l40⟩
 have z9 := m8.size
 have hN := hN.keep m8 (by omega) (by show ¬ (bo = g34); omega)
 have hf := hf.step m8 (fun k hk hS => by have hS : k = g34 := hS; show k = g ∨ k = gm; omega)
 have hC := hC.keep m8 (fun b hb => by have hb := hm b hb; show ¬ (b = g34); omega)
 refine sA rfl (send (fg [(0, _), (8, _)] ⟨rfl, rfl, ⟨⟩⟩ fun _ => (sreg (sM rfl (sM rfl (sN rfl (sv (xfld fl135_3 rfl) (sv (xld on61 rfl (hN.c 3 rfl rfl)) ?_))))))))
 refine sc (xcall ca191 rfl) (c191 r40 (by omega) (by first | omega | exact u32lt _) (by omega)) ?_
 rintro _ w10 ⟨p46, q46, g46, rfl, r46, m11, a46, l46⟩
 have z12 := m11.size
 have hN := hN.keep m11 (by omega) (by show ¬ (bo = g40); omega)
 have hf := hf.step m11 (fun k hk hS => by have hS : k = g40 := hS; show k = g ∨ k = gm; omega)
 have hC := hC.keep m11 (fun b hb => by have hb := hm b hb; show ¬ (b = g40); omega)
 refine sA rfl (send (fg [(0, _), (8, _)] ⟨rfl, rfl, ⟨⟩⟩ fun _ => (sreg (sM rfl (sv (xlen sl37 rfl) (sA rfl (send (fg [(0, _), (8, _), (9, _)] ⟨rfl, rfl, rfl, ⟨⟩⟩ fun _ => (sreg (sM rfl (sM rfl (sN rfl (sv (xfld fl135_4 rfl) (sv (xld on22 rfl (hN.c 4 rfl rfl)) ?_))))))))))))))
 refine sc (xcall ca148 rfl) (c148 r46 (by omega) (by first | omega | exact u16lt _) (by omega)) ?_
 rintro _ w13 ⟨p54, q54, g54, rfl, r54, m14, a54, l54⟩
 have z15 := m14.size
 have hf := hf.step m14 (fun k hk hS => by have hS : k = g46 := hS; show k = g ∨ k = gm; omega)
 have hC := hC.keep m14 (fun b hb => by have hb := hm b hb; show ¬ (b = g46); omega)
 refine sA rfl (send (fg [(8, _), (9, _)] ⟨rfl, rfl, ⟨⟩⟩ fun _ => (sreg (sM rfl (sM rfl (sA rfl (sA rfl (sA rfl (send (fg [(8, _), (9, _), (10, _)] ⟨rfl, rfl, rfl, ⟨⟩⟩ fun _ => (wp_ret ?_)))))))))))
 refine rp3 rfl rfl rfl rfl ?_
 exact hdr_of r54 (by simp [hdTail_length]; omega) (by simp [hdTail, bvs_app]) (by omega) hf (by omega) (by omega) hC
set_option maxHeartbeats 4000000 in
set_option maxRecDepth 100000 in
theorem c153 {w : World} {V : Value} {g N bh o lo preLen len : Nat} {T : TypeId} {pre post : List Value} {s : List UInt8} {typ cls : UInt16} {ttl : UInt32} {b1 x2 b3 : List UInt8} (hR : BR w V g N (b1 ++ (x2 ++ b3))) (_hg : g < w.heap.size) (hx2 : x2.length = 2) (hE : SE w bh T pre lRH (rhSegs s typ cls ttl len) post) (hpo : pre.length = o) (hbg : bh ≠ g) (hlo : b1.length = lo) (hpl : preLen ≤ N) (hcl : N - preLen < 65536) (hN9 : N < 1000000000) :
  Ret PP 153 [.pointer (some ⟨bh, o, none⟩), V, .int .i64 (lo : Int), .int .i64 (preLen : Int)] w (fun u w' => u = .nilIface ∧ BR w' V g N (b1 ++ (be16 (N - preLen) ++ b3)) ∧ SE w' bh T pre lRH (rhSegs s typ cls ttl (N - preLen)) post ∧ Fr (fun k => k = g ∨ k = bh) w w') := by
 have hz0 := hE.lt
 have hNl := hR.len
 simp only [List.length_append, hx2] at hNl
 obtain ⟨a0, c0, rfl, hnc, hcm, ha, -⟩ := hR.form
 obtain rfl := ha (by omega)
 obtain ⟨V, hV⟩ : ∃ V, V = Value.slice (some ⟨g, 0, none⟩) N c0 := ⟨_, rfl⟩
 have hf : Fr (fun k => k = g ∨ k = bh) w w := Fr.refl _ _
 refine ret_of Tryz.func153 rfl rfl rfl [(0, _), (1, _), (2, _), (3, _)] rfl ?_
 refine sreg (sA rfl (send (fg [(0, _), (1, _), (2, _), (3, _)] ⟨rfl, rfl, rfl, rfl, ⟨⟩⟩ fun _ => (sreg (sM rfl (sv (xlen sl37 rfl) (sM rfl (sv (xsub rfl rfl (w64 (by omega) (by omega))) (sA rfl (send (fg [(0, _), (1, _), (2, _), (9, _)] ⟨rfl, rfl, rfl, rfl, ⟨⟩⟩ fun _ => (wp_seq (sreg (sM rfl (sv (exF (xgtr rfl rfl) (by omega)) (send (fg [(0, _), (1, _), (2, _), (9, _), (15, _)] ⟨rfl, rfl, rfl, rfl, rfl, ⟨⟩⟩ fun _ => (cno rfl (wp_skip (nThen (fg [(0, _), (1, _), (2, _), (9, _)] ⟨rfl, rfl, rfl, rfl, ⟨⟩⟩ fun _ => (sreg (sM rfl (sM rfl ?_))))))))))))))))))))))))
 refine sM rfl (sv (xcut1 (lo := lo) (hi := lo) sl37 sz5 rfl rfl rfl rfl rfl (by omega) (by omega) (by omega)) (sM rfl (sv (xconv hs3 ki22 rfl (wu16n (N - preLen) (by omega))) ?_)))
 refine sc (xcall ca148 rfl) (c148i (V := .slice (some ⟨g, 0, none⟩) N c0) (N := N) (b1 := b1) (x2 := x2) (b3 := b3) hR (by omega) hx2 (by omega) (by omega)) ?_
 rintro _ w1 ⟨rfl, hR, m2⟩
 have z3 := m2.size
 have hE := hE.keep m2 (by show ¬ (bh = g); omega)
 have hf := hf.step m2 (fun k hk hS => by have hS : k = g := hS; show k = g ∨ k = bh; omega)
 refine send (fg [(0, _), (9, _)] ⟨rfl, rfl, ⟨⟩⟩ fun _ => (sreg (sM rfl (sM rfl (sv (xconv hs3 ki22 rfl (wu16n (N - preLen) (by omega))) (sN rfl (sv (xfld fl135_4 rfl) ?_)))))))
 refine suK (xstE 4 sz22 hE hpo rfl rfl rfl rfl rfl) ?_
 rintro w5 ⟨m6, hE, s4⟩
 have hf := hf.step m6 (fun k hk hS => by have hS : k = bh := hS; show k = g ∨ k = bh; omega)
 have hR := hR.keep m6 (by show ¬ (g = bh); omega)
 refine send (fg [] trivial fun _ => (sreg (sA rfl (send (fg [(8, _)] ⟨rfl, ⟨⟩⟩ fun _ => (wp_ret ?_))))))
 refine rp1 rfl rfl ?_
 exact ⟨rfl, hR, hE, hf⟩
set_option maxHeartbeats 4000000 in
set_option maxRecDepth 100000 in
theorem c164 {w : World} {v : Value} {g gm n start pos : Nat} {bs : List UInt8} {cm : Option Nat} {C : Option Ent} (hR : BR w v g n bs) (hg : g < w.heap.size) {bo o : Nat} (_hbo : bo < w.heap.size) (_hbg : bo ≠ g) (_hbm : bo ≠ gm) {r : RecD} (hk : r.kind = 1) (hN : SR w bo o [4] [bvs (fixedL r.data 4)]) (hn0 : 0 < n) (hC : Cmp w cm C) (hm : ∀ b, cm = some b → b = gm ∧ gm ≠ g ∧ gm < w.heap.size) (hp : n = start + pos) (hl : n < 999000000)  :
  Ret PP 164 [.pointer (some ⟨bo, o, none⟩), v, .map cm, .int .i64 (start : Int)] w (AppC w g gm cm n bs (packBody C pos r).1 (packBody C pos r).2) := by
 obtain ⟨a0, c0, rfl, -⟩ := hR.form
 have hf : Fr (fun k => k = g ∨ k = gm) w w := Fr.refl _ _
 refine ret_of Tryz.func164 rfl rfl rfl [(0, _), (1, _), (2, _), (3, _)] rfl ?_
 refine sreg (sA rfl (sA rfl (send (fg [(0, _), (1, _)] ⟨rfl, rfl, ⟨⟩⟩ fun _ => (sreg (sM rfl (sM rfl (sN rfl (sv (xfld fl189_0 rfl) (sv (xcutA ar187 sz5 rfl) ?_))))))))))
 refine sc (xcall ca208 rfl) (c208 hR (by omega) (ba_fix hN) (by rw [fixedL_length]; omega) (by omega) (by omega)) ?_
 rintro _ w1 ⟨p15, q15, g15, rfl, r15, m2, a15, l15⟩
 have z3 := m2.size
 have hC := hC.keep m2 (fun b hb => by have hb := hm b hb; show ¬ (b = g); omega)
 have hf := hf.step m2 (fun k hk hS => by have hS : k = g := hS; show k = g ∨ k = gm; omega)
 refine sA rfl (sA rfl (send (fg [(8, _), (9, _)] ⟨rfl, rfl, ⟨⟩⟩ fun _ => (wp_ret ?_))))
 refine rp2 rfl rfl rfl ?_
 rw [pb_rest (by omega), bodyL_simp.1 hk]
 exact app_ofC r15 (by simp [fixedL_length]) (by simp [bvs_app]) hf (by omega) (by omega) hC
set_option maxHeartbeats 4000000 in
set_option maxRecDepth 100000 in
theorem c178 {w : World} {v : Value} {g gm n start pos : Nat} {bs : List UInt8} {cm : Option Nat} {C : Option Ent} (hR : BR w v g n bs) (hg : g < w.heap.size) {bo o : Nat} (_hbo : bo < w.heap.size) (_hbg : bo ≠ g) (_hbm : bo ≠ gm) {r : RecD} (hk : r.kind = 8) (hN : SR w bo o [16] [bvs (fixedL r.data 16)]) (hn0 : 0 < n) (hC : Cmp w cm C) (hm : ∀ b, cm = some b → b = gm ∧ gm ≠ g ∧ gm < w.heap.size) (hp : n = start + pos) (hl : n < 999000000)  :
  Ret PP 178 [.pointer (some ⟨bo, o, none⟩), v, .map cm, .int .i64 (start : Int)] w (AppC w g gm cm n bs (packBody C pos r).1 (packBody C pos r).2) := by
 obtain ⟨a0, c0, rfl, -⟩ := hR.form
 have hf : Fr (fun k => k = g ∨ k = gm) w w := Fr.refl _ _
 refine ret_of Tryz.func178 rfl rfl rfl [(0, _), (1, _), (2, _), (3, _)] rfl ?_
 refine sreg (sA rfl (sA rfl (send (fg [(0, _), (1, _)] ⟨rfl, rfl, ⟨⟩⟩ fun _ => (sreg (sM rfl (sM rfl (sN rfl (sv (xfld fl211_0 rfl) (sv (xcutA ar209 sz5 rfl) ?_))))))))))
 refine sc (xcall ca208 rfl) (c208 hR (by omega) (ba_fix hN) (by rw [fixedL_length]; omega) (by omega) (by omega)) ?_
 rintro _ w1 ⟨p15, q15, g15, rfl, r15, m2, a15, l15⟩
 have z3 := m2.size
 have hC := hC.keep m2 (fun b hb => by have hb := hm b hb; show ¬ (b = g); omega)
 have hf := hf.step m2 (fun k hk hS => by have hS : k = g := hS; show k = g ∨ k = gm; omega)
 refine sA rfl (sA rfl (send (fg [(8, _), (9, _)] ⟨rfl, rfl, ⟨⟩⟩ fun _ => (wp_ret ?_))))
 refine rp2 rfl rfl rfl ?_
 rw [pb_rest (by omega), bodyL_simp.2.1 hk]
 exact app_ofC r15 (by simp [fixedL_length]) (by simp [bvs_app]) hf (by omega) (by omega) hC
end Go.Proofs.YtifnodoffgfpbaaGreatDoor

namespace Go.Proofs.YtifnodoffgfpbaaGreatDoor
open Go

theorem xcutF {P : Program} {n : Nat} {l : List (Nat × Value)} {w : World} {ty : TypeId} {x : Operand} {T E : TypeId} {sz m c : Nat} {a : Option Addr} (hT : slcB P T E = true) (hE : szB P E sz = true) (hx : ev n l x = some (.slice a m c)) :
    Ex P n l (.slice T x none none none) ty w (.slice a m c) w := fun r _ _ _ _ => by
  have hs := szB_spec hE
  cases hi' : P.info? E with
  | none => rw [hi'] at hs; cases hs
  | some u =>
    rw [hi'] at hs
    simp only [Option.map_some, Option.some.injEq] at hs
    simp only [execOp, ev_eval r hx]
    simp [Instr.sliceAt, Instr.slice, run_underlying (slcB_spec hT), Instr.sliceBounds, sizeOf, typeInfo, hi']
    cases a with
    | none => simp
    | some a => simp [Addr.add]
theorem asc_pos {ps : List PairD} (h : asc ps) {k : Nat} {p : PairD} (hp : ps[k]? = some p) (hk : 0 < k) : 0 < p.key.toNat := by
  obtain ⟨q, hq⟩ := some_of_lt (l := ps) (k := k - 1) (by have := (List.getElem?_eq_some_iff.1 hp).1; omega)
  have := h (k - 1) q p hq (by rw [show k - 1 + 1 = k by omega]; exact hp)
  omega
theorem pairs_take_le (ps : List PairD) (k : Nat) : (pairsL (ps.take k)).length ≤ (pairsL ps).length := by
  conv => rhs; rw [← List.take_append_drop k ps]
  simp only [pairsL, List.map_append, List.flatten_append, List.length_append]; omega
theorem texts_take_le (ps : List ByteArray) (k : Nat) : (textsL (ps.take k)).length ≤ (textsL ps).length := by
  conv => rhs; rw [← List.take_append_drop k ps]
  simp only [textsL, List.map_append, List.flatten_append, List.length_append]; omega

set_option maxHeartbeats 4000000 in
set_option maxRecDepth 100000 in
theorem c166 {w : World} {v : Value} {g gm n start pos : Nat} {bs : List UInt8} {cm : Option Nat} {C : Option Ent} (hR : BR w v g n bs) (hg : g < w.heap.size) {bo o : Nat} (hbo : bo < w.heap.size) (hbg : bo ≠ g) (hbm : bo ≠ gm) {r : RecD} (hk : r.kind = 2) (hN : SR w bo o [256] [nm (bt r.host)]) (hn0 : 0 < n) (hsh : nameL (bt r.host)) (hC : Cmp w cm C) (hm : ∀ b, cm = some b → b = gm ∧ gm ≠ g ∧ gm < w.heap.size) (hp : n = start + pos) (hl : n < 999000000)  :
  Ret PP 166 [.pointer (some ⟨bo, o, none⟩), v, .map cm, .int .i64 (start : Int)] w (AppC w g gm cm n bs (packBody C pos r).1 (packBody C pos r).2) := by
 obtain ⟨a0, c0, rfl, -⟩ := hR.form
 have hf : Fr (fun k => k = g ∨ k = gm) w w := Fr.refl _ _
 refine ret_of Tryz.func166 rfl rfl rfl [(0, _), (1, _), (2, _), (3, _)] rfl ?_
 refine sreg (sA rfl (sA rfl (send (fg [(0, _), (1, _), (2, _), (3, _)] ⟨rfl, rfl, rfl, rfl, ⟨⟩⟩ fun _ => (sreg (sM rfl (sN rfl (sv (xfld fl192_0 rfl) (sM rfl (sM rfl (sM rfl ?_)))))))))))
 refine sc (xcall ca149 rfl) (c149 (gm := gm) (pos := pos) (s := bt r.host) hR (by omega) (SR.sub hN 0 1 rfl) (by omega) (by omega) (by omega) hC (fun b hb => by have hb := hm b hb; omega) (by omega) (by omega) hsh) ?_
 rintro _ w1 ⟨p16, q16, g16, rfl, r16, m2, a16, l16, hC⟩
 have z3 := m2.size
 have hf := hf.step m2 (fun k hk hS => by have hS : k = g ∨ k = gm := hS; show k = g ∨ k = gm; omega)
 have hpl16 := packName_bound (C := C) (pos := pos) (s := bt r.host) hsh
 refine sv (xextr rfl rfl) (sv (xextr rfl rfl) (sA rfl (sA rfl (send (fg [(8, _), (9, _)] ⟨rfl, rfl, ⟨⟩⟩ fun _ => (wp_ret ?_))))))
 refine rp2 rfl rfl rfl ?_
 rw [pb_name (by omega)]
 exact app_ofC r16 rfl rfl hf (by omega) (by omega) hC
set_option maxHeartbeats 4000000 in
set_option maxRecDepth 100000 in
theorem c168 {w : World} {v : Value} {g gm n start pos : Nat} {bs : List UInt8} {cm : Option Nat} {C : Option Ent} (hR : BR w v g n bs) (hg : g < w.heap.size) {bo o : Nat} (hbo : bo < w.heap.size) (hbg : bo ≠ g) (hbm : bo ≠ gm) {r : RecD} (hk : r.kind = 3) (hN : SR w bo o [256] [nm (bt r.host)]) (hn0 : 0 < n) (hsh : nameL (bt r.host)) (hC : Cmp w cm C) (hm : ∀ b, cm = some b → b = gm ∧ gm ≠ g ∧ gm < w.heap.size) (hp : n = start + pos) (hl : n < 999000000)  :
  Ret PP 168 [.pointer (some ⟨bo, o, none⟩), v, .map cm, .int .i64 (start : Int)] w (AppC w g gm cm n bs (packBody C pos r).1 (packBody C pos r).2) := by
 obtain ⟨a0, c0, rfl, -⟩ := hR.form
 have hf : Fr (fun k => k = g ∨ k = gm) w w := Fr.refl _ _
 refine ret_of Tryz.func168 rfl rfl rfl [(0, _), (1, _), (2, _), (3, _)] rfl ?_
 refine sreg (sA rfl (sA rfl (send (fg [(0, _), (1, _), (2, _), (3, _)] ⟨rfl, rfl, rfl, rfl, ⟨⟩⟩ fun _ => (sreg (sM rfl (sN rfl (sv (xfld fl195_0 rfl) (sM rfl (sM rfl (sM rfl ?_)))))))))))
 refine sc (xcall ca149 rfl) (c149 (gm := gm) (pos := pos) (s := bt r.host) hR (by omega) (SR.sub hN 0 1 rfl) (by omega) (by omega) (by omega) hC (fun b hb => by have hb := hm b hb; omega) (by omega) (by omega) hsh) ?_
 rintro _ w1 ⟨p16, q16, g16, rfl, r16, m2, a16, l16, hC⟩
 have z3 := m2.size
 have hf := hf.step m2 (fun k hk hS => by have hS : k = g ∨ k = gm := hS; show k = g ∨ k = gm; omega)
 have hpl16 := packName_bound (C := C) (pos := pos) (s := bt r.host) hsh
 refine sv (xextr rfl rfl) (sv (xextr rfl rfl) (sA rfl (sA rfl (send (fg [(8, _), (9, _)] ⟨rfl, rfl, ⟨⟩⟩ fun _ => (wp_ret ?_))))))
 refine rp2 rfl rfl rfl ?_
 rw [pb_name (by omega)]
 exact app_ofC r16 rfl rfl hf (by omega) (by omega) hC
set_option maxHeartbeats 4000000 in
set_option maxRecDepth 100000 in
theorem c172 {w : World} {v : Value} {g gm n start pos : Nat} {bs : List UInt8} {cm : Option Nat} {C : Option Ent} (hR : BR w v g n bs) (hg : g < w.heap.size) {bo o : Nat} (hbo : bo < w.heap.size) (hbg : bo ≠ g) (hbm : bo ≠ gm) {r : RecD} (hk : r.kind = 5) (hN : SR w bo o [256] [nm (bt r.host)]) (hn0 : 0 < n) (hsh : nameL (bt r.host)) (hC : Cmp w cm C) (hm : ∀ b, cm = some b → b = gm ∧ gm ≠ g ∧ gm < w.heap.size) (hp : n = start + pos) (hl : n < 999000000)  :
  Ret PP 172 [.pointer (some ⟨bo, o, none⟩), v, .map cm, .int .i64 (start : Int)] w (AppC w g gm cm n bs (packBody C pos r).1 (packBody C pos r).2) := by
 obtain ⟨a0, c0, rfl, -⟩ := hR.form
 have hf : Fr (fun k => k = g ∨ k = gm) w w := Fr.refl _ _
 refine ret_of Tryz.func172 rfl rfl rfl [(0, _), (1, _), (2, _), (3, _)] rfl ?_
 refine sreg (sA rfl (sA rfl (send (fg [(0, _), (1, _), (2, _), (3, _)] ⟨rfl, rfl, rfl, rfl, ⟨⟩⟩ fun _ => (sreg (sM rfl (sN rfl (sv (xfld fl201_0 rfl) (sM rfl (sM rfl (sM rfl ?_)))))))))))
 refine sc (xcall ca149 rfl) (c149 (gm := gm) (pos := pos) (s := bt r.host) hR (by omega) (SR.sub hN 0 1 rfl) (by omega) (by omega) (by omega) hC (fun b hb => by have hb := hm b hb; omega) (by omega) (by omega) hsh) ?_
 rintro _ w1 ⟨p16, q16, g16, rfl, r16, m2, a16, l16, hC⟩
 have z3 := m2.size
 have hf := hf.step m2 (fun k hk hS => by have hS : k = g ∨ k = gm := hS; show k = g ∨ k = gm; omega)
 have hpl16 := packName_bound (C := C) (pos := pos) (s := bt r.host) hsh
 refine sv (xextr rfl rfl) (sv (xextr rfl rfl) (sA rfl (sA rfl (send (fg [(8, _), (9, _)] ⟨rfl, rfl, ⟨⟩⟩ fun _ => (wp_ret ?_))))))
 refine rp2 rfl rfl rfl ?_
 rw [pb_name (by omega)]
 exact app_ofC r16 rfl rfl hf (by omega) (by omega) hC
set_option maxHeartbeats 4000000 in
set_option maxRecDepth 100000 in
theorem c174 {w : World} {v : Value} {g gm n start pos : Nat} {bs : List UInt8} {cm : Option Nat} {C : Option Ent} (hR : BR w v g n bs) (hg : g < w.heap.size) {bo o : Nat} (hbo : bo < w.heap.size) (hbg : bo ≠ g) (hbm : bo ≠ gm) {r : RecD} (hk : r.kind = 6) (hN : SR w bo o [1, 256] [[.int .u16 ((r.n1.toNat % 65536 : Nat) : Int)], nm (bt r.host)]) (hn0 : 0 < n) (hsh : nameL (bt r.host)) (hC : Cmp w cm C) (hm : ∀ b, cm = some b → b = gm ∧ gm ≠ g ∧ gm < w.heap.size) (hp : n = start + pos) (hl : n < 999000000)  :
  Ret PP 174 [.pointer (some ⟨bo, o, none⟩), v, .map cm, .int .i64 (start : Int)] w (AppC w g gm cm n bs (packBody C pos r).1 (packBody C pos r).2) := by
 obtain ⟨a0, c0, rfl, -⟩ := hR.form
 have hf : Fr (fun k => k = g ∨ k = gm) w w := Fr.refl _ _
 refine ret_of Tryz.func174 rfl rfl rfl [(0, _), (1, _), (2, _), (3, _)] rfl ?_
 refine sreg (sA rfl (sA rfl (send (fg [(0, _), (1, _), (2, _), (3, _)] ⟨rfl, rfl, rfl, rfl, ⟨⟩⟩ fun _ => (sreg (sM rfl (sA rfl (send (fg [(0, _), (1, _), (2, _), (3, _), (10, _)] ⟨rfl, rfl, rfl, rfl, rfl, ⟨⟩⟩ fun _ => (sreg (sM rfl (sM rfl (sN rfl (sv (xfld fl204_0 rfl) (sv (xld on22 rfl (hN.c 0 rfl rfl)) ?_)))))))))))))))
 refine sc (xcall ca148 rfl) (c148 hR (by omega) (by first | omega | exact u16lt _) (by omega)) ?_
 rintro _ w1 ⟨p18, q18, g18, rfl, r18, m2, a18, l18⟩
 have z3 := m2.size
 have hC := hC.keep m2 (fun b hb => by have hb := hm b hb; show ¬ (b = g); omega)
 have hN := hN.keep m2 (by omega) (by show ¬ (bo = g); omega)
 have hf := hf.step m2 (fun k hk hS => by have hS : k = g := hS; show k = g ∨ k = gm; omega)
 refine sA rfl (send (fg [(0, _), (1, _), (2, _), (3, _), (10, _)] ⟨rfl, rfl, rfl, rfl, rfl, ⟨⟩⟩ fun _ => (sreg (sM rfl (sN rfl (sv (xfld fl204_1 rfl) (sM rfl (sM rfl (sM rfl ?_)))))))))
 refine sc (xcall ca149 rfl) (c149 (gm := gm) (pos := pos + 2) (s := bt r.host) r18 (by omega) (SR.sub hN 1 1 rfl) (by omega) (by omega) (by omega) hC (fun b hb => by have hb := hm b hb; omega) (by omega) (by omega) hsh) ?_
 rintro _ w4 ⟨p26, q26, g26, rfl, r26, m5, a26, l26, hC⟩
 have z6 := m5.size
 have hf := hf.step m5 (fun k hk hS => by have hS : k = g18 ∨ k = gm := hS; show k = g ∨ k = gm; omega)
 have hpl26 := packName_bound (C := C) (pos := pos + 2) (s := bt r.host) hsh
 refine sM rfl (sv (xextr rfl rfl) (sv (xextr rfl rfl) (sA rfl (sA rfl (send (fg [(1, _), (10, _), (11, _)] ⟨rfl, rfl, rfl, ⟨⟩⟩ fun _ => (wp_seq (sreg (sM rfl (sv (xneN if89 rfl) (send (fg [(1, _), (10, _), (11, _), (30, _)] ⟨rfl, rfl, rfl, rfl, ⟨⟩⟩ fun _ => (cno rfl (wp_skip (nThen (fg [(1, _)] ⟨rfl, ⟨⟩⟩ fun _ => (sreg (sM rfl (sA rfl (sA rfl (send (fg [(8, _), (9, _)] ⟨rfl, rfl, ⟨⟩⟩ fun _ => (wp_ret ?_)))))))))))))))))))))))
 refine rp2 rfl rfl rfl ?_
 rw [pb_mx hk]
 exact app_ofC r26 (by simp [packMx, be16_length]; omega) (by simp [packMx, bvs_app, n16]) hf (by omega) (by omega) hC
set_option maxHeartbeats 4000000 in
set_option maxRecDepth 100000 in
theorem c170 {w : World} {v : Value} {g gm n start pos : Nat} {bs : List UInt8} {cm : Option Nat} {C : Option Ent} (hR : BR w v g n bs) (hg : g < w.heap.size) {bo o : Nat} (hbo : bo < w.heap.size) (hbg : bo ≠ g) (hbm : bo ≠ gm) {r : RecD} (hk : r.kind = 4) (hN : SR w bo o [256, 256, 1, 1, 1, 1, 1] [nm (bt r.host), nm (bt r.box), [.int .u32 (r.n1.toNat : Int)], [.int .u32 (r.n2.toNat : Int)], [.int .u32 (r.n3.toNat : Int)], [.int .u32 (r.n4.toNat : Int)], [.int .u32 (r.n5.toNat : Int)]]) (hn0 : 0 < n) (hsh : nameL (bt r.host)) (hsb : nameL (bt r.box)) (hC : Cmp w cm C) (hm : ∀ b, cm = some b → b = gm ∧ gm ≠ g ∧ gm < w.heap.size) (hp : n = start + pos) (hl : n < 999000000)  :
  Ret PP 170 [.pointer (some ⟨bo, o, none⟩), v, .map cm, .int .i64 (start : Int)] w (AppC w g gm cm n bs (packBody C pos r).1 (packBody C pos r).2) := by
 obtain ⟨a0, c0, rfl, -⟩ := hR.form
 have hf : Fr (fun k => k = g ∨ k = gm) w w := Fr.refl _ _
 refine ret_of Tryz.func170 rfl rfl rfl [(0, _), (1, _), (2, _), (3, _)] rfl ?_
 refine sreg (sA rfl (sA rfl (send (fg [(0, _), (1, _), (2, _), (3, _)] ⟨rfl, rfl, rfl, rfl, ⟨⟩⟩ fun _ => (sreg (sM rfl (sA rfl (send (fg [(0, _), (1, _), (2, _), (3, _), (10, _)] ⟨rfl, rfl, rfl, rfl, rfl, ⟨⟩⟩ fun _ => (sreg (sM rfl (sN rfl (sv (xfld fl198_0 rfl) (sM rfl (sM rfl (sM rfl ?_))))))))))))))))
 refine sc (xcall ca149 rfl) (c149 (gm := gm) (pos := pos) (s := bt r.host) hR (by omega) (SR.sub hN 0 1 rfl) (by omega) (by omega) (by omega) hC (fun b hb => by have hb := hm b hb; omega) (by omega) (by omega) hsh) ?_
 rintro _ w1 ⟨p20, q20, g20, rfl, r20, m2, a20, l20, hC⟩
 have z3 := m2.size
 have hN := hN.keep m2 (by omega) (by show ¬ (bo = g ∨ bo = gm); omega)
 have hf := hf.step m2 (fun k hk hS => by have hS : k = g ∨ k = gm := hS; show k = g ∨ k = gm; omega)
 have hpl20 := packName_bound (C := C) (pos := pos) (s := bt r.host) hsh
 refine sM rfl (sv (xextr rfl rfl) (sv (xextr rfl rfl) (sA rfl (sA rfl (send (fg [(0, _), (1, _), (2, _), (3, _), (10, _), (11, _)] ⟨rfl, rfl, rfl, rfl, rfl, rfl, ⟨⟩⟩ fun _ => (wp_seq (sreg (sM rfl (sv (xneN if89 rfl) (send (fg [(0, _), (1, _), (2, _), (3, _), (10, _), (11, _), (24, _)] ⟨rfl, rfl, rfl, rfl, rfl, rfl, rfl, ⟨⟩⟩ fun _ => (cno rfl (wp_skip (nThen (fg [(0, _), (1, _), (2, _), (3, _), (10, _)] ⟨rfl, rfl, rfl, rfl, rfl, ⟨⟩⟩ fun _ => (sreg (sM rfl (sN rfl (sv (xfld fl198_1 rfl) (sM rfl (sM rfl (sM rfl ?_)))))))))))))))))))))))
 refine sc (xcall ca149 rfl) (c149 (gm := gm) (pos := pos + (packName C pos (bt r.host)).1.length) (s := bt r.box) r20 (by omega) (SR.sub hN 1 1 rfl) (by omega) (by omega) (by omega) hC (fun b hb => by have hb := hm b hb; omega) (by omega) (by omega) hsb) ?_
 rintro _ w4 ⟨p37, q37, g37, rfl, r37, m5, a37, l37, hC⟩
 have z6 := m5.size
 have hN := hN.keep m5 (by omega) (by show ¬ (bo = g20 ∨ bo = gm); omega)
 have hf := hf.step m5 (fun k hk hS => by have hS : k = g20 ∨ k = gm := hS; show k = g ∨ k = gm; omega)
 have hpl37 := packName_bound (C := (packName C pos (bt r.host)).2) (pos := pos + (packName C pos (bt r.host)).1.length) (s := bt r.box) hsb
 refine sM rfl (sv (xextr rfl rfl) (sv (xextr rfl rfl) (sA rfl (sA rfl (send (fg [(0, _), (1, _), (10, _), (11, _)] ⟨rfl, rfl, rfl, rfl, ⟨⟩⟩ fun _ => (wp_seq (sreg (sM rfl (sv (xneN if89 rfl) (send (fg [(0, _), (1, _), (10, _), (11, _), (41, _)] ⟨rfl, rfl, rfl, rfl, rfl, ⟨⟩⟩ fun _ => (cno rfl (wp_skip (nThen (fg [(0, _), (1, _)] ⟨rfl, rfl, ⟨⟩⟩ fun _ => (sreg (sM rfl (sM rfl (sN rfl (sv (xfld fl198_2 rfl) (sv (xld on61 rfl (hN.c 2 rfl rfl)) ?_))))))))))))))))))))))
 refine sc (xcall ca191 rfl) (c191 r37 (by omega) (by first | omega | exact u32lt _) (by omega)) ?_
 rintro _ w7 ⟨p52, q52, g52, rfl, r52, m8, a52, l52⟩
 have z9 := m8.size
 have hN := hN.keep m8 (by omega) (by show ¬ (bo = g37); omega)
 have hf := hf.step m8 (fun k hk hS => by have hS : k = g37 := hS; show k = g ∨ k = gm; omega)
 have hC := hC.keep m8 (fun b hb => by have hb := hm b hb; show ¬ (b = g37); omega)
 refine sA rfl (send (fg [(0, _), (1, _)] ⟨rfl, rfl, ⟨⟩⟩ fun _ => (sreg (sM rfl (sM rfl (sN rfl (sv (xfld fl198_3 rfl) (sv (xld on61 rfl (hN.c 3 rfl rfl)) ?_))))))))
 refine sc (xcall ca191 rfl) (c191 r52 (by omega) (by first | omega | exact u32lt _) (by omega)) ?_
 rintro _ w10 ⟨p58, q58, g58, rfl, r58, m11, a58, l58⟩
 have z12 := m11.size
 have hN := hN.keep m11 (by omega) (by show ¬ (bo = g52); omega)
 have hf := hf.step m11 (fun k hk hS => by have hS : k = g52 := hS; show k = g ∨ k = gm; omega)
 have hC := hC.keep m11 (fun b hb => by have hb := hm b hb; show ¬ (b = g52); omega)
 refine sA rfl (send (fg [(0, _), (1, _)] ⟨rfl, rfl, ⟨⟩⟩ fun _ => (sreg (sM rfl (sM rfl (sN rfl (sv (xfld fl198_4 rfl) (sv (xld on61 rfl (hN.c 4 rfl rfl)) ?_))))))))
 refine sc (xcall ca191 rfl) (c191 r58 (by omega) (by first | omega | exact u32lt _) (by omega)) ?_
 rintro _ w13 ⟨p64, q64, g64, rfl, r64, m14, a64, l64⟩
 have z15 := m14.size
 have hN := hN.keep m14 (by omega) (by show ¬ (bo = g58); omega)
 have hf := hf.step m14 (fun k hk hS => by have hS : k = g58 := hS; show k = g ∨ k = gm; omega)
 have hC := hC.keep m14 (fun b hb => by have hb := hm b hb; show ¬ (b = g58); omega)
 refine sA rfl (send (fg [(0, _), (1, _)] ⟨rfl, rfl, ⟨⟩⟩ fun _ => (sreg (sM rfl (sM rfl (sN rfl (sv (xfld fl198_5 rfl) (sv (xld on61 rfl (hN.c 5 rfl rfl)) ?_))))))))
 refine sc (xcall ca191 rfl) (c191 r64 (by omega) (by first | omega | exact u32lt _) (by omega)) ?_
 rintro _ w16 ⟨p70, q70, g70, rfl, r70, m17, a70, l70⟩
 have z18 := m17.size
 have hN := hN.keep m17 (by omega) (by show ¬ (bo = g64); omega)
 have hf := hf.step m17 (fun k hk hS => by have hS : k = g64 := hS; show k = g ∨ k = gm; omega)
 have hC := hC.keep m17 (fun b hb => by have hb := hm b hb; show ¬ (b = g64); omega)
 refine sA rfl (send (fg [(0, _), (1, _)] ⟨rfl, rfl, ⟨⟩⟩ fun _ => (sreg (sM rfl (sM rfl (sN rfl (sv (xfld fl198_6 rfl) (sv (xld on61 rfl (hN.c 6 rfl rfl)) ?_))))))))
 refine sc (xcall ca191 rfl) (c191 r70 (by omega) (by first | omega | exact u32lt _) (by omega)) ?_
 rintro _ w19 ⟨p76, q76, g76, rfl, r76, m20, a76, l76⟩
 have z21 := m20.size
 have hf := hf.step m20 (fun k hk hS => by have hS : k = g70 := hS; show k = g ∨ k = gm; omega)
 have hC := hC.keep m20 (fun b hb => by have hb := hm b hb; show ¬ (b = g70); omega)
 refine sA rfl (sA rfl (send (fg [(8, _), (9, _)] ⟨rfl, rfl, ⟨⟩⟩ fun _ => (wp_ret ?_))))
 refine rp2 rfl rfl rfl ?_
 rw [pb_soa hk]
 exact app_ofC r76 (by simp [packSoa, soaL_length]; omega) (by simp [packSoa, soaL, bvs_app]) hf (by omega) (by omega) hC
set_option maxHeartbeats 4000000 in
set_option maxRecDepth 100000 in
theorem c180 {w : World} {v : Value} {g gm n start pos : Nat} {bs : List UInt8} {cm : Option Nat} {C : Option Ent} (hR : BR w v g n bs) (hg : g < w.heap.size) {bo o : Nat} (hbo : bo < w.heap.size) (hbg : bo ≠ g) (hbm : bo ≠ gm) {r : RecD} (hk : r.kind = 9) (hN : SR w bo o [1, 1, 1, 256] [[.int .u16 ((r.n1.toNat % 65536 : Nat) : Int)], [.int .u16 ((r.n2.toNat % 65536 : Nat) : Int)], [.int .u16 ((r.n3.toNat % 65536 : Nat) : Int)], nm (bt r.host)]) (hn0 : 0 < n) (hsh : nameL (bt r.host)) (hC : Cmp w cm C) (hm : ∀ b, cm = some b → b = gm ∧ gm ≠ g ∧ gm < w.heap.size) (hp : n = start + pos) (hl : n < 999000000)  :
  Ret PP 180 [.pointer (some ⟨bo, o, none⟩), v, .map cm, .int .i64 (start : Int)] w (AppC w g gm cm n bs (packBody C pos r).1 (packBody C pos r).2) := by
 obtain ⟨a0, c0, rfl, -⟩ := hR.form
 have hf : Fr (fun k => k = g ∨ k = gm) w w := Fr.refl _ _
 refine ret_of Tryz.func180 rfl rfl rfl [(0, _), (1, _), (2, _), (3, _)] rfl ?_
 refine sreg (sA rfl (sA rfl (send (fg [(0, _), (1, _), (3, _)] ⟨rfl, rfl, rfl, ⟨⟩⟩ fun _ => (sreg (sM rfl (sA rfl (send (fg [(0, _), (1, _), (3, _), (10, _)] ⟨rfl, rfl, rfl, rfl, ⟨⟩⟩ fun _ => (sreg (sM rfl (sM rfl (sN rfl (sv (xfld fl214_0 rfl) (sv (xld on22 rfl (hN.c 0 rfl rfl)) ?_)))))))))))))))
 refine sc (xcall ca148 rfl) (c148 hR (by omega) (by first | omega | exact u16lt _) (by omega)) ?_
 rintro _ w1 ⟨p18, q18, g18, rfl, r18, m2, a18, l18⟩
 have z3 := m2.size
 have hC := hC.keep m2 (fun b hb => by have hb := hm b hb; show ¬ (b = g); omega)
 have hN := hN.keep m2 (by omega) (by show ¬ (bo = g); omega)
 have hf := hf.step m2 (fun k hk hS => by have hS : k = g := hS; show k = g ∨ k = gm; omega)
 refine sA rfl (send (fg [(0, _), (1, _), (3, _), (10, _)] ⟨rfl, rfl, rfl, rfl, ⟨⟩⟩ fun _ => (sreg (sM rfl (sM rfl (sN rfl (sv (xfld fl214_1 rfl) (sv (xld on22 rfl (hN.c 1 rfl rfl)) ?_))))))))
 refine sc (xcall ca148 rfl) (c148 r18 (by omega) (by first | omega | exact u16lt _) (by omega)) ?_
 rintro _ w4 ⟨p24, q24, g24, rfl, r24, m5, a24, l24⟩
 have z6 := m5.size
 have hC := hC.keep m5 (fun b hb => by have hb := hm b hb; show ¬ (b = g18); omega)
 have hN := hN.keep m5 (by omega) (by show ¬ (bo = g18); omega)
 have hf := hf.step m5 (fun k hk hS => by have hS : k = g18 := hS; show k = g ∨ k = gm; omega)
 refine sA rfl (send (fg [(0, _), (1, _), (3, _), (10, _)] ⟨rfl, rfl, rfl, rfl, ⟨⟩⟩ fun _ => (sreg (sM rfl (sM rfl (sN rfl (sv (xfld fl214_2 rfl) (sv (xld on22 rfl (hN.c 2 rfl rfl)) ?_))))))))
 refine sc (xcall ca148 rfl) (c148 r24 (by omega) (by first | omega | exact u16lt _) (by omega)) ?_
 rintro _ w7 ⟨p30, q30, g30, rfl, r30, m8, a30, l30⟩
 have z9 := m8.size
 have hC := hC.keep m8 (fun b hb => by have hb := hm b hb; show ¬ (b = g24); omega)
 have hN := hN.keep m8 (by omega) (by show ¬ (bo = g24); omega)
 have hf := hf.step m8 (fun k hk hS => by have hS : k = g24 := hS; show k = g ∨ k = gm; omega)
 refine sA rfl (send (fg [(0, _), (1, _), (3, _), (10, _)] ⟨rfl, rfl, rfl, rfl, ⟨⟩⟩ fun _ => (sreg (sM rfl (sN rfl (sv (xfld fl214_3 rfl) (sM rfl (sM rfl ?_))))))))
 refine sc (xcall ca149 rfl) (c149n (start := start) (pos := pos + 6) (s := bt r.host) r30 (by omega) (SR.sub hN 3 1 rfl) (by omega) (by omega) (by omega) (by omega) hsh) ?_
 rintro _ w10 ⟨_, rfl, p37, q37, g37, rfl, r37, m11, a37, l37⟩
 have z12 := m11.size
 have hC := hC.keep m11 (fun b hb => by have hb := hm b hb; show ¬ (b = g30); omega)
 have hf := hf.step m11 (fun k hk hS => by have hS : k = g30 := hS; show k = g ∨ k = gm; omega)
 have hpl37 := wire_bound hsh
 refine sM rfl (sv (xextr rfl rfl) (sv (xextr rfl rfl) (sA rfl (sA rfl (send (fg [(1, _), (10, _), (11, _)] ⟨rfl, rfl, rfl, ⟨⟩⟩ fun _ => (wp_seq (sreg (sM rfl (sv (xneN if89 rfl) (send (fg [(1, _), (10, _), (11, _), (41, _)] ⟨rfl, rfl, rfl, rfl, ⟨⟩⟩ fun _ => (cno rfl (wp_skip (nThen (fg [(1, _)] ⟨rfl, ⟨⟩⟩ fun _ => (sreg (sM rfl (sA rfl (sA rfl (send (fg [(8, _), (9, _)] ⟨rfl, rfl, ⟨⟩⟩ fun _ => (wp_ret ?_)))))))))))))))))))))))
 refine rp2 rfl rfl rfl ?_
 rw [pb_rest (by omega), bodyL_simp.2.2.2.1 hk]
 exact app_ofC r37 (by simp [be16_length]; omega) (by simp [bvs_app, n16]) hf (by omega) (by omega) hC
set_option maxHeartbeats 4000000 in
set_option maxRecDepth 100000 in
theorem c189 {w : World} {v : Value} {g gm n start pos : Nat} {bs : List UInt8} {cm : Option Nat} {C : Option Ent} (hR : BR w v g n bs) (hg : g < w.heap.size) {bo o : Nat} (_hbo : bo < w.heap.size) (_hbg : bo ≠ g) (_hbm : bo ≠ gm) {r : RecD} {vd : Value} (hk : r.kind = 13) (hN : SR w bo o [1, 1] [[.int .u16 ((typeN r).toNat : Int)], [vd]]) (hn0 : 0 < n) {U : Nat → Prop} (_hU : ∀ k, U k → k < w.heap.size ∧ k ≠ g ∧ k ≠ gm) (hd : BA U w vd r.data) (hdl : r.data.length ≤ 900000) (hC : Cmp w cm C) (hm : ∀ b, cm = some b → b = gm ∧ gm ≠ g ∧ gm < w.heap.size) (hp : n = start + pos) (hl : n < 999000000)  :
  Ret PP 189 [.pointer (some ⟨bo, o, none⟩), v, .map cm, .int .i64 (start : Int)] w (AppC w g gm cm n bs (packBody C pos r).1 (packBody C pos r).2) := by
 obtain ⟨a0, c0, rfl, -⟩ := hR.form
 obtain ⟨ad0, cd0, rfl, -⟩ := id hd
 have hf : Fr (fun k => k = g ∨ k = gm) w w := Fr.refl _ _
 refine ret_of Tryz.func189 rfl rfl rfl [(0, _), (1, _), (2, _), (3, _)] rfl ?_
 refine sreg (sA rfl (sA rfl (send (fg [(0, _), (1, _)] ⟨rfl, rfl, ⟨⟩⟩ fun _ => (sreg (sM rfl (sM rfl (sN rfl (sv (xfld fl231_1 rfl) (sv (xld on37 rfl (hN.c 1 rfl rfl)) (sv (xcutF sl37 sz5 rfl) ?_)))))))))))
 refine sc (xcall ca208 rfl) (c208 hR (by omega) hd (by omega) (by omega) (by omega)) ?_
 rintro _ w1 ⟨p16, q16, g16, rfl, r16, m2, a16, l16⟩
 have z3 := m2.size
 have hC := hC.keep m2 (fun b hb => by have hb := hm b hb; show ¬ (b = g); omega)
 have hf := hf.step m2 (fun k hk hS => by have hS : k = g := hS; show k = g ∨ k = gm; omega)
 refine sA rfl (sA rfl (send (fg [(8, _), (9, _)] ⟨rfl, rfl, ⟨⟩⟩ fun _ => (wp_ret ?_))))
 refine rp2 rfl rfl rfl ?_
 rw [pb_rest (by omega), bodyL_simp.2.2.2.2.2.2 hk]
 exact app_ofC r16 rfl (by rw [bvs_app]) hf (by omega) (by omega) hC
set_option maxHeartbeats 4000000 in
set_option maxRecDepth 100000 in
theorem c176 {w : World} {v : Value} {g gm n start pos : Nat} {bs : List UInt8} {cm : Option Nat} {C : Option Ent} (hR : BR w v g n bs) (hg : g < w.heap.size) {bo o : Nat} (_hbo : bo < w.heap.size) (_hbg : bo ≠ g) (_hbm : bo ≠ gm) {r : RecD} {vt : Value} (hk : r.kind = 7) (hN : SR w bo o [1] [[vt]]) (hn0 : 0 < n) {U : Nat → Prop} (hU : ∀ k, U k → k < w.heap.size ∧ k ≠ g ∧ k ≠ gm) (ht : LA TextEl [1] U w vt r.texts) (htl : ∀ s ∈ r.texts, s.size ≤ 255) (htn : r.texts.length ≤ 1048576) (hpl : (textsL r.texts).length ≤ 900000) (hC : Cmp w cm C) (hm : ∀ b, cm = some b → b = gm ∧ gm ≠ g ∧ gm < w.heap.size) (hp : n = start + pos) (hl : n < 999000000)  :
  Ret PP 176 [.pointer (some ⟨bo, o, none⟩), v, .map cm, .int .i64 (start : Int)] w (AppC w g gm cm n bs (packBody C pos r).1 (packBody C pos r).2) := by
 obtain ⟨a0, c0, rfl, -⟩ := hR.form
 obtain ⟨at0, ct0, rfl⟩ := ht.form
 have hf : Fr (fun k => k = g ∨ k = gm) w w := Fr.refl _ _
 refine ret_of Tryz.func176 rfl rfl rfl [(0, _), (1, _), (2, _), (3, _)] rfl ?_
 refine sreg (sA rfl (sA rfl (send (fg [(0, _), (1, _)] ⟨rfl, rfl, ⟨⟩⟩ fun _ => (sreg (sM rfl (sA rfl (send (fg [(0, _), (1, _), (10, _)] ⟨rfl, rfl, rfl, ⟨⟩⟩ fun _ => (wp_seq (sreg (sM rfl (sN rfl (sv (xfld fl207_0 rfl) (sv (xld on62 rfl (hN.c 0 rfl rfl)) (sv (xlen sl62 rfl) (sM rfl (send (fg [(1, _), (10, _), (18, _), (19, _), (20, _)] ⟨rfl, rfl, rfl, rfl, rfl, ⟨⟩⟩ fun _ => (wp_block ?_))))))))))))))))))))
 refine lp [(10, _), (18, _), (19, _)] (fun (x : Nat × Value × Nat) => match x with | (k, v, gk) => [(1, v), (20, .int .i64 (k : Int))]) (fun (x : Nat × Value × Nat) wx => match x with | (k, v, gk) => Fr (fun k => k = g) w wx ∧ (k ≤ r.texts.length) ∧ (BR wx v gk (n + (textsL (r.texts.take k)).length) (bs ++ textsL (r.texts.take k))) ∧ (gk = g ∨ w.heap.size ≤ gk) ∧ (gk < wx.heap.size)) (fun (x : Nat × Value × Nat) => match x with | (k, v, gk) => r.texts.length - k) (0, _, g) ⟨rfl, rfl, rfl, rfl, rfl, trivial⟩ ⟨Fr.refl _ _, Nat.zero_le _, by simpa [textsL] using hR, .inl rfl, by omega⟩ ?_
 rintro ⟨k, v, gk⟩ _ w2 ⟨hL1, hk2, hR, hgk, hgk2⟩
 refine fg [(1, _), (10, _), (18, _), (19, _), (20, _)] ⟨rfl, rfl, rfl, rfl, rfl, ⟨⟩⟩ fun _ => ?_
 have z3 := hL1.size
 have hC := hC.keep hL1 (fun b hb => by have hb := hm b hb; show ¬ (b = g); omega)
 have ht := ht.keep text_st (fun k hk => by have hk := hU k hk; omega) hL1 (fun k hk hS => by have hk := hU k hk; have hS : k = g := hS; omega)
 have hf := hf.step hL1 (fun k hk hS => by have hS : k = g := hS; show k = g ∨ k = gm; omega)
 obtain ⟨a1, c1, rfl, -⟩ := hR.form
 have htt := texts_take_le r.texts k
 refine sreg ?_
 refine svP (xlss rfl rfl) (fun hc21 => ?_) (fun hc21 => ?_)
 ·
  refine send (fg [(1, _), (10, _), (18, _), (19, _), (20, _), (21, _)] ⟨rfl, rfl, rfl, rfl, rfl, rfl, ⟨⟩⟩ fun _ => (wp_seq (cyes rfl (wp_skip (nThen (fg [(1, _), (10, _), (18, _), (19, _), (20, _)] ⟨rfl, rfl, rfl, rfl, rfl, ⟨⟩⟩ fun _ => (wp_seq (wp_block ?_))))))))
  obtain ⟨t, htk⟩ := some_of_lt (by omega : k < r.texts.length)
  have hts := htl _ (List.mem_of_getElem? htk)
  have htt := texts_take_le r.texts k
  refine sreg ?_
  obtain ⟨bE22, oE22, sgE22, rfl, uE22, hsE22, heE22⟩ := LA.get ht htk
  obtain rfl := heE22
  have zE22 := hU _ uE22
  refine sv (xidx sl62 sz9 rfl rfl rfl (by omega)) (sv (xld on9 rfl (hsE22.c 0 rfl rfl)) (sA rfl (send (fg [(1, _), (10, _), (12, _), (18, _), (19, _), (20, _)] ⟨rfl, rfl, rfl, rfl, rfl, rfl, ⟨⟩⟩ fun _ => (sreg (sA rfl (send (fg [(1, _), (10, _), (12, _), (18, _), (19, _), (20, _)] ⟨rfl, rfl, rfl, rfl, rfl, rfl, ⟨⟩⟩ fun _ => (sreg (sM rfl (sM rfl ?_)))))))))))
  refine sc (xcall ca209 rfl) (c209 hR (by omega) (by omega) (by omega)) ?_
  rintro _ w4 ⟨_, rfl, p27, q27, g27, rfl, r27, m5, a27, l27⟩
  have z6 := m5.size
  have hC := hC.keep m5 (fun b hb => by have hb := hm b hb; show ¬ (b = gk); omega)
  have hf := hf.step m5 (fun k hk hS => by have hS : k = gk := hS; show k = g ∨ k = gm; omega)
  have hL1 := hL1.step m5 (fun k hk hS => by have hS : k = gk := hS; show k = g; omega)
  refine sM rfl (sv (xextr rfl rfl) (sv (xextr rfl rfl) (sA rfl (sA rfl (send (fg [(1, _), (10, _), (13, _), (18, _), (19, _), (20, _)] ⟨rfl, rfl, rfl, rfl, rfl, rfl, ⟨⟩⟩ fun _ => (sreg (sM rfl (sv (xneN if89 rfl) (send (fg [(1, _), (10, _), (13, _), (18, _), (19, _), (20, _), (31, _)] ⟨rfl, rfl, rfl, rfl, rfl, rfl, rfl, ⟨⟩⟩ fun _ => (cno rfl (wp_skip (nBlock (nThen (fg [(1, _), (10, _), (18, _), (19, _), (20, _)] ⟨rfl, rfl, rfl, rfl, rfl, ⟨⟩⟩ fun _ => (lreg (sv (xadd rfl rfl (w64 (by omega) (by omega))) (sM rfl (lend (nThen ?_)))))))))))))))))))))
  refine ⟨(k + 1, _, g27), _, env_okl ⟨rfl, rfl, rfl, rfl, rfl, trivial⟩, ⟨hL1, (by omega), (by rw [texts_snoc htk]; exact br_cast r27 (by simp [textL]) (by simp [textL]; omega)), (by omega), (l27)⟩, ?_⟩
  show r.texts.length - (k + 1) < r.texts.length - k; omega
 ·
  refine send (fg [(1, _), (10, _), (18, _), (19, _), (20, _), (21, _)] ⟨rfl, rfl, rfl, rfl, rfl, rfl, ⟨⟩⟩ fun _ => (wp_seq (cno rfl (wp_exit (eThen (eThen (eHit (nThen (fg [(1, _)] ⟨rfl, ⟨⟩⟩ fun _ => (sreg (sM rfl (sA rfl (sA rfl (send (fg [(8, _), (9, _)] ⟨rfl, rfl, ⟨⟩⟩ fun _ => (wp_ret ?_))))))))))))))))
  refine rp2 rfl rfl rfl ?_
  have e : r.texts.take k = r.texts := List.take_of_length_le (by omega)
  rw [e] at hR ⊢
  rw [pb_rest (by omega), bodyL_simp.2.2.1 hk]
  exact app_ofC hR rfl rfl hf (by omega) (by omega) hC
set_option maxHeartbeats 4000000 in
set_option maxRecDepth 100000 in
theorem c182 {w : World} {v : Value} {g gm n start pos : Nat} {bs : List UInt8} {cm : Option Nat} {C : Option Ent} (hR : BR w v g n bs) (hg : g < w.heap.size) {bo o : Nat} (_hbo : bo < w.heap.size) (_hbg : bo ≠ g) (_hbm : bo ≠ gm) {r : RecD} {vp : Value} (hk : r.kind = 10) (hN : SR w bo o [1] [[vp]]) (hn0 : 0 < n) {U : Nat → Prop} (hU : ∀ k, U k → k < w.heap.size ∧ k ≠ g ∧ k ≠ gm) (hpr : LA PairEl lPair U w vp r.pairs) (hpd : ∀ p ∈ r.pairs, p.data.length ≤ 65535) (hpn : r.pairs.length ≤ 1048576) (hpl : (pairsL r.pairs).length ≤ 900000) (hC : Cmp w cm C) (hm : ∀ b, cm = some b → b = gm ∧ gm ≠ g ∧ gm < w.heap.size) (hp : n = start + pos) (hl : n < 999000000)  :
  Ret PP 182 [.pointer (some ⟨bo, o, none⟩), v, .map cm, .int .i64 (start : Int)] w (AppC w g gm cm n bs (packBody C pos r).1 (packBody C pos r).2) := by
 obtain ⟨a0, c0, rfl, -⟩ := hR.form
 obtain ⟨ap0, cp0, rfl⟩ := hpr.form
 have hf : Fr (fun k => k = g ∨ k = gm) w w := Fr.refl _ _
 refine ret_of Tryz.func182 rfl rfl rfl [(0, _), (1, _), (2, _), (3, _)] rfl ?_
 refine sreg (sA rfl (sA rfl (send (fg [(0, _), (1, _)] ⟨rfl, rfl, ⟨⟩⟩ fun _ => (wp_seq (sreg (sM rfl (sN rfl (sv (xfld fl218_0 rfl) (sv (xld on216 rfl (hN.c 0 rfl rfl)) (sv (xlen sl216 rfl) (sM rfl (send (fg [(1, _), (16, _), (17, _), (18, _)] ⟨rfl, rfl, rfl, rfl, ⟨⟩⟩ fun _ => (wp_block ?_)))))))))))))))
 refine lp [(16, _), (17, _)] (fun (x : Nat × Value × Nat) => match x with | (k, v, gk) => [(1, v), (18, .int .i64 (k : Int))]) (fun (x : Nat × Value × Nat) wx => match x with | (k, v, gk) => Fr (fun k => k = g) w wx ∧ (k ≤ r.pairs.length) ∧ (BR wx v gk (n + (pairsL (r.pairs.take k)).length) (bs ++ pairsL (r.pairs.take k))) ∧ (gk = g ∨ w.heap.size ≤ gk) ∧ (gk < wx.heap.size)) (fun (x : Nat × Value × Nat) => match x with | (k, v, gk) => r.pairs.length - k) (0, _, g) ⟨rfl, rfl, rfl, rfl, trivial⟩ ⟨Fr.refl _ _, Nat.zero_le _, by simpa [pairsL] using hR, .inl rfl, by omega⟩ ?_
 rintro ⟨k, v, gk⟩ _ w2 ⟨hL1, hk2, hR, hgk, hgk2⟩
 refine fg [(1, _), (16, _), (17, _), (18, _)] ⟨rfl, rfl, rfl, rfl, ⟨⟩⟩ fun _ => ?_
 have z3 := hL1.size
 have hC := hC.keep hL1 (fun b hb => by have hb := hm b hb; show ¬ (b = g); omega)
 have hpr := hpr.keep pair_st (fun k hk => by have hk := hU k hk; omega) hL1 (fun k hk hS => by have hk := hU k hk; have hS : k = g := hS; omega)
 have hf := hf.step hL1 (fun k hk hS => by have hS : k = g := hS; show k = g ∨ k = gm; omega)
 obtain ⟨a1, c1, rfl, -⟩ := hR.form
 have htt := pairs_take_le r.pairs k
 refine sreg ?_
 refine svP (xlss rfl rfl) (fun hc19 => ?_) (fun hc19 => ?_)
 ·
  refine send (fg [(1, _), (16, _), (17, _), (18, _), (19, _)] ⟨rfl, rfl, rfl, rfl, rfl, ⟨⟩⟩ fun _ => (wp_seq (cyes rfl (wp_skip (nThen (fg [(1, _), (16, _), (17, _), (18, _)] ⟨rfl, rfl, rfl, rfl, ⟨⟩⟩ fun _ => (wp_seq (wp_block ?_))))))))
  obtain ⟨p, hpk⟩ := some_of_lt (by omega : k < r.pairs.length)
  have hpz := hpd _ (List.mem_of_getElem? hpk)
  have htt := pairs_take_le r.pairs k
  refine sreg ?_
  obtain ⟨bE20, oE20, sgE20, rfl, uE20, hsE20, heE20⟩ := LA.get hpr hpk
  obtain ⟨vd, rfl, hd⟩ := heE20
  have zE20 := hU _ uE20
  obtain ⟨ad, cd, rfl, -⟩ := id hd
  refine sv (xidx sl216 sz220 rfl rfl rfl (by omega)) (sv (xldS (lens := [1, 1]) ro220 rfl hsE20) ?_)
  refine svK (xallS (lens := [1, 1]) in220 rfl) ?_
  rintro _ w5 ⟨b11, rfl, m6, h11, e4, s4⟩
  have hC := hC.keep m6 nF
  have hf := hf.step0 m6
  have hR := hR.keep m6 id
  have hL1 := hL1.step0 m6
  have hd := hd.keep (fun k hk => by have hk := hU k hk; omega) m6 nF
  refine suK (xstW h11 (lens' := [1, 1]) sz220 rfl rfl rfl rfl rfl) ?_
  rintro w8 ⟨m9, h11, s7⟩
  have hC := hC.keep m9 (fun b hb => by have hb := hm b hb; show ¬ (b = b11); omega)
  have hf := hf.step m9 (fun k hk hS => by have hS : k = b11 := hS; show k = g ∨ k = gm; omega)
  have hR := hR.keep m9 (by show ¬ (gk = b11); omega)
  have hL1 := hL1.step m9 (fun k hk hS => by have hS : k = b11 := hS; show k = g; omega)
  have hd := hd.keep (fun k hk => by have hk := hU k hk; omega) m9 (fun k hk hS => by have hk := hU k hk; have hS : k = b11 := hS; omega)
  refine send (fg [(1, _), (11, _), (16, _), (17, _), (18, _)] ⟨rfl, rfl, rfl, rfl, rfl, ⟨⟩⟩ fun _ => (sreg (sM rfl (sv (xfld fl220_0 rfl) (sv (xld on22 rfl (h11.r.c 0 rfl rfl)) ?_)))))
  refine sc (xcall ca148 rfl) (c148 hR (by omega) (by first | omega | exact u16lt _) (by omega)) ?_
  rintro _ w10 ⟨p25, q25, g25, rfl, r25, m11, a25, l25⟩
  have z12 := m11.size
  have hC := hC.keep m11 (fun b hb => by have hb := hm b hb; show ¬ (b = gk); omega)
  have hf := hf.step m11 (fun k hk hS => by have hS : k = gk := hS; show k = g ∨ k = gm; omega)
  have hL1 := hL1.step m11 (fun k hk hS => by have hS : k = gk := hS; show k = g; omega)
  have hd := hd.keep (fun k hk => by have hk := hU k hk; omega) m11 (fun k hk hS => by have hk := hU k hk; have hS : k = gk := hS; omega)
  have h11 := h11.keep m11 (by show ¬ (b11 = gk); omega)
  refine sA rfl (send (fg [(1, _), (11, _), (16, _), (17, _), (18, _)] ⟨rfl, rfl, rfl, rfl, rfl, ⟨⟩⟩ fun _ => (sreg (sv (xfld fl220_1 rfl) (sv (xld on37 rfl (h11.r.c 1 rfl rfl)) (sv (xlen sl37 rfl) (sv (xconv hs3 ki22 rfl (wu16n p.data.length (by omega))) (sA rfl (send (fg [(1, _), (11, _), (12, _), (16, _), (17, _), (18, _)] ⟨rfl, rfl, rfl, rfl, rfl, rfl, ⟨⟩⟩ fun _ => (sreg (sM rfl (sM rfl ?_)))))))))))))
  refine sc (xcall ca148 rfl) (c148 r25 (by omega) (by first | omega | exact u16lt _) (by omega)) ?_
  rintro _ w13 ⟨p32, q32, g32, rfl, r32, m14, a32, l32⟩
  have z15 := m14.size
  have hC := hC.keep m14 (fun b hb => by have hb := hm b hb; show ¬ (b = g25); omega)
  have hf := hf.step m14 (fun k hk hS => by have hS : k = g25 := hS; show k = g ∨ k = gm; omega)
  have hL1 := hL1.step m14 (fun k hk hS => by have hS : k = g25 := hS; show k = g; omega)
  have hd := hd.keep (fun k hk => by have hk := hU k hk; omega) m14 (fun k hk hS => by have hk := hU k hk; have hS : k = g25 := hS; omega)
  have h11 := h11.keep m14 (by show ¬ (b11 = g25); omega)
  refine sA rfl (send (fg [(1, _), (11, _), (16, _), (17, _), (18, _)] ⟨rfl, rfl, rfl, rfl, rfl, ⟨⟩⟩ fun _ => (lreg (sM rfl (sv (xfld fl220_1 rfl) (sv (xld on37 rfl (h11.r.c 1 rfl rfl)) ?_))))))
  refine sc (xcall ca208 rfl) (c208 r32 (by omega) hd (by omega) (by omega) (by omega)) ?_
  rintro _ w16 ⟨p36, q36, g36, rfl, r36, m17, a36, l36⟩
  have z18 := m17.size
  have hC := hC.keep m17 (fun b hb => by have hb := hm b hb; show ¬ (b = g32); omega)
  have hf := hf.step m17 (fun k hk hS => by have hS : k = g32 := hS; show k = g ∨ k = gm; omega)
  have hL1 := hL1.step m17 (fun k hk hS => by have hS : k = g32 := hS; show k = g; omega)
  refine sA rfl (lend (nBlock (nThen (fg [(1, _), (16, _), (17, _), (18, _)] ⟨rfl, rfl, rfl, rfl, ⟨⟩⟩ fun _ => (lreg (sv (xadd rfl rfl (w64 (by omega) (by omega))) (sM rfl (lend (nThen ?_)))))))))
  refine ⟨(k + 1, _, g36), _, env_okl ⟨rfl, rfl, rfl, rfl, trivial⟩, ⟨hL1, (by omega), (by rw [pairs_snoc hpk]; exact br_cast r36 (by simp [pairL, bvs_app]) (by simp [pairL, be16_length]; omega)), (by omega), (l36)⟩, ?_⟩
  show r.pairs.length - (k + 1) < r.pairs.length - k; omega
 ·
  refine send (fg [(1, _), (16, _), (17, _), (18, _), (19, _)] ⟨rfl, rfl, rfl, rfl, rfl, ⟨⟩⟩ fun _ => (wp_seq (cno rfl (wp_exit (eThen (eThen (eHit (nThen (fg [(1, _)] ⟨rfl, ⟨⟩⟩ fun _ => (sreg (sM rfl (sA rfl (sA rfl (send (fg [(8, _), (9, _)] ⟨rfl, rfl, ⟨⟩⟩ fun _ => (wp_ret ?_))))))))))))))))
  refine rp2 rfl rfl rfl ?_
  have e : r.pairs.take k = r.pairs := List.take_of_length_le (by omega)
  rw [e] at hR ⊢
  rw [pb_rest (by omega), bodyL_simp.2.2.2.2.1 hk]
  exact app_ofC hR rfl rfl hf (by omega) (by omega) hC
set_option maxHeartbeats 4000000 in
set_option maxRecDepth 100000 in
theorem c210 {w : World} {v : Value} {g gm n start pos : Nat} {bs : List UInt8} {cm : Option Nat} {C : Option Ent} (hR : BR w v g n bs) (hg : g < w.heap.size) {bo o : Nat} (hbo : bo < w.heap.size) (hbg : bo ≠ g) (hbm : bo ≠ gm) {r : RecD} {vp : Value} (hk : r.kind = 11 ∨ r.kind = 12) (hN : SR w bo o [1, 256, 1] [[.int .u16 ((r.n1.toNat % 65536 : Nat) : Int)], nm (bt r.host), [vp]]) (hn0 : 0 < n) (hsh : nameL (bt r.host)) {U : Nat → Prop} (hU : ∀ k, U k → k < w.heap.size ∧ k ≠ g ∧ k ≠ gm) (hpr : LA PairEl lPair U w vp r.pairs) (hasc : asc r.pairs) (hpd : ∀ p ∈ r.pairs, p.data.length ≤ 65535) (hpn : r.pairs.length ≤ 1048576) (hpl : (pairsL r.pairs).length ≤ 900000) (hC : Cmp w cm C) (hm : ∀ b, cm = some b → b = gm ∧ gm ≠ g ∧ gm < w.heap.size) (hp : n = start + pos) (hl : n < 999000000)  :
  Ret PP 210 [.pointer (some ⟨bo, o, none⟩), v, .map cm, .int .i64 (start : Int)] w (AppC w g gm cm n bs (packBody C pos r).1 (packBody C pos r).2) := by
 obtain ⟨a0, c0, rfl, -⟩ := hR.form
 obtain ⟨ap0, cp0, rfl⟩ := hpr.form
 have hf : Fr (fun k => k = g ∨ k = gm) w w := Fr.refl _ _
 refine ret_of Tryz.func210 rfl rfl rfl [(0, _), (1, _), (2, _), (3, _)] rfl ?_
 refine sreg (sA rfl (sA rfl (send (fg [(0, _), (1, _)] ⟨rfl, rfl, ⟨⟩⟩ fun _ => (sreg (sM rfl (sA rfl (send (fg [(0, _), (1, _), (10, _)] ⟨rfl, rfl, rfl, ⟨⟩⟩ fun _ => (sreg (sM rfl (sM rfl (sN rfl (sv (xfld fl224_0 rfl) (sv (xld on22 rfl (hN.c 0 rfl rfl)) ?_)))))))))))))))
 refine sc (xcall ca148 rfl) (c148 hR (by omega) (by first | omega | exact u16lt _) (by omega)) ?_
 rintro _ w1 ⟨p21, q21, g21, rfl, r21, m2, a21, l21⟩
 have z3 := m2.size
 have hC := hC.keep m2 (fun b hb => by have hb := hm b hb; show ¬ (b = g); omega)
 have hN := hN.keep m2 (by omega) (by show ¬ (bo = g); omega)
 have hpr := hpr.keep pair_st (fun k hk => by have hk := hU k hk; omega) m2 (fun k hk hS => by have hk := hU k hk; have hS : k = g := hS; omega)
 have hf := hf.step m2 (fun k hk hS => by have hS : k = g := hS; show k = g ∨ k = gm; omega)
 refine sA rfl (send (fg [(0, _), (1, _), (10, _)] ⟨rfl, rfl, rfl, ⟨⟩⟩ fun _ => (sreg (sM rfl (sN rfl (sv (xfld fl224_1 rfl) (sM rfl ?_)))))))
 refine sc (xcall ca149 rfl) (c149n (start := 0) (pos := n + 2) (s := bt r.host) r21 (by omega) (SR.sub hN 1 1 rfl) (by omega) (by omega) (by omega) (by omega) hsh) ?_
 rintro _ w4 ⟨_, rfl, p27, q27, g27, rfl, r27, m5, a27, l27⟩
 have z6 := m5.size
 have hC := hC.keep m5 (fun b hb => by have hb := hm b hb; show ¬ (b = g21); omega)
 have hN := hN.keep m5 (by omega) (by show ¬ (bo = g21); omega)
 have hpr := hpr.keep pair_st (fun k hk => by have hk := hU k hk; omega) m5 (fun k hk hS => by have hk := hU k hk; have hS : k = g21 := hS; omega)
 have hf := hf.step m5 (fun k hk hS => by have hS : k = g21 := hS; show k = g ∨ k = gm; omega)
 have hpl27 := wire_bound hsh
 refine sM rfl (sv (xextr rfl rfl) (sv (xextr rfl rfl) (sA rfl (sA rfl (send (fg [(0, _), (1, _), (10, _), (11, _)] ⟨rfl, rfl, rfl, rfl, ⟨⟩⟩ fun _ => (wp_seq (sreg (sM rfl (sv (xneN if89 rfl) (send (fg [(0, _), (1, _), (10, _), (11, _), (31, _)] ⟨rfl, rfl, rfl, rfl, rfl, ⟨⟩⟩ fun _ => (cno rfl (wp_skip (nThen (fg [(0, _), (1, _), (10, _)] ⟨rfl, rfl, rfl, ⟨⟩⟩ fun _ => (sreg (sA rfl (send (fg [(0, _), (1, _), (10, _), (12, _)] ⟨rfl, rfl, rfl, rfl, ⟨⟩⟩ fun _ => (wp_seq (sreg (sM rfl (sN rfl ?_))))))))))))))))))))))))
 refine sv (xfld fl224_2 rfl) (sv (xld on222 rfl (hN.c 2 rfl rfl)) (sv (xlen sl222 rfl) (sM rfl (send (fg [(1, _), (10, _), (12, _), (40, _), (41, _), (42, _)] ⟨rfl, rfl, rfl, rfl, rfl, rfl, ⟨⟩⟩ fun _ => (wp_block ?_))))))
 refine lp [(10, _), (12, _), (40, _), (41, _)] (fun (x : Nat × Value × Nat) => match x with | (k, v, gk) => [(1, v), (42, .int .i64 (k : Int))]) (fun (x : Nat × Value × Nat) wx => match x with | (k, v, gk) => Fr (fun k => k = g27) w4 wx ∧ (k ≤ r.pairs.length) ∧ (BR wx v gk (n + 2 + (wire (bt r.host)).length + (pairsL (r.pairs.take k)).length) (bs ++ be16 r.n1.toNat ++ wire (bt r.host) ++ pairsL (r.pairs.take k))) ∧ (gk = g27 ∨ w4.heap.size ≤ gk) ∧ (gk < wx.heap.size)) (fun (x : Nat × Value × Nat) => match x with | (k, v, gk) => r.pairs.length - k) (0, _, g27) ⟨rfl, rfl, rfl, rfl, rfl, rfl, trivial⟩ ⟨Fr.refl _ _, Nat.zero_le _, br_cast r27 (by simp [bvs_app, pairsL, n16]) (by simp [pairsL]), .inl rfl, by omega⟩ ?_
 rintro ⟨k, v, gk⟩ _ w8 ⟨hL7, hk2, hR, hgk, hgk2⟩
 refine fg [(1, _), (10, _), (12, _), (40, _), (41, _), (42, _)] ⟨rfl, rfl, rfl, rfl, rfl, rfl, ⟨⟩⟩ fun _ => ?_
 have z9 := hL7.size
 have hC := hC.keep hL7 (fun b hb => by have hb := hm b hb; show ¬ (b = g27); omega)
 have hpr := hpr.keep pair_st (fun k hk => by have hk := hU k hk; omega) hL7 (fun k hk hS => by have hk := hU k hk; have hS : k = g27 := hS; omega)
 have hf := hf.step hL7 (fun k hk hS => by have hS : k = g27 := hS; show k = g ∨ k = gm; omega)
 obtain ⟨a1, c1, rfl, -⟩ := hR.form
 have htt := pairs_take_le r.pairs k
 refine sreg ?_
 refine svP (xlss rfl rfl) (fun hc43 => ?_) (fun hc43 => ?_)
 ·
  refine send (fg [(1, _), (10, _), (12, _), (40, _), (41, _), (42, _), (43, _)] ⟨rfl, rfl, rfl, rfl, rfl, rfl, rfl, ⟨⟩⟩ fun _ => (wp_seq (cyes rfl (wp_skip (nThen (fg [(1, _), (10, _), (12, _), (40, _), (41, _), (42, _)] ⟨rfl, rfl, rfl, rfl, rfl, rfl, ⟨⟩⟩ fun _ => (wp_seq (wp_block ?_))))))))
  obtain ⟨p, hpk⟩ := some_of_lt (by omega : k < r.pairs.length)
  have hpz := hpd _ (List.mem_of_getElem? hpk)
  have htt := pairs_take_le r.pairs k
  have hky := asc_pos hasc hpk
  refine sreg (sM rfl ?_)
  obtain ⟨bE45, oE45, sgE45, rfl, uE45, hsE45, heE45⟩ := LA.get hpr hpk
  obtain ⟨vd, rfl, hd⟩ := heE45
  have zE45 := hU _ uE45
  obtain ⟨ad, cd, rfl, -⟩ := id hd
  refine sv (xidx sl222 sz291 rfl rfl rfl (by omega)) (sv (xldS (lens := [1, 1]) ro291 rfl hsE45) ?_)
  refine svK (xallS (lens := [1, 1]) in291 rfl) ?_
  rintro _ w11 ⟨b14, rfl, m12, h14, e10, s10⟩
  have hC := hC.keep m12 nF
  have hf := hf.step0 m12
  have hR := hR.keep m12 id
  have hL7 := hL7.step0 m12
  have hd := hd.keep (fun k hk => by have hk := hU k hk; omega) m12 nF
  refine sA rfl ?_
  refine suK (xstW h14 (lens' := [1, 1]) sz291 rfl rfl rfl rfl rfl) ?_
  rintro w14 ⟨m15, h14, s13⟩
  have hC := hC.keep m15 (fun b hb => by have hb := hm b hb; show ¬ (b = b14); omega)
  have hf := hf.step m15 (fun k hk hS => by have hS : k = b14 := hS; show k = g ∨ k = gm; omega)
  have hR := hR.keep m15 (by show ¬ (gk = b14); omega)
  have hL7 := hL7.step m15 (fun k hk hS => by have hS : k = b14 := hS; show k = g27; omega)
  have hd := hd.keep (fun k hk => by have hk := hU k hk; omega) m15 (fun k hk hS => by have hk := hU k hk; have hS : k = b14 := hS; omega)
  refine send (fg [(1, _), (10, _), (12, _), (13, _), (14, _), (40, _), (41, _), (42, _)] ⟨rfl, rfl, rfl, rfl, rfl, rfl, rfl, rfl, ⟨⟩⟩ fun _ => (wp_seq (sreg (sM rfl ?_))))
  refine svP (xgtr rfl rfl) (fun hc48 => ?_) (fun hc48 => ?_)
  ·
   refine sM rfl (gyes rfl rfl rfl (sv (xfld fl291_0 rfl) (gyes rfl rfl rfl (sv (xld on289 rfl (h14.r.c 0 rfl rfl)) (gyes rfl rfl rfl (sM rfl (gyes rfl rfl rfl (sv (exF (xleq rfl rfl) (by omega)) (sv (xpickT rfl rfl) (send (fg [(1, _), (10, _), (12, _), (14, _), (40, _), (41, _), (42, _), (54, _)] ⟨rfl, rfl, rfl, rfl, rfl, rfl, rfl, rfl, ⟨⟩⟩ fun _ => (cno rfl (wp_skip (nThen (fg [(1, _), (10, _), (12, _), (14, _), (40, _), (41, _), (42, _)] ⟨rfl, rfl, rfl, rfl, rfl, rfl, rfl, ⟨⟩⟩ fun _ => (wp_seq (sreg (sv (xfld fl291_1 rfl) (sv (xld on37 rfl (h14.r.c 1 rfl rfl)) (sv (xlen sl37 rfl) (sv (exF (xgtr rfl rfl) (by omega)) (send (fg [(1, _), (10, _), (12, _), (14, _), (40, _), (41, _), (42, _), (63, _)] ⟨rfl, rfl, rfl, rfl, rfl, rfl, rfl, rfl, ⟨⟩⟩ fun _ => (cno rfl ?_))))))))))))))))))))))))
   refine wp_skip (nThen (fg [(1, _), (10, _), (12, _), (14, _), (40, _), (41, _), (42, _)] ⟨rfl, rfl, rfl, rfl, rfl, rfl, rfl, ⟨⟩⟩ fun _ => (sreg (sM rfl (sv (xfld fl291_0 rfl) (sv (xld on289 rfl (h14.r.c 0 rfl rfl)) ?_))))))
   refine sc (xcall ca148 rfl) (c148 hR (by omega) (by first | omega | exact u16lt _) (by omega)) ?_
   rintro _ w16 ⟨p72, q72, g72, rfl, r72, m17, a72, l72⟩
   have z18 := m17.size
   have hC := hC.keep m17 (fun b hb => by have hb := hm b hb; show ¬ (b = gk); omega)
   have hf := hf.step m17 (fun k hk hS => by have hS : k = gk := hS; show k = g ∨ k = gm; omega)
   have hL7 := hL7.step m17 (fun k hk hS => by have hS : k = gk := hS; show k = g27; omega)
   have hd := hd.keep (fun k hk => by have hk := hU k hk; omega) m17 (fun k hk hS => by have hk := hU k hk; have hS : k = gk := hS; omega)
   have h14 := h14.keep m17 (by show ¬ (b14 = gk); omega)
   refine sA rfl (send (fg [(1, _), (10, _), (12, _), (14, _), (40, _), (41, _), (42, _)] ⟨rfl, rfl, rfl, rfl, rfl, rfl, rfl, ⟨⟩⟩ fun _ => (sreg (sM rfl (sv (xfld fl291_1 rfl) (sv (xld on37 rfl (h14.r.c 1 rfl rfl)) (sv (xlen sl37 rfl) (sv (xconv hs3 ki22 rfl (wu16n p.data.length (by omega))) ?_))))))))
   refine sc (xcall ca148 rfl) (c148 r72 (by omega) (by first | omega | exact u16lt _) (by omega)) ?_
   rintro _ w19 ⟨p78, q78, g78, rfl, r78, m20, a78, l78⟩
   have z21 := m20.size
   have hC := hC.keep m20 (fun b hb => by have hb := hm b hb; show ¬ (b = g72); omega)
   have hf := hf.step m20 (fun k hk hS => by have hS : k = g72 := hS; show k = g ∨ k = gm; omega)
   have hL7 := hL7.step m20 (fun k hk hS => by have hS : k = g72 := hS; show k = g27; omega)
   have hd := hd.keep (fun k hk => by have hk := hU k hk; omega) m20 (fun k hk hS => by have hk := hU k hk; have hS : k = g72 := hS; omega)
   have h14 := h14.keep m20 (by show ¬ (b14 = g72); omega)
   refine sA rfl (send (fg [(1, _), (10, _), (12, _), (14, _), (40, _), (41, _), (42, _)] ⟨rfl, rfl, rfl, rfl, rfl, rfl, rfl, ⟨⟩⟩ fun _ => (lreg (sM rfl (sv (xfld fl291_1 rfl) (sv (xld on37 rfl (h14.r.c 1 rfl rfl)) ?_))))))
   refine svK (xapp sl37 in5 rfl (by decide) rfl rfl r78 (hd.src sl37) (by simp only [maxLen]; omega) (by omega)) ?_
   rintro _ w22 ⟨g82, r82, m23, a82, l82⟩
   have z24 := m23.size
   have hC := hC.keep m23 (fun b hb => by have hb := hm b hb; show ¬ (b = g78); omega)
   have hf := hf.step m23 (fun k hk hS => by have hS : k = g78 := hS; show k = g ∨ k = gm; omega)
   have hL7 := hL7.step m23 (fun k hk hS => by have hS : k = g78 := hS; show k = g27; omega)
   have hd := hd.keep (fun k hk => by have hk := hU k hk; omega) m23 (fun k hk hS => by have hk := hU k hk; have hS : k = g78 := hS; omega)
   have h14 := h14.keep m23 (by show ¬ (b14 = g78); omega)
   obtain ⟨p82, q82, rfl, -⟩ := r82.form
   refine sA rfl (lend (nBlock (nThen (fg [(1, _), (10, _), (12, _), (40, _), (41, _), (42, _)] ⟨rfl, rfl, rfl, rfl, rfl, rfl, ⟨⟩⟩ fun _ => (lreg (sv (xadd rfl rfl (w64 (by omega) (by omega))) (sM rfl (lend (nThen ?_)))))))))
   refine ⟨(k + 1, _, g82), _, env_okl ⟨rfl, rfl, rfl, rfl, rfl, rfl, trivial⟩, ⟨hL7, (by omega), (by rw [pairs_snoc hpk]; exact br_cast r82 (by simp [pairL, bvs_app]) (by simp [pairL, be16_length]; omega)), (by omega), (l82 (by omega))⟩, ?_⟩
   show r.pairs.length - (k + 1) < r.pairs.length - k; omega
  ·
   refine sM rfl (gno rfl rfl rfl (gno rfl rfl rfl (gno rfl rfl rfl (gno rfl rfl rfl (sv (xpickF rfl rfl) (send (fg [(1, _), (10, _), (12, _), (14, _), (40, _), (41, _), (42, _), (54, _)] ⟨rfl, rfl, rfl, rfl, rfl, rfl, rfl, rfl, ⟨⟩⟩ fun _ => (cno rfl (wp_skip (nThen (fg [(1, _), (10, _), (12, _), (14, _), (40, _), (41, _), (42, _)] ⟨rfl, rfl, rfl, rfl, rfl, rfl, rfl, ⟨⟩⟩ fun _ => (wp_seq (sreg (sv (xfld fl291_1 rfl) (sv (xld on37 rfl (h14.r.c 1 rfl rfl)) (sv (xlen sl37 rfl) (sv (exF (xgtr rfl rfl) (by omega)) (send (fg [(1, _), (10, _), (12, _), (14, _), (40, _), (41, _), (42, _), (63, _)] ⟨rfl, rfl, rfl, rfl, rfl, rfl, rfl, rfl, ⟨⟩⟩ fun _ => (cno rfl (wp_skip (nThen (fg [(1, _), (10, _), (12, _), (14, _), (40, _), (41, _), (42, _)] ⟨rfl, rfl, rfl, rfl, rfl, rfl, rfl, ⟨⟩⟩ fun _ => (sreg ?_))))))))))))))))))))))))
   refine sM rfl (sv (xfld fl291_0 rfl) (sv (xld on289 rfl (h14.r.c 0 rfl rfl)) ?_))
   refine sc (xcall ca148 rfl) (c148 hR (by omega) (by first | omega | exact u16lt _) (by omega)) ?_
   rintro _ w25 ⟨p72, q72, g72, rfl, r72, m26, a72, l72⟩
   have z27 := m26.size
   have hC := hC.keep m26 (fun b hb => by have hb := hm b hb; show ¬ (b = gk); omega)
   have hf := hf.step m26 (fun k hk hS => by have hS : k = gk := hS; show k = g ∨ k = gm; omega)
   have hL7 := hL7.step m26 (fun k hk hS => by have hS : k = gk := hS; show k = g27; omega)
   have hd := hd.keep (fun k hk => by have hk := hU k hk; omega) m26 (fun k hk hS => by have hk := hU k hk; have hS : k = gk := hS; omega)
   have h14 := h14.keep m26 (by show ¬ (b14 = gk); omega)
   refine sA rfl (send (fg [(1, _), (10, _), (12, _), (14, _), (40, _), (41, _), (42, _)] ⟨rfl, rfl, rfl, rfl, rfl, rfl, rfl, ⟨⟩⟩ fun _ => (sreg (sM rfl (sv (xfld fl291_1 rfl) (sv (xld on37 rfl (h14.r.c 1 rfl rfl)) (sv (xlen sl37 rfl) (sv (xconv hs3 ki22 rfl (wu16n p.data.length (by omega))) ?_))))))))
   refine sc (xcall ca148 rfl) (c148 r72 (by omega) (by first | omega | exact u16lt _) (by omega)) ?_
   rintro _ w28 ⟨p78, q78, g78, rfl, r78, m29, a78, l78⟩
   have z30 := m29.size
   have hC := hC.keep m29 (fun b hb => by have hb := hm b hb; show ¬ (b = g72); omega)
   have hf := hf.step m29 (fun k hk hS => by have hS : k = g72 := hS; show k = g ∨ k = gm; omega)
   have hL7 := hL7.step m29 (fun k hk hS => by have hS : k = g72 := hS; show k = g27; omega)
   have hd := hd.keep (fun k hk => by have hk := hU k hk; omega) m29 (fun k hk hS => by have hk := hU k hk; have hS : k = g72 := hS; omega)
   have h14 := h14.keep m29 (by show ¬ (b14 = g72); omega)
   refine sA rfl (send (fg [(1, _), (10, _), (12, _), (14, _), (40, _), (41, _), (42, _)] ⟨rfl, rfl, rfl, rfl, rfl, rfl, rfl, ⟨⟩⟩ fun _ => (lreg (sM rfl (sv (xfld fl291_1 rfl) (sv (xld on37 rfl (h14.r.c 1 rfl rfl)) ?_))))))
   refine svK (xapp sl37 in5 rfl (by decide) rfl rfl r78 (hd.src sl37) (by simp only [maxLen]; omega) (by omega)) ?_
   rintro _ w31 ⟨g82, r82, m32, a82, l82⟩
   have z33 := m32.size
   have hC := hC.keep m32 (fun b hb => by have hb := hm b hb; show ¬ (b = g78); omega)
   have hf := hf.step m32 (fun k hk hS => by have hS : k = g78 := hS; show k = g ∨ k = gm; omega)
   have hL7 := hL7.step m32 (fun k hk hS => by have hS : k = g78 := hS; show k = g27; omega)
   obtain ⟨p82, q82, rfl, -⟩ := r82.form
   refine sA rfl (lend (nBlock (nThen (fg [(1, _), (10, _), (12, _), (40, _), (41, _), (42, _)] ⟨rfl, rfl, rfl, rfl, rfl, rfl, ⟨⟩⟩ fun _ => (lreg (sv (xadd rfl rfl (w64 (by omega) (by omega))) (sM rfl (lend (nThen ?_)))))))))
   refine ⟨(k + 1, _, g82), _, env_okl ⟨rfl, rfl, rfl, rfl, rfl, rfl, trivial⟩, ⟨hL7, (by omega), (by rw [pairs_snoc hpk]; exact br_cast r82 (by simp [pairL, bvs_app]) (by simp [pairL, be16_length]; omega)), (by omega), (l82 (by omega))⟩, ?_⟩
   show r.pairs.length - (k + 1) < r.pairs.length - k; omega
 ·
  refine send (fg [(1, _), (10, _), (12, _), (40, _), (41, _), (42, _), (43, _)] ⟨rfl, rfl, rfl, rfl, rfl, rfl, rfl, ⟨⟩⟩ fun _ => (wp_seq (cno rfl (wp_exit (eThen (eThen (eHit (nThen (fg [(1, _)] ⟨rfl, ⟨⟩⟩ fun _ => (sreg (sM rfl (sA rfl (sA rfl (send (fg [(8, _), (9, _)] ⟨rfl, rfl, ⟨⟩⟩ fun _ => (wp_ret ?_))))))))))))))))
  refine rp2 rfl rfl rfl ?_
  have e : r.pairs.take k = r.pairs := List.take_of_length_le (by omega)
  rw [e] at hR ⊢
  rw [pb_rest (by omega), bodyL_simp.2.2.2.2.2.1 hk]
  exact app_ofC hR (by simp [be16_length]; omega) (by simp) hf (by omega) (by omega) hC
end Go.Proofs.YtifnodoffgfpbaaGreatDoor

namespace Go.Proofs.YtifnodoffgfpbaaGreatDoor
open Go
set_option maxRecDepth 100000
set_option maxHeartbeats 4000000 in
set_option maxRecDepth 100000 in
theorem c163 {w : World} {v : Value} :
  Ret PP 163 [v] w (fun u w' => u = .int .u16 1 ∧ Fr0 w w') := by
 have hf : Fr (fun _ => False) w w := Fr.refl _ _
 refine ret_of Tryz.func163 rfl rfl rfl [(0, _)] rfl ?_
 refine sreg (sA rfl (send (fg [] trivial fun _ => (sreg (sA rfl (send (fg [(2, _)] ⟨rfl, ⟨⟩⟩ fun _ => (wp_ret ?_))))))))
 refine rp1 rfl rfl ?_
 exact ⟨rfl, hf⟩
set_option maxHeartbeats 4000000 in
set_option maxRecDepth 100000 in
theorem c165 {w : World} {v : Value} :
  Ret PP 165 [v] w (fun u w' => u = .int .u16 2 ∧ Fr0 w w') := by
 have hf : Fr (fun _ => False) w w := Fr.refl _ _
 refine ret_of Tryz.func165 rfl rfl rfl [(0, _)] rfl ?_
 refine sreg (sA rfl (send (fg [] trivial fun _ => (sreg (sA rfl (send (fg [(2, _)] ⟨rfl, ⟨⟩⟩ fun _ => (wp_ret ?_))))))))
 refine rp1 rfl rfl ?_
 exact ⟨rfl, hf⟩
set_option maxHeartbeats 4000000 in
set_option maxRecDepth 100000 in
theorem c167 {w : World} {v : Value} :
  Ret PP 167 [v] w (fun u w' => u = .int .u16 5 ∧ Fr0 w w') := by
 have hf : Fr (fun _ => False) w w := Fr.refl _ _
 refine ret_of Tryz.func167 rfl rfl rfl [(0, _)] rfl ?_
 refine sreg (sA rfl (send (fg [] trivial fun _ => (sreg (sA rfl (send (fg [(2, _)] ⟨rfl, ⟨⟩⟩ fun _ => (wp_ret ?_))))))))
 refine rp1 rfl rfl ?_
 exact ⟨rfl, hf⟩
set_option maxHeartbeats 4000000 in
set_option maxRecDepth 100000 in
theorem c169 {w : World} {v : Value} :
  Ret PP 169 [v] w (fun u w' => u = .int .u16 6 ∧ Fr0 w w') := by
 have hf : Fr (fun _ => False) w w := Fr.refl _ _
 refine ret_of Tryz.func169 rfl rfl rfl [(0, _)] rfl ?_
 refine sreg (sA rfl (send (fg [] trivial fun _ => (sreg (sA rfl (send (fg [(2, _)] ⟨rfl, ⟨⟩⟩ fun _ => (wp_ret ?_))))))))
 refine rp1 rfl rfl ?_
 exact ⟨rfl, hf⟩
set_option maxHeartbeats 4000000 in
set_option maxRecDepth 100000 in
theorem c171 {w : World} {v : Value} :
  Ret PP 171 [v] w (fun u w' => u = .int .u16 12 ∧ Fr0 w w') := by
 have hf : Fr (fun _ => False) w w := Fr.refl _ _
 refine ret_of Tryz.func171 rfl rfl rfl [(0, _)] rfl ?_
 refine sreg (sA rfl (send (fg [] trivial fun _ => (sreg (sA rfl (send (fg [(2, _)] ⟨rfl, ⟨⟩⟩ fun _ => (wp_ret ?_))))))))
 refine rp1 rfl rfl ?_
 exact ⟨rfl, hf⟩
set_option maxHeartbeats 4000000 in
set_option maxRecDepth 100000 in
theorem c173 {w : World} {v : Value} :
  Ret PP 173 [v] w (fun u w' => u = .int .u16 15 ∧ Fr0 w w') := by
 have hf : Fr (fun _ => False) w w := Fr.refl _ _
 refine ret_of Tryz.func173 rfl rfl rfl [(0, _)] rfl ?_
 refine sreg (sA rfl (send (fg [] trivial fun _ => (sreg (sA rfl (send (fg [(2, _)] ⟨rfl, ⟨⟩⟩ fun _ => (wp_ret ?_))))))))
 refine rp1 rfl rfl ?_
 exact ⟨rfl, hf⟩
set_option maxHeartbeats 4000000 in
set_option maxRecDepth 100000 in
theorem c175 {w : World} {v : Value} :
  Ret PP 175 [v] w (fun u w' => u = .int .u16 16 ∧ Fr0 w w') := by
 have hf : Fr (fun _ => False) w w := Fr.refl _ _
 refine ret_of Tryz.func175 rfl rfl rfl [(0, _)] rfl ?_
 refine sreg (sA rfl (send (fg [] trivial fun _ => (sreg (sA rfl (send (fg [(2, _)] ⟨rfl, ⟨⟩⟩ fun _ => (wp_ret ?_))))))))
 refine rp1 rfl rfl ?_
 exact ⟨rfl, hf⟩
set_option maxHeartbeats 4000000 in
set_option maxRecDepth 100000 in
theorem c177 {w : World} {v : Value} :
  Ret PP 177 [v] w (fun u w' => u = .int .u16 28 ∧ Fr0 w w') := by
 have hf : Fr (fun _ => False) w w := Fr.refl _ _
 refine ret_of Tryz.func177 rfl rfl rfl [(0, _)] rfl ?_
 refine sreg (sA rfl (send (fg [] trivial fun _ => (sreg (sA rfl (send (fg [(2, _)] ⟨rfl, ⟨⟩⟩ fun _ => (wp_ret ?_))))))))
 refine rp1 rfl rfl ?_
 exact ⟨rfl, hf⟩
set_option maxHeartbeats 4000000 in
set_option maxRecDepth 100000 in
theorem c179 {w : World} {v : Value} :
  Ret PP 179 [v] w (fun u w' => u = .int .u16 33 ∧ Fr0 w w') := by
 have hf : Fr (fun _ => False) w w := Fr.refl _ _
 refine ret_of Tryz.func179 rfl rfl rfl [(0, _)] rfl ?_
 refine sreg (sA rfl (send (fg [] trivial fun _ => (sreg (sA rfl (send (fg [(2, _)] ⟨rfl, ⟨⟩⟩ fun _ => (wp_ret ?_))))))))
 refine rp1 rfl rfl ?_
 exact ⟨rfl, hf⟩
set_option maxHeartbeats 4000000 in
set_option maxRecDepth 100000 in
theorem c181 {w : World} {v : Value} :
  Ret PP 181 [v] w (fun u w' => u = .int .u16 41 ∧ Fr0 w w') := by
 have hf : Fr (fun _ => False) w w := Fr.refl _ _
 refine ret_of Tryz.func181 rfl rfl rfl [(0, _)] rfl ?_
 refine sreg (sA rfl (send (fg [] trivial fun _ => (sreg (sA rfl (send (fg [(2, _)] ⟨rfl, ⟨⟩⟩ fun _ => (wp_ret ?_))))))))
 refine rp1 rfl rfl ?_
 exact ⟨rfl, hf⟩
set_option maxHeartbeats 4000000 in
set_option maxRecDepth 100000 in
theorem c184 {w : World} {v : Value} :
  Ret PP 184 [v] w (fun u w' => u = .int .u16 64 ∧ Fr0 w w') := by
 have hf : Fr (fun _ => False) w w := Fr.refl _ _
 refine ret_of Tryz.func184 rfl rfl rfl [(0, _)] rfl ?_
 refine sreg (sA rfl (send (fg [] trivial fun _ => (sreg (sA rfl (send (fg [(2, _)] ⟨rfl, ⟨⟩⟩ fun _ => (wp_ret ?_))))))))
 refine rp1 rfl rfl ?_
 exact ⟨rfl, hf⟩
set_option maxHeartbeats 4000000 in
set_option maxRecDepth 100000 in
theorem c187 {w : World} {v : Value} :
  Ret PP 187 [v] w (fun u w' => u = .int .u16 65 ∧ Fr0 w w') := by
 have hf : Fr (fun _ => False) w w := Fr.refl _ _
 refine ret_of Tryz.func187 rfl rfl rfl [(0, _)] rfl ?_
 refine sreg (sA rfl (send (fg [] trivial fun _ => (sreg (sA rfl (send (fg [(2, _)] ⟨rfl, ⟨⟩⟩ fun _ => (wp_ret ?_))))))))
 refine rp1 rfl rfl ?_
 exact ⟨rfl, hf⟩
set_option maxHeartbeats 4000000 in
set_option maxRecDepth 100000 in
theorem c188 {w : World} {bo o : Nat} {x : UInt16} {vd : Value} (hN : SR w bo o [1, 1] [[.int .u16 (x.toNat : Int)], [vd]]) :
  Ret PP 188 [.pointer (some ⟨bo, o, none⟩)] w (fun u w' => u = .int .u16 (x.toNat : Int) ∧ Fr0 w w') := by
 have hf : Fr (fun _ => False) w w := Fr.refl _ _
 refine ret_of Tryz.func188 rfl rfl rfl [(0, _)] rfl ?_
 refine sreg (sA rfl (send (fg [(0, _)] ⟨rfl, ⟨⟩⟩ fun _ => (sreg (sM rfl (sN rfl (sv (xfld fl231_0 rfl) (sv (xld on83 rfl (hN.c 0 rfl rfl)) (sA rfl (send (fg [(2, _)] ⟨rfl, ⟨⟩⟩ fun _ => (wp_ret ?_))))))))))))
 refine rp1 rfl rfl ?_
 exact ⟨rfl, hf⟩

theorem typeN_of {r : RecD} : (r.kind = 1 → typeN r = 1) ∧ (r.kind = 2 → typeN r = 2) ∧ (r.kind = 3 → typeN r = 5) ∧ (r.kind = 4 → typeN r = 6) ∧ (r.kind = 5 → typeN r = 12) ∧ (r.kind = 6 → typeN r = 15) ∧ (r.kind = 7 → typeN r = 16) ∧ (r.kind = 8 → typeN r = 28) ∧ (r.kind = 9 → typeN r = 33) ∧ (r.kind = 10 → typeN r = 41) ∧ (r.kind = 11 → typeN r = 64) ∧ (r.kind = 12 → typeN r = 65) := by
  refine ⟨fun h => ?_, fun h => ?_, fun h => ?_, fun h => ?_, fun h => ?_, fun h => ?_, fun h => ?_, fun h => ?_, fun h => ?_, fun h => ?_, fun h => ?_, fun h => ?_⟩ <;> simp [typeN, h]
/-- what a body must be so that it can be packed -/
def FitP (r : RecD) : Prop := r.data.length ≤ 900000 ∧ (r.kind = 7 → ∀ s ∈ r.texts, s.size ≤ 255) ∧ r.texts.length ≤ 1048576 ∧ (textsL r.texts).length ≤ 900000 ∧ (∀ p ∈ r.pairs, p.data.length ≤ 65535) ∧ r.pairs.length ≤ 1048576 ∧ (pairsL r.pairs).length ≤ 900000 ∧ (r.kind = 11 ∨ r.kind = 12 → asc r.pairs)
end Go.Proofs.YtifnodoffgfpbaaGreatDoor

namespace Go.Proofs.YtifnodoffgfpbaaGreatDoor
open Go

theorem ag_flat (segs : List (List Value)) : ([ag segs].map (·.cells.toList)).flatten = segs.flatten := by simp [Value.cells]
theorem packBody_len {C : Option Ent} {pos : Nat} {r : RecD} (h : NamesOk r) (hl : (bodyL r).length < 65536) : (packBody C pos r).1.length < 65536 := by
  cases C with
  | none => rw [packBody_non h]; exact hl
  | some M => have := (packBody_short h M pos).1; omega

end Go.Proofs.YtifnodoffgfpbaaGreatDoor

namespace Go.Proofs.YtifnodoffgfpbaaGreatDoor
open Go

theorem packAll_bound {α : Type} {f : Option Ent → Nat → α → List UInt8 × Option Ent} {B : Nat} : ∀ (xs : List α) (C : Option Ent) (pos : Nat), (∀ x ∈ xs, ∀ C pos, (f C pos x).1.length ≤ B) → (packAll f C pos xs).1.length ≤ xs.length * B
  | [], C, pos, _ => by simp [packAll]
  | x :: xs, C, pos, h => by
    simp only [packAll, List.length_append, List.length_cons, Nat.add_mul, Nat.one_mul]
    have h1 := h x (by simp) C pos
    have h2 := packAll_bound xs (f C pos x).2 (pos + (f C pos x).1.length) (fun y hy => h y (by simp [hy]))
    omega
theorem packAsk_bound {a : AskD} (h : nameL (bt a.name)) (C : Option Ent) (pos : Nat) : (packAsk C pos a).1.length ≤ 600 := by
  have := packName_bound (C := C) (pos := pos) h
  simp only [packAsk, List.length_append, be16_length]; omega
theorem packRec_bound {r : RecD} (h : NamesOk r) (hl : (bodyL r).length < 65536) (C : Option Ent) (pos : Nat) : (packRec C pos r).1.length ≤ 67000 := by
  have h1 := packName_bound (C := C) (pos := pos) h.1
  have h2 := packBody_len (C := (packName C pos (bt r.name)).2) (pos := pos + (packName C pos (bt r.name)).1.length + 10) h hl
  simp only [packRec, packTail, List.length_append, be16_length, be32_length]; omega
/-- records that can be packed -/
def GoodP (r : RecD) : Prop := NamesOk r ∧ FitP r ∧ (bodyL r).length < 65536
theorem packRecs_bound {rs : List RecD} (h : ∀ r ∈ rs, GoodP r) (hn : rs.length ≤ 40) (C : Option Ent) (pos : Nat) : (packAll packRec C pos rs).1.length ≤ 2680000 := by
  have := packAll_bound (f := packRec) (B := 67000) rs C pos (fun r hr => packRec_bound (h r hr).1 (h r hr).2.2)
  omega
theorem packAsks_bound {xs : List AskD} (h : ∀ a ∈ xs, nameL (bt a.name)) (hn : xs.length ≤ 40) (C : Option Ent) (pos : Nat) : (packAll packAsk C pos xs).1.length ≤ 24000 := by
  have := packAll_bound (f := packAsk) (B := 600) xs C pos (fun a ha => packAsk_bound (h a ha))
  omega
theorem take_all_mem {α : Type} {p : α → Prop} {l : List α} (h : ∀ x ∈ l, p x) (k : Nat) : ∀ x ∈ l.take k, p x := fun x hx => h x (List.mem_of_mem_take hx)
theorem take_le40 {α : Type} {l : List α} (h : l.length ≤ 40) (k : Nat) : (l.take k).length ≤ 40 := by rw [List.length_take]; omega
theorem packAll_take {α : Type} {f : Option Ent → Nat → α → List UInt8 × Option Ent} {l : List α} {k : Nat} {x : α} (hx : l[k]? = some x) (C : Option Ent) (pos : Nat) :
    packAll f C pos (l.take (k + 1)) = ((packAll f C pos (l.take k)).1 ++ (f (packAll f C pos (l.take k)).2 (pos + (packAll f C pos (l.take k)).1.length) x).1, (f (packAll f C pos (l.take k)).2 (pos + (packAll f C pos (l.take k)).1.length) x).2) := by
  rw [take_snoc hx, packAll_snoc]
theorem headL_hdrL (m : MsgD) : headL m.head (countsM m) = hdrL m.head.id.toNat (hbits m.head).toNat m.asks.length m.one.length m.two.length m.three.length := by
  simp [headL, countsM, hdrL]
end Go.Proofs.YtifnodoffgfpbaaGreatDoor

namespace Go.Proofs.YtifnodoffgfpbaaGreatDoor
open Go

def NewY (w : World) (out : List UInt8) (u : Value) (w' : World) : Prop :=
  ∃ a c g', u = .tuple #[.slice a out.length c, .bool true] ∧ BR w' (.slice a out.length c) g' out.length out ∧ Fr0 w w' ∧ w.heap.size ≤ g' ∧ g' < w'.heap.size
def PackOk (r : RecD) : Prop := (r.name.size ≤ 255 ∧ 1 ≤ r.kind ∧ r.kind ≤ 13 ∧ FitB r) ∧ GoodP r

end Go.Proofs.YtifnodoffgfpbaaGreatDoor

namespace Go.Proofs.YtifnodoffgfpbaaGreatDoor
open Go

theorem MsgD.fits.lists {m : MsgD} (h : m.fits) : (∀ l ∈ [m.one, m.two, m.three], l.length ≤ 1048576) ∧ (∀ l ∈ [m.one, m.two, m.three], ∀ r ∈ l, r.fits) := by
  obtain ⟨h1, h2, h3, h4, h5, h6, h7, h8⟩ := h
  constructor
  · intro l hl
    simp only [List.mem_cons, List.not_mem_nil, or_false] at hl
    rcases hl with rfl | rfl | rfl <;> assumption
  · intro l hl
    simp only [List.mem_cons, List.not_mem_nil, or_false] at hl
    rcases hl with rfl | rfl | rfl <;> assumption
theorem nameOk_le {s : ByteArray} (h : nameOk s = true) : s.size ≤ 254 ∧ nameL (bt s) := ⟨nameOk_size h, nameL_of h⟩
theorem mem_sum_le {α : Type} {f : α → Nat} {l : List α} {a : α} (h : a ∈ l) : f a ≤ (l.map f).sum := by
  induction l with
  | nil => cases h
  | cons x xs ih =>
    simp only [List.map_cons, List.sum_cons]
    rcases List.mem_cons.1 h with rfl | h
    · omega
    · have := ih h; omega
theorem few_body {r : RecD} (hs : smallR r) (hg : goodR r) : PackOk r := by
  obtain ⟨k1, k13, hz⟩ := hs
  obtain ⟨hn, h7, h11, hh, hb⟩ := hg
  simp only [sizeR] at hz
  have hz2 := sum_add4 r.pairs
  have hnl := nameOk_le hn
  have hhost : r.kind = 2 ∨ r.kind = 3 ∨ r.kind = 5 ∨ r.kind = 6 ∨ r.kind = 9 ∨ r.kind = 11 ∨ r.kind = 12 ∨ r.kind = 4 → r.host.size ≤ 254 ∧ nameL (bt r.host) := fun h => nameOk_le (hh h)
  have hbox : r.kind = 4 → r.box.size ≤ 254 ∧ nameL (bt r.box) := fun h => nameOk_le (hb h)
  have hp : ∀ p ∈ r.pairs, p.data.length ≤ 2000 := fun p hp => by
    have := mem_sum_le (f := fun p : PairD => p.data.length + 4) hp
    omega
  have hpl := pairsL_length r.pairs
  have htl := textsL_length r.texts
  refine ⟨⟨by omega, k1, k13, fun h => by have := hhost h; omega, fun h => by have := hbox h; omega, by omega, by omega, by omega, fun p h => by have := hp p h; omega⟩, ⟨hnl.2, fun h => (hhost h).2, fun h => (hbox h).2⟩,
    ⟨by omega, fun h => (h7 h).2, by omega, by omega, fun p h => by have := hp p h; omega, by omega, by omega, h11⟩, ?_⟩
  have hw1 := wire_le (bt r.host)
  have hw2 := wire_le (bt r.box)
  rw [bt_length] at hw1 hw2
  have hk : r.kind = 1 ∨ r.kind = 2 ∨ r.kind = 3 ∨ r.kind = 4 ∨ r.kind = 5 ∨ r.kind = 6 ∨ r.kind = 7 ∨ r.kind = 8 ∨ r.kind = 9 ∨ r.kind = 10 ∨ r.kind = 11 ∨ r.kind = 12 ∨ r.kind = 13 := by omega
  rcases hk with h | h | h | h | h | h | h | h | h | h | h | h | h <;> simp [bodyL, h, fixedL_length, be16_length, be32_length]
  · have := hhost (by omega); omega
  · have := hhost (by omega); omega
  · have := hhost (by omega); have := hbox h; omega
  · have := hhost (by omega); omega
  · have := hhost (by omega); omega
  · omega
  · have := hhost (by omega); omega
  · omega
  · have := hhost (by omega); omega
  · have := hhost (by omega); omega
  · omega
/-- what Few tells of a message, for the packing of it -/
theorem few_pack {m : MsgD} (h : fewM m) : (∀ a ∈ m.asks, nameL (bt a.name)) ∧ (∀ l ∈ [m.one, m.two, m.three], ∀ r ∈ l, PackOk r) ∧ (m.asks.length ≤ 40 ∧ m.one.length ≤ 40 ∧ m.two.length ≤ 40 ∧ m.three.length ≤ 40) ∧ m.head.ok := by
  obtain ⟨hc, hs, ha, hg, hh⟩ := h
  exact ⟨fun a h => nameL_of (ha a h), fun l hl r hr => few_body (hs l hl r hr) (hg l hl r hr), by omega, hh⟩
theorem packM_ge (C : Option Ent) (m : MsgD) : 12 ≤ (packM C m).length := by
  simp only [packM, List.length_append, headL_len]; omega
theorem packM_le {m : MsgD} (h : fewM m) : (packM (some []) m).length ≤ 10000000 := by
  obtain ⟨hna, hpk, hc, _⟩ := few_pack h
  have h0 := packAsks_bound hna (by omega) (some []) 12
  have h1 := packRecs_bound (fun r hr => (hpk m.one (by simp) r hr).2) (by omega) (packA (some []) m).2 (12 + (packA (some []) m).1.length)
  have h2 := packRecs_bound (fun r hr => (hpk m.two (by simp) r hr).2) (by omega) (pack1 (some []) m).2 (12 + (packA (some []) m).1.length + (pack1 (some []) m).1.length)
  have h3 := packRecs_bound (fun r hr => (hpk m.three (by simp) r hr).2) (by omega) (pack2 (some []) m).2 (12 + (packA (some []) m).1.length + (pack1 (some []) m).1.length + (pack2 (some []) m).1.length)
  have e0 : (packA (some []) m).1.length ≤ 24000 := h0
  have e1 : (pack1 (some []) m).1.length ≤ 2680000 := h1
  have e2 : (pack2 (some []) m).1.length ≤ 2680000 := h2
  have e3 : (pack3 (some []) m).1.length ≤ 2680000 := h3
  simp only [packM, List.length_append, headL_len]; omega

end Go.Proofs.YtifnodoffgfpbaaGreatDoor

namespace Go.Proofs.YtifnodoffgfpbaaGreatDoor
open Go

def emptyB : ByteArray := ⟨#[]⟩
/-- a record as it is read -/
def normR (r : RecD) (len : UInt16) : RecD :=
  { name := r.name, typ := typeN r, cls := r.cls, ttl := r.ttl, len := len, kind := r.kind,
    data := if r.kind = 1 then fixedL r.data 4 else if r.kind = 8 then fixedL r.data 16 else if r.kind = 13 then r.data else [],
    host := if r.kind = 2 ∨ r.kind = 3 ∨ r.kind = 5 ∨ r.kind = 6 ∨ r.kind = 9 ∨ r.kind = 11 ∨ r.kind = 12 ∨ r.kind = 4 then r.host else emptyB,
    box := if r.kind = 4 then r.box else emptyB,
    n1 := if r.kind = 4 then r.n1 else if r.kind = 6 ∨ r.kind = 9 ∨ r.kind = 11 ∨ r.kind = 12 then UInt32.ofNat (r.n1.toNat % 65536) else 0,
    n2 := if r.kind = 4 then r.n2 else if r.kind = 9 then UInt32.ofNat (r.n2.toNat % 65536) else 0,
    n3 := if r.kind = 4 then r.n3 else if r.kind = 9 then UInt32.ofNat (r.n3.toNat % 65536) else 0,
    n4 := if r.kind = 4 then r.n4 else 0,
    n5 := if r.kind = 4 then r.n5 else 0,
    texts := if r.kind = 7 then r.texts else [],
    pairs := if r.kind = 10 ∨ r.kind = 11 ∨ r.kind = 12 then r.pairs else [] }
def Like (r' r : RecD) : Prop := ∃ len, r' = normR r len
def LikeM (m' m : MsgD) : Prop := m'.head = m.head ∧ m'.asks = m.asks ∧ All2 Like m'.one m.one ∧ All2 Like m'.two m.two ∧ All2 Like m'.three m.three
theorem u32mod (x : UInt32) : (UInt32.ofNat (x.toNat % 65536)).toNat = x.toNat % 65536 := by
  have := x.toNat_lt
  rw [UInt32.toNat_ofNat']; omega
theorem fixedL_fixed (d : List UInt8) (n : Nat) : fixedL (fixedL d n) n = fixedL d n := by
  have h := fixedL_length d n
  rw [fixedL, List.take_append_of_le_length (by omega), List.take_of_length_le (by omega)]
theorem typeN_norm (r : RecD) (len : UInt16) : typeN (normR r len) = typeN r := by
  simp only [typeN, normR]
  by_cases h : r.kind = 13
  · simp [h]
  · simp only [if_neg h]
theorem be16_mod2 (n : Nat) : be16 (n % 65536 % 4294967296) = be16 n := by
  rw [show n % 65536 % 4294967296 = n % 65536 by omega, be16_mod]
theorem bodyL_norm (r : RecD) (len : UInt16) (h1 : 1 ≤ r.kind) (h13 : r.kind ≤ 13) : bodyL (normR r len) = bodyL r := by
  have hk : r.kind = 1 ∨ r.kind = 2 ∨ r.kind = 3 ∨ r.kind = 4 ∨ r.kind = 5 ∨ r.kind = 6 ∨ r.kind = 7 ∨ r.kind = 8 ∨ r.kind = 9 ∨ r.kind = 10 ∨ r.kind = 11 ∨ r.kind = 12 ∨ r.kind = 13 := by omega
  simp only [bodyL, normR]
  rcases hk with h | h | h | h | h | h | h | h | h | h | h | h | h <;> simp [h, fixedL_fixed, be16_mod2]
theorem recL_norm (r : RecD) (len : UInt16) (h1 : 1 ≤ r.kind) (h13 : r.kind ≤ 13) : recL (normR r len) = recL r := by
  simp only [recL, typeN_norm, bodyL_norm r len h1 h13]
  rfl
theorem recsL_like : ∀ {rs' rs : List RecD}, All2 Like rs' rs → (∀ r ∈ rs, 1 ≤ r.kind ∧ r.kind ≤ 13) → recsL rs' = recsL rs
  | [], [], _, _ => rfl
  | [], r :: rs, h, _ => by have := h.1; simp at this
  | r' :: rs', [], h, _ => by have := h.1; simp at this
  | r' :: rs', r :: rs, h, hk => by
    obtain ⟨len, rfl⟩ := h.2 0 r' r rfl rfl
    have ih := recsL_like (rs' := rs') (rs := rs) ⟨by have := h.1; simpa using this, fun i a b ha hb => h.2 (i + 1) a b ha hb⟩ (fun r hr => hk r (by simp [hr]))
    simp only [recsL, List.map_cons, List.flatten_cons] at ih ⊢
    rw [ih, recL_norm r len (hk r (by simp)).1 (hk r (by simp)).2]
theorem msgL_like {m' m : MsgD} (h : LikeM m' m) (hk : ∀ r, r ∈ m.one ∨ r ∈ m.two ∨ r ∈ m.three → 1 ≤ r.kind ∧ r.kind ≤ 13) : msgL m' = msgL m := by
  obtain ⟨hh, ha, h1, h2, h3⟩ := h
  simp only [msgL, hh, ha, h1.1, h2.1, h3.1]
  rw [recsL_like h1 (fun r hr => hk r (.inl hr)), recsL_like h2 (fun r hr => hk r (.inr (.inl hr))), recsL_like h3 (fun r hr => hk r (.inr (.inr hr)))]

theorem or_add {a b i : Nat} (hb : b < 2 ^ i) : (2 ^ i * a) ||| b = 2 ^ i * a + b := (Nat.two_pow_add_eq_or_of_lt hb a).symm
def bN (b : Bool) : Nat := if b then 1 else 0
theorem bN_lt (b : Bool) : bN b < 2 := by cases b <;> decide
theorem flag_mul (b : Bool) (x : UInt16) : (flagN b x).toNat = x.toNat * bN b := by cases b <;> simp [flagN, bN]
theorem hbits_nat (h : HeadD) (ho : h.op.toNat < 16) (hc : h.code.toNat < 16) :
    (hbits h).toNat = 32768 * bN h.resp + 2048 * h.op.toNat + 1024 * bN h.auth + 512 * bN h.cut + 256 * bN h.des + 128 * bN h.avail + 32 * bN h.authc + 16 * bN h.unch + h.code.toNat := by
  have b1 := bN_lt h.resp
  have b2 := bN_lt h.auth
  have b3 := bN_lt h.cut
  have b4 := bN_lt h.des
  have b5 := bN_lt h.avail
  have b6 := bN_lt h.authc
  have b7 := bN_lt h.unch
  have eop : (h.op <<< 11).toNat = 2048 * h.op.toNat := by
    rw [UInt16.toNat_shiftLeft]
    have : (11 : UInt16).toNat % 16 = 11 := rfl
    rw [this, Nat.shiftLeft_eq]; omega
  simp only [hbits, UInt16.toNat_or, flag_mul, eop]
  have e1 : (0x8000 : UInt16).toNat = 32768 := rfl
  have e2 : (0x0400 : UInt16).toNat = 1024 := rfl
  have e3 : (0x0200 : UInt16).toNat = 512 := rfl
  have e4 : (0x0100 : UInt16).toNat = 256 := rfl
  have e5 : (0x0080 : UInt16).toNat = 128 := rfl
  have e6 : (0x0020 : UInt16).toNat = 32 := rfl
  have e7 : (0x0010 : UInt16).toNat = 16 := rfl
  rw [e1, e2, e3, e4, e5, e6, e7]
  have s1 : 32768 * bN h.resp ||| 2048 * h.op.toNat = 32768 * bN h.resp + 2048 * h.op.toNat := or_add (i := 15) (by omega)
  have s2 : (32768 * bN h.resp + 2048 * h.op.toNat) ||| 1024 * bN h.auth = 32768 * bN h.resp + 2048 * h.op.toNat + 1024 * bN h.auth := by
    have := or_add (i := 11) (a := 16 * bN h.resp + h.op.toNat) (b := 1024 * bN h.auth) (by omega)
    rw [show 2 ^ 11 * (16 * bN h.resp + h.op.toNat) = 32768 * bN h.resp + 2048 * h.op.toNat by omega] at this; exact this
  have s3 : (32768 * bN h.resp + 2048 * h.op.toNat + 1024 * bN h.auth) ||| 512 * bN h.cut = 32768 * bN h.resp + 2048 * h.op.toNat + 1024 * bN h.auth + 512 * bN h.cut := by
    have := or_add (i := 10) (a := 32 * bN h.resp + 2 * h.op.toNat + bN h.auth) (b := 512 * bN h.cut) (by omega)
    rw [show 2 ^ 10 * (32 * bN h.resp + 2 * h.op.toNat + bN h.auth) = 32768 * bN h.resp + 2048 * h.op.toNat + 1024 * bN h.auth by omega] at this; exact this
  have s4 : (32768 * bN h.resp + 2048 * h.op.toNat + 1024 * bN h.auth + 512 * bN h.cut) ||| 256 * bN h.des = 32768 * bN h.resp + 2048 * h.op.toNat + 1024 * bN h.auth + 512 * bN h.cut + 256 * bN h.des := by
    have := or_add (i := 9) (a := 64 * bN h.resp + 4 * h.op.toNat + 2 * bN h.auth + bN h.cut) (b := 256 * bN h.des) (by omega)
    rw [show 2 ^ 9 * (64 * bN h.resp + 4 * h.op.toNat + 2 * bN h.auth + bN h.cut) = 32768 * bN h.resp + 2048 * h.op.toNat + 1024 * bN h.auth + 512 * bN h.cut by omega] at this; exact this
  have s5 : 128 * bN h.avail ||| 32 * bN h.authc = 128 * bN h.avail + 32 * bN h.authc := or_add (i := 7) (by omega)
  have s6 : (128 * bN h.avail + 32 * bN h.authc) ||| 16 * bN h.unch = 128 * bN h.avail + 32 * bN h.authc + 16 * bN h.unch := by
    have := or_add (i := 5) (a := 4 * bN h.avail + bN h.authc) (b := 16 * bN h.unch) (by omega)
    rw [show 2 ^ 5 * (4 * bN h.avail + bN h.authc) = 128 * bN h.avail + 32 * bN h.authc by omega] at this; exact this
  have s7 : (128 * bN h.avail + 32 * bN h.authc + 16 * bN h.unch) ||| h.code.toNat = 128 * bN h.avail + 32 * bN h.authc + 16 * bN h.unch + h.code.toNat := by
    have := or_add (i := 4) (a := 8 * bN h.avail + 2 * bN h.authc + bN h.unch) (b := h.code.toNat) (by omega)
    rw [show 2 ^ 4 * (8 * bN h.avail + 2 * bN h.authc + bN h.unch) = 128 * bN h.avail + 32 * bN h.authc + 16 * bN h.unch by omega] at this; exact this
  rw [s1, s2, s3, s4, s5, s6, s7]
  have s8 := or_add (i := 8) (a := 128 * bN h.resp + 8 * h.op.toNat + 4 * bN h.auth + 2 * bN h.cut + bN h.des) (b := 128 * bN h.avail + 32 * bN h.authc + 16 * bN h.unch + h.code.toNat) (by omega)
  rw [show 2 ^ 8 * (128 * bN h.resp + 8 * h.op.toNat + 4 * bN h.auth + 2 * bN h.cut + bN h.des) = 32768 * bN h.resp + 2048 * h.op.toNat + 1024 * bN h.auth + 512 * bN h.cut + 256 * bN h.des by omega] at s8
  rw [s8]; omega
theorem bit_of (x : Nat) (i : Nat) : x &&& 2 ^ i = 2 ^ i * (x / 2 ^ i % 2) := by
  have hb : x.testBit i = decide (x / 2 ^ i % 2 = 1) := Nat.testBit_eq_decide_div_mod_eq
  have : x / 2 ^ i % 2 = 0 ∨ x / 2 ^ i % 2 = 1 := by omega
  apply Nat.eq_of_testBit_eq
  intro j
  rw [Nat.testBit_and, Nat.testBit_two_pow]
  rcases this with h | h
  · rw [h, Nat.mul_zero, Nat.zero_testBit]
    by_cases hj : i = j
    · subst hj; rw [hb, h]; rfl
    · simp [hj]
  · rw [h, Nat.mul_one, Nat.testBit_two_pow]
    by_cases hj : i = j
    · subst hj; rw [hb, h]; simp
    · simp [hj]
end Go.Proofs.YtifnodoffgfpbaaGreatDoor

namespace Go.Proofs.YtifnodoffgfpbaaGreatDoor
open Go

/-- no capital letter -/
def lowS (s : ByteArray) : Prop := ∀ i (h : i < s.size), ¬ (65 ≤ s[i].toNat ∧ s[i].toNat ≤ 90)
def kR (k : Nat) : RecD := { name := emptyB, typ := 0, cls := 0, ttl := 0, len := 0, kind := k, data := [], host := emptyB, box := emptyB, n1 := 0, n2 := 0, n3 := 0, n4 := 0, n5 := 0, texts := [], pairs := [] }
/-- k is the kind of records of the type t -/
def KindOf (t : UInt16) (k : Nat) : Prop := 1 ≤ k ∧ k ≤ 13 ∧ (k = 13 ∨ typeN (kR k) = t) ∧ ∀ j, 1 ≤ j → j < k → typeN (kR j) ≠ t
def plainR (r : RecD) : Prop := r.kind = 13 → KindOf r.typ 13
def lowR (r : RecD) : Prop := lowS r.name ∧ lowS r.host ∧ lowS r.box
def plainM (m : MsgD) : Prop := ∀ l ∈ [m.one, m.two, m.three], ∀ r ∈ l, plainR r
def lowM (m : MsgD) : Prop := (∀ a ∈ m.asks, lowS a.name) ∧ ∀ l ∈ [m.one, m.two, m.three], ∀ r ∈ l, lowR r

set_option maxHeartbeats 4000000 in
set_option maxRecDepth 100000 in
theorem c34 {w : World} {s : ByteArray} (hs : s.size ≤ 1048576) :
  Ret PP 34 [.string s] w (Grd w (lowS s)) := by
 have hf : Fr (fun _ => False) w w := Fr.refl _ _
 refine ret_of Tryz.func34 rfl rfl rfl [(0, _)] rfl ?_
 refine sreg (sA rfl (send (fg [(0, _)] ⟨rfl, ⟨⟩⟩ fun _ => (wp_seq (sreg (sM rfl (sv (xlenS st9 rfl) (sM rfl (send (fg [(0, _), (5, _), (6, _)] ⟨rfl, rfl, rfl, ⟨⟩⟩ fun _ => (wp_block ?_)))))))))))
 refine lp [(0, _), (5, _)] (fun (k : Nat) => [(6, .int .i64 (k : Int))]) (fun (k : Nat) wx => Fr (fun _ => False) w wx ∧ (k ≤ s.size) ∧ (∀ i (h : i < s.size), i < k → ¬ (65 ≤ s[i].toNat ∧ s[i].toNat ≤ 90))) (fun (k : Nat) => s.size - k) 0 ⟨rfl, rfl, rfl, trivial⟩ ⟨Fr.refl _ _, Nat.zero_le _, fun i h h0 => by omega⟩ ?_
 rintro k _ w2 ⟨hL1, hk, hL⟩
 refine fg [(0, _), (5, _), (6, _)] ⟨rfl, rfl, rfl, ⟨⟩⟩ fun _ => ?_
 have z3 := hL1.size
 have hf := hf.step0 hL1
 refine sreg ?_
 refine svP (xlss rfl rfl) (fun hc7 => ?_) (fun hc7 => ?_)
 ·
  refine send (fg [(0, _), (5, _), (6, _), (7, _)] ⟨rfl, rfl, rfl, rfl, ⟨⟩⟩ fun _ => (wp_seq (cyes rfl (wp_skip (nThen (fg [(0, _), (5, _), (6, _)] ⟨rfl, rfl, rfl, ⟨⟩⟩ fun _ => (wp_seq (wp_block (sreg (sM rfl (sA rfl (send (fg [(0, _), (3, _), (5, _), (6, _)] ⟨rfl, rfl, rfl, rfl, ⟨⟩⟩ fun _ => (sreg (sM rfl (sM rfl (sv (xidxS st9 rfl rfl rfl (by omega)) ?_)))))))))))))))))
  refine svP (xgeq rfl rfl) (fun hc12 => ?_) (fun hc12 => ?_)
  ·
   refine sM rfl (gyes rfl rfl rfl (sM rfl (gyes rfl rfl rfl (sM rfl (gyes rfl rfl rfl (sv (xidxS st9 rfl rfl rfl (by omega)) (gyes rfl rfl rfl ?_)))))))
   refine svP (xleq rfl rfl) (fun hc17 => ?_) (fun hc17 => ?_)
   ·
    refine sv (xpickT rfl rfl) (send (fg [(0, _), (5, _), (6, _), (18, _)] ⟨rfl, rfl, rfl, rfl, ⟨⟩⟩ fun _ => (cyes rfl (sreg (sA rfl (send (fg [(2, _)] ⟨rfl, ⟨⟩⟩ fun _ => (wp_ret (rBlock (rThen (rThen (rBlock (rThen ?_)))))))))))))
    refine rp1 rfl rfl ?_
    exact ⟨_, rfl, (fun h => by cases h), hf⟩
   ·
    refine sv (xpickT rfl rfl) (send (fg [(0, _), (5, _), (6, _), (18, _)] ⟨rfl, rfl, rfl, rfl, ⟨⟩⟩ fun _ => (cno rfl (wp_skip (nBlock (nThen (fg [(0, _), (5, _), (6, _)] ⟨rfl, rfl, rfl, ⟨⟩⟩ fun _ => (lreg (sv (xadd rfl rfl (w64 (by omega) (by omega))) (sM rfl (lend (nThen ?_))))))))))))
    refine ⟨k + 1, _, env_okl ⟨rfl, rfl, rfl, trivial⟩, ⟨hL1, (by omega), (fun i h h0 => (Nat.lt_or_ge i k).elim (fun hik => hL i h hik) (fun hge => by have e : i = k := (by omega); subst e; omega))⟩, ?_⟩
    show s.size - (k + 1) < s.size - k; omega
  ·
   refine sM rfl (gno rfl rfl rfl (gno rfl rfl rfl (gno rfl rfl rfl (gno rfl rfl rfl (sv (xpickF rfl rfl) (send (fg [(0, _), (5, _), (6, _), (18, _)] ⟨rfl, rfl, rfl, rfl, ⟨⟩⟩ fun _ => (cno rfl (wp_skip (nBlock (nThen (fg [(0, _), (5, _), (6, _)] ⟨rfl, rfl, rfl, ⟨⟩⟩ fun _ => (lreg (sv (xadd rfl rfl (w64 (by omega) (by omega))) (sM rfl (lend (nThen ?_)))))))))))))))))
   refine ⟨k + 1, _, env_okl ⟨rfl, rfl, rfl, trivial⟩, ⟨hL1, (by omega), (fun i h h0 => (Nat.lt_or_ge i k).elim (fun hik => hL i h hik) (fun hge => by have e : i = k := (by omega); subst e; omega))⟩, ?_⟩
   show s.size - (k + 1) < s.size - k; omega
 ·
  refine send (fg [(0, _), (5, _), (6, _), (7, _)] ⟨rfl, rfl, rfl, rfl, ⟨⟩⟩ fun _ => (wp_seq (cno rfl (wp_exit (eThen (eThen (eHit (nThen (fg [] trivial fun _ => (sreg (sA rfl (send (fg [(2, _)] ⟨rfl, ⟨⟩⟩ fun _ => (wp_ret ?_))))))))))))))
  refine rp1 rfl rfl ?_
  exact ⟨_, rfl, (fun _ i h => hL i h (by omega)), hf⟩
set_option maxHeartbeats 4000000 in
set_option maxRecDepth 100000 in
theorem c35 {w : World} {t : UInt16} :
  Ret PP 35 [.int .u16 (t.toNat : Int)] w (fun u w' => (∃ k : Nat, u = .int .i64 (k : Int) ∧ KindOf t k) ∧ Fr0 w w') := by
 have hf : Fr (fun _ => False) w w := Fr.refl _ _
 refine ret_of Tryz.func35 rfl rfl rfl [(0, _)] rfl ?_
 refine sreg (sA rfl (send (fg [(0, _)] ⟨rfl, ⟨⟩⟩ fun _ => (wp_seq (sreg (sA rfl (send (fg [(0, _), (3, _)] ⟨rfl, rfl, ⟨⟩⟩ fun _ => (wp_block ?_)))))))))
 refine lp [(0, _)] (fun (k : Nat) => [(3, .int .i64 (k : Int))]) (fun (k : Nat) wx => Fr (fun _ => False) w wx ∧ (1 ≤ k) ∧ (k ≤ 13) ∧ (∀ j, 1 ≤ j → j < k → typeN (kR j) ≠ t)) (fun (k : Nat) => 13 - k) 1 ⟨rfl, rfl, trivial⟩ ⟨Fr.refl _ _, Nat.le_refl _, (by omega), fun j h1 h2 => by omega⟩ ?_
 rintro k _ w2 ⟨hL1, h1, hk, hA⟩
 refine fg [(0, _), (3, _)] ⟨rfl, rfl, ⟨⟩⟩ fun _ => ?_
 have z3 := hL1.size
 have hf := hf.step0 hL1
 refine wp_seq (sreg (sM rfl ?_))
 refine svP (xlss rfl rfl) (fun hc5 => ?_) (fun hc5 => ?_)
 ·
  refine send (fg [(0, _), (3, _), (5, _)] ⟨rfl, rfl, rfl, ⟨⟩⟩ fun _ => (cyes rfl (wp_skip (nThen (fg [(0, _), (3, _)] ⟨rfl, rfl, ⟨⟩⟩ fun _ => (wp_seq (wp_block (sreg (sM rfl (sv (xbuildS (recSegs (kR k) (.slice none 0 0) (.slice none 0 0) (.slice none 0 0)) zr65 ly65 rfl (by simp [fitAll, zs65, Value.cells]) rfl) ?_))))))))))
  refine sc (xcall ca86 rfl) (c86 (r := kR k) (show (0 : Int) ≤ (k : Int) by omega) (show (k : Int) ≤ 13 by omega)) ?_
  rintro _ w4 ⟨rfl, m5⟩
  have z6 := m5.size
  have hf := hf.step0 m5
  have hL1 := hL1.step0 m5
  refine sM rfl ?_
  refine svP (xeql rfl rfl) (fun hc12 => ?_) (fun hc12 => ?_)
  ·
   refine send (fg [(0, _), (3, _), (12, _)] ⟨rfl, rfl, rfl, ⟨⟩⟩ fun _ => (cyes rfl (sreg (sM rfl (sA rfl (send (fg [(2, _)] ⟨rfl, ⟨⟩⟩ fun _ => (wp_ret (rBlock (rThen (rThen (rBlock (rThen ?_)))))))))))))
   refine rp1 rfl rfl ?_
   first | exact ⟨⟨k, rfl, h1, by omega, .inr (by have := hc12; exact UInt16.toNat_inj.1 (by omega)), hA⟩, hf⟩ | exact ⟨⟨13, rfl, by omega, by omega, .inl rfl, fun j a b => hA j a (by omega)⟩, hf⟩
  ·
   refine send (fg [(0, _), (3, _), (12, _)] ⟨rfl, rfl, rfl, ⟨⟩⟩ fun _ => (cno rfl (wp_skip (nBlock (nThen (fg [(0, _), (3, _)] ⟨rfl, rfl, ⟨⟩⟩ fun _ => (lreg (sM rfl (sv (xadd rfl rfl (w64 (by omega) (by omega))) (sA rfl (lend (nThen ?_))))))))))))
   refine ⟨k + 1, _, env_okl ⟨rfl, rfl, trivial⟩, ⟨hL1, (by omega), (by omega), (fun j a b => (Nat.lt_or_ge j k).elim (fun e => hA j a e) (fun hge => by have e : j = k := (by omega); subst e; exact fun e => hc12 (by rw [e])))⟩, ?_⟩
   show 13 - (k + 1) < 13 - k; omega
 ·
  refine send (fg [(0, _), (3, _), (5, _)] ⟨rfl, rfl, rfl, ⟨⟩⟩ fun _ => (cno rfl (wp_exit (eThen (eThen (eHit (nThen (fg [] trivial fun _ => (sreg (sA rfl (send (fg [(2, _)] ⟨rfl, ⟨⟩⟩ fun _ => (wp_ret ?_)))))))))))))
  refine rp1 rfl rfl ?_
  first | exact ⟨⟨k, rfl, h1, by omega, .inr (by have := hc12; exact UInt16.toNat_inj.1 (by omega)), hA⟩, hf⟩ | exact ⟨⟨13, rfl, by omega, by omega, .inl rfl, fun j a b => hA j a (by omega)⟩, hf⟩
set_option maxHeartbeats 4000000 in
set_option maxRecDepth 100000 in
theorem c16 {w : World} {U : Nat → Prop} (hU : ∀ k, U k → k < w.heap.size) {m : MsgD} {va v1 v2 v3 : Value} (ha : LA AskEl lAsk U w va m.asks) (y1 : LA RecEl lRec U w v1 m.one) (y2 : LA RecEl lRec U w v2 m.two) (y3 : LA RecEl lRec U w v3 m.three) (hfr : ∀ l ∈ [m.one, m.two, m.three], ∀ r ∈ l, r.fits) (hll : ∀ l ∈ [m.one, m.two, m.three], l.length ≤ 1048576)  :
  Ret PP 16 [ag (msgSegs m.head va v1 v2 v3)] w (Grd w (plainM m)) := by
 have hls : All2 (LA RecEl lRec U w) [v1, v2, v3] [m.one, m.two, m.three] := All2.cons y1 (All2.cons y2 (All2.cons y3 All2.nil))
 obtain ⟨aa, ca, rfl⟩ := ha.form
 obtain ⟨a1, c1, rfl⟩ := y1.form
 obtain ⟨a2, c2, rfl⟩ := y2.form
 obtain ⟨a3, c3, rfl⟩ := y3.form
 have hf : Fr (fun _ => False) w w := Fr.refl _ _
 refine ret_of Tryz.func16 rfl rfl rfl [(0, _)] rfl ?_
 refine sreg ?_
 refine svK (xboxS (lens := lMsg) rfl rfl) ?_
 rintro _ w2 ⟨b1, rfl, m3, h1, e1, s1⟩
 have hf := hf.step0 m3
 refine sA rfl (send (fg [(1, _)] ⟨rfl, ⟨⟩⟩ fun _ => (wp_seq (sreg (sv (xfld fl34_2 rfl) (sv (xld on32 rfl (h1.r.c 11 rfl rfl)) (sv (xfld fl34_3 rfl) (sv (xld on32 rfl (h1.r.c 12 rfl rfl)) (sv (xfld fl34_4 rfl) (sv (xld on32 rfl (h1.r.c 13 rfl rfl)) ?_))))))))))
 refine svK (xslit ([.slice a1 m.one.length c1, .slice a2 m.two.length c2, .slice a3 m.three.length c3]) sl60 in32 rfl (by decide) rfl rfl rfl rfl (by decide) rfl rfl) ?_
 rintro _ w5 ⟨b13, rfl, m6, h13, e13, s13, r13⟩
 have hf := hf.step0 m6
 refine sv (xlen sl60 rfl) (sM rfl (send (fg [(13, _), (14, _), (15, _)] ⟨rfl, rfl, rfl, ⟨⟩⟩ fun _ => (wp_block ?_))))
 refine lp [(13, _), (14, _)] (fun (i : Nat) => [(15, .int .i64 (i : Int))]) (fun (i : Nat) wx => Fr (fun _ => False) w5 wx ∧ (i ≤ 3) ∧ (∀ j (l : List RecD), j < i → [m.one, m.two, m.three][j]? = some l → ∀ r ∈ l, plainR r)) (fun (i : Nat) => 3 - i) 0 ⟨rfl, rfl, rfl, trivial⟩ ⟨Fr.refl _ _, Nat.zero_le _, upto_zero⟩ ?_
 rintro i _ w8 ⟨hL7, hi, hO⟩
 refine fg [(13, _), (14, _), (15, _)] ⟨rfl, rfl, rfl, ⟨⟩⟩ fun _ => ?_
 have z9 := hL7.size
 have hf := hf.step0 hL7
 have r13 := r13.keep hL7 id
 refine sreg ?_
 refine svP (xlss rfl rfl) (fun hc16 => ?_) (fun hc16 => ?_)
 ·
  refine send (fg [(13, _), (14, _), (15, _), (16, _)] ⟨rfl, rfl, rfl, rfl, ⟨⟩⟩ fun _ => (wp_seq (cyes rfl (wp_skip (nThen (fg [(13, _), (14, _), (15, _)] ⟨rfl, rfl, rfl, ⟨⟩⟩ fun _ => (wp_seq (wp_block (sreg ?_)))))))))
  obtain ⟨u, l, hu, hul, hL⟩ := hls.get (k := i) (by simp; omega)
  have hL := hL.keep rec_st hU hf nF
  have hlm : l ∈ [m.one, m.two, m.three] := List.mem_of_getElem? hul
  have hln := hll l hlm
  obtain ⟨au, cu, rfl⟩ := hL.form
  refine sv (xidx1 sl60 sz32 rfl rfl rfl (by omega)) (sv (xld on32 rfl (Rw.rng r13 i _ hu)) (sA rfl (send (fg [(4, _), (13, _), (14, _), (15, _)] ⟨rfl, rfl, rfl, rfl, ⟨⟩⟩ fun _ => (sreg (sM rfl (sv (xlen sl32 rfl) (sM rfl (send (fg [(13, _), (14, _), (15, _), (19, _), (20, _), (21, _)] ⟨rfl, rfl, rfl, rfl, rfl, rfl, ⟨⟩⟩ fun _ => (wp_block ?_)))))))))))
  refine lp [(13, _), (14, _), (15, _), (19, _), (20, _)] (fun (k : Nat) => [(21, .int .i64 (k : Int))]) (fun (k : Nat) wx => Fr (fun _ => False) w8 wx ∧ (k ≤ l.length) ∧ (∀ j (r : RecD), j < k → l[j]? = some r → plainR r)) (fun (k : Nat) => l.length - k) 0 ⟨rfl, rfl, rfl, rfl, rfl, rfl, trivial⟩ ⟨Fr.refl _ _, Nat.zero_le _, upto_zero⟩ ?_
  rintro k _ w11 ⟨hL10, hk, hI⟩
  refine fg [(13, _), (14, _), (15, _), (19, _), (20, _), (21, _)] ⟨rfl, rfl, rfl, rfl, rfl, rfl, ⟨⟩⟩ fun _ => ?_
  have z12 := hL10.size
  have hf := hf.step0 hL10
  have hL7 := hL7.step0 hL10
  have hL := hL.keep rec_st (lU hU (by omega)) hL10 nF
  refine sreg ?_
  refine svP (xlss rfl rfl) (fun hc22 => ?_) (fun hc22 => ?_)
  ·
   refine send (fg [(13, _), (14, _), (15, _), (19, _), (20, _), (21, _), (22, _)] ⟨rfl, rfl, rfl, rfl, rfl, rfl, rfl, ⟨⟩⟩ fun _ => (wp_seq (cyes rfl (wp_skip (nThen (fg [(13, _), (14, _), (15, _), (19, _), (20, _), (21, _)] ⟨rfl, rfl, rfl, rfl, rfl, rfl, ⟨⟩⟩ fun _ => (wp_seq (wp_block ?_))))))))
   obtain ⟨r, hrk⟩ := some_of_lt (by omega : k < l.length)
   have hrf := hfr l hlm r (List.mem_of_getElem? hrk)
   have hrf0 := hrf
   simp only [RecD.fits] at hrf0
   refine sreg ?_
   obtain ⟨bE23, oE23, sgE23, rfl, uE23, hsE23, heE23⟩ := LA.get hL hrk
   obtain ⟨vd, vt, vp, rfl, hd, ht, hp⟩ := heE23
   have zE23 := hU _ uE23
   obtain ⟨ad, cd, rfl, -⟩ := id hd
   obtain ⟨at1, ct1, rfl⟩ := ht.form
   obtain ⟨ap1, cp1, rfl⟩ := hp.form
   refine sv (xidx sl32 sz65 rfl rfl rfl (by omega)) (sv (xldS (lens := lRec) ro65 rfl hsE23) ?_)
   refine svK (xallS (lens := lRec) in65 rfl) ?_
   rintro _ w14 ⟨b6, rfl, m15, h6, e13, s13⟩
   have hf := hf.step0 m15
   have hL7 := hL7.step0 m15
   have hL10 := hL10.step0 m15
   refine suK (xstW h6 (lens' := lRec) sz65 rfl rfl rfl rfl rfl) ?_
   rintro w17 ⟨m18, h6, s16⟩
   have hf := hf.step m18 (fun k hk hS => by have hS : k = b6 := hS; show False; omega)
   have hL7 := hL7.step m18 (fun k hk hS => by have hS : k = b6 := hS; show False; omega)
   have hL10 := hL10.step m18 (fun k hk hS => by have hS : k = b6 := hS; show False; omega)
   refine send (fg [(6, _), (13, _), (14, _), (15, _), (19, _), (20, _), (21, _)] ⟨rfl, rfl, rfl, rfl, rfl, rfl, rfl, ⟨⟩⟩ fun _ => (sreg (sv (xfld fl65_5 rfl) (sv (xld on3 rfl (h6.r.c 5 rfl rfl)) ?_))))
   refine svP (xeql rfl rfl) (fun hc27 => ?_) (fun hc27 => ?_)
   ·
    refine sM rfl (gyes rfl rfl rfl (sv (xfld fl65_1 rfl) (gyes rfl rfl rfl (sv (xld on22 rfl (h6.r.c 1 rfl rfl)) (gyes rfl rfl rfl ?_)))))
    refine sc (xcall ca35 rfl) (c35) ?_
    rintro _ w19 ⟨⟨k35, rfl, hK⟩, m20⟩
    have z21 := m20.size
    have hf := hf.step0 m20
    have hL7 := hL7.step0 m20
    have hL10 := hL10.step0 m20
    refine gyes rfl rfl rfl ?_
    refine svP (xneq rfl rfl) (fun hc32 => ?_) (fun hc32 => ?_)
    ·
     refine sv (xpickT rfl rfl) (send (fg [(13, _), (14, _), (15, _), (19, _), (20, _), (21, _), (33, _)] ⟨rfl, rfl, rfl, rfl, rfl, rfl, rfl, ⟨⟩⟩ fun _ => (cyes rfl (sreg (sA rfl (send (fg [(2, _)] ⟨rfl, ⟨⟩⟩ fun _ => (wp_ret (rBlock (rThen (rThen (rBlock (rBlock (rThen (rThen (rBlock (rThen ?_)))))))))))))))))
     refine rp1 rfl rfl ?_
     exact ⟨_, rfl, (fun h => by cases h), hf⟩
    ·
     refine sv (xpickT rfl rfl) (send (fg [(13, _), (14, _), (15, _), (19, _), (20, _), (21, _), (33, _)] ⟨rfl, rfl, rfl, rfl, rfl, rfl, rfl, ⟨⟩⟩ fun _ => (cno rfl (wp_skip (nBlock (nThen (fg [(13, _), (14, _), (15, _), (19, _), (20, _), (21, _)] ⟨rfl, rfl, rfl, rfl, rfl, rfl, ⟨⟩⟩ fun _ => (lreg (sv (xadd rfl rfl (w64 (by omega) (by omega))) (sM rfl (lend (nThen ?_))))))))))))
     refine ⟨k + 1, _, env_okl ⟨rfl, rfl, rfl, rfl, rfl, rfl, trivial⟩, ⟨hL10, (by omega), (upto_step hI hrk (fun h13 => by first | omega | (have e13 : k35 = 13 := (by omega); subst e13; exact hK)))⟩, ?_⟩
     show l.length - (k + 1) < l.length - k; omega
   ·
    refine sM rfl (gno rfl rfl rfl (gno rfl rfl rfl (gno rfl rfl rfl (gno rfl rfl rfl (sv (xpickF rfl rfl) (send (fg [(13, _), (14, _), (15, _), (19, _), (20, _), (21, _), (33, _)] ⟨rfl, rfl, rfl, rfl, rfl, rfl, rfl, ⟨⟩⟩ fun _ => (cno rfl (wp_skip (nBlock (nThen (fg [(13, _), (14, _), (15, _), (19, _), (20, _), (21, _)] ⟨rfl, rfl, rfl, rfl, rfl, rfl, ⟨⟩⟩ fun _ => (lreg (sv (xadd rfl rfl (w64 (by omega) (by omega))) (sM rfl (lend (nThen ?_)))))))))))))))))
    refine ⟨k + 1, _, env_okl ⟨rfl, rfl, rfl, rfl, rfl, rfl, trivial⟩, ⟨hL10, (by omega), (upto_step hI hrk (fun h13 => by first | omega | (have e13 : k35 = 13 := (by omega); subst e13; exact hK)))⟩, ?_⟩
    show l.length - (k + 1) < l.length - k; omega
  ·
   refine send (fg [(13, _), (14, _), (15, _), (19, _), (20, _), (21, _), (22, _)] ⟨rfl, rfl, rfl, rfl, rfl, rfl, rfl, ⟨⟩⟩ fun _ => (wp_seq (cno rfl (wp_exit (eThen (eThen (eHit (nBlock (nThen (fg [(13, _), (14, _), (15, _)] ⟨rfl, rfl, rfl, ⟨⟩⟩ fun _ => (lreg (sv (xadd rfl rfl (w64 (by omega) (by omega))) (sM rfl (lend (nThen ?_)))))))))))))))
   refine ⟨i + 1, _, env_okl ⟨rfl, rfl, rfl, trivial⟩, ⟨hL7, (by omega), (upto_step hO hul (upto_all hI (by omega)))⟩, ?_⟩
   show 3 - (i + 1) < 3 - i; omega
 ·
  refine send (fg [(13, _), (14, _), (15, _), (16, _)] ⟨rfl, rfl, rfl, rfl, ⟨⟩⟩ fun _ => (wp_seq (cno rfl (wp_exit (eThen (eThen (eHit (nThen (fg [] trivial fun _ => (sreg (sA rfl (send (fg [(2, _)] ⟨rfl, ⟨⟩⟩ fun _ => (wp_ret ?_))))))))))))))
  refine rp1 rfl rfl ?_
  exact ⟨_, rfl, (fun _ => upto_all hO (by simp; omega)), hf⟩
set_option maxHeartbeats 4000000 in
set_option maxRecDepth 100000 in
theorem c15 {w : World} {U : Nat → Prop} (hU : ∀ k, U k → k < w.heap.size) {m : MsgD} {va v1 v2 v3 : Value} (ha : LA AskEl lAsk U w va m.asks) (y1 : LA RecEl lRec U w v1 m.one) (y2 : LA RecEl lRec U w v2 m.two) (y3 : LA RecEl lRec U w v3 m.three) (hfa : ∀ a ∈ m.asks, a.name.size ≤ 1048576) (hna : m.asks.length ≤ 1048576) (hfr : ∀ l ∈ [m.one, m.two, m.three], ∀ r ∈ l, r.fits) (hll : ∀ l ∈ [m.one, m.two, m.three], l.length ≤ 1048576)  :
  Ret PP 15 [ag (msgSegs m.head va v1 v2 v3)] w (Grd w (lowM m)) := by
 have hls : All2 (LA RecEl lRec U w) [v1, v2, v3] [m.one, m.two, m.three] := All2.cons y1 (All2.cons y2 (All2.cons y3 All2.nil))
 obtain ⟨aa, ca, rfl⟩ := ha.form
 obtain ⟨a1, c1, rfl⟩ := y1.form
 obtain ⟨a2, c2, rfl⟩ := y2.form
 obtain ⟨a3, c3, rfl⟩ := y3.form
 have hf : Fr (fun _ => False) w w := Fr.refl _ _
 refine ret_of Tryz.func15 rfl rfl rfl [(0, _)] rfl ?_
 refine sreg ?_
 refine svK (xboxS (lens := lMsg) rfl rfl) ?_
 rintro _ w2 ⟨b1, rfl, m3, h1, e1, s1⟩
 have ha := ha.keep ask_st (lU hU (by omega)) m3 nF
 have hf := hf.step0 m3
 refine sA rfl (send (fg [(1, _)] ⟨rfl, ⟨⟩⟩ fun _ => (wp_seq (sreg (sv (xfld fl34_1 rfl) (sv (xld on31 rfl (h1.r.c 10 rfl rfl)) (sv (xlen sl31 rfl) (sM rfl (send (fg [(1, _), (10, _), (11, _), (12, _)] ⟨rfl, rfl, rfl, rfl, ⟨⟩⟩ fun _ => (wp_block ?_)))))))))))
 refine lp [(1, _), (10, _), (11, _)] (fun (k : Nat) => [(12, .int .i64 (k : Int))]) (fun (k : Nat) wx => Fr (fun _ => False) w2 wx ∧ (k ≤ m.asks.length) ∧ (∀ i (a : AskD), i < k → m.asks[i]? = some a → lowS a.name)) (fun (k : Nat) => m.asks.length - k) 0 ⟨rfl, rfl, rfl, rfl, trivial⟩ ⟨Fr.refl _ _, Nat.zero_le _, upto_zero⟩ ?_
 rintro k _ w5 ⟨hL4, hk, hT⟩
 refine fg [(1, _), (10, _), (11, _), (12, _)] ⟨rfl, rfl, rfl, rfl, ⟨⟩⟩ fun _ => ?_
 have z6 := hL4.size
 have ha := ha.keep ask_st (lU hU (by omega)) hL4 nF
 have hf := hf.step0 hL4
 have h1 := h1.keep hL4 id
 refine sreg ?_
 refine svP (xlss rfl rfl) (fun hc13 => ?_) (fun hc13 => ?_)
 ·
  refine send (fg [(1, _), (10, _), (11, _), (12, _), (13, _)] ⟨rfl, rfl, rfl, rfl, rfl, ⟨⟩⟩ fun _ => (wp_seq (cyes rfl (wp_skip (nThen (fg [(1, _), (10, _), (11, _), (12, _)] ⟨rfl, rfl, rfl, rfl, ⟨⟩⟩ fun _ => (wp_seq (wp_block ?_))))))))
  obtain ⟨a, hak⟩ := some_of_lt (by omega : k < m.asks.length)
  have hal := hfa _ (List.mem_of_getElem? hak)
  refine sreg ?_
  obtain ⟨bE14, oE14, sgE14, rfl, uE14, hsE14, heE14⟩ := LA.get ha hak
  obtain rfl := heE14
  have zE14 := hU _ uE14
  refine sv (xidx sl31 sz59 rfl rfl rfl (by omega)) (sv (xldS (lens := [1, 1, 1]) ro59 rfl hsE14) ?_)
  refine svK (xallS (lens := [1, 1, 1]) in59 rfl) ?_
  rintro _ w8 ⟨b4, rfl, m9, h4, e7, s7⟩
  have hf := hf.step0 m9
  have h1 := h1.keep m9 id
  have hL4 := hL4.step0 m9
  refine suK (xstW h4 (lens' := [1, 1, 1]) sz59 rfl rfl rfl rfl rfl) ?_
  rintro w11 ⟨m12, h4, s10⟩
  have hf := hf.step m12 (fun k hk hS => by have hS : k = b4 := hS; show False; omega)
  have h1 := h1.keep m12 (by show ¬ (b1 = b4); omega)
  have hL4 := hL4.step m12 (fun k hk hS => by have hS : k = b4 := hS; show False; omega)
  refine send (fg [(1, _), (4, _), (10, _), (11, _), (12, _)] ⟨rfl, rfl, rfl, rfl, rfl, ⟨⟩⟩ fun _ => (sreg (sv (xfld fl59_0 rfl) (sv (xld on9 rfl (h4.r.c 0 rfl rfl)) ?_))))
  refine sc (xcall ca34 rfl) (c34 (by omega)) ?_
  rintro _ w13 ⟨gb18, rfl, gp18, m14⟩
  have z15 := m14.size
  have hf := hf.step0 m14
  have h1 := h1.keep m14 id
  have hL4 := hL4.step0 m14
  rcases Bool.eq_false_or_eq_true gb18 with rfl | rfl
  ·
   refine sv (xnot rfl) (send (fg [(1, _), (10, _), (11, _), (12, _), (19, _)] ⟨rfl, rfl, rfl, rfl, rfl, ⟨⟩⟩ fun _ => (cno rfl (wp_skip (nBlock (nThen (fg [(1, _), (10, _), (11, _), (12, _)] ⟨rfl, rfl, rfl, rfl, ⟨⟩⟩ fun _ => (lreg (sv (xadd rfl rfl (w64 (by omega) (by omega))) (sM rfl (lend (nThen ?_))))))))))))
   refine ⟨k + 1, _, env_okl ⟨rfl, rfl, rfl, rfl, trivial⟩, ⟨hL4, (by omega), (upto_step hT hak (gp18 rfl))⟩, ?_⟩
   show m.asks.length - (k + 1) < m.asks.length - k; omega
  ·
   refine sv (xnot rfl) (send (fg [(1, _), (10, _), (11, _), (12, _), (19, _)] ⟨rfl, rfl, rfl, rfl, rfl, ⟨⟩⟩ fun _ => (cyes rfl (sreg (sA rfl (send (fg [(2, _)] ⟨rfl, ⟨⟩⟩ fun _ => (wp_ret (rBlock (rThen (rThen (rBlock (rThen ?_)))))))))))))
   refine rp1 rfl rfl ?_
   exact ⟨_, rfl, (fun h => by cases h), hf⟩
 ·
  refine send (fg [(1, _), (10, _), (11, _), (12, _), (13, _)] ⟨rfl, rfl, rfl, rfl, rfl, ⟨⟩⟩ fun _ => (wp_seq (cno rfl (wp_exit (eThen (eThen (eHit (nThen (fg [(1, _)] ⟨rfl, ⟨⟩⟩ fun _ => (wp_seq (sreg (sv (xfld fl34_2 rfl) (sv (xld on32 rfl (h1.r.c 11 rfl rfl)) (sv (xfld fl34_3 rfl) (sv (xld on32 rfl (h1.r.c 12 rfl rfl)) (sv (xfld fl34_4 rfl) (sv (xld on32 rfl (h1.r.c 13 rfl rfl)) ?_)))))))))))))))))
  refine svK (xslit ([.slice a1 m.one.length c1, .slice a2 m.two.length c2, .slice a3 m.three.length c3]) sl60 in32 rfl (by decide) rfl rfl rfl rfl (by decide) rfl rfl) ?_
  rintro _ w17 ⟨b27, rfl, m18, h27, e27, s27, r27⟩
  have hf := hf.step0 m18
  refine sv (xlen sl60 rfl) (sM rfl (send (fg [(27, _), (28, _), (29, _)] ⟨rfl, rfl, rfl, ⟨⟩⟩ fun _ => (wp_block ?_))))
  refine lp [(27, _), (28, _)] (fun (i : Nat) => [(29, .int .i64 (i : Int))]) (fun (i : Nat) wx => Fr (fun _ => False) w17 wx ∧ (i ≤ 3) ∧ (∀ j (l : List RecD), j < i → [m.one, m.two, m.three][j]? = some l → ∀ r ∈ l, lowR r)) (fun (i : Nat) => 3 - i) 0 ⟨rfl, rfl, rfl, trivial⟩ ⟨Fr.refl _ _, Nat.zero_le _, upto_zero⟩ ?_
  rintro i _ w20 ⟨hL19, hi, hO⟩
  refine fg [(27, _), (28, _), (29, _)] ⟨rfl, rfl, rfl, ⟨⟩⟩ fun _ => ?_
  have z21 := hL19.size
  have hf := hf.step0 hL19
  have r27 := r27.keep hL19 id
  refine sreg ?_
  refine svP (xlss rfl rfl) (fun hc30 => ?_) (fun hc30 => ?_)
  ·
   refine send (fg [(27, _), (28, _), (29, _), (30, _)] ⟨rfl, rfl, rfl, rfl, ⟨⟩⟩ fun _ => (wp_seq (cyes rfl (wp_skip (nThen (fg [(27, _), (28, _), (29, _)] ⟨rfl, rfl, rfl, ⟨⟩⟩ fun _ => (wp_seq (wp_block (sreg ?_)))))))))
   obtain ⟨u, l, hu, hul, hL⟩ := hls.get (k := i) (by simp; omega)
   have hL := hL.keep rec_st hU hf nF
   have hlm : l ∈ [m.one, m.two, m.three] := List.mem_of_getElem? hul
   have hln := hll l hlm
   obtain ⟨au, cu, rfl⟩ := hL.form
   refine sv (xidx1 sl60 sz32 rfl rfl rfl (by omega)) (sv (xld on32 rfl (Rw.rng r27 i _ hu)) (sA rfl (send (fg [(6, _), (27, _), (28, _), (29, _)] ⟨rfl, rfl, rfl, rfl, ⟨⟩⟩ fun _ => (sreg (sM rfl (sv (xlen sl32 rfl) (sM rfl (send (fg [(27, _), (28, _), (29, _), (33, _), (34, _), (35, _)] ⟨rfl, rfl, rfl, rfl, rfl, rfl, ⟨⟩⟩ fun _ => (wp_block ?_)))))))))))
   refine lp [(27, _), (28, _), (29, _), (33, _), (34, _)] (fun (k : Nat) => [(35, .int .i64 (k : Int))]) (fun (k : Nat) wx => Fr (fun _ => False) w20 wx ∧ (k ≤ l.length) ∧ (∀ j (r : RecD), j < k → l[j]? = some r → lowR r)) (fun (k : Nat) => l.length - k) 0 ⟨rfl, rfl, rfl, rfl, rfl, rfl, trivial⟩ ⟨Fr.refl _ _, Nat.zero_le _, upto_zero⟩ ?_
   rintro k _ w23 ⟨hL22, hk, hI⟩
   refine fg [(27, _), (28, _), (29, _), (33, _), (34, _), (35, _)] ⟨rfl, rfl, rfl, rfl, rfl, rfl, ⟨⟩⟩ fun _ => ?_
   have z24 := hL22.size
   have hf := hf.step0 hL22
   have hL19 := hL19.step0 hL22
   have hL := hL.keep rec_st (lU hU (by omega)) hL22 nF
   refine sreg ?_
   refine svP (xlss rfl rfl) (fun hc36 => ?_) (fun hc36 => ?_)
   ·
    refine send (fg [(27, _), (28, _), (29, _), (33, _), (34, _), (35, _), (36, _)] ⟨rfl, rfl, rfl, rfl, rfl, rfl, rfl, ⟨⟩⟩ fun _ => (wp_seq (cyes rfl (wp_skip (nThen (fg [(27, _), (28, _), (29, _), (33, _), (34, _), (35, _)] ⟨rfl, rfl, rfl, rfl, rfl, rfl, ⟨⟩⟩ fun _ => (wp_seq (wp_block ?_))))))))
    obtain ⟨r, hrk⟩ := some_of_lt (by omega : k < l.length)
    have hrf := hfr l hlm r (List.mem_of_getElem? hrk)
    have hrf0 := hrf
    simp only [RecD.fits] at hrf0
    refine sreg ?_
    obtain ⟨bE37, oE37, sgE37, rfl, uE37, hsE37, heE37⟩ := LA.get hL hrk
    obtain ⟨vd, vt, vp, rfl, hd, ht, hp⟩ := heE37
    have zE37 := hU _ uE37
    obtain ⟨ad, cd, rfl, -⟩ := id hd
    obtain ⟨at1, ct1, rfl⟩ := ht.form
    obtain ⟨ap1, cp1, rfl⟩ := hp.form
    refine sv (xidx sl32 sz65 rfl rfl rfl (by omega)) (sv (xldS (lens := lRec) ro65 rfl hsE37) ?_)
    refine svK (xallS (lens := lRec) in65 rfl) ?_
    rintro _ w26 ⟨b8, rfl, m27, h8, e25, s25⟩
    have hf := hf.step0 m27
    have hL19 := hL19.step0 m27
    have hL22 := hL22.step0 m27
    refine suK (xstW h8 (lens' := lRec) sz65 rfl rfl rfl rfl rfl) ?_
    rintro w29 ⟨m30, h8, s28⟩
    have hf := hf.step m30 (fun k hk hS => by have hS : k = b8 := hS; show False; omega)
    have hL19 := hL19.step m30 (fun k hk hS => by have hS : k = b8 := hS; show False; omega)
    have hL22 := hL22.step m30 (fun k hk hS => by have hS : k = b8 := hS; show False; omega)
    refine send (fg [(8, _), (27, _), (28, _), (29, _), (33, _), (34, _), (35, _)] ⟨rfl, rfl, rfl, rfl, rfl, rfl, rfl, ⟨⟩⟩ fun _ => (sreg (sv (xfld fl65_0 rfl) (sv (xld on9 rfl (h8.r.c 0 rfl rfl)) ?_))))
    refine sc (xcall ca34 rfl) (c34 (by omega)) ?_
    rintro _ w31 ⟨gb41, rfl, gp41, m32⟩
    have z33 := m32.size
    have hf := hf.step0 m32
    have hL19 := hL19.step0 m32
    have hL22 := hL22.step0 m32
    have h8 := h8.keep m32 id
    rcases Bool.eq_false_or_eq_true gb41 with rfl | rfl
    ·
     refine sv (xnot rfl) (sM rfl (gyes rfl rfl rfl (sv (xfld fl65_7 rfl) (gyes rfl rfl rfl (sv (xld on9 rfl (h8.r.c 7 rfl rfl)) (gyes rfl rfl rfl ?_))))))
     refine sc (xcall ca34 rfl) (c34 (by omega)) ?_
     rintro _ w34 ⟨gb46, rfl, gp46, m35⟩
     have z36 := m35.size
     have hf := hf.step0 m35
     have hL19 := hL19.step0 m35
     have hL22 := hL22.step0 m35
     have h8 := h8.keep m35 id
     rcases Bool.eq_false_or_eq_true gb46 with rfl | rfl
     ·
      refine gyes rfl rfl rfl (sv (xnot rfl) (sv (xpickF rfl rfl) (sM rfl (gyes rfl rfl rfl (sv (xfld fl65_8 rfl) (gyes rfl rfl rfl (sv (xld on9 rfl (h8.r.c 8 rfl rfl)) (gyes rfl rfl rfl ?_))))))))
      refine sc (xcall ca34 rfl) (c34 (by omega)) ?_
      rintro _ w37 ⟨gb52, rfl, gp52, m38⟩
      have z39 := m38.size
      have hf := hf.step0 m38
      have hL19 := hL19.step0 m38
      have hL22 := hL22.step0 m38
      rcases Bool.eq_false_or_eq_true gb52 with rfl | rfl
      ·
       refine gyes rfl rfl rfl (sv (xnot rfl) (sv (xpickF rfl rfl) (send (fg [(27, _), (28, _), (29, _), (33, _), (34, _), (35, _), (54, _)] ⟨rfl, rfl, rfl, rfl, rfl, rfl, rfl, ⟨⟩⟩ fun _ => (cno rfl (wp_skip (nBlock (nThen (fg [(27, _), (28, _), (29, _), (33, _), (34, _), (35, _)] ⟨rfl, rfl, rfl, rfl, rfl, rfl, ⟨⟩⟩ fun _ => (lreg (sv (xadd rfl rfl (w64 (by omega) (by omega))) (sM rfl (lend (nThen ?_))))))))))))))
       refine ⟨k + 1, _, env_okl ⟨rfl, rfl, rfl, rfl, rfl, rfl, trivial⟩, ⟨hL22, (by omega), (upto_step hI hrk ⟨gp41 rfl, gp46 rfl, gp52 rfl⟩)⟩, ?_⟩
       show l.length - (k + 1) < l.length - k; omega
      ·
       refine gyes rfl rfl rfl (sv (xnot rfl) (sv (xpickF rfl rfl) (send (fg [(27, _), (28, _), (29, _), (33, _), (34, _), (35, _), (54, _)] ⟨rfl, rfl, rfl, rfl, rfl, rfl, rfl, ⟨⟩⟩ fun _ => (cyes rfl (sreg (sA rfl (send (fg [(2, _)] ⟨rfl, ⟨⟩⟩ fun _ => (wp_ret (rBlock (rThen (rThen (rBlock (rBlock (rThen (rThen (rBlock (rThen ?_)))))))))))))))))))
       refine rp1 rfl rfl ?_
       exact ⟨_, rfl, (fun h => by cases h), hf⟩
     ·
      refine gyes rfl rfl rfl (sv (xnot rfl) (sv (xpickF rfl rfl) (sM rfl (gno rfl rfl rfl (gno rfl rfl rfl (gno rfl rfl rfl (gno rfl rfl rfl (sv (xpickT rfl rfl) (send (fg [(27, _), (28, _), (29, _), (33, _), (34, _), (35, _), (54, _)] ⟨rfl, rfl, rfl, rfl, rfl, rfl, rfl, ⟨⟩⟩ fun _ => (cyes rfl (sreg (sA rfl (send (fg [(2, _)] ⟨rfl, ⟨⟩⟩ fun _ => (wp_ret (rBlock (rThen (rThen (rBlock (rBlock (rThen (rThen (rBlock ?_))))))))))))))))))))))))
      refine rThen ?_
      refine rp1 rfl rfl ?_
      exact ⟨_, rfl, (fun h => by cases h), hf⟩
    ·
     refine sv (xnot rfl) (sM rfl (gno rfl rfl rfl (gno rfl rfl rfl (gno rfl rfl rfl (gno rfl rfl rfl (sv (xpickT rfl rfl) (sM rfl (gno rfl rfl rfl (gno rfl rfl rfl (gno rfl rfl rfl (gno rfl rfl rfl (sv (xpickT rfl rfl) (send (fg [(27, _), (28, _), (29, _), (33, _), (34, _), (35, _), (54, _)] ⟨rfl, rfl, rfl, rfl, rfl, rfl, rfl, ⟨⟩⟩ fun _ => (cyes rfl (sreg (sA rfl (send (fg [(2, _)] ⟨rfl, ⟨⟩⟩ fun _ => (wp_ret (rBlock (rThen (rThen (rBlock ?_))))))))))))))))))))))))
     refine rBlock (rThen (rThen (rBlock (rThen ?_))))
     refine rp1 rfl rfl ?_
     exact ⟨_, rfl, (fun h => by cases h), hf⟩
   ·
    refine send (fg [(27, _), (28, _), (29, _), (33, _), (34, _), (35, _), (36, _)] ⟨rfl, rfl, rfl, rfl, rfl, rfl, rfl, ⟨⟩⟩ fun _ => (wp_seq (cno rfl (wp_exit (eThen (eThen (eHit (nBlock (nThen (fg [(27, _), (28, _), (29, _)] ⟨rfl, rfl, rfl, ⟨⟩⟩ fun _ => (lreg (sv (xadd rfl rfl (w64 (by omega) (by omega))) (sM rfl (lend (nThen ?_)))))))))))))))
    refine ⟨i + 1, _, env_okl ⟨rfl, rfl, rfl, trivial⟩, ⟨hL19, (by omega), (upto_step hO hul (upto_all hI (by omega)))⟩, ?_⟩
    show 3 - (i + 1) < 3 - i; omega
  ·
   refine send (fg [(27, _), (28, _), (29, _), (30, _)] ⟨rfl, rfl, rfl, rfl, ⟨⟩⟩ fun _ => (wp_seq (cno rfl (wp_exit (eThen (eThen (eHit (nThen (fg [] trivial fun _ => (sreg (sA rfl (send (fg [(2, _)] ⟨rfl, ⟨⟩⟩ fun _ => (wp_ret ?_))))))))))))))
   refine rp1 rfl rfl ?_
   exact ⟨_, rfl, (fun _ => ⟨upto_all hT (by omega), upto_all hO (by simp; omega)⟩), hf⟩
end Go.Proofs.YtifnodoffgfpbaaGreatDoor

namespace Go.Proofs.YtifnodoffgfpbaaGreatDoor
open Go

theorem or16 (a b : Nat) (ha : a < 65536) (hb : b < 65536) : bits .or .u16 (a : Int) (b : Int) = ((a ||| b : Nat) : Int) := by
  have hx : a ||| b < 2 ^ 16 := Nat.or_lt_two_pow (by omega) (by omega)
  show IntKind.u16.wrap ((BitVec.ofInt 16 (a : Int) ||| BitVec.ofInt 16 (b : Int)).toNat : Int) = _
  simp only [ofInt_nat, BitVec.toNat_or, BitVec.toNat_ofNat]
  rw [Nat.mod_eq_of_lt (by omega), Nat.mod_eq_of_lt (by omega)]
  exact wu16 (by omega) (by omega)
theorem or32 (a b : Nat) (ha : a < 4294967296) (hb : b < 4294967296) : bits .or .u32 (a : Int) (b : Int) = ((a ||| b : Nat) : Int) := by
  have hx : a ||| b < 2 ^ 32 := Nat.or_lt_two_pow (by omega) (by omega)
  show IntKind.u32.wrap ((BitVec.ofInt 32 (a : Int) ||| BitVec.ofInt 32 (b : Int)).toNat : Int) = _
  simp only [ofInt_nat, BitVec.toNat_or, BitVec.toNat_ofNat]
  rw [Nat.mod_eq_of_lt (by omega), Nat.mod_eq_of_lt (by omega)]
  exact wu32 (by omega) (by omega)
theorem or64 (a b : Nat) (ha : a < 1073741824) (hb : b < 1073741824) : bits .or .i64 (a : Int) (b : Int) = ((a ||| b : Nat) : Int) := by
  have hx : a ||| b < 2 ^ 30 := Nat.or_lt_two_pow (by omega) (by omega)
  show IntKind.i64.wrap ((BitVec.ofInt 64 (a : Int) ||| BitVec.ofInt 64 (b : Int)).toNat : Int) = _
  simp only [ofInt_nat, BitVec.toNat_or, BitVec.toNat_ofNat]
  rw [Nat.mod_eq_of_lt (by omega), Nat.mod_eq_of_lt (by omega)]
  exact w64 (by omega) (by omega)
theorem and16 (a b : Nat) (ha : a < 65536) (hb : b < 65536) : bits .and .u16 (a : Int) (b : Int) = ((a &&& b : Nat) : Int) := by
  have hx : a &&& b < 2 ^ 16 := Nat.and_lt_two_pow _ (by omega)
  show IntKind.u16.wrap ((BitVec.ofInt 16 (a : Int) &&& BitVec.ofInt 16 (b : Int)).toNat : Int) = _
  simp only [ofInt_nat, BitVec.toNat_and, BitVec.toNat_ofNat]
  rw [Nat.mod_eq_of_lt (by omega), Nat.mod_eq_of_lt (by omega)]
  exact wu16 (by omega) (by omega)
/-- a high part and a low part -/
theorem or_sum {i a b : Nat} (hb : b < 2 ^ i) (ha : a % 2 ^ i = 0) : a ||| b = a + b := by
  have e : a = 2 ^ i * (a / 2 ^ i) := by have := Nat.div_add_mod a (2 ^ i); omega
  rw [e, or_add hb]
section
variable {P : Program} {n : Nat} {l : List (Nat × Value)} {w : World} {ty : TypeId} {x y : Operand}
theorem xor16S {T U : TypeId} {a b c : Nat} (i : Nat) (hx : ev n l x = some (.int .u16 (a : Int))) (hy : ev n l y = some (.int .u16 (b : Int))) (ha : a % 2 ^ i = 0) (hb : b < 2 ^ i) (hc : a + b = c) (hl : c < 65536) :
    Ex P n l (.binOp .or T x y U) ty w (.int .u16 (c : Int)) w :=
  xbin hx hy rfl (by rw [binOp_or, intBits_or, or16 a b (by omega) (by omega), or_sum hb ha, hc]; rfl)
theorem xor32S {T U : TypeId} {a b c : Nat} (i : Nat) (hx : ev n l x = some (.int .u32 (a : Int))) (hy : ev n l y = some (.int .u32 (b : Int))) (ha : a % 2 ^ i = 0) (hb : b < 2 ^ i) (hc : a + b = c) (hl : c < 4294967296) :
    Ex P n l (.binOp .or T x y U) ty w (.int .u32 (c : Int)) w :=
  xbin hx hy rfl (by rw [binOp_or, intBits_or, or32 a b (by omega) (by omega), or_sum hb ha, hc]; rfl)
theorem xor64S {T U : TypeId} {a b c : Nat} (i : Nat) (hx : ev n l x = some (.int .i64 (a : Int))) (hy : ev n l y = some (.int .i64 (b : Int))) (ha : a % 2 ^ i = 0) (hb : b < 2 ^ i) (hc : a + b = c) (hl : c < 1073741824) :
    Ex P n l (.binOp .or T x y U) ty w (.int .i64 (c : Int)) w :=
  xbin hx hy rfl (by rw [binOp_or, intBits_or, or64 a b (by omega) (by omega), or_sum hb ha, hc]; rfl)
theorem xand16N {T U : TypeId} {a b c : Nat} (hx : ev n l x = some (.int .u16 (a : Int))) (hy : ev n l y = some (.int .u16 (b : Int))) (ha : a < 65536) (hb : b < 65536) (hc : a &&& b = c) :
    Ex P n l (.binOp .and T x y U) ty w (.int .u16 (c : Int)) w :=
  xbin hx hy rfl (by rw [binOp_and, intBits_and, and16 a b ha hb, hc]; rfl)
theorem xex20 {a b : Value} (hx : ev n l x = some (.tuple #[a, b])) : Ex P n l (.extract x 0) ty w a w := xextr hx rfl
theorem xex21 {a b : Value} (hx : ev n l x = some (.tuple #[a, b])) : Ex P n l (.extract x 1) ty w b w := xextr hx rfl
theorem xex30 {a b c : Value} (hx : ev n l x = some (.tuple #[a, b, c])) : Ex P n l (.extract x 0) ty w a w := xextr hx rfl
theorem xex31 {a b c : Value} (hx : ev n l x = some (.tuple #[a, b, c])) : Ex P n l (.extract x 1) ty w b w := xextr hx rfl
theorem xex32 {a b c : Value} (hx : ev n l x = some (.tuple #[a, b, c])) : Ex P n l (.extract x 2) ty w c w := xextr hx rfl
theorem xadds {T U : TypeId} {a b : ByteArray} (hx : ev n l x = some (.string a)) (hy : ev n l y = some (.string b)) (hl : a.size < 1000000000) (hm : b.size < 1000000000) : Ex P n l (.binOp .add T x y U) ty w (.string (a ++ b)) w :=
  xbin hx hy rfl (by simp [binOp, Op.stringOp]; omega)
end
theorem mkB_app (a b : List UInt8) : mkB a ++ mkB b = mkB (a ++ b) := by
  apply ByteArray.ext
  simp
theorem hi_lo {x : Nat} (h : x < 65536) : (UInt8.ofNat (x / 256)).toNat = x / 256 ∧ (UInt8.ofNat x).toNat = x % 256 := by
  have h1 : x / 256 < 256 := by omega
  have e1 := UInt8.toNat_ofNat' (n := x / 256)
  have e2 := UInt8.toNat_ofNat' (n := x)
  exact ⟨by rw [e1]; omega, by rw [e2]⟩
theorem std_cells {w : World} {g o : Nat} {b : List UInt8} (hB : w.rangeAt g o (bvs b)) {p : Nat} {xs : List UInt8} (h : Std b p xs) : w.rangeAt g (o + p) (bvs xs) := fun j v hv => by
  simp only [bvs, List.getElem?_map, Option.map_eq_some_iff] at hv
  obtain ⟨c, hc, rfl⟩ := hv
  have := hB (p + j) (bv c) (by simp only [bvs, List.getElem?_map, h j c hc]; rfl)
  rw [Nat.add_assoc]; exact this
theorem std_cell {w : World} {g o : Nat} {b : List UInt8} (hB : w.rangeAt g o (bvs b)) {p : Nat} {c : UInt8} (h : b[p]? = some c) : w.cell? ⟨g, o + p, none⟩ = some (.int .u8 (c.toNat : Int)) :=
  hB p (bv c) (by simp only [bvs, List.getElem?_map, h]; rfl)
end Go.Proofs.YtifnodoffgfpbaaGreatDoor

namespace Go.Proofs.YtifnodoffgfpbaaGreatDoor
open Go

abbrev lRd : List Nat := [1, 1, 1, 1]
/-- the reader: its bytes, its place; it is not bad -/
def rdSegs (bb ob cb : Nat) (b : List UInt8) (p : Nat) (wh : Bool) : List (List Value) := [[.slice (some ⟨bb, ob, none⟩) b.length cb], [.int .i64 (p : Int)], [.bool false], [.bool wh]]
theorem w64n {c : Int} (n : Nat) (h : c = (n : Int)) (hl : n < 9223372036854775807) : IntKind.i64.wrap c = (n : Int) := by rw [h]; exact w64 (by omega) (by omega)
theorem cut_rng {w : World} {g o o' p c : Nat} {b xs : List UInt8} (hB : w.rangeAt g o (bvs b)) (h : Std b p xs) (ho : p < c → o' = o + p * 1) (hc : p + xs.length ≤ c) : w.rangeAt g o' (bvs xs) := by
  cases xs with
  | nil => intro j v hv; simp [bvs] at hv
  | cons x xs =>
    rw [ho (by simp at hc; omega), Nat.mul_one]
    exact std_cells hB h
theorem u8_ne46 {c : UInt8} (h : c ≠ 46) : ¬ ((c.toNat : Int) = 46) := fun e => h (u8eq e)
theorem bvs_get {xs : List UInt8} {k : Nat} (h : k < xs.length) : (bvs xs)[k]? = some (.int .u8 ((xs[k]'h).toNat : Int)) := by
  simp only [bvs, List.getElem?_map, List.getElem?_eq_getElem h]; rfl
theorem take_ba {w : World} {g o k c : Nat} {xs : List UInt8} (h : w.rangeAt g o (bvs xs)) (hk : xs.length = k) : BA (fun i => i = g) w (.slice (some ⟨g, o, none⟩) k c) xs := by
  subst hk; exact ⟨_, c, rfl, fun _ => ⟨g, o, rfl, rfl, h⟩⟩
theorem nameL_ne {s : List UInt8} (h : nameL s) : s ≠ [] := by
  intro e; subst e
  have := name_pos h; simp at this
theorem NameR.at0 {b s : List UInt8} {st k i nx : Nat} {n : UInt8} (h : NameR b st k i s nx) (hn : b[i]? = some n) (h0 : (n.toNat : Int) = 0) : k = 0 ∧ s = [] ∧ nx = i + 1 := by
  cases h with
  | fin hb => exact ⟨rfl, rfl, rfl⟩
  | lab lab hl h63 hd hb hs h =>
    rw [hb] at hn; simp only [Option.some.injEq] at hn; subst hn
    have : lab.length ≠ 0 := fun e => hl (List.eq_nil_of_length_eq_zero e)
    simp only [UInt8.toNat_ofNat'] at h0; omega
  | ptr h1 h14 hb hb2 h =>
    rw [hb] at hn; simp only [Option.some.injEq] at hn; subst hn
    simp only [UInt8.toNat_ofNat'] at h0; omega
theorem NameR.atLab {b s : List UInt8} {st k i nx : Nat} {n : UInt8} (h : NameR b st k i s nx) (hn : b[i]? = some n) (h0 : ¬ (n.toNat : Int) = 0) (h64 : (n.toNat : Int) < 64) :
    ∃ lab s', s = lab ++ 46 :: s' ∧ lab.length = n.toNat ∧ lab ≠ [] ∧ (∀ c ∈ lab, c ≠ 46) ∧ Std b (i + 1) lab ∧ NameR b st k (i + 1 + lab.length) s' nx := by
  cases h with
  | fin hb => rw [hb] at hn; simp only [Option.some.injEq] at hn; subst hn; exact absurd rfl h0
  | lab lab hl h63 hd hb hs h =>
    rw [hb] at hn; simp only [Option.some.injEq] at hn; subst hn
    exact ⟨lab, _, rfl, by simp only [UInt8.toNat_ofNat']; omega, hl, hd, hs, h⟩
  | ptr h1 h14 hb hb2 h =>
    rw [hb] at hn; simp only [Option.some.injEq] at hn; subst hn
    simp only [UInt8.toNat_ofNat'] at h64; omega
theorem NameR.atPtr {b s : List UInt8} {st k i nx : Nat} {n : UInt8} (h : NameR b st k i s nx) (hn : b[i]? = some n) (h64 : ¬ (n.toNat : Int) < 64) :
    ∃ to k' nx', k = k' + 1 ∧ to < st ∧ to ≤ 16383 ∧ n.toNat = 192 + to / 256 ∧ b[i + 1]? = some (UInt8.ofNat to) ∧ nx = i + 2 ∧ NameR b to k' to s nx' := by
  cases h with
  | fin hb => rw [hb] at hn; simp only [Option.some.injEq] at hn; subst hn; exact absurd (by decide) h64
  | lab lab hl h63 hd hb hs h =>
    rw [hb] at hn; simp only [Option.some.injEq] at hn; subst hn
    simp only [UInt8.toNat_ofNat'] at h64; omega
  | ptr h1 h14 hb hb2 h =>
    rw [hb] at hn; simp only [Option.some.injEq] at hn; subst hn
    exact ⟨_, _, _, rfl, h1, h14, by simp only [UInt8.toNat_ofNat']; omega, hb2, rfl, h⟩
theorem NameR.labLe {b s : List UInt8} {st k i nx : Nat} {n : UInt8} (h : NameR b st k i s nx) (hn : b[i]? = some n) (h0 : ¬ (n.toNat : Int) = 0) (h64 : (n.toNat : Int) < 64) : i + 1 + n.toNat ≤ b.length := by
  obtain ⟨lab, s', _, hl, _, _, _, h'⟩ := h.atLab hn h0 h64
  have := h'.le; omega
theorem NameR.ptrLe {b s : List UInt8} {st k i nx : Nat} {n : UInt8} (h : NameR b st k i s nx) (hn : b[i]? = some n) (h64 : ¬ (n.toNat : Int) < 64) : 192 ≤ n.toNat ∧ i + 1 < b.length := by
  obtain ⟨to, k', nx', _, _, _, hl, hb, _, h'⟩ := h.atPtr hn h64
  have := (List.getElem?_eq_some_iff.1 hb).1
  omega
theorem txt_le (s : List UInt8) : (txt s).length ≤ s.length := by
  rw [txt]; split <;> simp
theorem txt_nil {s : List UInt8} (h0 : s ≠ []) (h : txt s = []) : s = [46] := by
  by_cases hd : s = [46]
  · exact hd
  · rw [txt, if_neg hd] at h; exact absurd h h0
theorem txt_ne {s : List UInt8} (h : txt s ≠ []) : txt s = s := by
  by_cases hd : s = [46]
  · rw [txt, if_pos hd] at h; exact absurd rfl h
  · rw [txt, if_neg hd]
theorem some_get {b : List UInt8} {i : Nat} (h : i < b.length) : ∃ n, b[i]? = some n := ⟨_, List.getElem?_eq_getElem h⟩
theorem mkB_nil {o : List UInt8} (h : mkB o = ⟨#[]⟩) : o = [] := by
  have := congrArg bt h
  rw [bt_mkB] at this; exact this
theorem mkB3 {P : Program} {n : Nat} {l : List (Nat × Value)} {op : Op} {ty : TypeId} {w w' : World} {o lab : List UInt8} (h : Ex P n l op ty w (.string (mkB o ++ (mkB lab ++ ⟨#[46]⟩))) w') : Ex P n l op ty w (.string (mkB (o ++ (lab ++ [46])))) w' := by
  have e : mkB o ++ (mkB lab ++ ⟨#[46]⟩) = mkB (o ++ (lab ++ [46])) := by rw [← mkB_app, ← mkB_app]
  rw [← e]; exact h
/-- one part, joined -/
theorem c21_1 {w : World} {g o c : Nat} {u : Value} {bs : List UInt8} {U : Nat → Prop} (hr : w.rangeAt g o [u]) (hb : g < w.heap.size) (hU : ∀ k, U k → k < w.heap.size) (hu : BA U w u bs) (hl : bs.length < 1000000000) :
    Ret PP 21 [.slice (some ⟨g, o, none⟩) 1 c] w (New w bs.length bs) := by
  have := c21 (c := c) (bss := [bs]) hr hb rfl hU (All2.cons hu All2.nil) (by simpa using hl) (by simp)
  simpa using this
theorem pairs_at {b : List UInt8} {p : Nat} {ps : List PairD} (h : Std b p (pairsL ps)) {k : Nat} {q : PairD} (hk : ps[k]? = some q) : Std b (p + (pairsL (ps.take k)).length) (pairL q) := by
  have e : ps = ps.take (k + 1) ++ ps.drop (k + 1) := (List.take_append_drop _ _).symm
  rw [e, pairsL, List.map_append, List.flatten_append, take_snoc hk, List.map_append, List.flatten_append] at h
  have := h.left.right
  rw [List.map_cons, List.map_nil, List.flatten_cons, List.flatten_nil, List.append_nil] at this
  exact this
theorem pairs_take_lt {ps : List PairD} {k : Nat} {q : PairD} (hk : ps[k]? = some q) : (pairsL (ps.take k)).length + 4 + q.data.length ≤ (pairsL ps).length := by
  have h : (ps.map pairL)[k]? = some (pairL q) := by rw [List.getElem?_map, hk]; rfl
  have := flat_take_le h
  rw [← List.map_take] at this
  simp only [pairsL]
  simp only [pairL, List.length_append, be16_length] at this
  omega

set_option maxHeartbeats 4000000 in
set_option maxRecDepth 100000 in
theorem c94 {w : World} {br bb ob cb : Nat} {b : List UInt8} {p : Nat} {wh : Bool} (hr : SB w br lRd (rdSegs bb ob cb b p wh)) (hB : w.rangeAt bb ob (bvs b)) (hbb : bb < w.heap.size) (hbr : bb ≠ br) (hcb : b.length ≤ cb) (hbl : b.length < 100000000) {xs : List UInt8} {k : Nat} (hx : Std b p xs) (hk : xs.length = k) (hxl : p + k ≤ b.length) :
  Ret PP 94 [.pointer (some ⟨br, 0, none⟩), .int .i64 (k : Int)] w (fun u w' => ∃ o' c', u = .slice (some ⟨bb, o', none⟩) k c' ∧ w'.rangeAt bb o' (bvs xs) ∧ SB w' br lRd (rdSegs bb ob cb b (p + k) wh) ∧ Fr (fun k => k = br) w w') := by
 have hf : Fr (fun k => k = br) w w := Fr.refl _ _
 have z_hr := hr.lt
 refine ret_of Tryz.func94 rfl rfl rfl [(0, _), (1, _)] rfl ?_
 refine sreg (sA rfl (send (fg [(0, _), (1, _)] ⟨rfl, rfl, ⟨⟩⟩ fun _ => (wp_seq ?_))))
 refine sdraw (Fr (fun _ => False) w.drew) [(0, .rd), (1, .rd), (2, .rd), (3, .rd), (4, .rd), (5, .rd), (6, .rd), (7, .rd), (8, .rd), (9, .rd), (10, .rd), (11, .rd), (12, .rd), (13, .rd), (14, .rd), (15, .rd), (16, .rd), (17, .rd), (18, .rd), (19, .rd), (20, .rd), (21, .rd)] mixed (by kernel_rfl) (fun _ _ _ _ _ h => h) ?_
 have z1 : w.drew.heap.size = w.heap.size := rfl
 have hr := hr.drew
 have hB := rng_fr hB (fd w) (by omega) id
 have hf := hf.drew
 have hS2 : Fr (fun _ => False) w.drew w.drew := Fr.refl _ _
 refine ggM rfl rfl hS2 (ggN rfl rfl hS2 (hv rfl (fun _ _ => xfld fl95_2 rfl) hS2 (hv rfl (fun w' hS => xld on4 rfl ((hr.keep hS id).r.c 2 rfl rfl)) hS2 (ggM rfl rfl hS2 (hvg rfl rfl rfl (fun _ _ => xmove rfl) hS2 (hvg rfl rfl rfl (fun _ _ => exF (xlss rfl rfl) (by omega)) hS2 (hv rfl (fun _ _ => xpickF rfl rfl) hS2 (ggM rfl rfl hS2 (hvg rfl rfl rfl (fun _ _ => xmove rfl) hS2 (hvg rfl rfl rfl (fun _ _ => xmove rfl) hS2 (hvg rfl rfl rfl (fun _ _ => xnilc rfl) hS2 (hvg rfl rfl rfl (fun _ _ => xfld fl95_0 rfl) hS2 (hvg rfl rfl rfl (fun w' hS => xld on37 rfl ((hr.keep hS id).r.c 0 rfl rfl)) hS2 (hvg rfl rfl rfl (fun _ _ => xlen sl37 rfl) hS2 (hvg rfl rfl rfl (fun _ _ => xmove rfl) hS2 (hvg rfl rfl rfl (fun _ _ => xnilc rfl) hS2 (hvg rfl rfl rfl (fun _ _ => xfld fl95_1 rfl) hS2 (hvg rfl rfl rfl (fun w' hS => xld on3 rfl ((hr.keep hS id).r.c 1 rfl rfl)) hS2 (hvg rfl rfl rfl (fun _ _ => xsub rfl rfl (w64 (by omega) (by omega))) hS2 (hvg rfl rfl rfl (fun _ _ => exF (xgtr rfl rfl) (by omega)) hS2 (hv rfl (fun _ _ => xpickF rfl rfl) hS2 (hend (fg [(0, _), (1, _), (26, _)] ⟨rfl, rfl, rfl, ⟨⟩⟩ fun _ => (cno rfl ?_))))))))))))))))))))))))
 refine wp_skip (nThen (fg [(0, _), (1, _)] ⟨rfl, rfl, ⟨⟩⟩ fun _ => (sreg (sM rfl (sN rfl (sv (xfld fl95_1 rfl) (sv (xld on3 rfl (hr.r.c 1 rfl rfl)) (sM rfl (sv (xadd rfl rfl (w64n (p + k) (by omega) (by omega))) (sN rfl (sv (xfld fl95_1 rfl) ?_)))))))))))
 refine suK (xstF 1 sz3 hr rfl rfl rfl rfl rfl) ?_
 rintro w4 ⟨m5, hr, s3⟩
 have hB := rng_fr hB m5 (by omega) (by show ¬ (bb = br); omega)
 have hf := hf.step m5 (fun k hk hS => by have hS : k = br := hS; show k = br; omega)
 refine send (fg [(0, _), (1, _)] ⟨rfl, rfl, ⟨⟩⟩ fun _ => ?_)
 refine sdraw (Fr (fun _ => False) w4.drew) [(0, .rd), (1, .rd), (2, .rd), (3, .rd), (4, .rd), (5, .rd), (6, .rd), (7, .rd), (8, .rd), (9, .rd), (10, .rd), (11, .rd), (12, .rd), (13, .rd), (14, .ld), (15, .rd)] mixed (by kernel_rfl) (fun _ _ _ _ _ h => h) ?_
 have z6 : w4.drew.heap.size = w4.heap.size := rfl
 have hr := hr.drew
 have hB := rng_fr hB (fd w4) (by omega) id
 have hf := hf.drew
 have hS7 : Fr (fun _ => False) w4.drew w4.drew := Fr.refl _ _
 refine ggM rfl rfl hS7 (ggN rfl rfl hS7 (hv rfl (fun _ _ => xfld fl95_0 rfl) hS7 (hv rfl (fun w' hS => xld on37 rfl ((hr.keep hS id).r.c 0 rfl rfl)) hS7 (ggM rfl rfl hS7 (ggN rfl rfl hS7 (hv rfl (fun _ _ => xfld fl95_1 rfl) hS7 (hv rfl (fun w' hS => xld on3 rfl ((hr.keep hS id).r.c 1 rfl rfl)) hS7 (ggM rfl rfl hS7 (hv rfl (fun _ _ => xsub rfl rfl (w64n (p) (by omega) (by omega))) hS7 (ggM rfl rfl hS7 (ggN rfl rfl hS7 (hv rfl (fun _ _ => xfld fl95_1 rfl) hS7 (hv rfl (fun w' hS => xld on3 rfl ((hr.keep hS id).r.c 1 rfl rfl)) hS7 ?_)))))))))))))
 refine hlK rfl (xcutLH (lo := p) (hi := p + k) sl37 sz5 rfl rfl rfl (by omega) (by omega) (by omega) (by omega)) ?_
 rintro _ w4.drew ⟨o55, rfl, ho55, rfl⟩
 refine ⟨hS7, ?_⟩
 refine ggA rfl rfl hS7 (hend (fg [(4, _)] ⟨rfl, ⟨⟩⟩ fun _ => (wp_ret ?_)))
 refine rp1 rfl rfl ?_
 have e55 : p + k - p = k := by omega
 rw [e55]
 exact ⟨o55, _, rfl, cut_rng hB hx ho55 (by omega), hr, hf⟩
set_option maxHeartbeats 4000000 in
set_option maxRecDepth 100000 in
theorem c95 {w : World} {bb o m c : Nat} {xs : List UInt8} (hx : w.rangeAt bb o (bvs xs)) (hbb : bb < w.heap.size) (hm : xs.length = m) (hml : m < 100000000) (hd : ∀ c ∈ xs, c ≠ 46) :
  Ret PP 95 [.slice (some ⟨bb, o, none⟩) m c] w (fun u w' => u = .bool false ∧ Fr0 w w') := by
 have hf : Fr (fun _ => False) w w := Fr.refl _ _
 refine ret_of Tryz.func95 rfl rfl rfl [(0, _)] rfl ?_
 refine sreg (sA rfl (send (fg [(0, _)] ⟨rfl, ⟨⟩⟩ fun _ => (wp_seq (sreg (sM rfl (sv (xlen sl37 rfl) (sM rfl (send (fg [(5, _), (6, _), (7, _)] ⟨rfl, rfl, rfl, ⟨⟩⟩ fun _ => (wp_block ?_)))))))))))
 refine lp [(5, _), (6, _)] (fun (k : Nat) => [(7, .int .i64 (k : Int))]) (fun (k : Nat) wx => Fr (fun _ => False) w wx ∧ (k ≤ m)) (fun (k : Nat) => m - k) 0 ⟨rfl, rfl, rfl, trivial⟩ ⟨Fr.refl _ _, Nat.zero_le _⟩ ?_
 rintro k _ w2 ⟨hL1, hk⟩
 refine fg [(5, _), (6, _), (7, _)] ⟨rfl, rfl, rfl, ⟨⟩⟩ fun _ => ?_
 have z3 := hL1.size
 have hx := rng_fr hx hL1 (by omega) id
 have hf := hf.step0 hL1
 refine sreg ?_
 refine svP (xlss rfl rfl) (fun hc8 => ?_) (fun hc8 => ?_)
 ·
  refine send (fg [(5, _), (6, _), (7, _), (8, _)] ⟨rfl, rfl, rfl, rfl, ⟨⟩⟩ fun _ => (wp_seq (cyes rfl (wp_skip (nThen (fg [(5, _), (6, _), (7, _)] ⟨rfl, rfl, rfl, ⟨⟩⟩ fun _ => (wp_seq (wp_block (sreg (sv (xidx1 (i := k) sl37 sz5 rfl rfl rfl (by omega)) (sv (xld on5 rfl (hx k _ (bvs_get (by omega)))) (sA rfl (send (fg [(4, _), (5, _), (6, _), (7, _)] ⟨rfl, rfl, rfl, rfl, ⟨⟩⟩ fun _ => (sreg (sM rfl (sv (exF (xeql rfl rfl) (u8_ne46 (hd _ (List.getElem_mem (by omega))))) (send (fg [(5, _), (6, _), (7, _), (12, _)] ⟨rfl, rfl, rfl, rfl, ⟨⟩⟩ fun _ => (cno rfl (wp_skip (nBlock (nThen (fg [(5, _), (6, _), (7, _)] ⟨rfl, rfl, rfl, ⟨⟩⟩ fun _ => ?_))))))))))))))))))))))))
  refine lreg (sv (xadd rfl rfl (w64 (by omega) (by omega))) (sM rfl (lend (nThen ?_))))
  refine ⟨k + 1, _, env_okl ⟨rfl, rfl, rfl, trivial⟩, ⟨hL1, (by omega)⟩, ?_⟩
  show m - (k + 1) < m - k; omega
 ·
  refine send (fg [(5, _), (6, _), (7, _), (8, _)] ⟨rfl, rfl, rfl, rfl, ⟨⟩⟩ fun _ => (wp_seq (cno rfl (wp_exit (eThen (eThen (eHit (nThen (fg [] trivial fun _ => (sreg (sA rfl (send (fg [(2, _)] ⟨rfl, ⟨⟩⟩ fun _ => (wp_ret ?_))))))))))))))
  refine rp1 rfl rfl ?_
  exact ⟨rfl, hf⟩
set_option maxHeartbeats 4000000 in
set_option maxRecDepth 100000 in
theorem c41 {w : World} {br bb ob cb : Nat} {b : List UInt8} {p : Nat} {wh : Bool} (hr : SB w br lRd (rdSegs bb ob cb b p wh)) (hB : w.rangeAt bb ob (bvs b)) (hbb : bb < w.heap.size) (hbr : bb ≠ br) (hcb : b.length ≤ cb) (hbl : b.length < 100000000) {x : Nat} (hx : x < 65536) (hs : Std b p (be16 x)) :
  Ret PP 41 [.pointer (some ⟨br, 0, none⟩)] w (fun u w' => u = .int .u16 (x : Int) ∧ SB w' br lRd (rdSegs bb ob cb b (p + 2) wh) ∧ Fr (fun k => k = br) w w') := by
 have hsl := hs.le (by simp [be16])
 simp only [be16_length] at hsl
 have hhl := hi_lo hx
 have hf : Fr (fun k => k = br) w w := Fr.refl _ _
 have z_hr := hr.lt
 refine ret_of Tryz.func41 rfl rfl rfl [(0, _)] rfl ?_
 refine sreg (sA rfl (send (fg [(0, _)] ⟨rfl, ⟨⟩⟩ fun _ => (sreg (sM rfl ?_)))))
 refine sc (xcall ca94 rfl) (c94 (xs := be16 x) (k := 2) hr hB (by omega) (by omega) hcb hbl hs rfl (by omega)) ?_
 rintro _ w1 ⟨o5, c5, rfl, n5, hr, m2⟩
 have z3 := m2.size
 have hf := hf.step m2 (fun k hk hS => by have hS : k = br := hS; show k = br; omega)
 refine sA rfl (send (fg [(3, _)] ⟨rfl, ⟨⟩⟩ fun _ => ?_))
 refine sdraw (Fr (fun _ => False) w1.drew) [(0, .rd), (1, .rd), (2, .rd), (3, .rd), (4, .rd), (5, .rd), (6, .rd), (7, .rd), (8, .rd), (9, .rd), (10, .rd)] mixed (by kernel_rfl) (fun _ _ _ _ _ h => h) ?_
 have z4 : w1.drew.heap.size = w1.heap.size := rfl
 have hf := hf.drew
 have hr := hr.drew
 have n5 := rng_fr n5 (fd w1) (by omega) id
 have hS5 : Fr (fun _ => False) w1.drew w1.drew := Fr.refl _ _
 refine ggM rfl rfl hS5 (hv rfl (fun _ _ => xidx1 (i := 0) sl37 sz5 rfl rfl rfl (by omega)) hS5 (hv rfl (fun w' hS => xld on5 rfl ((rng_fr n5 hS (by omega) id) 0 _ rfl)) hS5 (hv rfl (fun _ _ => xconv hs5 ki22 rfl (wu16 (by omega) (by omega))) hS5 (hv rfl (fun _ _ => xshl (b := 8) (by decide) rfl rfl (wu16n (x / 256 * 256) (by omega))) hS5 (ggM rfl rfl hS5 (hv rfl (fun _ _ => xidx1 (i := 1) sl37 sz5 rfl rfl rfl (by omega)) hS5 (hv rfl (fun w' hS => xld on5 rfl ((rng_fr n5 hS (by omega) id) 1 _ rfl)) hS5 (hv rfl (fun _ _ => xconv hs5 ki22 rfl (wu16 (by omega) (by omega))) hS5 (hv rfl (fun _ _ => xor16S (a := x / 256 * 256) (b := (UInt8.ofNat x).toNat) (c := x) 8 rfl rfl (by omega) (by omega) (by omega) (by omega)) hS5 (ggA rfl rfl hS5 (hend (fg [(2, _)] ⟨rfl, ⟨⟩⟩ fun _ => (wp_ret ?_)))))))))))))
 refine rp1 rfl rfl ?_
 exact ⟨rfl, hr, hf⟩
set_option maxHeartbeats 4000000 in
set_option maxRecDepth 100000 in
theorem c154 {w : World} {br bb ob cb : Nat} {b : List UInt8} {p : Nat} {wh : Bool} (hr : SB w br lRd (rdSegs bb ob cb b p wh)) (hB : w.rangeAt bb ob (bvs b)) (hbb : bb < w.heap.size) (hbr : bb ≠ br) (hcb : b.length ≤ cb) (hbl : b.length < 100000000) {x : Nat} (hx : x < 4294967296) (hs : Std b p (be32 x)) :
  Ret PP 154 [.pointer (some ⟨br, 0, none⟩)] w (fun u w' => u = .int .u32 (x : Int) ∧ SB w' br lRd (rdSegs bb ob cb b (p + 4) wh) ∧ Fr (fun k => k = br) w w') := by
 rw [← be32_split] at hs
 have hf : Fr (fun k => k = br) w w := Fr.refl _ _
 have z_hr := hr.lt
 refine ret_of Tryz.func154 rfl rfl rfl [(0, _)] rfl ?_
 refine sreg (sA rfl (send (fg [(0, _)] ⟨rfl, ⟨⟩⟩ fun _ => (sreg (sM rfl ?_)))))
 refine sc (xcall ca41 rfl) (c41 (x := x / 65536) hr hB (by omega) (by omega) hcb hbl (by omega) hs.left) ?_
 rintro _ w1 ⟨rfl, hr, m2⟩
 have z3 := m2.size
 have hB := rng_fr hB m2 (by omega) (by show ¬ (bb = br); omega)
 have hf := hf.step m2 (fun k hk hS => by have hS : k = br := hS; show k = br; omega)
 refine sA rfl (send (fg [(0, _), (3, _)] ⟨rfl, rfl, ⟨⟩⟩ fun _ => (sreg (sM rfl (sv (xconv hs22 ki61 rfl (wu32 (by omega) (by omega))) (sv (xshl (b := 16) (by decide) rfl rfl (wu32n (x / 65536 * 65536) (by omega))) (sM rfl ?_)))))))
 refine sc (xcall ca41 rfl) (c41 (x := x % 65536) hr hB (by omega) (by omega) hcb hbl (by omega) (hs.right' rfl)) ?_
 rintro _ w4 ⟨rfl, hr, m5⟩
 have z6 := m5.size
 have hf := hf.step m5 (fun k hk hS => by have hS : k = br := hS; show k = br; omega)
 refine sv (xconv hs22 ki61 rfl (wu32 (by omega) (by omega))) (sv (xor32S (a := x / 65536 * 65536) (b := x % 65536) (c := x) 16 rfl rfl (by omega) (by omega) (by omega) (by omega)) (sA rfl (send (fg [(2, _)] ⟨rfl, ⟨⟩⟩ fun _ => (wp_ret ?_)))))
 refine rp1 rfl rfl ?_
 exact ⟨rfl, hr, hf⟩
set_option maxHeartbeats 4000000 in
set_option maxRecDepth 100000 in
theorem c42 {w : World} {br bb ob cb : Nat} {b : List UInt8} {p : Nat} {wh : Bool} (hr : SB w br lRd (rdSegs bb ob cb b p wh)) (hB : w.rangeAt bb ob (bvs b)) (hbb : bb < w.heap.size) (hbr : bb ≠ br) (hcb : b.length ≤ cb) (hbl : b.length < 100000000) {K e : Nat} {S : List UInt8} (hN : NameAt b K p S e) (hS0 : nameL S) :
  Ret PP 42 [.pointer (some ⟨br, 0, none⟩)] w (fun u w' => u = .string (mkB S) ∧ SB w' br lRd (rdSegs bb ob cb b e (wh && decide (K = 0))) ∧ Fr (fun k => k = br) w w') := by
 have hn0 : NameR b p K p (txt S) e := hN
 have hS := nameL_ne hS0
 have hSl := (name_pos hS0).2
 have hSt := txt_le S
 have hf : Fr (fun k => k = br) w w := Fr.refl _ _
 have z_hr := hr.lt
 refine ret_of Tryz.func42 rfl rfl rfl [(0, _)] rfl ?_
 refine sreg (sA rfl (send (fg [(0, _)] ⟨rfl, ⟨⟩⟩ fun _ => (sreg (sA rfl (send (fg [(0, _), (3, _)] ⟨rfl, rfl, ⟨⟩⟩ fun _ => ?_)))))))
 refine sdraw (Fr (fun _ => False) w.drew) [(0, .rd), (1, .rd), (2, .rd), (3, .rd), (4, .rd), (5, .rd), (6, .rd), (7, .rd), (8, .rd), (9, .rd), (10, .rd)] mixed (by kernel_rfl) (fun _ _ _ _ _ h => h) ?_
 have z1 : w.drew.heap.size = w.heap.size := rfl
 have hr := hr.drew
 have hB := rng_fr hB (fd w) (by omega) id
 have hf := hf.drew
 have hS2 : Fr (fun _ => False) w.drew w.drew := Fr.refl _ _
 refine ggM rfl rfl hS2 (ggN rfl rfl hS2 (hv rfl (fun _ _ => xfld fl95_1 rfl) hS2 (hv rfl (fun w' hS => xld on3 rfl ((hr.keep hS id).r.c 1 rfl rfl)) hS2 (ggM rfl rfl hS2 (ggN rfl rfl hS2 (hv rfl (fun _ _ => xfld fl95_1 rfl) hS2 (hv rfl (fun w' hS => xld on3 rfl ((hr.keep hS id).r.c 1 rfl rfl)) hS2 (ggA rfl rfl hS2 (ggA rfl rfl hS2 (ggA rfl rfl hS2 (hend (fg [(0, _), (3, _), (4, _), (5, _), (6, _)] ⟨rfl, rfl, rfl, rfl, rfl, ⟨⟩⟩ fun _ => (wp_seq (wp_block ?_))))))))))))))
 refine lp [(0, _)] (fun (x : Nat × Nat × Bool × Nat × List UInt8 × List UInt8 × Nat × Nat × Bool) => match x with | (i, st, jm, k, o, s, nx, pc, wc) => [(3, .string (mkB o)), (4, .int .i64 (i : Int)), (5, .int .i64 (st : Int)), (6, .bool jm)]) (fun (x : Nat × Nat × Bool × Nat × List UInt8 × List UInt8 × Nat × Nat × Bool) wx => match x with | (i, st, jm, k, o, s, nx, pc, wc) => Fr (fun k => k = br) w.drew wx ∧ (NameR b st k i s nx) ∧ (SB wx br lRd (rdSegs bb ob cb b pc wc)) ∧ (o ++ s = txt S) ∧ (jm = false → nx = e ∧ pc = p ∧ wc = wh ∧ k = K) ∧ (jm = true → pc = e ∧ wc = false ∧ K ≠ 0)) (fun (x : Nat × Nat × Bool × Nat × List UInt8 × List UInt8 × Nat × Nat × Bool) => match x with | (i, st, jm, k, o, s, nx, pc, wc) => k * (b.length + 1) + (b.length - i)) (p, p, false, K, [], txt S, e, p, wh) ⟨rfl, rfl, rfl, rfl, rfl, trivial⟩ ⟨Fr.refl _ _, hn0, hr, rfl, fun _ => ⟨rfl, rfl, rfl, rfl⟩, fun h => by cases h⟩ ?_
 rintro ⟨i, st, jm, k, o, s, nx, pc, wc⟩ _ w4 ⟨hL3, hR, hr, hE, hjF, hjT⟩
 refine fg [(0, _), (3, _), (4, _), (5, _), (6, _)] ⟨rfl, rfl, rfl, rfl, rfl, ⟨⟩⟩ fun _ => ?_
 have z5 := hL3.size
 have hB := rng_fr hB hL3 (by omega) (by show ¬ (bb = br); omega)
 have hf := hf.step hL3 (fun k hk hS => by have hS : k = br := hS; show k = br; omega)
 have hRl := hR.le
 obtain ⟨n, hn⟩ := some_get (b := b) (i := i) (by omega)
 have hnl := u8lt n
 refine wp_seq (sreg (sM rfl (sN rfl (sv (xfld fl95_2 rfl) (sv (xld on4 rfl (hr.r.c 2 rfl rfl)) (sv (xnot rfl) (send (fg [(0, _), (3, _), (4, _), (5, _), (6, _), (21, _)] ⟨rfl, rfl, rfl, rfl, rfl, rfl, ⟨⟩⟩ fun _ => (cyes rfl (wp_skip (nThen (fg [(0, _), (3, _), (4, _), (5, _), (6, _)] ⟨rfl, rfl, rfl, rfl, rfl, ⟨⟩⟩ fun _ => (wp_block (wp_seq (sreg (sM rfl (sM rfl (sN rfl (sv (xfld fl95_0 rfl) (sv (xld on37 rfl (hr.r.c 0 rfl rfl)) (sv (xlen sl37 rfl) (sv (exF (xgeq rfl rfl) (by omega)) (send (fg [(0, _), (3, _), (4, _), (5, _), (6, _), (28, _)] ⟨rfl, rfl, rfl, rfl, rfl, rfl, ⟨⟩⟩ fun _ => ?_))))))))))))))))))))))))
 refine cno rfl (wp_skip (nThen (fg [(0, _), (3, _), (4, _), (5, _), (6, _)] ⟨rfl, rfl, rfl, rfl, rfl, ⟨⟩⟩ fun _ => (sreg (sM rfl (sN rfl (sv (xfld fl95_0 rfl) (sv (xld on37 rfl (hr.r.c 0 rfl rfl)) (sM rfl (sv (xidx1 (i := i) sl37 sz5 rfl rfl (by omega) (by omega)) (sv (xld on5 rfl (std_cell hB hn)) (sv (xconv hs5 ki3 rfl (w64 (by omega) (by omega))) (sA rfl (send (fg [(0, _), (3, _), (4, _), (5, _), (6, _), (7, _)] ⟨rfl, rfl, rfl, rfl, rfl, rfl, ⟨⟩⟩ fun _ => (wp_block (sreg (sM rfl ?_))))))))))))))))))
 refine svP (xeql rfl rfl) (fun hc45 => ?_) (fun hc45 => ?_)
 ·
  refine sA rfl (send (fg [(0, _), (3, _), (4, _), (5, _), (6, _), (7, _), (43, _)] ⟨rfl, rfl, rfl, rfl, rfl, rfl, rfl, ⟨⟩⟩ fun _ => (cyes rfl (wp_seq ?_))))
  obtain ⟨rfl, rfl, hnx⟩ := hR.at0 hn hc45
  rw [List.append_nil] at hE
  refine sreg (sM rfl (sv (xnot rfl) ?_))
  cases jm with
  | false =>
   obtain ⟨hj1, hj2, hj3, hj4⟩ := hjF rfl
   refine send (fg [(0, _), (3, _), (4, _), (47, _)] ⟨rfl, rfl, rfl, rfl, ⟨⟩⟩ fun _ => (cyes rfl (lreg (sM rfl (sM rfl (sv (xadd rfl rfl (w64n (i + 1) (by omega) (by omega))) (sN rfl (sv (xfld fl95_1 rfl) ?_))))))))
   refine suK (xstF 1 sz3 hr rfl rfl rfl rfl rfl) ?_
   rintro w7 ⟨m8, hr, s6⟩
   have hB := rng_fr hB m8 (by omega) (by show ¬ (bb = br); omega)
   have hf := hf.step m8 (fun k hk hS => by have hS : k = br := hS; show k = br; omega)
   have hL3 := hL3.step m8 (fun k hk hS => by have hS : k = br := hS; show k = br; omega)
   refine lend (nThen (fg [(3, _)] ⟨rfl, ⟨⟩⟩ fun _ => (wp_seq (sreg (sM rfl ?_)))))
   refine svP (xeqs rfl rfl) (fun hc54 => ?_) (fun hc54 => ?_)
   ·
    refine send (fg [(3, _), (54, _)] ⟨rfl, rfl, ⟨⟩⟩ fun _ => (cyes rfl (sreg (sA rfl (send (fg [(2, _)] ⟨rfl, ⟨⟩⟩ fun _ => (wp_ret (rThen (rBlock (rBlock (rThen (rBlock (rThen ?_)))))))))))))
    refine rp1 rfl rfl ?_
    have hK0 : K = 0 := by omega
    have he1 : i + 1 = e := by omega
    have hr : SB w7 br lRd (rdSegs bb ob cb b (i + 1) wc) := hr
    rw [hj3, he1] at hr
    exact ⟨by rw [txt_nil hS (by rw [← hE]; exact mkB_nil hc54)], by rw [hK0]; simpa using hr, hf⟩
   ·
    refine send (fg [(3, _), (54, _)] ⟨rfl, rfl, ⟨⟩⟩ fun _ => (cno rfl (wp_skip (nThen (fg [(3, _)] ⟨rfl, ⟨⟩⟩ fun _ => (sreg (sM rfl (sA rfl (send (fg [(2, _)] ⟨rfl, ⟨⟩⟩ fun _ => (wp_ret (rBlock (rBlock (rThen (rBlock (rThen ?_))))))))))))))))
    refine rp1 rfl rfl ?_
    have hK0 : K = 0 := by omega
    have he1 : i + 1 = e := by omega
    have hr : SB w7 br lRd (rdSegs bb ob cb b (i + 1) wc) := hr
    rw [hj3, he1] at hr
    exact ⟨by rw [hE, txt_ne (fun h0 => hc54 (by rw [hE, h0]))], by rw [hK0]; simpa using hr, hf⟩
  | true =>
   obtain ⟨hjp, hjw, hjK⟩ := hjT rfl
   refine send (fg [(0, _), (3, _), (4, _), (47, _)] ⟨rfl, rfl, rfl, rfl, ⟨⟩⟩ fun _ => (cno rfl (wp_skip (nThen (fg [(3, _)] ⟨rfl, ⟨⟩⟩ fun _ => (wp_seq (sreg (sM rfl ?_))))))))
   refine svP (xeqs rfl rfl) (fun hc54 => ?_) (fun hc54 => ?_)
   ·
    refine send (fg [(3, _), (54, _)] ⟨rfl, rfl, ⟨⟩⟩ fun _ => (cyes rfl (sreg (sA rfl (send (fg [(2, _)] ⟨rfl, ⟨⟩⟩ fun _ => (wp_ret (rThen (rBlock (rBlock (rThen (rBlock (rThen ?_)))))))))))))
    refine rp1 rfl rfl ?_
    rw [hjp, hjw] at hr
    exact ⟨by rw [txt_nil hS (by rw [← hE]; exact mkB_nil hc54)], by simpa [hjK] using hr, hf⟩
   ·
    refine send (fg [(3, _), (54, _)] ⟨rfl, rfl, ⟨⟩⟩ fun _ => (cno rfl (wp_skip (nThen (fg [(3, _)] ⟨rfl, ⟨⟩⟩ fun _ => (sreg (sM rfl (sA rfl (send (fg [(2, _)] ⟨rfl, ⟨⟩⟩ fun _ => (wp_ret (rBlock (rBlock (rThen (rBlock (rThen ?_))))))))))))))))
    refine rp1 rfl rfl ?_
    rw [hjp, hjw] at hr
    exact ⟨by rw [hE, txt_ne (fun h0 => hc54 (by rw [hE, h0]))], by simpa [hjK] using hr, hf⟩
 ·
  refine sA rfl (send (fg [(0, _), (3, _), (4, _), (5, _), (6, _), (7, _), (43, _)] ⟨rfl, rfl, rfl, rfl, rfl, rfl, rfl, ⟨⟩⟩ fun _ => (cno rfl (sreg (sM rfl ?_)))))
  refine svP (xlss rfl rfl) (fun hc58 => ?_) (fun hc58 => ?_)
  ·
   refine sM rfl (gyes rfl rfl rfl (sM rfl (gyes rfl rfl rfl (sv (xadd rfl rfl (w64 (by omega) (by omega))) (gyes rfl rfl rfl (sM rfl (gyes rfl rfl rfl (sv (xadd rfl rfl (w64 (by omega) (by omega))) (gyes rfl rfl rfl (sM rfl (gyes rfl rfl rfl (sN rfl (gyes rfl rfl rfl (sv (xfld fl95_0 rfl) (gyes rfl rfl rfl (sv (xld on37 rfl (hr.r.c 0 rfl rfl)) (gyes rfl rfl rfl (sv (xlen sl37 rfl) (gyes rfl rfl rfl (sv (exT (xleq rfl rfl) (by have hq := hR.labLe hn hc45 hc58; omega)) (sv (xpickT rfl rfl) (sA rfl (send (fg [(0, _), (3, _), (4, _), (5, _), (6, _), (7, _), (56, _)] ⟨rfl, rfl, rfl, rfl, rfl, rfl, rfl, ⟨⟩⟩ fun _ => ?_))))))))))))))))))))))))
   refine cyes rfl ?_
   obtain ⟨lab, s1, rfl, hll, hl0, hld, hls, hR1⟩ := hR.atLab hn hc45 hc58
   have hls0 := hls.le hl0
   have hol := congrArg List.length hE
   simp only [List.length_append, List.length_cons] at hol
   refine sreg (sM rfl (sM rfl (sN rfl (sv (xfld fl95_0 rfl) (sv (xld on37 rfl (hr.r.c 0 rfl rfl)) (sM rfl (sv (xadd rfl rfl (w64n (i + 1) (by omega) (by omega))) (sM rfl (sv (xadd rfl rfl (w64n (i + 1) (by omega) (by omega))) (sM rfl (sv (xadd rfl rfl (w64n (i + 1 + lab.length) (by omega) (by omega))) ?_)))))))))))
   refine svK (xcutLH (lo := i + 1) (hi := i + 1 + lab.length) sl37 sz5 rfl rfl rfl (by omega) (by omega) (by omega) (by omega)) ?_
   rintro _ w4 ⟨o82, rfl, ho82, rfl⟩
   refine sc (xcall ca95 rfl) (c95 (xs := lab) (cut_rng hB hls ho82 (by omega)) (by omega) (by omega) (by omega) hld) ?_
   rintro _ w10 ⟨rfl, m11⟩
   have z12 := m11.size
   have hB := rng_fr hB m11 (by omega) id
   have hr := hr.keep m11 id
   have hL3 := hL3.step0 m11
   refine sN rfl (sv (xfld fl95_2 rfl) ?_)
   refine suK (xstF 2 sz4 hr rfl rfl rfl rfl rfl) ?_
   rintro w14 ⟨m15, hr, s13⟩
   have hB := rng_fr hB m15 (by omega) (by show ¬ (bb = br); omega)
   have hL3 := hL3.step m15 (fun k hk hS => by have hS : k = br := hS; show k = br; omega)
   refine send (fg [(0, _), (3, _), (4, _), (5, _), (6, _), (7, _)] ⟨rfl, rfl, rfl, rfl, rfl, rfl, ⟨⟩⟩ fun _ => (sreg (sM rfl (sM rfl (sN rfl (sv (xfld fl95_0 rfl) (sv (xld on37 rfl (hr.r.c 0 rfl rfl)) (sM rfl (sv (xadd rfl rfl (w64n (i + 1) (by omega) (by omega))) (sM rfl (sv (xadd rfl rfl (w64n (i + 1) (by omega) (by omega))) (sM rfl (sv (xadd rfl rfl (w64n (i + 1 + lab.length) (by omega) (by omega))) ?_)))))))))))))
   refine svK (xcutLH (lo := i + 1) (hi := i + 1 + lab.length) sl37 sz5 rfl rfl rfl (by omega) (by omega) (by omega) (by omega)) ?_
   rintro _ w14 ⟨o97, rfl, ho97, rfl⟩
   refine sv (xb2sR (bs := lab) sl37 ki5 st9 rfl (by omega) (cut_rng hB hls ho97 (by omega))) (sv (xadds rfl rfl (by rw [mkB_size]; omega) (by show 1 < _; omega)) (sv (mkB3 (xadds rfl rfl (by rw [mkB_size]; omega) (by rw [ByteArray.size_append, mkB_size]; show lab.length + 1 < _; omega))) (sA rfl (send (fg [(0, _), (3, _), (4, _), (5, _), (6, _), (7, _)] ⟨rfl, rfl, rfl, rfl, rfl, rfl, ⟨⟩⟩ fun _ => (lreg (sM rfl (sM rfl (sv (xadd rfl rfl (w64n (1 + lab.length) (by omega) (by omega))) (sv (xadd rfl rfl (w64n (i + 1 + lab.length) (by omega) (by omega))) (sA rfl (lend (nBlock (nBlock (nThen ?_)))))))))))))))
   refine ⟨(i + 1 + lab.length, st, jm, k, o ++ (lab ++ [46]), s1, nx, pc, wc), _, env_okl ⟨rfl, rfl, rfl, rfl, rfl, trivial⟩, ⟨hL3, (hR1), (hr), (by simpa using hE), (hjF), (hjT)⟩, ?_⟩
   first | (show k * (b.length + 1) + (b.length - (i + 1 + lab.length)) < k * (b.length + 1) + (b.length - i); omega) | (show k1 * (b.length + 1) + (b.length - to) < (k1 + 1) * (b.length + 1) + (b.length - i); rw [Nat.succ_mul]; omega)
  ·
   refine sM rfl (gno rfl rfl rfl (gno rfl rfl rfl (gno rfl rfl rfl (gno rfl rfl rfl (gno rfl rfl rfl (gno rfl rfl rfl (gno rfl rfl rfl (gno rfl rfl rfl (gno rfl rfl rfl (gno rfl rfl rfl (sv (xpickF rfl rfl) (sA rfl (send (fg [(0, _), (3, _), (4, _), (5, _), (6, _), (7, _), (56, _)] ⟨rfl, rfl, rfl, rfl, rfl, rfl, rfl, ⟨⟩⟩ fun _ => (cno rfl ?_)))))))))))))))
   obtain ⟨to, k1, nx1, rfl, hto, hto2, hnt, hb1, hnx, hR1⟩ := hR.atPtr hn hc58
   have hi1 := (List.getElem?_eq_some_iff.1 hb1).1
   have hlo : (UInt8.ofNat to).toNat = to % 256 := by simp only [UInt8.toNat_ofNat']
   refine sreg (sM rfl (sv (exT (xgeq rfl rfl) (by have hq := hR.ptrLe hn hc58; omega)) (sM rfl (gyes rfl rfl rfl (sM rfl (gyes rfl rfl rfl (sv (xadd rfl rfl (w64 (by omega) (by omega))) (gyes rfl rfl rfl (sM rfl (gyes rfl rfl rfl (sN rfl (gyes rfl rfl rfl (sv (xfld fl95_0 rfl) (gyes rfl rfl rfl (sv (xld on37 rfl (hr.r.c 0 rfl rfl)) (gyes rfl rfl rfl (sv (xlen sl37 rfl) (gyes rfl rfl rfl (sv (exT (xlss rfl rfl) (by have hq := hR.ptrLe hn hc58; omega)) (sv (xpickT rfl rfl) (sA rfl (send (fg [(0, _), (3, _), (4, _), (5, _), (6, _), (7, _), (105, _)] ⟨rfl, rfl, rfl, rfl, rfl, rfl, rfl, ⟨⟩⟩ fun _ => (cyes rfl ?_))))))))))))))))))))))))
   refine sreg (sM rfl (sv (xsub rfl rfl (w64n (to / 256) (by omega) (by omega))) (sv (xshl (b := 8) (by decide) rfl rfl (w64n (to / 256 * 256) (by omega) (by omega))) (sM rfl (sN rfl (sv (xfld fl95_0 rfl) (sv (xld on37 rfl (hr.r.c 0 rfl rfl)) (sM rfl (sv (xadd rfl rfl (w64n (i + 1) (by omega) (by omega))) (sv (xidx1 (i := i + 1) sl37 sz5 rfl rfl (by omega) (by omega)) (sv (xld on5 rfl (std_cell hB hb1)) (sv (xconv hs5 ki3 rfl (w64 (by omega) (by omega))) (sv (xor64S (a := to / 256 * 256) (b := (UInt8.ofNat to).toNat) (c := to) 8 rfl rfl (by omega) (by omega) (by omega) (by omega)) (sA rfl (send (fg [(0, _), (3, _), (4, _), (5, _), (6, _), (8, _)] ⟨rfl, rfl, rfl, rfl, rfl, rfl, ⟨⟩⟩ fun _ => (wp_seq (sreg (sM rfl (sv (xnot rfl) ?_))))))))))))))))))))
   cases jm with
   | false =>
    obtain ⟨hj1, hj2, hj3, hj4⟩ := hjF rfl
    refine send (fg [(0, _), (3, _), (4, _), (5, _), (8, _), (132, _)] ⟨rfl, rfl, rfl, rfl, rfl, rfl, ⟨⟩⟩ fun _ => (cyes rfl (lreg (sM rfl (sM rfl (sv (xadd rfl rfl (w64n (i + 2) (by omega) (by omega))) (sN rfl (sv (xfld fl95_1 rfl) ?_))))))))
    refine suK (xstF 1 sz3 hr rfl rfl rfl rfl rfl) ?_
    rintro w18 ⟨m19, hr, s17⟩
    have hL3 := hL3.step m19 (fun k hk hS => by have hS : k = br := hS; show k = br; omega)
    refine lend (nThen (fg [(0, _), (3, _), (5, _), (8, _)] ⟨rfl, rfl, rfl, rfl, ⟨⟩⟩ fun _ => (sreg (sM rfl (sM rfl (sM rfl (sv (exF (xgeq rfl rfl) (by omega)) (sN rfl (sv (xfld fl95_2 rfl) ?_)))))))))
    refine suK (xstF 2 sz4 hr rfl rfl rfl rfl rfl) ?_
    rintro w21 ⟨m22, hr, s20⟩
    have hL3 := hL3.step m22 (fun k hk hS => by have hS : k = br := hS; show k = br; omega)
    refine send (fg [(0, _), (3, _), (8, _)] ⟨rfl, rfl, rfl, ⟨⟩⟩ fun _ => (sreg (sM rfl (sM rfl (sA rfl (sA rfl (sA rfl (send (fg [(0, _), (3, _), (4, _), (5, _), (6, _)] ⟨rfl, rfl, rfl, rfl, rfl, ⟨⟩⟩ fun _ => (lreg (sM rfl (sN rfl (sv (xfld fl95_3 rfl) ?_)))))))))))))
    refine suK (xstF 3 sz4 hr rfl rfl rfl rfl rfl) ?_
    rintro w24 ⟨m25, hr, s23⟩
    have hL3 := hL3.step m25 (fun k hk hS => by have hS : k = br := hS; show k = br; omega)
    refine lend (nBlock (nBlock (nThen ?_)))
    refine ⟨(to, to, true, k1, o, s, nx1, i + 2, false), _, env_okl ⟨rfl, rfl, rfl, rfl, rfl, trivial⟩, ⟨hL3, (hR1), (hr), (hE), (fun h => by cases h), (fun _ => ⟨by omega, rfl, by omega⟩)⟩, ?_⟩
    first | (show k * (b.length + 1) + (b.length - (i + 1 + lab.length)) < k * (b.length + 1) + (b.length - i); omega) | (show k1 * (b.length + 1) + (b.length - to) < (k1 + 1) * (b.length + 1) + (b.length - i); rw [Nat.succ_mul]; omega)
   | true =>
    obtain ⟨hjp, hjw, hjK⟩ := hjT rfl
    refine send (fg [(0, _), (3, _), (4, _), (5, _), (8, _), (132, _)] ⟨rfl, rfl, rfl, rfl, rfl, rfl, ⟨⟩⟩ fun _ => (cno rfl (wp_skip (nThen (fg [(0, _), (3, _), (5, _), (8, _)] ⟨rfl, rfl, rfl, rfl, ⟨⟩⟩ fun _ => (sreg (sM rfl (sM rfl (sM rfl (sv (exF (xgeq rfl rfl) (by omega)) (sN rfl (sv (xfld fl95_2 rfl) ?_))))))))))))
    refine suK (xstF 2 sz4 hr rfl rfl rfl rfl rfl) ?_
    rintro w27 ⟨m28, hr, s26⟩
    have hL3 := hL3.step m28 (fun k hk hS => by have hS : k = br := hS; show k = br; omega)
    refine send (fg [(0, _), (3, _), (8, _)] ⟨rfl, rfl, rfl, ⟨⟩⟩ fun _ => (sreg (sM rfl (sM rfl (sA rfl (sA rfl (sA rfl (send (fg [(0, _), (3, _), (4, _), (5, _), (6, _)] ⟨rfl, rfl, rfl, rfl, rfl, ⟨⟩⟩ fun _ => (lreg (sM rfl (sN rfl (sv (xfld fl95_3 rfl) ?_)))))))))))))
    refine suK (xstF 3 sz4 hr rfl rfl rfl rfl rfl) ?_
    rintro w30 ⟨m31, hr, s29⟩
    have hL3 := hL3.step m31 (fun k hk hS => by have hS : k = br := hS; show k = br; omega)
    refine lend (nBlock (nBlock (nThen ?_)))
    refine ⟨(to, to, true, k1, o, s, nx1, pc, false), _, env_okl ⟨rfl, rfl, rfl, rfl, rfl, trivial⟩, ⟨hL3, (hR1), (hr), (hE), (fun h => by cases h), (fun _ => ⟨by omega, rfl, by omega⟩)⟩, ?_⟩
    first | (show k * (b.length + 1) + (b.length - (i + 1 + lab.length)) < k * (b.length + 1) + (b.length - i); omega) | (show k1 * (b.length + 1) + (b.length - to) < (k1 + 1) * (b.length + 1) + (b.length - i); rw [Nat.succ_mul]; omega)
end Go.Proofs.YtifnodoffgfpbaaGreatDoor
