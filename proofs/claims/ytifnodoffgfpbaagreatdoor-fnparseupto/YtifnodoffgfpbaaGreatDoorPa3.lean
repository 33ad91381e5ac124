/- Part 3 of the texts for a law of this seat: walks, and plain laws about messages; conditions: none. -/
import Derived.Test.YtifnodoffgfpbaaGreatDoorPa2
set_option maxHeartbeats 4000000
set_option maxRecDepth 100000
namespace Go.Proofs.YtifnodoffgfpbaaGreatDoor
open Go

def Std (b : List UInt8) (i : Nat) (bs : List UInt8) : Prop := ∀ (j : Nat) (c : UInt8), bs[j]? = some c → b[i + j]? = some c
theorem Std.left {b xs ys : List UInt8} {i : Nat} (h : Std b i (xs ++ ys)) : Std b i xs := fun j c hj => h j c (by
  have : j < xs.length := (List.getElem?_eq_some_iff.1 hj).1
  rw [List.getElem?_append_left this]; exact hj)
theorem Std.right {b xs ys : List UInt8} {i : Nat} (h : Std b i (xs ++ ys)) : Std b (i + xs.length) ys := fun j c hj => by
  have := h (xs.length + j) c (by rw [List.getElem?_append_right (by omega), Nat.add_sub_cancel_left]; exact hj)
  rw [Nat.add_assoc]; exact this
theorem Std.right' {b xs ys : List UInt8} {i k : Nat} (h : Std b i (xs ++ ys)) (hk : i + xs.length = k) : Std b k ys := hk ▸ h.right
theorem Std.head {b xs : List UInt8} {x : UInt8} {i : Nat} (h : Std b i (x :: xs)) : b[i]? = some x := h 0 x rfl
theorem Std.tail {b xs : List UInt8} {x : UInt8} {i : Nat} (h : Std b i (x :: xs)) : Std b (i + 1) xs := Std.right (xs := [x]) h
theorem Std.self (b : List UInt8) : Std b 0 b := fun j c h => by rw [Nat.zero_add]; exact h
theorem Std.le {b bs : List UInt8} {i : Nat} (h : Std b i bs) (h0 : bs ≠ []) : i + bs.length ≤ b.length := by
  have hp : 0 < bs.length := List.length_pos_iff.2 h0
  have := h (bs.length - 1) _ (List.getElem?_eq_getElem (by omega))
  have := (List.getElem?_eq_some_iff.1 this).1
  omega
inductive NameR (b : List UInt8) : Nat → Nat → Nat → List UInt8 → Nat → Prop
  | fin {st i : Nat} (hb : b[i]? = some 0) : NameR b st 0 i [] (i + 1)
  | lab {st k i nx : Nat} {s : List UInt8} (lab : List UInt8) (h0 : lab ≠ []) (h63 : lab.length ≤ 63) (hd : ∀ c ∈ lab, c ≠ 46) (hb : b[i]? = some (UInt8.ofNat lab.length)) (hs : Std b (i + 1) lab)
      (h : NameR b st k (i + 1 + lab.length) s nx) : NameR b st k i (lab ++ (46 :: s)) nx
  | ptr {st k i to nx : Nat} {s : List UInt8} (h1 : to < st) (h14 : to ≤ 16383) (hb : b[i]? = some (UInt8.ofNat (192 + to / 256))) (hb2 : b[i + 1]? = some (UInt8.ofNat to))
      (h : NameR b to k to s nx) : NameR b st (k + 1) i s (i + 2)

theorem NameR.up {b : List UInt8} {st k i nx : Nat} {s : List UInt8} (h : NameR b st k i s nx) : ∀ {st' : Nat}, st ≤ st' → NameR b st' k i s nx := by
  induction h with
  | fin hb => intro st' _; exact .fin hb
  | lab lab h0 h63 hd hb hs _ ih => intro st' hl; exact .lab lab h0 h63 hd hb hs (ih hl)
  | ptr h1 h14 hb hb2 h _ => intro st' hl; exact .ptr (by omega) h14 hb hb2 h
theorem NameR.le {b : List UInt8} {st k i nx : Nat} {s : List UInt8} (h : NameR b st k i s nx) : i < nx ∧ nx ≤ b.length := by
  induction h with
  | fin hb => have := (List.getElem?_eq_some_iff.1 hb).1; omega
  | lab lab h0 h63 hd hb hs _ ih => omega
  | ptr h1 h14 hb hb2 h _ => have := (List.getElem?_eq_some_iff.1 hb2).1; omega

def txt (s : List UInt8) : List UInt8 := if s = [46] then [] else s
def NameAt (b : List UInt8) (k i : Nat) (s : List UInt8) (nx : Nat) : Prop := NameR b i k i (txt s) nx

def GoodE (b : List UInt8) (st : Nat) (key : List UInt8) (p : UInt16) : Prop := p.toNat < st ∧ p.toNat ≤ 16383 ∧ ∃ k nx, NameR b p.toNat k p.toNat key nx ∧ k < key.count 46
theorem GoodE.up {b : List UInt8} {st st' : Nat} {key : List UInt8} {p : UInt16} (h : GoodE b st key p) (hs : st ≤ st') : GoodE b st' key p := ⟨by have := h.1; omega, h.2⟩

theorem look_app (M : Ent) (key : ByteArray) (v : UInt16) (s : ByteArray) : look (M ++ [(key, v)]) s = match look M s with
    | some p => some p
    | none => if s = key then some v else none := by
  induction M with
  | nil => simp [look]
  | cons p M ih =>
    obtain ⟨k, u⟩ := p
    simp only [List.cons_append, look]
    split
    · rfl
    · exact ih
theorem ptr_bytes (p : UInt16) (h : p.toNat ≤ 16383) : ptrL p = [UInt8.ofNat (192 + p.toNat / 256), UInt8.ofNat p.toNat] := by
  have key : ∀ x : Nat, x < 64 → x ||| 192 = 192 + x := by decide
  simp only [ptrL]
  congr 1
  congr 1
  rw [UInt16.toNat_or, UInt16.toNat_shiftRight]
  have e1 : (8 : UInt16).toNat % 16 = 8 := rfl
  have e2 : (192 : UInt16).toNat = 192 := rfl
  rw [e1, e2, Nat.shiftRight_eq_div_pow]
  exact key _ (by omega)

theorem packGo_at (b : List UInt8) (st : Nat) : ∀ (cs lab : List UInt8) (M : Ent) (pos : Nat), nameGo lab.length cs = true → (∀ c ∈ lab, c ≠ 46) → st ≤ pos → Std b pos (packGo (some M) pos lab cs).1 →
    (∀ key p, key.length ≤ cs.length → look M (mkB key) = some p → GoodE b st key p) →
    (∃ k, NameR b st k pos (lab ++ cs) (pos + (packGo (some M) pos lab cs).1.length) ∧ k ≤ (lab ++ cs).count 46 ∧ (lab ≠ [] → k < (lab ++ cs).count 46)) ∧
    ∃ M', (packGo (some M) pos lab cs).2 = some M' ∧ ∀ key p, look M' (mkB key) = some p → look M (mkB key) = some p ∨ GoodE b (pos + (packGo (some M) pos lab cs).1.length) key p
  | [], lab, M, pos, hn, _, _, hb, _ => by
    have hl : lab = [] := by
      cases lab with
      | nil => rfl
      | cons x xs => simp [nameGo] at hn
    subst hl
    refine ⟨⟨0, ?_, by simp, fun h => absurd rfl h⟩, M, rfl, fun key p h => .inl h⟩
    simp only [packGo, List.append_nil, List.length_cons, List.length_nil]
    exact .fin hb.head
  | c :: cs, lab, M, pos, hn, hlab, hst, hb, hold => by
    by_cases hc : c = 46
    · subst hc
      rw [nameGo, if_pos rfl] at hn
      split at hn
      · cases hn
      · rename_i hl
        have h0 : lab ≠ [] := by intro h; subst h; simp at hl
        simp only [packGo, if_pos] at hb ⊢
        have ih := packGo_at b st cs [] M (pos + (lab.length + 1)) (by simpa using hn) (by simp) (by omega) (hb.right' (by simp)) (fun key p hk hm => hold key p (by simp; omega) hm)
        obtain ⟨⟨k, hr, hk, _⟩, M', hM, hnew⟩ := ih
        refine ⟨⟨k, ?_, ?_, ?_⟩, M', hM, ?_⟩
        · refine NameR.lab lab h0 (by omega) hlab hb.left.head hb.left.tail ?_
          have e1 : pos + 1 + lab.length = pos + (lab.length + 1) := by omega
          have e2 : pos + (UInt8.ofNat lab.length :: lab ++ (packGo (some M) (pos + (lab.length + 1)) [] cs).1).length = pos + (lab.length + 1) + (packGo (some M) (pos + (lab.length + 1)) [] cs).1.length := by simp; omega
          rw [e1, e2]
          simpa using hr
        · simp only [List.nil_append] at hk
          rw [List.count_append, List.count_cons_self]; omega
        · intro _
          simp only [List.nil_append] at hk
          rw [List.count_append, List.count_cons_self]; omega
        · intro key p h
          rcases hnew key p h with h | h
          · exact .inl h
          · exact .inr (h.up (by simp; omega))
    · have hn' : nameGo (lab.length + 1) cs = true := nameGo_let hn hc
      by_cases hl : lab = []
      · subst hl
        cases hlk : look M (mkB (c :: cs)) with
        | some p =>
          rw [pk_hit hc hlk] at hb ⊢
          obtain ⟨g1, g2, k, nx, g3, g4⟩ := hold (c :: cs) p (Nat.le_refl _) hlk
          rw [ptr_bytes p g2] at hb ⊢
          refine ⟨⟨k + 1, ?_, by rw [List.nil_append]; exact g4, fun h => absurd rfl h⟩, M, rfl, fun key p h => .inl h⟩
          exact .ptr g1 g2 hb.head hb.tail.head g3
        | none =>
          rw [pk_miss hc hlk] at hb ⊢
          have hold2 : ∀ key p, key.length ≤ cs.length → look (if pos ≤ 16383 then M ++ [(mkB (c :: cs), UInt16.ofNat pos)] else M) (mkB key) = some p → GoodE b st key p := by
            intro key p hk hm
            split at hm
            · rw [look_app] at hm
              split at hm
              · rename_i q hq
                simp only [Option.some.injEq] at hm; subst hm
                exact hold key _ (by simp; omega) hq
              · split at hm
                · rename_i he
                  have := congrArg bt he
                  rw [bt_mkB, bt_mkB] at this
                  rw [this] at hk
                  simp at hk; omega
                · cases hm
            · exact hold key p (by simp; omega) hm
          have ih := packGo_at b st cs [c] _ pos hn' (by simpa using hc) hst hb hold2
          obtain ⟨⟨k, hr, hk, hk2⟩, M', hM, hnew⟩ := ih
          refine ⟨⟨k, hr, hk, fun h => absurd rfl h⟩, M', hM, ?_⟩
          intro key p h
          rcases hnew key p h with h | h
          · split at h
            · rename_i hp
              rw [look_app] at h
              split at h
              · rename_i q hq; exact .inl (by rw [hq]; exact h)
              · split at h
                · rename_i he
                  simp only [Option.some.injEq] at h
                  subst h
                  have he := congrArg bt he
                  rw [bt_mkB, bt_mkB] at he
                  subst he
                  have e : (UInt16.ofNat pos).toNat = pos := by rw [UInt16.toNat_ofNat']; omega
                  have hr' : ∃ nx, NameR b (UInt16.ofNat pos).toNat k (UInt16.ofNat pos).toNat (c :: cs) nx := by rw [e]; exact ⟨_, hr.up hst⟩
                  obtain ⟨nx, hr'⟩ := hr'
                  exact .inr ⟨by have := hr.le; omega, by omega, k, nx, hr', hk2 (by simp)⟩
                · cases h
            · exact .inl h
          · exact .inr h
      · rw [pk_mid hc hl] at hb ⊢
        have ih := packGo_at b st cs (lab ++ [c]) M pos (by simpa using hn') (by
          intro x hx
          rcases List.mem_append.1 hx with h | h
          · exact hlab x h
          · simp at h; subst h; exact hc) hst hb (fun key p hk hm => hold key p (by simp; omega) hm)
        obtain ⟨⟨k, hr, hk, hk2⟩, M', hM, hnew⟩ := ih
        rw [List.append_assoc] at hr hk hk2
        exact ⟨⟨k, hr, hk, fun _ => hk2 (by simp)⟩, M', hM, hnew⟩

def GoodM (b : List UInt8) (st : Nat) (M : Ent) : Prop := ∀ key p, look M (mkB key) = some p → GoodE b st key p
theorem packName_at {b : List UInt8} {M : Ent} {pos : Nat} {s : List UInt8} (hs : nameL s) (hb : Std b pos (packName (some M) pos s).1) (hM : GoodM b pos M) :
    (∃ k, NameAt b k pos s (pos + (packName (some M) pos s).1.length) ∧ k ≤ (s.drop 1).count 46) ∧ ∃ M', (packName (some M) pos s).2 = some M' ∧ GoodM b (pos + (packName (some M) pos s).1.length) M' := by
  simp only [packName] at hb ⊢
  by_cases hd : s = [46]
  · simp only [if_pos hd] at hb ⊢
    refine ⟨⟨0, ?_, by omega⟩, M, rfl, fun key p h => (hM key p h).up (by omega)⟩
    simp only [NameAt, txt, if_pos hd]
    exact .fin hb.head
  · simp only [if_neg hd] at hb ⊢
    rcases hs with hs | ⟨_, hs, _⟩
    · exact absurd hs hd
    · obtain ⟨⟨k, hr, hk, _⟩, M', hM', hnew⟩ := packGo_at b pos s [] M pos (by simpa using hs) (by simp) (Nat.le_refl _) hb (fun key p _ h => hM key p h)
      have hcount : s.count 46 = (s.drop 1).count 46 := by
        cases s with
        | nil => rfl
        | cons c cs =>
          have := nameGo_first hs
          simp only [List.getElem?_cons_zero, ne_eq, Option.some.injEq] at this
          rw [List.drop_one, List.tail_cons, List.count_cons_of_ne this]
      refine ⟨⟨k, ?_, by simpa [hcount] using hk⟩, M', hM', fun key p h => ?_⟩
      · simp only [NameAt, txt, if_neg hd]; simpa using hr
      · rcases hnew key p h with h | h
        · exact (hM key p h).up (by omega)
        · exact h
theorem wireGo_at {b : List UInt8} (st : Nat) : ∀ (cs lab : List UInt8) (pos : Nat), nameGo lab.length cs = true → (∀ c ∈ lab, c ≠ 46) → Std b pos (wireGo lab cs ++ [0]) →
    NameR b st 0 pos (lab ++ cs) (pos + (wireGo lab cs).length + 1)
  | [], lab, pos, hn, _, hb => by
    have hl : lab = [] := by
      cases lab with
      | nil => rfl
      | cons x xs => simp [nameGo] at hn
    subst hl
    simp only [wireGo, List.nil_append, List.length_nil, Nat.add_zero] at hb ⊢
    exact .fin hb.head
  | c :: cs, lab, pos, hn, hlab, hb => by
    by_cases hc : c = 46
    · subst hc
      rw [nameGo, if_pos rfl] at hn
      split at hn
      · cases hn
      · rename_i hl
        have h0 : lab ≠ [] := by intro h; subst h; simp at hl
        simp only [wireGo, if_true, if_neg h0] at hb ⊢
        rw [List.append_assoc] at hb
        have ih := wireGo_at st cs [] (pos + (lab.length + 1)) (by simpa using hn) (by simp) (hb.right' (by simp))
        refine NameR.lab lab h0 (by omega) hlab hb.left.head hb.left.tail ?_
        have e1 : pos + 1 + lab.length = pos + (lab.length + 1) := by omega
        have e2 : pos + (UInt8.ofNat lab.length :: lab ++ wireGo [] cs).length + 1 = pos + (lab.length + 1) + (wireGo [] cs).length + 1 := by simp; omega
        rw [e1, e2]
        simpa using ih
    · have hn' : nameGo (lab.length + 1) cs = true := nameGo_let hn hc
      simp only [wireGo, hc, if_false] at hb ⊢
      have ih := wireGo_at st cs (lab ++ [c]) pos (by simpa using hn') (by
          intro x hx
          rcases List.mem_append.1 hx with h | h
          · exact hlab x h
          · simp at h; subst h; exact hc) hb
      rw [List.append_assoc] at ih
      exact ih
theorem wire_at {b : List UInt8} {pos : Nat} {s : List UInt8} (hs : nameL s) (hb : Std b pos (wire s)) : NameAt b 0 pos s (pos + (wire s).length) := by
  by_cases hd : s = [46]
  · subst hd
    simp only [NameAt, txt, if_true]
    exact .fin hb.head
  · rcases hs with hs | ⟨_, hs, _⟩
    · exact absurd hs hd
    · simp only [NameAt, txt, if_neg hd]
      have := wireGo_at (b := b) pos s [] pos (by simpa using hs) (by simp) hb
      simpa [wire, Nat.add_assoc] using this
end Go.Proofs.YtifnodoffgfpbaaGreatDoor

namespace Go.Proofs.YtifnodoffgfpbaaGreatDoor
open Go

def soaL (r : RecD) : List UInt8 := be32 r.n1.toNat ++ (be32 r.n2.toNat ++ (be32 r.n3.toNat ++ (be32 r.n4.toNat ++ be32 r.n5.toNat)))
theorem soaL_length (r : RecD) : (soaL r).length = 20 := rfl
def packMx (C : Option Ent) (pos : Nat) (r : RecD) : List UInt8 × Option Ent := (be16 r.n1.toNat ++ (packName C (pos + 2) (bt r.host)).1, (packName C (pos + 2) (bt r.host)).2)
def packSoa (C : Option Ent) (pos : Nat) (r : RecD) : List UInt8 × Option Ent :=
  ((packName C pos (bt r.host)).1 ++ ((packName (packName C pos (bt r.host)).2 (pos + (packName C pos (bt r.host)).1.length) (bt r.box)).1 ++ soaL r), (packName (packName C pos (bt r.host)).2 (pos + (packName C pos (bt r.host)).1.length) (bt r.box)).2)
def packBody (C : Option Ent) (pos : Nat) (r : RecD) : List UInt8 × Option Ent :=
  if r.kind = 2 ∨ r.kind = 3 ∨ r.kind = 5 then packName C pos (bt r.host)
  else if r.kind = 6 then packMx C pos r
  else if r.kind = 4 then packSoa C pos r
  else (bodyL r, C)
def packTail (r : RecD) (body : List UInt8) : List UInt8 := be16 (typeN r).toNat ++ (be16 r.cls.toNat ++ (be32 r.ttl.toNat ++ (be16 body.length ++ body)))
def packRec (C : Option Ent) (pos : Nat) (r : RecD) : List UInt8 × Option Ent :=
  ((packName C pos (bt r.name)).1 ++ packTail r (packBody (packName C pos (bt r.name)).2 (pos + (packName C pos (bt r.name)).1.length + 10) r).1, (packBody (packName C pos (bt r.name)).2 (pos + (packName C pos (bt r.name)).1.length + 10) r).2)
def packAsk (C : Option Ent) (pos : Nat) (a : AskD) : List UInt8 × Option Ent := ((packName C pos (bt a.name)).1 ++ (be16 a.typ.toNat ++ be16 a.cls.toNat), (packName C pos (bt a.name)).2)
def packAll {α : Type} (f : Option Ent → Nat → α → List UInt8 × Option Ent) : Option Ent → Nat → List α → List UInt8 × Option Ent
  | C, _, [] => ([], C)
  | C, pos, x :: xs => ((f C pos x).1 ++ (packAll f (f C pos x).2 (pos + (f C pos x).1.length) xs).1, (packAll f (f C pos x).2 (pos + (f C pos x).1.length) xs).2)
theorem packAll_snoc {α : Type} (f : Option Ent → Nat → α → List UInt8 × Option Ent) : ∀ (xs : List α) (C : Option Ent) (pos : Nat) (x : α),
    packAll f C pos (xs ++ [x]) = ((packAll f C pos xs).1 ++ (f (packAll f C pos xs).2 (pos + (packAll f C pos xs).1.length) x).1, (f (packAll f C pos xs).2 (pos + (packAll f C pos xs).1.length) x).2)
  | [], C, pos, x => by simp [packAll]
  | y :: ys, C, pos, x => by
    simp only [List.cons_append, packAll]
    rw [packAll_snoc f ys]
    simp only [List.append_assoc, List.length_append, Nat.add_assoc]
def countsM (m : MsgD) : List Nat := [m.asks.length, m.one.length, m.two.length, m.three.length]
def packA (C : Option Ent) (m : MsgD) := packAll packAsk C 12 m.asks
def pack1 (C : Option Ent) (m : MsgD) := packAll packRec (packA C m).2 (12 + (packA C m).1.length) m.one
def pack2 (C : Option Ent) (m : MsgD) := packAll packRec (pack1 C m).2 (12 + (packA C m).1.length + (pack1 C m).1.length) m.two
def pack3 (C : Option Ent) (m : MsgD) := packAll packRec (pack2 C m).2 (12 + (packA C m).1.length + (pack1 C m).1.length + (pack2 C m).1.length) m.three
def packM (C : Option Ent) (m : MsgD) : List UInt8 := headL m.head (countsM m) ++ ((packA C m).1 ++ ((pack1 C m).1 ++ ((pack2 C m).1 ++ (pack3 C m).1)))

def NamesOk (r : RecD) : Prop := nameL (bt r.name) ∧ (r.kind = 2 ∨ r.kind = 3 ∨ r.kind = 5 ∨ r.kind = 6 ∨ r.kind = 9 ∨ r.kind = 11 ∨ r.kind = 12 ∨ r.kind = 4 → nameL (bt r.host)) ∧ (r.kind = 4 → nameL (bt r.box))
theorem packName_non {s : List UInt8} (h : nameL s) (pos : Nat) : packName none pos s = (wire s, none) := by
  simp only [packName]
  by_cases hd : s = [46]
  · rw [if_pos hd, hd]; rfl
  · rw [if_neg hd]
    rcases h with h | ⟨_, h, _⟩
    · exact absurd h hd
    · rw [packGo_none _ [] _ h]; rfl
theorem packBody_non {r : RecD} (h : NamesOk r) (pos : Nat) : packBody none pos r = (bodyL r, none) := by
  simp only [packBody, packMx, packSoa, bodyL]
  by_cases h1 : r.kind = 2 ∨ r.kind = 3 ∨ r.kind = 5
  · rw [if_pos h1, if_neg (by omega), if_neg (by omega), if_pos h1, packName_non (h.2.1 (by omega))]
  · rw [if_neg h1]
    by_cases h2 : r.kind = 6
    · rw [if_pos h2, if_neg (by omega), if_neg (by omega), if_neg h1, if_pos h2, packName_non (h.2.1 (by omega))]
    · rw [if_neg h2]
      by_cases h3 : r.kind = 4
      · rw [if_pos h3, if_neg (by omega), if_neg (by omega), if_neg h1, if_neg h2, if_pos h3, packName_non (h.2.1 (by omega)), packName_non (h.2.2 h3)]; rfl
      · rw [if_neg h3]
theorem packRec_non {r : RecD} (h : NamesOk r) (pos : Nat) : packRec none pos r = (recL r, none) := by
  simp only [packRec, packName_non h.1, packBody_non h, packTail, recL]
theorem packAsk_non {a : AskD} (h : nameL (bt a.name)) (pos : Nat) : packAsk none pos a = (askL a, none) := by
  simp only [packAsk, packName_non h, askL]
theorem packAll_non {α : Type} {f : Option Ent → Nat → α → List UInt8 × Option Ent} {g : α → List UInt8} : ∀ (xs : List α) (pos : Nat), (∀ x ∈ xs, ∀ pos, f none pos x = (g x, none)) → packAll f none pos xs = ((xs.map g).flatten, none)
  | [], pos, _ => rfl
  | x :: xs, pos, h => by
    simp only [packAll]
    rw [h x (by simp) pos]
    simp only []
    rw [packAll_non xs _ (fun y hy => h y (by simp [hy]))]
    rfl
def MsgNames (m : MsgD) : Prop := (∀ a ∈ m.asks, nameL (bt a.name)) ∧ (∀ r ∈ m.one, NamesOk r) ∧ (∀ r ∈ m.two, NamesOk r) ∧ (∀ r ∈ m.three, NamesOk r)
theorem packM_non {m : MsgD} (h : MsgNames m) : packM none m = msgL m := by
  have ha : packA none m = (asksL m.asks, none) := packAll_non _ _ (fun a ha pos => packAsk_non (h.1 a ha) pos)
  have h1 : pack1 none m = (recsL m.one, none) := by rw [pack1, ha]; exact packAll_non _ _ (fun a ha pos => packRec_non (h.2.1 a ha) pos)
  have h2 : pack2 none m = (recsL m.two, none) := by rw [pack2, h1]; exact packAll_non _ _ (fun a ha pos => packRec_non (h.2.2.1 a ha) pos)
  have h3 : pack3 none m = (recsL m.three, none) := by rw [pack3, h2]; exact packAll_non _ _ (fun a ha pos => packRec_non (h.2.2.2 a ha) pos)
  rw [packM, ha, h1, h2, h3]; rfl

theorem packGo_short : ∀ (cs lab : List UInt8) (M : Ent) (pos : Nat), nameGo lab.length cs = true → (packGo (some M) pos lab cs).1.length ≤ (wireGo lab cs).length + 1
  | [], lab, M, pos, _ => by simp [packGo, wireGo]
  | c :: cs, lab, M, pos, hn => by
    by_cases hc : c = 46
    · subst hc
      rw [nameGo, if_pos rfl] at hn
      split at hn
      · cases hn
      · rename_i hl
        have h0 : lab ≠ [] := by intro h; subst h; simp at hl
        have ih := packGo_short cs [] M (pos + (lab.length + 1)) (by simpa using hn)
        simp only [packGo, wireGo, if_true, if_neg h0, List.length_append, List.length_cons] at ih ⊢
        omega
    · have hn' : nameGo (lab.length + 1) cs = true := nameGo_let hn hc
      by_cases hl : lab = []
      · subst hl
        cases hlk : look M (mkB (c :: cs)) with
        | some p =>
          rw [pk_hit hc hlk]
          simp only [wireGo, hc, if_false, List.nil_append, ptrL, List.length_cons, List.length_nil]
          have : ∀ (cs lab : List UInt8), lab ≠ [] → nameGo lab.length cs = true → 1 ≤ (wireGo lab cs).length := by
            intro cs
            induction cs with
            | nil => intro lab h0 hn; cases lab with
              | nil => exact absurd rfl h0
              | cons x xs => simp [nameGo] at hn
            | cons d ds ih =>
              intro lab h0 hn
              by_cases hd : d = 46
              · subst hd; simp only [wireGo, if_true, if_neg h0, List.length_append, List.length_cons]; omega
              · simp only [wireGo, hd, if_false]
                exact ih (lab ++ [d]) (by simp) (by simpa using nameGo_let hn hd)
          have := this cs [c] (by simp) (by simpa using hn')
          omega
        | none =>
          rw [pk_miss hc hlk]
          have ih := packGo_short cs [c] (if pos ≤ 16383 then M ++ [(mkB (c :: cs), UInt16.ofNat pos)] else M) pos (by simpa using hn')
          simp only [wireGo, hc, if_false, List.nil_append]
          exact ih
      · rw [pk_mid hc hl]
        have ih := packGo_short cs (lab ++ [c]) M pos (by simpa using hn')
        simp only [wireGo, hc, if_false]
        exact ih
theorem packName_short {s : List UInt8} (h : nameL s) (M : Ent) (pos : Nat) : (packName (some M) pos s).1.length ≤ (wire s).length := by
  simp only [packName]
  by_cases hd : s = [46]
  · rw [if_pos hd, hd]; exact Nat.le_refl _
  · rw [if_neg hd]
    rcases h with h | ⟨_, h, _⟩
    · exact absurd h hd
    · have := packGo_short s [] M pos h
      simpa [wire] using this
theorem packName_some (s : List UInt8) (M : Ent) (pos : Nat) : ∃ M', (packName (some M) pos s).2 = some M' := by
  simp only [packName]
  split
  · exact ⟨M, rfl⟩
  · exact packGo_some s [] M pos
theorem packBody_short {r : RecD} (h : NamesOk r) (M : Ent) (pos : Nat) : (packBody (some M) pos r).1.length ≤ (bodyL r).length ∧ ∃ M', (packBody (some M) pos r).2 = some M' := by
  simp only [packBody, packMx, packSoa, bodyL]
  by_cases h1 : r.kind = 2 ∨ r.kind = 3 ∨ r.kind = 5
  · rw [if_pos h1, if_neg (by omega), if_neg (by omega), if_pos h1]
    exact ⟨packName_short (h.2.1 (by omega)) M pos, packName_some _ _ _⟩
  · rw [if_neg h1]
    by_cases h2 : r.kind = 6
    · rw [if_pos h2, if_neg (by omega), if_neg (by omega), if_neg h1, if_pos h2]
      refine ⟨?_, packName_some _ _ _⟩
      have := packName_short (h.2.1 (by omega)) M (pos + 2)
      simp only [List.length_append]; omega
    · rw [if_neg h2]
      by_cases h3 : r.kind = 4
      · rw [if_pos h3, if_neg (by omega), if_neg (by omega), if_neg h1, if_neg h2, if_pos h3]
        have e1 := packName_short (h.2.1 (by omega)) M pos
        obtain ⟨M1, hM1⟩ := packName_some (bt r.host) M pos
        simp only [hM1]
        have e2 := packName_short (h.2.2 h3) M1 (pos + (packName (some M) pos (bt r.host)).1.length)
        refine ⟨?_, packName_some _ _ _⟩
        simp only [List.length_append, soaL_length, be32_length]; omega
      · rw [if_neg h3, if_neg h1, if_neg h2, if_neg h3]
        exact ⟨Nat.le_refl _, M, rfl⟩
theorem packRec_short {r : RecD} (h : NamesOk r) (M : Ent) (pos : Nat) : (packRec (some M) pos r).1.length ≤ (recL r).length ∧ ∃ M', (packRec (some M) pos r).2 = some M' := by
  obtain ⟨M1, hM1⟩ := packName_some (bt r.name) M pos
  have e1 := packName_short h.1 M pos
  simp only [packRec, hM1]
  have e2 := packBody_short h M1 (pos + (packName (some M) pos (bt r.name)).1.length + 10)
  refine ⟨?_, e2.2⟩
  simp only [packTail, recL, List.length_append, be16_length, be32_length]
  omega
def BodyR (K : Nat → Prop) (b : List UInt8) (i : Nat) (r : RecD) (e : Nat) : Prop :=
  (r.kind = 2 ∨ r.kind = 3 ∨ r.kind = 5 → ∃ k, K k ∧ NameAt b k i (bt r.host) e) ∧
  (r.kind = 6 → Std b i (be16 r.n1.toNat) ∧ ∃ k, K k ∧ NameAt b k (i + 2) (bt r.host) e) ∧
  (r.kind = 4 → ∃ e1 e2, (∃ k, K k ∧ NameAt b k i (bt r.host) e1) ∧ (∃ k, K k ∧ NameAt b k e1 (bt r.box) e2) ∧ Std b e2 (soaL r) ∧ e = e2 + 20) ∧
  (r.kind = 9 → Std b i (be16 r.n1.toNat ++ (be16 r.n2.toNat ++ be16 r.n3.toNat)) ∧ NameAt b 0 (i + 6) (bt r.host) e) ∧
  (r.kind = 11 ∨ r.kind = 12 → Std b i (be16 r.n1.toNat) ∧ ∃ e1, NameAt b 0 (i + 2) (bt r.host) e1 ∧ Std b e1 (pairsL r.pairs) ∧ e = e1 + (pairsL r.pairs).length) ∧
  (r.kind = 1 ∨ r.kind = 7 ∨ r.kind = 8 ∨ r.kind = 10 ∨ r.kind = 13 → Std b i (bodyL r) ∧ e = i + (bodyL r).length)
def RecR (K : Nat → Prop) (b : List UInt8) (i : Nat) (r : RecD) (e : Nat) : Prop :=
  ∃ e0 len, (∃ k, K k ∧ NameAt b k i (bt r.name) e0) ∧ Std b e0 (be16 (typeN r).toNat ++ (be16 r.cls.toNat ++ (be32 r.ttl.toNat ++ be16 len))) ∧ len < 65536 ∧ BodyR K b (e0 + 10) r (e0 + 10 + len) ∧ e = e0 + 10 + len
def AskR (K : Nat → Prop) (b : List UInt8) (i : Nat) (a : AskD) (e : Nat) : Prop := ∃ e0, (∃ k, K k ∧ NameAt b k i (bt a.name) e0) ∧ Std b e0 (be16 a.typ.toNat ++ be16 a.cls.toNat) ∧ e = e0 + 4
def ListR {α : Type} (R : Nat → α → Nat → Prop) : Nat → List α → Nat → Prop
  | i, [], e => i = e
  | i, x :: xs, e => ∃ e1, R i x e1 ∧ ListR R e1 xs e
def MsgR (K : Nat → Prop) (b : List UInt8) (m : MsgD) : Prop :=
  Std b 0 (headL m.head (countsM m)) ∧ ∃ e0 e1 e2, ListR (AskR K b) 12 m.asks e0 ∧ ListR (RecR K b) e0 m.one e1 ∧ ListR (RecR K b) e1 m.two e2 ∧ ListR (RecR K b) e2 m.three b.length

def KName (K : Nat → Prop) (s : ByteArray) : Prop := ∀ k, k ≤ ((bt s).drop 1).count 46 → K k
def KRec (K : Nat → Prop) (r : RecD) : Prop := KName K r.name ∧ KName K r.host ∧ KName K r.box
def KMsg (K : Nat → Prop) (m : MsgD) : Prop := (∀ a ∈ m.asks, KName K a.name) ∧ (∀ r ∈ m.one, KRec K r) ∧ (∀ r ∈ m.two, KRec K r) ∧ (∀ r ∈ m.three, KRec K r)

theorem bodyL_simple {r : RecD} {K : Nat → Prop} {b : List UInt8} {i : Nat} (h : NamesOk r) (h1 : ¬ (r.kind = 2 ∨ r.kind = 3 ∨ r.kind = 5)) (h2 : ¬ r.kind = 6) (h3 : ¬ r.kind = 4) (hb : Std b i (bodyL r)) : BodyR K b i r (i + (bodyL r).length) := by
  refine ⟨fun h => absurd h h1, fun h => absurd h h2, fun h => absurd h h3, fun h9 => ?_, fun h11 => ?_, fun _ => ⟨hb, rfl⟩⟩
  · have e : bodyL r = (be16 r.n1.toNat ++ (be16 r.n2.toNat ++ be16 r.n3.toNat)) ++ wire (bt r.host) := by
      rw [bodyL, if_neg (by omega), if_neg (by omega), if_neg h1, if_neg h2, if_neg h3, if_neg (by omega), if_pos h9]
      simp
    rw [e] at hb ⊢
    refine ⟨hb.left, ?_⟩
    have := wire_at (h.2.1 (by omega)) (hb.right' (k := i + 6) (by simp [be16_length]))
    rw [List.length_append, show (be16 r.n1.toNat ++ (be16 r.n2.toNat ++ be16 r.n3.toNat)).length = 6 from rfl, ← Nat.add_assoc]
    exact this
  · have e : bodyL r = be16 r.n1.toNat ++ (wire (bt r.host) ++ pairsL r.pairs) := by
      rw [bodyL, if_neg (by omega), if_neg (by omega), if_neg h1, if_neg h2, if_neg h3, if_neg (by omega), if_neg (by omega), if_neg (by omega), if_pos h11]
    rw [e] at hb ⊢
    have hb2 := hb.right' (k := i + 2) (by simp [be16_length])
    refine ⟨hb.left, _, wire_at (h.2.1 (by omega)) hb2.left, hb2.right, ?_⟩
    simp only [List.length_append, be16_length]; omega
theorem packBody_at {r : RecD} {K : Nat → Prop} {b : List UInt8} {M : Ent} {pos : Nat} (h : NamesOk r) (hK : KRec K r) (hM : GoodM b pos M) (hb : Std b pos (packBody (some M) pos r).1) :
    BodyR K b pos r (pos + (packBody (some M) pos r).1.length) ∧ ∃ M', (packBody (some M) pos r).2 = some M' ∧ GoodM b (pos + (packBody (some M) pos r).1.length) M' := by
  have upM : ∀ {M : Ent} {p q : Nat}, GoodM b p M → p ≤ q → GoodM b q M := fun h hl key p hp => (h key p hp).up hl
  simp only [packBody] at hb ⊢
  by_cases h1 : r.kind = 2 ∨ r.kind = 3 ∨ r.kind = 5
  · rw [if_pos h1] at hb ⊢
    obtain ⟨⟨k, hk, hkl⟩, M', hM', hg⟩ := packName_at (h.2.1 (by omega)) hb hM
    exact ⟨⟨fun _ => ⟨k, hK.2.1 k hkl, hk⟩, fun _ => by omega, fun _ => by omega, fun _ => by omega, fun _ => by omega, fun _ => by omega⟩, M', hM', hg⟩
  · rw [if_neg h1] at hb ⊢
    by_cases h2 : r.kind = 6
    · rw [if_pos h2] at hb ⊢
      simp only [packMx] at hb ⊢
      obtain ⟨⟨k, hk, hkl⟩, M', hM', hg⟩ := packName_at (h.2.1 (by omega)) (hb.right' (k := pos + 2) rfl) (upM hM (by omega))
      have e : pos + (be16 r.n1.toNat ++ (packName (some M) (pos + 2) (bt r.host)).1).length = pos + 2 + (packName (some M) (pos + 2) (bt r.host)).1.length := by simp [be16_length]; omega
      rw [e]
      exact ⟨⟨fun _ => by omega, fun _ => ⟨hb.left, k, hK.2.1 k hkl, hk⟩, fun _ => by omega, fun _ => by omega, fun _ => by omega, fun _ => by omega⟩, M', hM', hg⟩
    · rw [if_neg h2] at hb ⊢
      by_cases h3 : r.kind = 4
      · rw [if_pos h3] at hb ⊢
        simp only [packSoa] at hb ⊢
        obtain ⟨⟨k, hk, hkl⟩, M', hM', hg⟩ := packName_at (h.2.1 (by omega)) hb.left hM
        rw [hM'] at hb ⊢
        have hb2 := hb.right
        obtain ⟨⟨k2, hk2, hkl2⟩, M2, hM2, hg2⟩ := packName_at (h.2.2 h3) hb2.left hg
        rw [hM2]
        refine ⟨⟨fun _ => by omega, fun _ => by omega, fun _ => ⟨_, _, ⟨k, hK.2.1 k hkl, hk⟩, ⟨k2, hK.2.2 k2 hkl2, hk2⟩, hb2.right, ?_⟩, fun _ => by omega, fun _ => by omega, fun _ => by omega⟩, M2, rfl, upM hg2 ?_⟩
        · simp only [List.length_append, soaL_length]; omega
        · simp only [List.length_append, soaL_length]; omega
      · rw [if_neg h3] at hb ⊢
        exact ⟨bodyL_simple h h1 h2 h3 hb, M, rfl, upM hM (by omega)⟩
theorem packRec_at {r : RecD} {K : Nat → Prop} {b : List UInt8} {M : Ent} {pos : Nat} (h : NamesOk r) (hl : (bodyL r).length < 65536) (hK : KRec K r) (hM : GoodM b pos M) (hb : Std b pos (packRec (some M) pos r).1) :
    RecR K b pos r (pos + (packRec (some M) pos r).1.length) ∧ ∃ M', (packRec (some M) pos r).2 = some M' ∧ GoodM b (pos + (packRec (some M) pos r).1.length) M' := by
  simp only [packRec] at hb ⊢
  obtain ⟨⟨k, hk, hkl⟩, M', hM', hg⟩ := packName_at h.1 hb.left hM
  rw [hM'] at hb ⊢
  have hb2 := hb.right
  simp only [packTail] at hb2
  have e0 : ∀ body : List UInt8, be16 (typeN r).toNat ++ (be16 r.cls.toNat ++ (be32 r.ttl.toNat ++ (be16 body.length ++ body))) = (be16 (typeN r).toNat ++ (be16 r.cls.toNat ++ (be32 r.ttl.toNat ++ be16 body.length))) ++ body := by intro body; simp
  rw [e0] at hb2
  have hb3 := hb2.right' (k := pos + (packName (some M) pos (bt r.name)).1.length + 10) rfl
  have hs := (packBody_short h M' (pos + (packName (some M) pos (bt r.name)).1.length + 10)).1
  obtain ⟨hbody, M2, hM2, hg2⟩ := packBody_at h hK (fun key p hp => (hg key p hp).up (by omega)) hb3
  have elen : pos + ((packName (some M) pos (bt r.name)).1 ++ packTail r (packBody (some M') (pos + (packName (some M) pos (bt r.name)).1.length + 10) r).1).length = pos + (packName (some M) pos (bt r.name)).1.length + 10 + (packBody (some M') (pos + (packName (some M) pos (bt r.name)).1.length + 10) r).1.length := by
    simp only [packTail, List.length_append, be16_length, be32_length]; omega
  rw [elen]
  exact ⟨⟨_, _, ⟨k, hK.1 k hkl, hk⟩, hb2.left, by omega, hbody, rfl⟩, M2, hM2, hg2⟩
theorem packAsk_at {a : AskD} {K : Nat → Prop} {b : List UInt8} {M : Ent} {pos : Nat} (h : nameL (bt a.name)) (hK : KName K a.name) (hM : GoodM b pos M) (hb : Std b pos (packAsk (some M) pos a).1) :
    AskR K b pos a (pos + (packAsk (some M) pos a).1.length) ∧ ∃ M', (packAsk (some M) pos a).2 = some M' ∧ GoodM b (pos + (packAsk (some M) pos a).1.length) M' := by
  simp only [packAsk] at hb ⊢
  obtain ⟨⟨k, hk, hkl⟩, M', hM', hg⟩ := packName_at h hb.left hM
  have elen : pos + ((packName (some M) pos (bt a.name)).1 ++ (be16 a.typ.toNat ++ be16 a.cls.toNat)).length = pos + (packName (some M) pos (bt a.name)).1.length + 4 := by
    simp only [List.length_append, be16_length]; omega
  rw [elen]
  exact ⟨⟨_, ⟨k, hK k hkl, hk⟩, hb.right, rfl⟩, M', hM', fun key p hp => (hg key p hp).up (by omega)⟩
theorem packAll_at {α : Type} {f : Option Ent → Nat → α → List UInt8 × Option Ent} {R : Nat → α → Nat → Prop} {b : List UInt8} : ∀ (xs : List α) (M : Ent) (pos : Nat), GoodM b pos M → Std b pos (packAll f (some M) pos xs).1 →
    (∀ x ∈ xs, ∀ M pos, GoodM b pos M → Std b pos (f (some M) pos x).1 → R pos x (pos + (f (some M) pos x).1.length) ∧ ∃ M', (f (some M) pos x).2 = some M' ∧ GoodM b (pos + (f (some M) pos x).1.length) M') →
    ListR R pos xs (pos + (packAll f (some M) pos xs).1.length) ∧ ∃ M', (packAll f (some M) pos xs).2 = some M' ∧ GoodM b (pos + (packAll f (some M) pos xs).1.length) M'
  | [], M, pos, hM, _, _ => ⟨rfl, M, rfl, hM⟩
  | x :: xs, M, pos, hM, hb, h => by
    simp only [packAll] at hb ⊢
    obtain ⟨h1, M1, hM1, hg⟩ := h x (by simp) M pos hM hb.left
    rw [hM1] at hb ⊢
    obtain ⟨h2, M2, hM2, hg2⟩ := packAll_at xs M1 _ hg hb.right (fun y hy => h y (by simp [hy]))
    have e : pos + ((f (some M) pos x).1 ++ (packAll f (some M1) (pos + (f (some M) pos x).1.length) xs).1).length = pos + (f (some M) pos x).1.length + (packAll f (some M1) (pos + (f (some M) pos x).1.length) xs).1.length := by
      simp only [List.length_append]; omega
    rw [e]
    exact ⟨⟨_, h1, h2⟩, M2, hM2, hg2⟩
theorem headL_len (h : HeadD) (m : MsgD) : (headL h (countsM m)).length = 12 := rfl
theorem packM_at {m : MsgD} {K : Nat → Prop} (h : MsgNames m) (hl : ∀ r, r ∈ m.one ∨ r ∈ m.two ∨ r ∈ m.three → (bodyL r).length < 65536) (hK : KMsg K m) : MsgR K (packM (some []) m) m := by
  have hb : Std (packM (some []) m) 0 (packM (some []) m) := Std.self _
  obtain ⟨b, hbd⟩ : ∃ b, b = packM (some []) m := ⟨_, rfl⟩
  rw [← hbd] at hb ⊢
  conv at hb => arg 3; rw [hbd]
  simp only [packM] at hb
  have hb1 := hb.right' (k := 12) (by rw [headL_len])
  have hlen : b.length = 12 + (packA (some []) m).1.length + (pack1 (some []) m).1.length + (pack2 (some []) m).1.length + (pack3 (some []) m).1.length := by
    rw [hbd]; simp only [packM, List.length_append, headL_len]; omega
  obtain ⟨ha, Ma, hMa, ga⟩ := packAll_at (f := packAsk) (R := AskR K b) m.asks [] 12 (fun key p hp => by simp [look] at hp) hb1.left (fun x hx M pos hM hs => packAsk_at (h.1 x hx) (hK.1 x hx) hM hs)
  have e1 : pack1 (some []) m = packAll packRec (some Ma) (12 + (packA (some []) m).1.length) m.one := by rw [pack1, packA, hMa]
  have hb2 := hb1.right
  obtain ⟨h1, M1, hM1, g1⟩ := packAll_at (f := packRec) (R := RecR K b) m.one Ma (12 + (packA (some []) m).1.length) ga (by rw [← e1]; exact hb2.left) (fun x hx M pos hM hs => packRec_at (h.2.1 x hx) (hl x (.inl hx)) (hK.2.1 x hx) hM hs)
  rw [← e1] at h1 hM1 g1
  have e2 : pack2 (some []) m = packAll packRec (some M1) (12 + (packA (some []) m).1.length + (pack1 (some []) m).1.length) m.two := by rw [pack2, hM1]
  have hb3 := hb2.right
  obtain ⟨h2, M2, hM2, g2⟩ := packAll_at (f := packRec) (R := RecR K b) m.two M1 _ g1 (by rw [← e2]; exact hb3.left) (fun x hx M pos hM hs => packRec_at (h.2.2.1 x hx) (hl x (.inr (.inl hx))) (hK.2.2.1 x hx) hM hs)
  rw [← e2] at h2 hM2 g2
  have e3 : pack3 (some []) m = packAll packRec (some M2) (12 + (packA (some []) m).1.length + (pack1 (some []) m).1.length + (pack2 (some []) m).1.length) m.three := by rw [pack3, hM2]
  obtain ⟨h3, M3, hM3, g3⟩ := packAll_at (f := packRec) (R := RecR K b) m.three M2 _ g2 (by rw [← e3]; exact hb3.right) (fun x hx M pos hM hs => packRec_at (h.2.2.2 x hx) (hl x (.inr (.inr hx))) (hK.2.2.2 x hx) hM hs)
  rw [← e3] at h3
  rw [← hlen] at h3
  exact ⟨hb.left, _, _, _, ha, h1, h2, h3⟩
theorem recL_at {r : RecD} {K : Nat → Prop} {b : List UInt8} {pos : Nat} (h : NamesOk r) (hl : (bodyL r).length < 65536) (h0 : K 0) (hb : Std b pos (recL r)) : RecR K b pos r (pos + (recL r).length) := by
  simp only [recL] at hb ⊢
  have hb2 := hb.right
  have e0 : ∀ body : List UInt8, be16 (typeN r).toNat ++ (be16 r.cls.toNat ++ (be32 r.ttl.toNat ++ (be16 body.length ++ body))) = (be16 (typeN r).toNat ++ (be16 r.cls.toNat ++ (be32 r.ttl.toNat ++ be16 body.length))) ++ body := by intro body; simp
  rw [e0] at hb2
  have hb3 := hb2.right' (k := pos + (wire (bt r.name)).length + 10) rfl
  refine ⟨_, (bodyL r).length, ⟨0, h0, wire_at h.1 hb.left⟩, hb2.left, hl, ?_, ?_⟩
  · by_cases h1 : r.kind = 2 ∨ r.kind = 3 ∨ r.kind = 5
    · have e : bodyL r = wire (bt r.host) := by rw [bodyL, if_neg (by omega), if_neg (by omega), if_pos h1]
      rw [e] at hb3 ⊢
      exact ⟨fun _ => ⟨0, h0, wire_at (h.2.1 (by omega)) hb3⟩, fun _ => by omega, fun _ => by omega, fun _ => by omega, fun _ => by omega, fun _ => by omega⟩
    · by_cases h2 : r.kind = 6
      · have e : bodyL r = be16 r.n1.toNat ++ wire (bt r.host) := by rw [bodyL, if_neg (by omega), if_neg (by omega), if_neg h1, if_pos h2]
        rw [e] at hb3 ⊢
        refine ⟨fun _ => by omega, fun _ => ⟨hb3.left, 0, h0, ?_⟩, fun _ => by omega, fun _ => by omega, fun _ => by omega, fun _ => by omega⟩
        have := wire_at (h.2.1 (by omega)) hb3.right
        rw [List.length_append, ← Nat.add_assoc]; exact this
      · by_cases h3 : r.kind = 4
        · have e : bodyL r = wire (bt r.host) ++ (wire (bt r.box) ++ soaL r) := by rw [bodyL, if_neg (by omega), if_neg (by omega), if_neg h1, if_neg h2, if_pos h3]; rfl
          rw [e] at hb3 ⊢
          refine ⟨fun _ => by omega, fun _ => by omega, fun _ => ⟨_, _, ⟨0, h0, wire_at (h.2.1 (by omega)) hb3.left⟩, ⟨0, h0, wire_at (h.2.2 h3) hb3.right.left⟩, hb3.right.right, ?_⟩, fun _ => by omega, fun _ => by omega, fun _ => by omega⟩
          simp only [List.length_append, soaL_length]; omega
        · exact bodyL_simple h h1 h2 h3 hb3
  · simp only [List.length_append, be16_length, be32_length]; omega
theorem askL_at {a : AskD} {K : Nat → Prop} {b : List UInt8} {pos : Nat} (h : nameL (bt a.name)) (h0 : K 0) (hb : Std b pos (askL a)) : AskR K b pos a (pos + (askL a).length) := by
  simp only [askL] at hb ⊢
  refine ⟨_, ⟨0, h0, wire_at h hb.left⟩, hb.right, ?_⟩
  simp only [List.length_append, be16_length]; omega
theorem list_at {α : Type} {g : α → List UInt8} {R : Nat → α → Nat → Prop} {b : List UInt8} : ∀ (xs : List α) (pos : Nat), Std b pos ((xs.map g).flatten) → (∀ x ∈ xs, ∀ pos, Std b pos (g x) → R pos x (pos + (g x).length)) → ListR R pos xs (pos + ((xs.map g).flatten).length)
  | [], pos, _, _ => rfl
  | x :: xs, pos, hb, h => by
    simp only [List.map_cons, List.flatten_cons] at hb ⊢
    have h2 := list_at xs _ hb.right (fun y hy => h y (by simp [hy]))
    rw [List.length_append, ← Nat.add_assoc]
    exact ⟨_, h x (by simp) pos hb.left, h2⟩
theorem msgL_at {m : MsgD} {K : Nat → Prop} (h : MsgNames m) (hl : ∀ r, r ∈ m.one ∨ r ∈ m.two ∨ r ∈ m.three → (bodyL r).length < 65536) (h0 : K 0) : MsgR K (msgL m) m := by
  have hb : Std (msgL m) 0 (msgL m) := Std.self _
  obtain ⟨b, hbd⟩ : ∃ b, b = msgL m := ⟨_, rfl⟩
  rw [← hbd] at hb ⊢
  conv at hb => arg 3; rw [hbd]
  simp only [msgL] at hb
  have hb1 := hb.right' (k := 12) rfl
  have hlen : b.length = 12 + (asksL m.asks).length + (recsL m.one).length + (recsL m.two).length + (recsL m.three).length := by
    rw [hbd]
    have : (headL m.head [m.asks.length, m.one.length, m.two.length, m.three.length]).length = 12 := rfl
    simp only [msgL, List.length_append, this]; omega
  have ha := list_at (g := askL) (R := AskR K b) m.asks 12 hb1.left (fun x hx pos hs => askL_at (h.1 x hx) h0 hs)
  have h1 := list_at (g := recL) (R := RecR K b) m.one _ hb1.right.left (fun x hx pos hs => recL_at (h.2.1 x hx) (hl x (.inl hx)) h0 hs)
  have h2 := list_at (g := recL) (R := RecR K b) m.two _ hb1.right.right.left (fun x hx pos hs => recL_at (h.2.2.1 x hx) (hl x (.inr (.inl hx))) h0 hs)
  have h3 := list_at (g := recL) (R := RecR K b) m.three _ hb1.right.right.right (fun x hx pos hs => recL_at (h.2.2.2 x hx) (hl x (.inr (.inr hx))) h0 hs)
  refine ⟨hb.left, _, _, _, ha, h1, h2, ?_⟩
  rw [hlen]; exact h3
end Go.Proofs.YtifnodoffgfpbaaGreatDoor

namespace Go.Proofs.YtifnodoffgfpbaaGreatDoor
open Go

theorem wire_bound {s : List UInt8} (hs : nameL s) : (wire s).length ≤ 509 := by
  have := wire_le s
  have := (name_pos hs).2
  omega
abbrev lQ : List Nat := [256, 1, 1]
theorem pb_name {C : Option Ent} {pos : Nat} {r : RecD} (h : r.kind = 2 ∨ r.kind = 3 ∨ r.kind = 5) : packBody C pos r = packName C pos (bt r.host) := by rw [packBody, if_pos h]
theorem pb_mx {C : Option Ent} {pos : Nat} {r : RecD} (h : r.kind = 6) : packBody C pos r = packMx C pos r := by rw [packBody, if_neg (by omega), if_pos h]
theorem pb_soa {C : Option Ent} {pos : Nat} {r : RecD} (h : r.kind = 4) : packBody C pos r = packSoa C pos r := by rw [packBody, if_neg (by omega), if_neg (by omega), if_pos h]
theorem pb_rest {C : Option Ent} {pos : Nat} {r : RecD} (h : ¬ (r.kind = 2 ∨ r.kind = 3 ∨ r.kind = 5 ∨ r.kind = 6 ∨ r.kind = 4)) : packBody C pos r = (bodyL r, C) := by rw [packBody, if_neg (by omega), if_neg (by omega), if_neg (by omega)]
end Go.Proofs.YtifnodoffgfpbaaGreatDoor

namespace Go.Proofs.YtifnodoffgfpbaaGreatDoor
open Go

theorem packName_bound {C : Option Ent} {pos : Nat} {s : List UInt8} (hs : nameL s) : (packName C pos s).1.length ≤ 510 := by
  have := packName_le C pos s
  have := (name_pos hs).2
  omega

end Go.Proofs.YtifnodoffgfpbaaGreatDoor

namespace Go.Proofs.YtifnodoffgfpbaaGreatDoor
open Go

theorem asc_pos {ps : List PairD} (h : asc ps) {k : Nat} {p : PairD} (hp : ps[k]? = some p) (hk : 0 < k) : 0 < p.key.toNat := by
  obtain ⟨q, hq⟩ := some_of_lt (l := ps) (k := k - 1) (by have := (List.getElem?_eq_some_iff.1 hp).1; omega)
  have := h (k - 1) q p hq (by rw [show k - 1 + 1 = k by omega]; exact hp)
  omega
theorem pairs_take_le (ps : List PairD) (k : Nat) : (pairsL (ps.take k)).length ≤ (pairsL ps).length := by
  conv => rhs; rw [← List.take_append_drop k ps]
  simp only [pairsL, List.map_append, List.flatten_append, List.length_append]; omega
end Go.Proofs.YtifnodoffgfpbaaGreatDoor

namespace Go.Proofs.YtifnodoffgfpbaaGreatDoor
open Go
set_option maxRecDepth 100000
def FitP (r : RecD) : Prop := r.data.length ≤ 900000 ∧ (r.kind = 7 → ∀ s ∈ r.texts, s.size ≤ 255) ∧ r.texts.length ≤ 1048576 ∧ (textsL r.texts).length ≤ 900000 ∧ (∀ p ∈ r.pairs, p.data.length ≤ 65535) ∧ r.pairs.length ≤ 1048576 ∧ (pairsL r.pairs).length ≤ 900000 ∧ (r.kind = 11 ∨ r.kind = 12 → asc r.pairs)
end Go.Proofs.YtifnodoffgfpbaaGreatDoor

namespace Go.Proofs.YtifnodoffgfpbaaGreatDoor
open Go

theorem ag_flat (segs : List (List Value)) : ([ag segs].map (·.cells.toList)).flatten = segs.flatten := by simp [Value.cells]
theorem packBody_len {C : Option Ent} {pos : Nat} {r : RecD} (h : NamesOk r) (hl : (bodyL r).length < 65536) : (packBody C pos r).1.length < 65536 := by
  cases C with
  | none => rw [packBody_non h]; exact hl
  | some M => have := (packBody_short h M pos).1; omega

end Go.Proofs.YtifnodoffgfpbaaGreatDoor

namespace Go.Proofs.YtifnodoffgfpbaaGreatDoor
open Go

def QEl (_ : Nat → Prop) (_ : World) (segs : List (List Value)) (a : AskD) : Prop := segs = questSegs a
theorem q_gr : Grows QEl := fun _ _ _ _ _ h _ => h
theorem packAll_bound {α : Type} {f : Option Ent → Nat → α → List UInt8 × Option Ent} {B : Nat} : ∀ (xs : List α) (C : Option Ent) (pos : Nat), (∀ x ∈ xs, ∀ C pos, (f C pos x).1.length ≤ B) → (packAll f C pos xs).1.length ≤ xs.length * B
  | [], C, pos, _ => by simp [packAll]
  | x :: xs, C, pos, h => by
    simp only [packAll, List.length_append, List.length_cons, Nat.add_mul, Nat.one_mul]
    have h1 := h x (by simp) C pos
    have h2 := packAll_bound xs (f C pos x).2 (pos + (f C pos x).1.length) (fun y hy => h y (by simp [hy]))
    omega
theorem packAsk_bound {a : AskD} (h : nameL (bt a.name)) (C : Option Ent) (pos : Nat) : (packAsk C pos a).1.length ≤ 600 := by
  have := packName_bound (C := C) (pos := pos) h
  simp only [packAsk, List.length_append, be16_length]; omega
theorem packRec_bound {r : RecD} (h : NamesOk r) (hl : (bodyL r).length < 65536) (C : Option Ent) (pos : Nat) : (packRec C pos r).1.length ≤ 67000 := by
  have h1 := packName_bound (C := C) (pos := pos) h.1
  have h2 := packBody_len (C := (packName C pos (bt r.name)).2) (pos := pos + (packName C pos (bt r.name)).1.length + 10) h hl
  simp only [packRec, packTail, List.length_append, be16_length, be32_length]; omega
def GoodP (r : RecD) : Prop := NamesOk r ∧ FitP r ∧ (bodyL r).length < 65536
theorem packRecs_bound {rs : List RecD} (h : ∀ r ∈ rs, GoodP r) (hn : rs.length ≤ 40) (C : Option Ent) (pos : Nat) : (packAll packRec C pos rs).1.length ≤ 2680000 := by
  have := packAll_bound (f := packRec) (B := 67000) rs C pos (fun r hr => packRec_bound (h r hr).1 (h r hr).2.2)
  omega
theorem packAsks_bound {xs : List AskD} (h : ∀ a ∈ xs, nameL (bt a.name)) (hn : xs.length ≤ 40) (C : Option Ent) (pos : Nat) : (packAll packAsk C pos xs).1.length ≤ 24000 := by
  have := packAll_bound (f := packAsk) (B := 600) xs C pos (fun a ha => packAsk_bound (h a ha))
  omega
end Go.Proofs.YtifnodoffgfpbaaGreatDoor

namespace Go.Proofs.YtifnodoffgfpbaaGreatDoor
open Go

def PackOk (r : RecD) : Prop := (r.name.size ≤ 255 ∧ 1 ≤ r.kind ∧ r.kind ≤ 13 ∧ FitB r) ∧ GoodP r

end Go.Proofs.YtifnodoffgfpbaaGreatDoor

namespace Go.Proofs.YtifnodoffgfpbaaGreatDoor
open Go

theorem MsgD.fits.lists {m : MsgD} (h : m.fits) : (∀ l ∈ [m.one, m.two, m.three], l.length ≤ 1048576) ∧ (∀ l ∈ [m.one, m.two, m.three], ∀ r ∈ l, r.fits) := by
  obtain ⟨h1, h2, h3, h4, h5, h6, h7, h8⟩ := h
  constructor
  · intro l hl
    simp only [List.mem_cons, List.not_mem_nil, or_false] at hl
    rcases hl with rfl | rfl | rfl <;> assumption
  · intro l hl
    simp only [List.mem_cons, List.not_mem_nil, or_false] at hl
    rcases hl with rfl | rfl | rfl <;> assumption
theorem nameOk_le {s : ByteArray} (h : nameOk s = true) : s.size ≤ 254 ∧ nameL (bt s) := ⟨nameOk_size h, nameL_of h⟩
theorem mem_sum_le {α : Type} {f : α → Nat} {l : List α} {a : α} (h : a ∈ l) : f a ≤ (l.map f).sum := by
  induction l with
  | nil => cases h
  | cons x xs ih =>
    simp only [List.map_cons, List.sum_cons]
    rcases List.mem_cons.1 h with rfl | h
    · omega
    · have := ih h; omega
theorem few_body {r : RecD} (hs : smallR r) (hg : goodR r) : PackOk r := by
  obtain ⟨k1, k13, hz⟩ := hs
  obtain ⟨hn, h7, h11, hh, hb⟩ := hg
  simp only [sizeR] at hz
  have hz2 := sum_add4 r.pairs
  have hnl := nameOk_le hn
  have hhost : r.kind = 2 ∨ r.kind = 3 ∨ r.kind = 5 ∨ r.kind = 6 ∨ r.kind = 9 ∨ r.kind = 11 ∨ r.kind = 12 ∨ r.kind = 4 → r.host.size ≤ 254 ∧ nameL (bt r.host) := fun h => nameOk_le (hh h)
  have hbox : r.kind = 4 → r.box.size ≤ 254 ∧ nameL (bt r.box) := fun h => nameOk_le (hb h)
  have hp : ∀ p ∈ r.pairs, p.data.length ≤ 2000 := fun p hp => by
    have := mem_sum_le (f := fun p : PairD => p.data.length + 4) hp
    omega
  have hpl := pairsL_length r.pairs
  have htl := textsL_length r.texts
  refine ⟨⟨by omega, k1, k13, fun h => by have := hhost h; omega, fun h => by have := hbox h; omega, by omega, by omega, by omega, fun p h => by have := hp p h; omega⟩, ⟨hnl.2, fun h => (hhost h).2, fun h => (hbox h).2⟩,
    ⟨by omega, fun h => (h7 h).2, by omega, by omega, fun p h => by have := hp p h; omega, by omega, by omega, h11⟩, ?_⟩
  have hw1 := wire_le (bt r.host)
  have hw2 := wire_le (bt r.box)
  rw [bt_length] at hw1 hw2
  have hk : r.kind = 1 ∨ r.kind = 2 ∨ r.kind = 3 ∨ r.kind = 4 ∨ r.kind = 5 ∨ r.kind = 6 ∨ r.kind = 7 ∨ r.kind = 8 ∨ r.kind = 9 ∨ r.kind = 10 ∨ r.kind = 11 ∨ r.kind = 12 ∨ r.kind = 13 := by omega
  rcases hk with h | h | h | h | h | h | h | h | h | h | h | h | h <;> simp [bodyL, h, fixedL_length, be16_length, be32_length]
  · have := hhost (by omega); omega
  · have := hhost (by omega); omega
  · have := hhost (by omega); have := hbox h; omega
  · have := hhost (by omega); omega
  · have := hhost (by omega); omega
  · omega
  · have := hhost (by omega); omega
  · omega
  · have := hhost (by omega); omega
  · have := hhost (by omega); omega
  · omega
theorem few_pack {m : MsgD} (h : fewM m) : (∀ a ∈ m.asks, nameL (bt a.name)) ∧ (∀ l ∈ [m.one, m.two, m.three], ∀ r ∈ l, PackOk r) ∧ (m.asks.length ≤ 40 ∧ m.one.length ≤ 40 ∧ m.two.length ≤ 40 ∧ m.three.length ≤ 40) ∧ m.head.ok := by
  obtain ⟨hc, hs, ha, hg, hh⟩ := h
  exact ⟨fun a h => nameL_of (ha a h), fun l hl r hr => few_body (hs l hl r hr) (hg l hl r hr), by omega, hh⟩
theorem packM_ge (C : Option Ent) (m : MsgD) : 12 ≤ (packM C m).length := by
  simp only [packM, List.length_append, headL_len]; omega
theorem packM_le {m : MsgD} (h : fewM m) : (packM (some []) m).length ≤ 10000000 := by
  obtain ⟨hna, hpk, hc, _⟩ := few_pack h
  have h0 := packAsks_bound hna (by omega) (some []) 12
  have h1 := packRecs_bound (fun r hr => (hpk m.one (by simp) r hr).2) (by omega) (packA (some []) m).2 (12 + (packA (some []) m).1.length)
  have h2 := packRecs_bound (fun r hr => (hpk m.two (by simp) r hr).2) (by omega) (pack1 (some []) m).2 (12 + (packA (some []) m).1.length + (pack1 (some []) m).1.length)
  have h3 := packRecs_bound (fun r hr => (hpk m.three (by simp) r hr).2) (by omega) (pack2 (some []) m).2 (12 + (packA (some []) m).1.length + (pack1 (some []) m).1.length + (pack2 (some []) m).1.length)
  have e0 : (packA (some []) m).1.length ≤ 24000 := h0
  have e1 : (pack1 (some []) m).1.length ≤ 2680000 := h1
  have e2 : (pack2 (some []) m).1.length ≤ 2680000 := h2
  have e3 : (pack3 (some []) m).1.length ≤ 2680000 := h3
  simp only [packM, List.length_append, headL_len]; omega

end Go.Proofs.YtifnodoffgfpbaaGreatDoor

namespace Go.Proofs.YtifnodoffgfpbaaGreatDoor
open Go

def emptyB : ByteArray := ⟨#[]⟩
def normR (r : RecD) (len : UInt16) : RecD :=
  { name := r.name, typ := typeN r, cls := r.cls, ttl := r.ttl, len := len, kind := r.kind,
    data := if r.kind = 1 then fixedL r.data 4 else if r.kind = 8 then fixedL r.data 16 else if r.kind = 13 then r.data else [],
    host := if r.kind = 2 ∨ r.kind = 3 ∨ r.kind = 5 ∨ r.kind = 6 ∨ r.kind = 9 ∨ r.kind = 11 ∨ r.kind = 12 ∨ r.kind = 4 then r.host else emptyB,
    box := if r.kind = 4 then r.box else emptyB,
    n1 := if r.kind = 4 then r.n1 else if r.kind = 6 ∨ r.kind = 9 ∨ r.kind = 11 ∨ r.kind = 12 then UInt32.ofNat (r.n1.toNat % 65536) else 0,
    n2 := if r.kind = 4 then r.n2 else if r.kind = 9 then UInt32.ofNat (r.n2.toNat % 65536) else 0,
    n3 := if r.kind = 4 then r.n3 else if r.kind = 9 then UInt32.ofNat (r.n3.toNat % 65536) else 0,
    n4 := if r.kind = 4 then r.n4 else 0,
    n5 := if r.kind = 4 then r.n5 else 0,
    texts := if r.kind = 7 then r.texts else [],
    pairs := if r.kind = 10 ∨ r.kind = 11 ∨ r.kind = 12 then r.pairs else [] }
def Like (r' r : RecD) : Prop := ∃ len, r' = normR r len
def LikeM (m' m : MsgD) : Prop := m'.head = m.head ∧ m'.asks = m.asks ∧ All2 Like m'.one m.one ∧ All2 Like m'.two m.two ∧ All2 Like m'.three m.three
theorem u32mod (x : UInt32) : (UInt32.ofNat (x.toNat % 65536)).toNat = x.toNat % 65536 := by
  have := x.toNat_lt
  rw [UInt32.toNat_ofNat']; omega
theorem fixedL_fixed (d : List UInt8) (n : Nat) : fixedL (fixedL d n) n = fixedL d n := by
  have h := fixedL_length d n
  rw [fixedL, List.take_append_of_le_length (by omega), List.take_of_length_le (by omega)]
theorem typeN_norm (r : RecD) (len : UInt16) : typeN (normR r len) = typeN r := by
  simp only [typeN, normR]
  by_cases h : r.kind = 13
  · simp [h]
  · simp only [if_neg h]
theorem be16_mod2 (n : Nat) : be16 (n % 65536 % 4294967296) = be16 n := by
  rw [show n % 65536 % 4294967296 = n % 65536 by omega, be16_mod]
theorem bodyL_norm (r : RecD) (len : UInt16) (h1 : 1 ≤ r.kind) (h13 : r.kind ≤ 13) : bodyL (normR r len) = bodyL r := by
  have hk : r.kind = 1 ∨ r.kind = 2 ∨ r.kind = 3 ∨ r.kind = 4 ∨ r.kind = 5 ∨ r.kind = 6 ∨ r.kind = 7 ∨ r.kind = 8 ∨ r.kind = 9 ∨ r.kind = 10 ∨ r.kind = 11 ∨ r.kind = 12 ∨ r.kind = 13 := by omega
  simp only [bodyL, normR]
  rcases hk with h | h | h | h | h | h | h | h | h | h | h | h | h <;> simp [h, fixedL_fixed, be16_mod2]
theorem recL_norm (r : RecD) (len : UInt16) (h1 : 1 ≤ r.kind) (h13 : r.kind ≤ 13) : recL (normR r len) = recL r := by
  simp only [recL, typeN_norm, bodyL_norm r len h1 h13]
  rfl
theorem recsL_like : ∀ {rs' rs : List RecD}, All2 Like rs' rs → (∀ r ∈ rs, 1 ≤ r.kind ∧ r.kind ≤ 13) → recsL rs' = recsL rs
  | [], [], _, _ => rfl
  | [], r :: rs, h, _ => by have := h.1; simp at this
  | r' :: rs', [], h, _ => by have := h.1; simp at this
  | r' :: rs', r :: rs, h, hk => by
    obtain ⟨len, rfl⟩ := h.2 0 r' r rfl rfl
    have ih := recsL_like (rs' := rs') (rs := rs) ⟨by have := h.1; simpa using this, fun i a b ha hb => h.2 (i + 1) a b ha hb⟩ (fun r hr => hk r (by simp [hr]))
    simp only [recsL, List.map_cons, List.flatten_cons] at ih ⊢
    rw [ih, recL_norm r len (hk r (by simp)).1 (hk r (by simp)).2]
theorem msgL_like {m' m : MsgD} (h : LikeM m' m) (hk : ∀ r, r ∈ m.one ∨ r ∈ m.two ∨ r ∈ m.three → 1 ≤ r.kind ∧ r.kind ≤ 13) : msgL m' = msgL m := by
  obtain ⟨hh, ha, h1, h2, h3⟩ := h
  simp only [msgL, hh, ha, h1.1, h2.1, h3.1]
  rw [recsL_like h1 (fun r hr => hk r (.inl hr)), recsL_like h2 (fun r hr => hk r (.inr (.inl hr))), recsL_like h3 (fun r hr => hk r (.inr (.inr hr)))]

theorem or_add {a b i : Nat} (hb : b < 2 ^ i) : (2 ^ i * a) ||| b = 2 ^ i * a + b := (Nat.two_pow_add_eq_or_of_lt hb a).symm
def bN (b : Bool) : Nat := if b then 1 else 0
theorem bN_lt (b : Bool) : bN b < 2 := by cases b <;> decide
theorem flag_mul (b : Bool) (x : UInt16) : (flagN b x).toNat = x.toNat * bN b := by cases b <;> simp [flagN, bN]
theorem hbits_nat (h : HeadD) (ho : h.op.toNat < 16) (hc : h.code.toNat < 16) :
    (hbits h).toNat = 32768 * bN h.resp + 2048 * h.op.toNat + 1024 * bN h.auth + 512 * bN h.cut + 256 * bN h.des + 128 * bN h.avail + 32 * bN h.authc + 16 * bN h.unch + h.code.toNat := by
  have b1 := bN_lt h.resp
  have b2 := bN_lt h.auth
  have b3 := bN_lt h.cut
  have b4 := bN_lt h.des
  have b5 := bN_lt h.avail
  have b6 := bN_lt h.authc
  have b7 := bN_lt h.unch
  have eop : (h.op <<< 11).toNat = 2048 * h.op.toNat := by
    rw [UInt16.toNat_shiftLeft]
    have : (11 : UInt16).toNat % 16 = 11 := rfl
    rw [this, Nat.shiftLeft_eq]; omega
  simp only [hbits, UInt16.toNat_or, flag_mul, eop]
  have e1 : (0x8000 : UInt16).toNat = 32768 := rfl
  have e2 : (0x0400 : UInt16).toNat = 1024 := rfl
  have e3 : (0x0200 : UInt16).toNat = 512 := rfl
  have e4 : (0x0100 : UInt16).toNat = 256 := rfl
  have e5 : (0x0080 : UInt16).toNat = 128 := rfl
  have e6 : (0x0020 : UInt16).toNat = 32 := rfl
  have e7 : (0x0010 : UInt16).toNat = 16 := rfl
  rw [e1, e2, e3, e4, e5, e6, e7]
  have s1 : 32768 * bN h.resp ||| 2048 * h.op.toNat = 32768 * bN h.resp + 2048 * h.op.toNat := or_add (i := 15) (by omega)
  have s2 : (32768 * bN h.resp + 2048 * h.op.toNat) ||| 1024 * bN h.auth = 32768 * bN h.resp + 2048 * h.op.toNat + 1024 * bN h.auth := by
    have := or_add (i := 11) (a := 16 * bN h.resp + h.op.toNat) (b := 1024 * bN h.auth) (by omega)
    rw [show 2 ^ 11 * (16 * bN h.resp + h.op.toNat) = 32768 * bN h.resp + 2048 * h.op.toNat by omega] at this; exact this
  have s3 : (32768 * bN h.resp + 2048 * h.op.toNat + 1024 * bN h.auth) ||| 512 * bN h.cut = 32768 * bN h.resp + 2048 * h.op.toNat + 1024 * bN h.auth + 512 * bN h.cut := by
    have := or_add (i := 10) (a := 32 * bN h.resp + 2 * h.op.toNat + bN h.auth) (b := 512 * bN h.cut) (by omega)
    rw [show 2 ^ 10 * (32 * bN h.resp + 2 * h.op.toNat + bN h.auth) = 32768 * bN h.resp + 2048 * h.op.toNat + 1024 * bN h.auth by omega] at this; exact this
  have s4 : (32768 * bN h.resp + 2048 * h.op.toNat + 1024 * bN h.auth + 512 * bN h.cut) ||| 256 * bN h.des = 32768 * bN h.resp + 2048 * h.op.toNat + 1024 * bN h.auth + 512 * bN h.cut + 256 * bN h.des := by
    have := or_add (i := 9) (a := 64 * bN h.resp + 4 * h.op.toNat + 2 * bN h.auth + bN h.cut) (b := 256 * bN h.des) (by omega)
    rw [show 2 ^ 9 * (64 * bN h.resp + 4 * h.op.toNat + 2 * bN h.auth + bN h.cut) = 32768 * bN h.resp + 2048 * h.op.toNat + 1024 * bN h.auth + 512 * bN h.cut by omega] at this; exact this
  have s5 : 128 * bN h.avail ||| 32 * bN h.authc = 128 * bN h.avail + 32 * bN h.authc := or_add (i := 7) (by omega)
  have s6 : (128 * bN h.avail + 32 * bN h.authc) ||| 16 * bN h.unch = 128 * bN h.avail + 32 * bN h.authc + 16 * bN h.unch := by
    have := or_add (i := 5) (a := 4 * bN h.avail + bN h.authc) (b := 16 * bN h.unch) (by omega)
    rw [show 2 ^ 5 * (4 * bN h.avail + bN h.authc) = 128 * bN h.avail + 32 * bN h.authc by omega] at this; exact this
  have s7 : (128 * bN h.avail + 32 * bN h.authc + 16 * bN h.unch) ||| h.code.toNat = 128 * bN h.avail + 32 * bN h.authc + 16 * bN h.unch + h.code.toNat := by
    have := or_add (i := 4) (a := 8 * bN h.avail + 2 * bN h.authc + bN h.unch) (b := h.code.toNat) (by omega)
    rw [show 2 ^ 4 * (8 * bN h.avail + 2 * bN h.authc + bN h.unch) = 128 * bN h.avail + 32 * bN h.authc + 16 * bN h.unch by omega] at this; exact this
  rw [s1, s2, s3, s4, s5, s6, s7]
  have s8 := or_add (i := 8) (a := 128 * bN h.resp + 8 * h.op.toNat + 4 * bN h.auth + 2 * bN h.cut + bN h.des) (b := 128 * bN h.avail + 32 * bN h.authc + 16 * bN h.unch + h.code.toNat) (by omega)
  rw [show 2 ^ 8 * (128 * bN h.resp + 8 * h.op.toNat + 4 * bN h.auth + 2 * bN h.cut + bN h.des) = 32768 * bN h.resp + 2048 * h.op.toNat + 1024 * bN h.auth + 512 * bN h.cut + 256 * bN h.des by omega] at s8
  rw [s8]; omega
theorem bit_of (x : Nat) (i : Nat) : x &&& 2 ^ i = 2 ^ i * (x / 2 ^ i % 2) := by
  have hb : x.testBit i = decide (x / 2 ^ i % 2 = 1) := Nat.testBit_eq_decide_div_mod_eq
  have : x / 2 ^ i % 2 = 0 ∨ x / 2 ^ i % 2 = 1 := by omega
  apply Nat.eq_of_testBit_eq
  intro j
  rw [Nat.testBit_and, Nat.testBit_two_pow]
  rcases this with h | h
  · rw [h, Nat.mul_zero, Nat.zero_testBit]
    by_cases hj : i = j
    · subst hj; rw [hb, h]; rfl
    · simp [hj]
  · rw [h, Nat.mul_one, Nat.testBit_two_pow]
    by_cases hj : i = j
    · subst hj; rw [hb, h]; simp
    · simp [hj]
end Go.Proofs.YtifnodoffgfpbaaGreatDoor

namespace Go.Proofs.YtifnodoffgfpbaaGreatDoor
open Go

def kR (k : Nat) : RecD := { name := emptyB, typ := 0, cls := 0, ttl := 0, len := 0, kind := k, data := [], host := emptyB, box := emptyB, n1 := 0, n2 := 0, n3 := 0, n4 := 0, n5 := 0, texts := [], pairs := [] }
def KindOf (t : UInt16) (k : Nat) : Prop := 1 ≤ k ∧ k ≤ 13 ∧ (k = 13 ∨ typeN (kR k) = t) ∧ ∀ j, 1 ≤ j → j < k → typeN (kR j) ≠ t
def plainR (r : RecD) : Prop := r.kind = 13 → KindOf r.typ 13
def plainM (m : MsgD) : Prop := ∀ l ∈ [m.one, m.two, m.three], ∀ r ∈ l, plainR r
theorem c35 {w : World} {t : UInt16} :
  Ret PP 35 [.int .u16 (t.toNat : Int)] w (fun u w' => (∃ k : Nat, u = .int .i64 (k : Int) ∧ KindOf t k) ∧ Fr0 w w') := by
 have hf : Fr (fun _ => False) w w := Fr.refl _ _
 refine ret_of Tryz.func35 rfl rfl rfl [(0, _)] rfl ?_
 refine sreg (sA rfl (send ((wp_seq (sreg (sA rfl (send (fcg 0 3 rfl fun _ => wp_block (lp [(0, _)] (fun (k : Nat) => [(3, .int .i64 (k : Int))]) (fun (k : Nat) wx => Fr (fun _ => False) w wx ∧ (1 ≤ k) ∧ (k ≤ 13) ∧ (∀ j, 1 ≤ j → j < k → typeN (kR j) ≠ t)) (fun (k : Nat) => 13 - k) 1 ⟨rfl, rfl, trivial⟩ ⟨Fr.refl _ _, Nat.le_refl _, (by omega), fun j h1 h2 => by omega⟩ ?_)))))))))
 rintro k _ w2 ⟨hL1, h1, hk, hA⟩
 refine fcg 0 3 rfl fun _ => ?_
 have z3 := hL1.size
 have hf := hf.s hL1
 refine wp_seq (sreg (sM rfl (svP (xlss rfl rfl) (fun hc5 => ?_) (fun hc5 => ?_))))
 ·
  refine send ((cyes rfl (wp_skip (nThen (fcg 0 3 rfl fun _ => wp_seq (wp_block (sreg (sM rfl (sv (xbuildS (recSegs (kR k) (.slice none 0 0) (.slice none 0 0) (.slice none 0 0)) zr65 ly65 rfl (by simp [fitAll, zs65, Value.cells]) rfl) (sc (xcall ca86 rfl) (c86 (r := kR k) (show (0 : Int) ≤ (k : Int) by omega) (show (k : Int) ≤ 13 by omega)) ?_))))))))))
  rintro _ w4 ⟨rfl, m5⟩
  have z6 := m5.size
  refine sM rfl (svP (xeql rfl rfl) (fun hc12 => ?_) (fun hc12 => ?_))
  ·
   have hf := hf.s m5
   refine send ((cyes rfl (sreg (sM rfl (sA rfl (send (fbg 2 rfl fun _ => wp_ret (rBlock (rThen (rThen (rBlock (rThen (rp1 rfl rfl ?_)))))))))))))
   first | exact ⟨⟨k, rfl, h1, by omega, .inr (by have := hc12; exact UInt16.toNat_inj.1 (by omega)), hA⟩, hf⟩ | exact ⟨⟨13, rfl, by omega, by omega, .inl rfl, fun j a b => hA j a (by omega)⟩, hf⟩
  have hL1 := hL1.s m5
  refine send ((cno rfl (wp_skip (nBlock (nThen (fcg 0 3 rfl fun _ => lreg (sM rfl (sv (xadd rfl rfl (w64 (by omega) (by omega))) (sA rfl (lend (nThen ?_)))))))))))
  refine ⟨k + 1, _, env_okl ⟨rfl, rfl, trivial⟩, ⟨hL1, (by omega), (by omega), (fun j a b => (Nat.lt_or_ge j k).elim (fun e => hA j a e) (fun hge => by have e : j = k := (by omega); subst e; exact fun e => hc12 (by rw [e])))⟩, ?_⟩
  show 13 - (k + 1) < 13 - k; omega
 refine send ((cno rfl (wp_exit (eThen (eThen (eHit (nThen (fg [] trivial fun _ => sreg (sA rfl (send (fbg 2 rfl fun _ => wp_ret (rp1 rfl rfl ?_))))))))))))
 first | exact ⟨⟨k, rfl, h1, by omega, .inr (by have := hc12; exact UInt16.toNat_inj.1 (by omega)), hA⟩, hf⟩ | exact ⟨⟨13, rfl, by omega, by omega, .inl rfl, fun j a b => hA j a (by omega)⟩, hf⟩
theorem c16 {w : World} {U : Nat → Prop} (hU : ∀ k, U k → k < w.heap.size) {m : MsgD} {va v1 v2 v3 : Value} (ha : LA AskEl lAsk U w va m.asks) (y1 : LA RecEl lRec U w v1 m.one) (y2 : LA RecEl lRec U w v2 m.two) (y3 : LA RecEl lRec U w v3 m.three) (hfr : ∀ l ∈ [m.one, m.two, m.three], ∀ r ∈ l, r.fits) (hll : ∀ l ∈ [m.one, m.two, m.three], l.length ≤ 1048576)  :
  Ret PP 16 [ag (msgSegs m.head va v1 v2 v3)] w (Grd w (plainM m)) := by
 have hls : All2 (LA RecEl lRec U w) [v1, v2, v3] [m.one, m.two, m.three] := All2.cons y1 (All2.cons y2 (All2.cons y3 All2.nil))
 obtain ⟨aa, ca, rfl⟩ := ha.form
 obtain ⟨a1, c1, rfl⟩ := y1.form
 obtain ⟨a2, c2, rfl⟩ := y2.form
 obtain ⟨a3, c3, rfl⟩ := y3.form
 have hf : Fr (fun _ => False) w w := Fr.refl _ _
 refine ret_of Tryz.func16 rfl rfl rfl [(0, _)] rfl ?_
 refine sreg (svK (xboxS (lens := lMsg) rfl rfl) ?_)
 rintro _ w2 ⟨b1, rfl, m3, h1, e1, s1⟩
 refine sA rfl (send (fbg 1 rfl fun _ => wp_seq (sreg (sv (xfld fl34_2 rfl) (sv (xld on32 rfl (h1.r.c 11 rfl rfl)) (sv (xfld fl34_3 rfl) (sv (xld on32 rfl (h1.r.c 12 rfl rfl)) (sv (xfld fl34_4 rfl) (sv (xld on32 rfl (h1.r.c 13 rfl rfl)) (svK (xslit ([.slice a1 m.one.length c1, .slice a2 m.two.length c2, .slice a3 m.three.length c3]) sl60 in32 rfl (by decide) rfl rfl rfl rfl (by decide) rfl rfl) ?_))))))))))
 rintro _ w5 ⟨b13, rfl, m6, h13, e13, s13, r13⟩
 refine sv (xlen sl60 rfl) (sM rfl (send (fdg 13 14 15 rfl fun _ => wp_block (lp [(13, _), (14, _)] (fun (i : Nat) => [(15, .int .i64 (i : Int))]) (fun (i : Nat) wx => Fr (fun _ => False) w5 wx ∧ (i ≤ 3) ∧ (∀ j (l : List RecD), j < i → [m.one, m.two, m.three][j]? = some l → ∀ r ∈ l, plainR r)) (fun (i : Nat) => 3 - i) 0 ⟨rfl, rfl, rfl, trivial⟩ ⟨Fr.refl _ _, Nat.zero_le _, upto_zero⟩ ?_))))
 rintro i _ w8 ⟨hL7, hi, hO⟩
 refine fdg 13 14 15 rfl fun _ => ?_
 have z9 := hL7.size
 have hf := ((hf.s m3).s m6).s hL7
 refine sreg (svP (xlss rfl rfl) (fun hc16 => ?_) (fun hc16 => ?_))
 rotate_left
 ·
  refine send ((wp_seq (cno rfl (wp_exit (eThen (eThen (eHit (nThen (fg [] trivial fun _ => sreg (sA rfl (send (fbg 2 rfl fun _ => wp_ret (rp1 rfl rfl ?_)))))))))))))
  exact ⟨_, rfl, (fun _ => upto_all hO (by simp; omega)), hf⟩
 refine send ((wp_seq (cyes rfl (wp_skip (nThen (fdg 13 14 15 rfl fun _ => wp_seq (wp_block (sreg ?_))))))))
 obtain ⟨u, l, hu, hul, hL⟩ := hls.get (k := i) (by simp; omega)
 have hlm : l ∈ [m.one, m.two, m.three] := List.mem_of_getElem? hul
 have hln := hll l hlm
 have hL := hL.keep rec_st hU hf nF
 obtain ⟨au, cu, rfl⟩ := hL.form
 have r13 := r13.k hL7
 refine sv (xidx1 sl60 sz32 rfl rfl rfl (by omega)) (sv (xld on32 rfl (Rw.rng r13 i _ hu)) (sA rfl (send ((sreg (sM rfl (sv (xlen sl32 rfl) (sM rfl (send (fgg 13 14 15 19 20 21 rfl fun _ => wp_block (lp [(13, _), (14, _), (15, _), (19, _), (20, _)] (fun (k : Nat) => [(21, .int .i64 (k : Int))]) (fun (k : Nat) wx => Fr (fun _ => False) w8 wx ∧ (k ≤ l.length) ∧ (∀ j (r : RecD), j < k → l[j]? = some r → plainR r)) (fun (k : Nat) => l.length - k) 0 ⟨rfl, rfl, rfl, rfl, rfl, rfl, trivial⟩ ⟨Fr.refl _ _, Nat.zero_le _, upto_zero⟩ ?_)))))))))))
 rintro k _ w11 ⟨hL10, hk, hI⟩
 refine fgg 13 14 15 19 20 21 rfl fun _ => ?_
 have z12 := hL10.size
 have hL7 := hL7.s hL10
 refine sreg (svP (xlss rfl rfl) (fun hc22 => ?_) (fun hc22 => ?_))
 rotate_left
 ·
  refine send ((wp_seq (cno rfl (wp_exit (eThen (eThen (eHit (nBlock (nThen (fdg 13 14 15 rfl fun _ => lreg (sv (xadd rfl rfl (w64 (by omega) (by omega))) (sM rfl (lend (nThen ?_))))))))))))))
  refine ⟨i + 1, _, env_okl ⟨rfl, rfl, rfl, trivial⟩, ⟨hL7, (by omega), (upto_step hO hul (upto_all hI (by omega)))⟩, ?_⟩
  show 3 - (i + 1) < 3 - i; omega
 refine send ((wp_seq (cyes rfl (wp_skip (nThen (fgg 13 14 15 19 20 21 rfl fun _ => wp_seq (wp_block ?_)))))))
 obtain ⟨r, hrk⟩ := some_of_lt (by omega : k < l.length)
 have hrf := hfr l hlm r (List.mem_of_getElem? hrk)
 have hrf0 := hrf
 simp only [RecD.fits] at hrf0
 have hL := hL.keep rec_st (lU hU (by omega)) hL10 nF
 refine sreg ?_
 obtain ⟨bE23, oE23, sgE23, rfl, uE23, hsE23, heE23⟩ := LA.get hL hrk
 obtain ⟨vd, vt, vp, rfl, hd, ht, hp⟩ := heE23
 have zE23 := hU _ uE23
 obtain ⟨ad, cd, rfl, -⟩ := id hd
 obtain ⟨at1, ct1, rfl⟩ := ht.form
 obtain ⟨ap1, cp1, rfl⟩ := hp.form
 refine sv (xidx sl32 sz65 rfl rfl rfl (by omega)) (sv (xldS (lens := lRec) ro65 rfl hsE23) (svK (xallS (lens := lRec) in65 rfl) ?_))
 rintro _ w14 ⟨b6, rfl, m15, h6, e13, s13⟩
 refine suK (xstW h6 (lens' := lRec) sz65 rfl rfl rfl rfl rfl) ?_
 rintro w17 ⟨m18, h6, s16⟩
 have hf := ((hf.s hL10).s m15).t m18 (by omega)
 have hL10 := (hL10.s m15).t m18 (by omega)
 refine send (fhg 6 13 14 15 19 20 21 rfl fun _ => sreg (sv (xfld fl65_5 rfl) (sv (xld on3 rfl (h6.r.c 5 rfl rfl)) (svP (xeql rfl rfl) (fun hc27 => ?_) (fun hc27 => ?_)))))
 ·
  refine sM rfl (gyes rfl rfl rfl (sv (xfld fl65_1 rfl) (gyes rfl rfl rfl (sv (xld on22 rfl (h6.r.c 1 rfl rfl)) (gyes rfl rfl rfl (sc (xcall ca35 rfl) (c35) ?_))))))
  rintro _ w19 ⟨⟨k35, rfl, hK⟩, m20⟩
  have z21 := m20.size
  refine gyes rfl rfl rfl (svP (xneq rfl rfl) (fun hc32 => ?_) (fun hc32 => ?_))
  ·
   have hf := hf.s m20
   refine sv (xpickT rfl rfl) (send ((cyes rfl (sreg (sA rfl (send (fbg 2 rfl fun _ => wp_ret (rBlock (rThen (rThen (rBlock (rBlock (rThen (rThen (rBlock (rThen (rp1 rfl rfl ?_)))))))))))))))))
   exact ⟨_, rfl, (fun h => by cases h), hf⟩
  have hL10 := hL10.s m20
  refine sv (xpickT rfl rfl) (send ((cno rfl (wp_skip (nBlock (nThen (fgg 13 14 15 19 20 21 rfl fun _ => lreg (sv (xadd rfl rfl (w64 (by omega) (by omega))) (sM rfl (lend (nThen ?_)))))))))))
  refine ⟨k + 1, _, env_okl ⟨rfl, rfl, rfl, rfl, rfl, rfl, trivial⟩, ⟨hL10, (by omega), (upto_step hI hrk (fun h13 => by first | omega | (have e13 : k35 = 13 := (by omega); subst e13; exact hK)))⟩, ?_⟩
  show l.length - (k + 1) < l.length - k; omega
 refine sM rfl (gno rfl rfl rfl (gno rfl rfl rfl (gno rfl rfl rfl (gno rfl rfl rfl (sv (xpickF rfl rfl) (send ((cno rfl (wp_skip (nBlock (nThen (fgg 13 14 15 19 20 21 rfl fun _ => lreg (sv (xadd rfl rfl (w64 (by omega) (by omega))) (sM rfl (lend (nThen ?_))))))))))))))))
 refine ⟨k + 1, _, env_okl ⟨rfl, rfl, rfl, rfl, rfl, rfl, trivial⟩, ⟨hL10, (by omega), (upto_step hI hrk (fun h13 => by first | omega | (have e13 : k35 = 13 := (by omega); subst e13; exact hK)))⟩, ?_⟩
 show l.length - (k + 1) < l.length - k; omega
end Go.Proofs.YtifnodoffgfpbaaGreatDoor

namespace Go.Proofs.YtifnodoffgfpbaaGreatDoor
open Go

theorem or16 (a b : Nat) (ha : a < 65536) (hb : b < 65536) : bits .or .u16 (a : Int) (b : Int) = ((a ||| b : Nat) : Int) := by
  have hx : a ||| b < 2 ^ 16 := Nat.or_lt_two_pow (by omega) (by omega)
  show IntKind.u16.wrap ((BitVec.ofInt 16 (a : Int) ||| BitVec.ofInt 16 (b : Int)).toNat : Int) = _
  simp only [ofInt_nat, BitVec.toNat_or, BitVec.toNat_ofNat]
  rw [Nat.mod_eq_of_lt (by omega), Nat.mod_eq_of_lt (by omega)]
  exact wu16 (by omega) (by omega)
theorem or32 (a b : Nat) (ha : a < 4294967296) (hb : b < 4294967296) : bits .or .u32 (a : Int) (b : Int) = ((a ||| b : Nat) : Int) := by
  have hx : a ||| b < 2 ^ 32 := Nat.or_lt_two_pow (by omega) (by omega)
  show IntKind.u32.wrap ((BitVec.ofInt 32 (a : Int) ||| BitVec.ofInt 32 (b : Int)).toNat : Int) = _
  simp only [ofInt_nat, BitVec.toNat_or, BitVec.toNat_ofNat]
  rw [Nat.mod_eq_of_lt (by omega), Nat.mod_eq_of_lt (by omega)]
  exact wu32 (by omega) (by omega)
theorem or64 (a b : Nat) (ha : a < 1073741824) (hb : b < 1073741824) : bits .or .i64 (a : Int) (b : Int) = ((a ||| b : Nat) : Int) := by
  have hx : a ||| b < 2 ^ 30 := Nat.or_lt_two_pow (by omega) (by omega)
  show IntKind.i64.wrap ((BitVec.ofInt 64 (a : Int) ||| BitVec.ofInt 64 (b : Int)).toNat : Int) = _
  simp only [ofInt_nat, BitVec.toNat_or, BitVec.toNat_ofNat]
  rw [Nat.mod_eq_of_lt (by omega), Nat.mod_eq_of_lt (by omega)]
  exact w64 (by omega) (by omega)
theorem and64 (a b : Nat) (ha : a < 1073741824) (hb : b < 1073741824) : bits .and .i64 (a : Int) (b : Int) = ((a &&& b : Nat) : Int) := by
  have hx : a &&& b < 2 ^ 30 := Nat.and_lt_two_pow _ (by omega)
  show IntKind.i64.wrap ((BitVec.ofInt 64 (a : Int) &&& BitVec.ofInt 64 (b : Int)).toNat : Int) = _
  simp only [ofInt_nat, BitVec.toNat_and, BitVec.toNat_ofNat]
  rw [Nat.mod_eq_of_lt (by omega), Nat.mod_eq_of_lt (by omega)]
  exact w64 (by omega) (by omega)
theorem xor64 (a b : Nat) (ha : a < 1073741824) (hb : b < 1073741824) : bits .xor .i64 (a : Int) (b : Int) = ((a ^^^ b : Nat) : Int) := by
  have hx : a ^^^ b < 2 ^ 30 := Nat.xor_lt_two_pow (by omega) (by omega)
  show IntKind.i64.wrap ((BitVec.ofInt 64 (a : Int) ^^^ BitVec.ofInt 64 (b : Int)).toNat : Int) = _
  simp only [ofInt_nat, BitVec.toNat_xor, BitVec.toNat_ofNat]
  rw [Nat.mod_eq_of_lt (by omega), Nat.mod_eq_of_lt (by omega)]
  exact w64 (by omega) (by omega)
theorem and16 (a b : Nat) (ha : a < 65536) (hb : b < 65536) : bits .and .u16 (a : Int) (b : Int) = ((a &&& b : Nat) : Int) := by
  have hx : a &&& b < 2 ^ 16 := Nat.and_lt_two_pow _ (by omega)
  show IntKind.u16.wrap ((BitVec.ofInt 16 (a : Int) &&& BitVec.ofInt 16 (b : Int)).toNat : Int) = _
  simp only [ofInt_nat, BitVec.toNat_and, BitVec.toNat_ofNat]
  rw [Nat.mod_eq_of_lt (by omega), Nat.mod_eq_of_lt (by omega)]
  exact wu16 (by omega) (by omega)
theorem or_sum {i a b : Nat} (hb : b < 2 ^ i) (ha : a % 2 ^ i = 0) : a ||| b = a + b := by
  have e : a = 2 ^ i * (a / 2 ^ i) := by have := Nat.div_add_mod a (2 ^ i); omega
  rw [e, or_add hb]
section
variable {P : Program} {n : Nat} {l : List (Nat × Value)} {w : World} {ty : TypeId} {x y : Operand}
theorem xor16S {T U : TypeId} {a b c : Nat} (i : Nat) (hx : ev n l x = some (.int .u16 (a : Int))) (hy : ev n l y = some (.int .u16 (b : Int))) (ha : a % 2 ^ i = 0) (hb : b < 2 ^ i) (hc : a + b = c) (hl : c < 65536) :
    Ex P n l (.binOp .or T x y U) ty w (.int .u16 (c : Int)) w :=
  xbin hx hy rfl (by rw [binOp_or, intBits_or, or16 a b (by omega) (by omega), or_sum hb ha, hc]; rfl)
theorem xor32S {T U : TypeId} {a b c : Nat} (i : Nat) (hx : ev n l x = some (.int .u32 (a : Int))) (hy : ev n l y = some (.int .u32 (b : Int))) (ha : a % 2 ^ i = 0) (hb : b < 2 ^ i) (hc : a + b = c) (hl : c < 4294967296) :
    Ex P n l (.binOp .or T x y U) ty w (.int .u32 (c : Int)) w :=
  xbin hx hy rfl (by rw [binOp_or, intBits_or, or32 a b (by omega) (by omega), or_sum hb ha, hc]; rfl)
theorem xor64S {T U : TypeId} {a b c : Nat} (i : Nat) (hx : ev n l x = some (.int .i64 (a : Int))) (hy : ev n l y = some (.int .i64 (b : Int))) (ha : a % 2 ^ i = 0) (hb : b < 2 ^ i) (hc : a + b = c) (hl : c < 1073741824) :
    Ex P n l (.binOp .or T x y U) ty w (.int .i64 (c : Int)) w :=
  xbin hx hy rfl (by rw [binOp_or, intBits_or, or64 a b (by omega) (by omega), or_sum hb ha, hc]; rfl)
theorem xand64N {T U : TypeId} {a b c : Nat} (hx : ev n l x = some (.int .i64 (a : Int))) (hy : ev n l y = some (.int .i64 (b : Int))) (ha : a < 1073741824) (hb : b < 1073741824) (hc : a &&& b = c) :
    Ex P n l (.binOp .and T x y U) ty w (.int .i64 (c : Int)) w :=
  xbin hx hy rfl (by rw [binOp_and, intBits_and, and64 a b ha hb, hc]; rfl)
theorem xxor64N {T U : TypeId} {a b c : Nat} (hx : ev n l x = some (.int .i64 (a : Int))) (hy : ev n l y = some (.int .i64 (b : Int))) (ha : a < 1073741824) (hb : b < 1073741824) (hc : a ^^^ b = c) :
    Ex P n l (.binOp .xor T x y U) ty w (.int .i64 (c : Int)) w :=
  xbin hx hy rfl (by rw [binOp_xor, intBits_xor, xor64 a b ha hb, hc]; rfl)
theorem xand16N {T U : TypeId} {a b c : Nat} (hx : ev n l x = some (.int .u16 (a : Int))) (hy : ev n l y = some (.int .u16 (b : Int))) (ha : a < 65536) (hb : b < 65536) (hc : a &&& b = c) :
    Ex P n l (.binOp .and T x y U) ty w (.int .u16 (c : Int)) w :=
  xbin hx hy rfl (by rw [binOp_and, intBits_and, and16 a b ha hb, hc]; rfl)
theorem xex20 {a b : Value} (hx : ev n l x = some (.tuple #[a, b])) : Ex P n l (.extract x 0) ty w a w := xextr hx rfl
theorem xex21 {a b : Value} (hx : ev n l x = some (.tuple #[a, b])) : Ex P n l (.extract x 1) ty w b w := xextr hx rfl
theorem xex30 {a b c : Value} (hx : ev n l x = some (.tuple #[a, b, c])) : Ex P n l (.extract x 0) ty w a w := xextr hx rfl
theorem xex31 {a b c : Value} (hx : ev n l x = some (.tuple #[a, b, c])) : Ex P n l (.extract x 1) ty w b w := xextr hx rfl
theorem xex32 {a b c : Value} (hx : ev n l x = some (.tuple #[a, b, c])) : Ex P n l (.extract x 2) ty w c w := xextr hx rfl
theorem xadds {T U : TypeId} {a b : ByteArray} (hx : ev n l x = some (.string a)) (hy : ev n l y = some (.string b)) (hl : a.size < 1000000000) (hm : b.size < 1000000000) : Ex P n l (.binOp .add T x y U) ty w (.string (a ++ b)) w :=
  xbin hx hy rfl (by simp [binOp, Op.stringOp]; omega)
end
theorem hi_lo {x : Nat} (h : x < 65536) : (UInt8.ofNat (x / 256)).toNat = x / 256 ∧ (UInt8.ofNat x).toNat = x % 256 := by
  have h1 : x / 256 < 256 := by omega
  have e1 := UInt8.toNat_ofNat' (n := x / 256)
  have e2 := UInt8.toNat_ofNat' (n := x)
  exact ⟨by rw [e1]; omega, by rw [e2]⟩
theorem std_cells {w : World} {g o : Nat} {b : List UInt8} (hB : w.rangeAt g o (bvs b)) {p : Nat} {xs : List UInt8} (h : Std b p xs) : w.rangeAt g (o + p) (bvs xs) := fun j v hv => by
  simp only [bvs, List.getElem?_map, Option.map_eq_some_iff] at hv
  obtain ⟨c, hc, rfl⟩ := hv
  have := hB (p + j) (bv c) (by simp only [bvs, List.getElem?_map, h j c hc]; rfl)
  rw [Nat.add_assoc]; exact this
theorem std_cell {w : World} {g o : Nat} {b : List UInt8} (hB : w.rangeAt g o (bvs b)) {p : Nat} {c : UInt8} (h : b[p]? = some c) : w.cell? ⟨g, o + p, none⟩ = some (.int .u8 (c.toNat : Int)) :=
  hB p (bv c) (by simp only [bvs, List.getElem?_map, h]; rfl)
section
variable {P : Program} {ops : Array Oper} {Q : Exit → Act → World → Prop} {rest : List Oper} {n : Nat} {l : List (Nat × Value)} {r : Nat → Value} {w : World} {t0 t1 t2 : TypeId} {p0 p1 p2 : String} {f0 f1 f2 : Array Edge} {v u z : Value} {d0 d1 d2 t : Nat}
theorem sE2 (h : ev n l (.tmp t) = some (.tuple #[v, u])) (k : WL P ops Q rest (env n ((d1, u) :: (d0, v) :: l) r) w) (hn : Nat.beq d0 t = false := by rfl) : WL P ops Q (⟨some d0, .extract (.tmp t) 0, t0, p0, f0, none⟩ :: ⟨some d1, .extract (.tmp t) 1, t1, p1, f1, none⟩ :: rest) (env n l r) w := by
 refine sv (xex20 h) (sv (xex21 (a := v) ?_) k)
 simp only [ev, lk, hn, cond_false] at h ⊢; exact h
theorem sE3 (h : ev n l (.tmp t) = some (.tuple #[v, u, z])) (k : WL P ops Q rest (env n ((d2, z) :: (d1, u) :: (d0, v) :: l) r) w) (hn : Nat.beq d0 t = false := by rfl) (hm : Nat.beq d1 t = false := by rfl) : WL P ops Q (⟨some d0, .extract (.tmp t) 0, t0, p0, f0, none⟩ :: ⟨some d1, .extract (.tmp t) 1, t1, p1, f1, none⟩ :: ⟨some d2, .extract (.tmp t) 2, t2, p2, f2, none⟩ :: rest) (env n l r) w := by
 refine sv (xex30 h) (sv (xex31 (a := v) (c := z) ?_) (sv (xex32 (a := v) (b := u) ?_) k)) <;> (simp only [ev, lk, hn, hm, cond_false] at h ⊢; exact h)
end
end Go.Proofs.YtifnodoffgfpbaaGreatDoor

namespace Go.Proofs.YtifnodoffgfpbaaGreatDoor
open Go

theorem w64n {c : Int} (n : Nat) (h : c = (n : Int)) (hl : n < 9223372036854775807) : IntKind.i64.wrap c = (n : Int) := by rw [h]; exact w64 (by omega) (by omega)
theorem cut_rng {w : World} {g o o' p c : Nat} {b xs : List UInt8} (hB : w.rangeAt g o (bvs b)) (h : Std b p xs) (ho : p < c → o' = o + p * 1) (hc : p + xs.length ≤ c) : w.rangeAt g o' (bvs xs) := by
  cases xs with
  | nil => intro j v hv; simp [bvs] at hv
  | cons x xs =>
    rw [ho (by simp at hc; omega), Nat.mul_one]
    exact std_cells hB h
theorem u8_ne46 {c : UInt8} (h : c ≠ 46) : ¬ ((c.toNat : Int) = 46) := fun e => h (u8eq e)
theorem bvs_get {xs : List UInt8} {k : Nat} (h : k < xs.length) : (bvs xs)[k]? = some (.int .u8 ((xs[k]'h).toNat : Int)) := by
  simp only [bvs, List.getElem?_map, List.getElem?_eq_getElem h]; rfl
theorem take_ba {w : World} {g o k c : Nat} {xs : List UInt8} (h : w.rangeAt g o (bvs xs)) (hk : xs.length = k) : BA (fun i => i = g) w (.slice (some ⟨g, o, none⟩) k c) xs := by
  subst hk; exact ⟨_, c, rfl, fun _ => ⟨g, o, rfl, rfl, h⟩⟩
theorem nameL_ne {s : List UInt8} (h : nameL s) : s ≠ [] := by
  intro e; subst e
  have := name_pos h; simp at this
theorem NameR.at0 {b s : List UInt8} {st k i nx : Nat} {n : UInt8} (h : NameR b st k i s nx) (hn : b[i]? = some n) (h0 : (n.toNat : Int) = 0) : k = 0 ∧ s = [] ∧ nx = i + 1 := by
  cases h with
  | fin hb => exact ⟨rfl, rfl, rfl⟩
  | lab lab hl h63 hd hb hs h =>
    rw [hb] at hn; simp only [Option.some.injEq] at hn; subst hn
    have : lab.length ≠ 0 := fun e => hl (List.eq_nil_of_length_eq_zero e)
    simp only [UInt8.toNat_ofNat'] at h0; omega
  | ptr h1 h14 hb hb2 h =>
    rw [hb] at hn; simp only [Option.some.injEq] at hn; subst hn
    simp only [UInt8.toNat_ofNat'] at h0; omega
theorem NameR.atLab {b s : List UInt8} {st k i nx : Nat} {n : UInt8} (h : NameR b st k i s nx) (hn : b[i]? = some n) (h0 : ¬ (n.toNat : Int) = 0) (h64 : (n.toNat : Int) < 64) :
    ∃ lab s', s = lab ++ 46 :: s' ∧ lab.length = n.toNat ∧ lab ≠ [] ∧ (∀ c ∈ lab, c ≠ 46) ∧ Std b (i + 1) lab ∧ NameR b st k (i + 1 + lab.length) s' nx := by
  cases h with
  | fin hb => rw [hb] at hn; simp only [Option.some.injEq] at hn; subst hn; exact absurd rfl h0
  | lab lab hl h63 hd hb hs h =>
    rw [hb] at hn; simp only [Option.some.injEq] at hn; subst hn
    exact ⟨lab, _, rfl, by simp only [UInt8.toNat_ofNat']; omega, hl, hd, hs, h⟩
  | ptr h1 h14 hb hb2 h =>
    rw [hb] at hn; simp only [Option.some.injEq] at hn; subst hn
    simp only [UInt8.toNat_ofNat'] at h64; omega
theorem NameR.atPtr {b s : List UInt8} {st k i nx : Nat} {n : UInt8} (h : NameR b st k i s nx) (hn : b[i]? = some n) (h64 : ¬ (n.toNat : Int) < 64) :
    ∃ to k' nx', k = k' + 1 ∧ to < st ∧ to ≤ 16383 ∧ n.toNat = 192 + to / 256 ∧ b[i + 1]? = some (UInt8.ofNat to) ∧ nx = i + 2 ∧ NameR b to k' to s nx' := by
  cases h with
  | fin hb => rw [hb] at hn; simp only [Option.some.injEq] at hn; subst hn; exact absurd (by decide) h64
  | lab lab hl h63 hd hb hs h =>
    rw [hb] at hn; simp only [Option.some.injEq] at hn; subst hn
    simp only [UInt8.toNat_ofNat'] at h64; omega
  | ptr h1 h14 hb hb2 h =>
    rw [hb] at hn; simp only [Option.some.injEq] at hn; subst hn
    exact ⟨_, _, _, rfl, h1, h14, by simp only [UInt8.toNat_ofNat']; omega, hb2, rfl, h⟩
theorem NameR.ptrLe {b s : List UInt8} {st k i nx : Nat} {n : UInt8} (h : NameR b st k i s nx) (hn : b[i]? = some n) (h64 : ¬ (n.toNat : Int) < 64) : 192 ≤ n.toNat ∧ i + 1 < b.length := by
  obtain ⟨to, k', nx', _, _, _, hl, hb, _, h'⟩ := h.atPtr hn h64
  have := (List.getElem?_eq_some_iff.1 hb).1
  omega
theorem txt_le (s : List UInt8) : (txt s).length ≤ s.length := by
  rw [txt]; split <;> simp
theorem txt_nil {s : List UInt8} (h0 : s ≠ []) (h : txt s = []) : s = [46] := by
  by_cases hd : s = [46]
  · exact hd
  · rw [txt, if_neg hd] at h; exact absurd h h0
theorem txt_ne {s : List UInt8} (h : txt s ≠ []) : txt s = s := by
  by_cases hd : s = [46]
  · rw [txt, if_pos hd] at h; exact absurd rfl h
  · rw [txt, if_neg hd]
theorem some_get {b : List UInt8} {i : Nat} (h : i < b.length) : ∃ n, b[i]? = some n := ⟨_, List.getElem?_eq_getElem h⟩
theorem pairs_at {b : List UInt8} {p : Nat} {ps : List PairD} (h : Std b p (pairsL ps)) {k : Nat} {q : PairD} (hk : ps[k]? = some q) : Std b (p + (pairsL (ps.take k)).length) (pairL q) := by
  have e : ps = ps.take (k + 1) ++ ps.drop (k + 1) := (List.take_append_drop _ _).symm
  rw [e, pairsL, List.map_append, List.flatten_append, take_snoc hk, List.map_append, List.flatten_append] at h
  have := h.left.right
  rw [List.map_cons, List.map_nil, List.flatten_cons, List.flatten_nil, List.append_nil] at this
  exact this
theorem pairs_take_lt {ps : List PairD} {k : Nat} {q : PairD} (hk : ps[k]? = some q) : (pairsL (ps.take k)).length + 4 + q.data.length ≤ (pairsL ps).length := by
  have h : (ps.map pairL)[k]? = some (pairL q) := by rw [List.getElem?_map, hk]; rfl
  have := flat_take_le h
  rw [← List.map_take] at this
  simp only [pairsL]
  simp only [pairL, List.length_append, be16_length] at this
  omega

end Go.Proofs.YtifnodoffgfpbaaGreatDoor

namespace Go.Proofs.YtifnodoffgfpbaaGreatDoor
open Go

abbrev NoU : Nat → Prop := fun _ => False
def rec0 (r : RecD) (len : UInt16) : RecD := { name := r.name, typ := typeN r, cls := r.cls, ttl := r.ttl, len := len, kind := r.kind, data := [], host := emptyB, box := emptyB, n1 := 0, n2 := 0, n3 := 0, n4 := 0, n5 := 0, texts := [], pairs := [] }
def m16 (x : UInt32) : UInt32 := UInt32.ofNat (x.toNat % 65536)
theorem norm_a {r : RecD} {len : UInt16} (h : r.kind = 1) : normR r len = { rec0 r len with data := fixedL r.data 4 } := by simp [normR, rec0, h]
theorem norm_aaaa {r : RecD} {len : UInt16} (h : r.kind = 8) : normR r len = { rec0 r len with data := fixedL r.data 16 } := by simp [normR, rec0, h]
theorem norm_ns {r : RecD} {len : UInt16} (h : r.kind = 2 ∨ r.kind = 3 ∨ r.kind = 5) : normR r len = { rec0 r len with host := r.host } := by rcases h with h | h | h <;> simp [normR, rec0, h]
theorem norm_mx {r : RecD} {len : UInt16} (h : r.kind = 6) : normR r len = { rec0 r len with n1 := m16 r.n1, host := r.host } := by simp [normR, rec0, h, m16]
theorem norm_soa {r : RecD} {len : UInt16} (h : r.kind = 4) : normR r len = { rec0 r len with host := r.host, box := r.box, n1 := r.n1, n2 := r.n2, n3 := r.n3, n4 := r.n4, n5 := r.n5 } := by simp [normR, rec0, h]
theorem norm_txt {r : RecD} {len : UInt16} (h : r.kind = 7) : normR r len = { rec0 r len with texts := r.texts } := by simp [normR, rec0, h]
theorem norm_srv {r : RecD} {len : UInt16} (h : r.kind = 9) : normR r len = { rec0 r len with n1 := m16 r.n1, n2 := m16 r.n2, n3 := m16 r.n3, host := r.host } := by simp [normR, rec0, h, m16]
theorem norm_opt {r : RecD} {len : UInt16} (h : r.kind = 10) : normR r len = { rec0 r len with pairs := r.pairs } := by simp [normR, rec0, h]
theorem norm_svc {r : RecD} {len : UInt16} (h : r.kind = 11 ∨ r.kind = 12) : normR r len = { rec0 r len with n1 := m16 r.n1, host := r.host, pairs := r.pairs } := by rcases h with h | h <;> simp [normR, rec0, h, m16]
theorem norm_unk {r : RecD} {len : UInt16} (h : r.kind = 13) : normR r len = { rec0 r len with data := r.data } := by simp [normR, rec0, h]
theorem m16_nat (x : UInt32) : (m16 x).toNat = x.toNat % 65536 := u32mod x
theorem texts_at {b : List UInt8} {p : Nat} {ts : List ByteArray} (h : Std b p (textsL ts)) {k : Nat} {t : ByteArray} (hk : ts[k]? = some t) : Std b (p + (textsL (ts.take k)).length) (textL t) := by
  have e : ts = ts.take (k + 1) ++ ts.drop (k + 1) := (List.take_append_drop _ _).symm
  rw [e, textsL, List.map_append, List.flatten_append, take_snoc hk, List.map_append, List.flatten_append] at h
  have := h.left.right
  rw [List.map_cons, List.map_nil, List.flatten_cons, List.flatten_nil, List.append_nil] at this
  exact this
theorem texts_take_lt {ts : List ByteArray} {k : Nat} {t : ByteArray} (hk : ts[k]? = some t) : (textsL (ts.take k)).length + 1 + t.size ≤ (textsL ts).length := by
  have h : (ts.map textL)[k]? = some (textL t) := by rw [List.getElem?_map, hk]; rfl
  have := flat_take_le h
  rw [← List.map_take] at this
  simp only [textsL]
  simp only [textL, List.length_cons, bt_length] at this
  omega
end Go.Proofs.YtifnodoffgfpbaaGreatDoor

namespace Go.Proofs.YtifnodoffgfpbaaGreatDoor
open Go

theorem la_texts {U' : Nat → Prop} {w : World} {v : Value} {g n : Nat} {ts : List ByteArray} (h : Rw w v g 9 1 n (strs ts)) (hn : n = ts.length) (hU : 0 < n → U' g) : LA TextEl [1] U' w v ts := by
  subst hn
  cases ts with
  | nil =>
    obtain ⟨a, c, rfl, -⟩ := h.form
    exact LA.nil
  | cons t ts => exact RA.la (RA.texts (U := NoU) h) (by decide) text_gr (fun _ h => h.elim) (hU (by simp))
theorem strs_snoc {ts : List ByteArray} {k : Nat} {t : ByteArray} (h : ts[k]? = some t) : strs (ts.take (k + 1)) = strs (ts.take k) ++ [.string t] := by
  rw [take_snoc h]; simp [strs]
def ReadOk (r : RecD) : Prop := 1 ≤ r.kind ∧ r.kind ≤ 13 ∧ NamesOk r ∧ (∀ q ∈ r.pairs, q.data.length ≤ 65535) ∧ (r.kind = 7 → ∀ t ∈ r.texts, t.size ≤ 255) ∧ plainR r
theorem listR_drop {α : Type} {R : Nat → α → Nat → Prop} : ∀ {l : List α} {k q e : Nat} {x : α}, ListR R q (l.drop k) e → l[k]? = some x → ∃ e1, R q x e1 ∧ ListR R e1 (l.drop (k + 1)) e := by
  intro l k q e x h hx
  have hk : k < l.length := (List.getElem?_eq_some_iff.1 hx).1
  have e1 : l[k] = x := (List.getElem?_eq_some_iff.1 hx).2
  rw [List.drop_eq_getElem_cons hk, e1] at h
  exact h
theorem listR_le {α : Type} {R : Nat → α → Nat → Prop} : ∀ {l : List α} {q e : Nat}, ListR R q l e → (∀ x ∈ l, ∀ i j, R i x j → i ≤ j) → q ≤ e
  | [], q, e, h, _ => Nat.le_of_eq h
  | x :: xs, q, e, ⟨e1, h1, h2⟩, hR => Nat.le_trans (hR x (by simp) _ _ h1) (listR_le h2 (fun y hy => hR y (by simp [hy])))
theorem rec_le {K : Nat → Prop} {b : List UInt8} {i e : Nat} {r : RecD} (h : RecR K b i r e) : i ≤ e := by
  obtain ⟨e0, len, ⟨k, _, hk⟩, _, _, _, rfl⟩ := h
  have := hk.le; omega
theorem ask_le {K : Nat → Prop} {b : List UInt8} {i e : Nat} {a : AskD} (h : AskR K b i a e) : i ≤ e := by
  obtain ⟨e0, ⟨k, _, hk⟩, _, rfl⟩ := h
  have := hk.le; omega
end Go.Proofs.YtifnodoffgfpbaaGreatDoor

namespace Go.Proofs.YtifnodoffgfpbaaGreatDoor
open Go

theorem xbit {P : Program} {n : Nat} {l : List (Nat × Value)} {w : World} {ty : TypeId} {x y : Operand} {T U : TypeId} {c : Nat} {B : Bool} (hx : ev n l x = some (.int .u16 ((c * bN B : Nat) : Int))) (hy : ev n l y = some (.int .u16 0)) (hc : c ≠ 0) : Ex P n l (.binOp .neq T x y U) ty w (.bool B) w := by
  have := xneq (P := P) (w := w) (ty := ty) (T := T) (U := U) hx hy
  cases B with
  | true => have e : (decide (((c * bN true : Nat) : Int) ≠ 0)) = true := by simp [bN]; omega
            rw [e] at this; exact this
  | false => have e : (decide (((c * bN false : Nat) : Int) ≠ 0)) = false := by simp [bN]
             rw [e] at this; exact this
theorem xshrN {P : Program} {n : Nat} {l : List (Nat × Value)} {w : World} {ty : TypeId} {x y : Operand} {T U : TypeId} {k j : IntKind} {a c : Nat} (b : Nat) (hb : b ≤ k.bits) (hx : ev n l x = some (.int k (a : Int))) (hy : ev n l y = some (.int j b)) (hc : a / 2 ^ b = c) :
    Ex P n l (.binOp .shr T x y U) ty w (.int k (c : Int)) w := by
  have := xshr (P := P) (w := w) (ty := ty) (T := T) (U := U) hb hx hy
  have e : (a : Int) / 2 ^ b = (c : Int) := by rw [← hc]; simp
  rw [e] at this; exact this
theorem hbits_and {h : HeadD} (ho : h.ok) : (hbits h).toNat &&& 32768 = 32768 * bN h.resp ∧ (hbits h).toNat &&& 1024 = 1024 * bN h.auth ∧ (hbits h).toNat &&& 512 = 512 * bN h.cut ∧ (hbits h).toNat &&& 256 = 256 * bN h.des ∧ (hbits h).toNat &&& 128 = 128 * bN h.avail ∧
    (hbits h).toNat &&& 32 = 32 * bN h.authc ∧ (hbits h).toNat &&& 16 = 16 * bN h.unch ∧ (hbits h).toNat &&& 15 = h.code.toNat ∧ (hbits h).toNat / 2 ^ 11 &&& 15 = h.op.toNat ∧ (hbits h).toNat &&& 64 = 0 := by
  have e := hbits_nat h ho.1 ho.2
  obtain ⟨h1, h2⟩ := ho
  have b1 := bN_lt h.resp
  have b2 := bN_lt h.auth
  have b3 := bN_lt h.cut
  have b4 := bN_lt h.des
  have b5 := bN_lt h.avail
  have b6 := bN_lt h.authc
  have b7 := bN_lt h.unch
  have m15 : ∀ x : Nat, x &&& 15 = x % 16 := fun x => Nat.and_two_pow_sub_one_eq_mod x 4
  have t : ∀ i, (hbits h).toNat &&& 2 ^ i = 2 ^ i * ((hbits h).toNat / 2 ^ i % 2) := fun i => bit_of _ i
  refine ⟨?_, ?_, ?_, ?_, ?_, ?_, ?_, ?_, ?_, ?_⟩
  · have := t 15; rw [show (2 : Nat) ^ 15 = 32768 by decide] at this; rw [this, e]; omega
  · have := t 10; rw [show (2 : Nat) ^ 10 = 1024 by decide] at this; rw [this, e]; omega
  · have := t 9; rw [show (2 : Nat) ^ 9 = 512 by decide] at this; rw [this, e]; omega
  · have := t 8; rw [show (2 : Nat) ^ 8 = 256 by decide] at this; rw [this, e]; omega
  · have := t 7; rw [show (2 : Nat) ^ 7 = 128 by decide] at this; rw [this, e]; omega
  · have := t 5; rw [show (2 : Nat) ^ 5 = 32 by decide] at this; rw [this, e]; omega
  · have := t 4; rw [show (2 : Nat) ^ 4 = 16 by decide] at this; rw [this, e]; omega
  · rw [m15, e]; omega
  · rw [m15, e, show (2 : Nat) ^ 11 = 2048 by decide]; omega
  · have := t 6; rw [show (2 : Nat) ^ 6 = 64 by decide] at this; rw [this, e]; omega
end Go.Proofs.YtifnodoffgfpbaaGreatDoor

namespace Go.Proofs.YtifnodoffgfpbaaGreatDoor
open Go

structure RH (P : Program) (ops : Array Oper) (Q : Exit → Act → World → Prop) (S : World → Prop) (o : List (Nat × Kd)) (a : Act) (w : World) : Prop where
  out : runH P ops Q S o a w

section
variable {P : Program} {ops : Array Oper} {Q : Exit → Act → World → Prop} {S : World → Prop} {rest : List (Nat × Kd)} {n : Nat} {l : List (Nat × Value)} {r : Nat → Value} {w w' : World}
  {op : Op} {ty : TypeId} {pos : String} {af : Array Edge} {v : Value} {d i : Nat} {a : Act}

theorem hvH (ho : ops[i]? = some ⟨some d, op, ty, pos, af, none⟩) (h : ∀ w, S w → Ex P n l op ty w v w) (hS : S w)
    (k : RH P ops Q S rest (env n ((d, v) :: l) r) w) : RH P ops Q S ((i, .rd) :: rest) (env n l r) w := ⟨hv ho h hS k.out⟩
theorem hlH (ho : ops[i]? = some ⟨some d, op, ty, pos, af, none⟩) (h : Ex P n l op ty w v w') (hS : S w')
    (k : RH P ops Q S rest (env n ((d, v) :: l) r) w') : RH P ops Q S ((i, .ld) :: rest) (env n l r) w := ⟨hl ho h hS k.out⟩
theorem hlKH {R : Value → World → Prop} (ho : ops[i]? = some ⟨some d, op, ty, pos, af, none⟩) (h : ExK P n l op ty w R)
    (k : ∀ v w', R v w' → S w' ∧ RH P ops Q S rest (env n ((d, v) :: l) r) w') : RH P ops Q S ((i, .ld) :: rest) (env n l r) w := ⟨hlK ho h fun v w' hR => ⟨(k v w' hR).1, (k v w' hR).2.out⟩⟩
theorem hluKH {R : World → Prop} (ho : ops[i]? = some ⟨none, op, ty, pos, af, none⟩) (h : ExUK P n l op ty w R)
    (k : ∀ w', R w' → S w' ∧ RH P ops Q S rest (env n l r) w') : RH P ops Q S ((i, .ld) :: rest) (env n l r) w := ⟨hluK ho h fun w' hR => ⟨(k w' hR).1, (k w' hR).2.out⟩⟩
theorem blKH {R : Value → World → Prop} (ho : ops[i]? = some ⟨some d, op, ty, pos, af, none⟩) (h : ExK P n l op ty w R)
    (k : ∀ v w', R v w' → RH P ops Q S rest (env n ((d, v) :: l) r) w') : RH P ops Q S ((i, .bh) :: rest) (env n l r) w := ⟨blK ho h fun v w' hR => (k v w' hR).out⟩
theorem bluKH {R : World → Prop} (ho : ops[i]? = some ⟨none, op, ty, pos, af, none⟩) (h : ExUK P n l op ty w R)
    (k : ∀ w', R w' → RH P ops Q S rest (env n l r) w') : RH P ops Q S ((i, .bh) :: rest) (env n l r) w := ⟨bluK ho h fun w' hR => (k w' hR).out⟩
theorem hcH {f : FuncId} {vs : List Value} {R : Value → World → Prop} (ho : ops[i]? = some ⟨some d, op, ty, pos, af, none⟩) (h : ExC P n l op ty w f vs) (hc' : Ret P f vs w R)
    (k : ∀ v w', R v w' → S w' ∧ RH P ops Q S rest (env n ((d, v) :: l) r) w') : RH P ops Q S ((i, .ld) :: rest) (env n l r) w := ⟨hc ho h hc' fun v w' hR => ⟨(k v w' hR).1, (k v w' hR).2.out⟩⟩
theorem hvPH {p : Prop} [Decidable p] (ho : ops[i]? = some ⟨some d, op, ty, pos, af, none⟩) (h : ∀ w, S w → Ex P n l op ty w (.bool (decide p)) w) (hS : S w)
    (k1 : p → RH P ops Q S rest (env n ((d, .bool true) :: l) r) w) (k2 : ¬ p → RH P ops Q S rest (env n ((d, .bool false) :: l) r) w) : RH P ops Q S ((i, .rd) :: rest) (env n l r) w := ⟨hvP ho h hS (fun hp => (k1 hp).out) (fun hp => (k2 hp).out)⟩
theorem hendH {y : Code} (h : y.wp P Q a w) : RH P ops (Exit.then (y.wp P Q) Q) S [] a w := ⟨h⟩
theorem lhendH (h : Q .normal a w) : RH P ops Q S [] a w := ⟨h⟩
theorem sdrawH {id : Nat} {y : Code} (S : World → Prop) (order : List (Nat × Kd)) (hm : P.follows .mixedOrders = true)
    (hk : (Region.noSelect ops && okRun ops (reads order) (Array.replicate ops.size false) order && order.length.ble ops.size) = true)
    (hQ : ∀ c d v a w, Q (.panic c) (a.put d v) w → Q (.panic c) a w)
    (h : RH P ops (Exit.then (y.wp P Q) Q) S order a w.drew) : (Code.seq (.region id ops true) y).wp P Q a w := sdraw S order hm hk hQ h.out
theorem ldrawH {id : Nat} (S : World → Prop) (order : List (Nat × Kd)) (hm : P.follows .mixedOrders = true)
    (hk : (Region.noSelect ops && okRun ops (reads order) (Array.replicate ops.size false) order && order.length.ble ops.size) = true)
    (hQ : ∀ c d v a w, Q (.panic c) (a.put d v) w → Q (.panic c) a w)
    (h : RH P ops Q S order a w.drew) : (Code.region id ops true).wp P Q a w := ldraw S order hm hk hQ h.out
end
section
variable {P : Program} {ops : Array Oper} {Q : Exit → Act → World → Prop} {n : Nat} {l : List (Nat × Value)} {r : Nat → Value} {w : World} {ty : TypeId} {pos : String} {af : Array Edge} {v : Value} {d i : Nat} {S : World → Prop} {more : List (Nat × Kd)} {x : Operand} {a : Addr}
theorem qqM (ho : ops[i]? = some ⟨some d, .move x, ty, pos, af, none⟩) (h : ev n l x = some v) (hS : S w) (k : RH P ops Q S more (env n ((d, v) :: l) r) w) : RH P ops Q S ((i, .rd) :: more) (env n l r) w := hvH ho (fun _ _ => xmove h) hS k
theorem qqA (ho : ops[i]? = some ⟨some d, .assign x, ty, pos, af, none⟩) (h : ev n l x = some v) (hS : S w) (k : RH P ops Q S more (env n ((d, v) :: l) r) w) : RH P ops Q S ((i, .rd) :: more) (env n l r) w := hvH ho (fun _ _ => xassign h) hS k
theorem qqN (ho : ops[i]? = some ⟨some d, .nilCheck x, ty, pos, af, none⟩) (h : ev n l x = some (.pointer (some a))) (hS : S w) (k : RH P ops Q S more (env n ((d, .pointer (some a)) :: l) r) w) : RH P ops Q S ((i, .rd) :: more) (env n l r) w := hvH ho (fun _ _ => xnilc h) hS k
end
end Go.Proofs.YtifnodoffgfpbaaGreatDoor

namespace Go.Proofs.YtifnodoffgfpbaaGreatDoor
open Go

theorem packM_leC {m : MsgD} (h : fewM m) (C : Option Ent) : (packM C m).length ≤ 10000000 := by
  obtain ⟨hna, hpk, hc, _⟩ := few_pack h
  have h0 := packAsks_bound hna (by omega) C 12
  have h1 := packRecs_bound (fun r hr => (hpk m.one (by simp) r hr).2) (by omega) (packA C m).2 (12 + (packA C m).1.length)
  have h2 := packRecs_bound (fun r hr => (hpk m.two (by simp) r hr).2) (by omega) (pack1 C m).2 (12 + (packA C m).1.length + (pack1 C m).1.length)
  have h3 := packRecs_bound (fun r hr => (hpk m.three (by simp) r hr).2) (by omega) (pack2 C m).2 (12 + (packA C m).1.length + (pack1 C m).1.length + (pack2 C m).1.length)
  have e0 : (packA C m).1.length ≤ 24000 := h0
  have e1 : (pack1 C m).1.length ≤ 2680000 := h1
  have e2 : (pack2 C m).1.length ≤ 2680000 := h2
  have e3 : (pack3 C m).1.length ≤ 2680000 := h3
  simp only [packM, List.length_append, headL_len]; omega
theorem few_names {m : MsgD} (h : fewM m) : MsgNames m ∧ ∀ r, r ∈ m.one ∨ r ∈ m.two ∨ r ∈ m.three → (bodyL r).length < 65536 := by
  obtain ⟨hna, hpk, hc, _⟩ := few_pack h
  refine ⟨⟨hna, fun r hr => (hpk m.one (by simp) r hr).2.1, fun r hr => (hpk m.two (by simp) r hr).2.1, fun r hr => (hpk m.three (by simp) r hr).2.1⟩, fun r hr => ?_⟩
  rcases hr with hr | hr | hr
  · exact (hpk m.one (by simp) r hr).2.2.2
  · exact (hpk m.two (by simp) r hr).2.2.2
  · exact (hpk m.three (by simp) r hr).2.2.2
theorem msgL_le {m : MsgD} (h : fewM m) : (msgL m).length ≤ 10000000 := by
  rw [← packM_non (few_names h).1]; exact packM_leC h none
theorem readOk_of {r : RecD} (h : PackOk r) (hp : plainR r) : ReadOk r := ⟨h.1.2.1, h.1.2.2.1, h.2.1, h.2.2.1.2.2.2.2.1, h.2.2.1.2.1, hp⟩
theorem fits_norm {r : RecD} {len : UInt16} (h : r.fits) : (normR r len).fits := by
  obtain ⟨h1, h2, h3, h4, h5, h6, h7, h8, h9, h10, h11, h12⟩ := h
  refine ⟨h1, ?_, ?_, ?_, ?_, ?_, ?_, ?_, ?_, ?_, h11, h12⟩
  · simp only [normR]; repeat' split
    all_goals first | exact h2 | (rw [fixedL_length]; omega) | simp
  · simp only [normR]; split
    · exact h3
    · show (0 : Nat) ≤ _; omega
  · simp only [normR]; split
    · exact h4
    · show (0 : Nat) ≤ _; omega
  · simp only [normR]; split <;> simp [h5]
  · simp only [normR]; split
    · exact h6
    · simp
  · simp only [normR]; split <;> simp [h7]
  · simp only [normR]; split <;> simp [h8]
  · simp only [normR]; split
    · exact h9
    · simp
  · simp only [normR]; split <;> simp [h10]
def backM (m : MsgD) (l1 l2 l3 : List RecD) : MsgD := { m with one := l1, two := l2, three := l3 }
theorem like_mem {l1 l : List RecD} (h : All2 Like l1 l) {r' : RecD} (hr : r' ∈ l1) : ∃ r ∈ l, ∃ len, r' = normR r len := by
  obtain ⟨i, hi, rfl⟩ := List.mem_iff_getElem.1 hr
  obtain ⟨a, b, ha, hb, hab⟩ := h.get (k := i) (by rw [← h.1]; exact hi)
  rw [List.getElem?_eq_getElem hi] at ha
  simp only [Option.some.injEq] at ha
  subst ha
  exact ⟨b, List.mem_of_getElem? hb, hab⟩
theorem back_fits {m : MsgD} {l1 l2 l3 : List RecD} (hm : m.fits) (hf : fewM m) (h1 : All2 Like l1 m.one) (h2 : All2 Like l2 m.two) (h3 : All2 Like l3 m.three) :
    (∀ l ∈ [l1, l2, l3], ∀ r ∈ l, r.fits ∧ 1 ≤ r.kind ∧ r.kind ≤ 13) ∧ (∀ l ∈ [l1, l2, l3], l.length ≤ 1048576) ∧ msgL (backM m l1 l2 l3) = msgL m := by
  obtain ⟨hna, hpk, hc, _⟩ := few_pack hf
  have hfl := hm.lists
  refine ⟨?_, ?_, ?_⟩
  · intro l hl r hr
    simp only [List.mem_cons, List.not_mem_nil, or_false] at hl
    rcases hl with rfl | rfl | rfl
    · obtain ⟨r0, h0, len, rfl⟩ := like_mem h1 hr
      have := hpk m.one (by simp) r0 h0
      exact ⟨fits_norm (hfl.2 _ (by simp) r0 h0), this.1.2.1, this.1.2.2.1⟩
    · obtain ⟨r0, h0, len, rfl⟩ := like_mem h2 hr
      have := hpk m.two (by simp) r0 h0
      exact ⟨fits_norm (hfl.2 _ (by simp) r0 h0), this.1.2.1, this.1.2.2.1⟩
    · obtain ⟨r0, h0, len, rfl⟩ := like_mem h3 hr
      have := hpk m.three (by simp) r0 h0
      exact ⟨fits_norm (hfl.2 _ (by simp) r0 h0), this.1.2.1, this.1.2.2.1⟩
  · intro l hl
    simp only [List.mem_cons, List.not_mem_nil, or_false] at hl
    rcases hl with rfl | rfl | rfl
    · rw [h1.1]; omega
    · rw [h2.1]; omega
    · rw [h3.1]; omega
  · refine msgL_like ⟨rfl, rfl, h1, h2, h3⟩ fun r hr => ?_
    rcases hr with hr | hr | hr
    · have := hpk m.one (by simp) r hr; exact ⟨this.1.2.1, this.1.2.2.1⟩
    · have := hpk m.two (by simp) r hr; exact ⟨this.1.2.1, this.1.2.2.1⟩
    · have := hpk m.three (by simp) r hr; exact ⟨this.1.2.1, this.1.2.2.1⟩
theorem c20b {w : World} {U : Nat → Prop} (hU : ∀ k, U k → k < w.heap.size) {m : MsgD} {l1 l2 l3 : List RecD} {va v1 v2 v3 : Value} (hm : m.fits) (hf : fewM m) (ja : LA AskEl lAsk U w va m.asks) (j1 : LA RecEl lRec U w v1 l1) (j2 : LA RecEl lRec U w v2 l2) (j3 : LA RecEl lRec U w v3 l3)
    (h1 : All2 Like l1 m.one) (h2 : All2 Like l2 m.two) (h3 : All2 Like l3 m.three) : Ret PP 20 [ag (msgSegs m.head va v1 v2 v3)] w (New w (msgL m).length (msgL m)) := by
  obtain ⟨bf1, bf2, bf3⟩ := back_fits hm hf h1 h2 h3
  have hl := msgL_le hf
  have := c20 (m := backM m l1 l2 l3) hU ja j1 j2 j3 hm.2.1 (fun l hl r hr => ⟨(bf1 l hl r hr).1, Int.le_trans (by decide) (bf1 l hl r hr).2.1, (bf1 l hl r hr).2.2⟩) hm.1 bf2 (by rw [bf3]; omega)
  rw [bf3] at this
  exact this
theorem c20f {w : World} {U : Nat → Prop} (hU : ∀ k, U k → k < w.heap.size) {m : MsgD} {va v1 v2 v3 : Value} (hm : m.fits) (hf : fewM m) (ja : LA AskEl lAsk U w va m.asks) (j1 : LA RecEl lRec U w v1 m.one) (j2 : LA RecEl lRec U w v2 m.two) (j3 : LA RecEl lRec U w v3 m.three) :
    Ret PP 20 [ag (msgSegs m.head va v1 v2 v3)] w (New w (msgL m).length (msgL m)) := by
  have hl := msgL_le hf
  have hfl := hm.lists
  have hpk := (few_pack hf).2.1
  exact c20 hU ja j1 j2 j3 hm.2.1 (fun l hl r hr => ⟨hfl.2 l hl r hr, Int.le_trans (by decide) (hpk l hl r hr).1.2.1, (hpk l hl r hr).1.2.2.1⟩) hm.1 hfl.1 (by omega)
theorem c19_eq {w : World} {U V : Nat → Prop} {a b : Value} {cs : List UInt8} (ha : BA U w a cs) (hb : BA V w b cs) : Ret PP 19 [a, b] w (fun u w' => u = .bool true ∧ Fr0 w w') :=
  Ret.mono (c19 ha hb) fun u w' ⟨h, hf⟩ => ⟨by rw [h]; simp, hf⟩
end Go.Proofs.YtifnodoffgfpbaaGreatDoor

namespace Go.Proofs.YtifnodoffgfpbaaGreatDoor
open Go

abbrev lB : List Nat := [1, 1, 1, 1, 1, 1, 1, 1, 1, 1]
theorem cell_keep {S : Nat → Prop} {w w' : World} {k : Nat} {v : Value} (h : w.cell? ⟨k, 0, none⟩ = some v) (m : Fr S w w') (hk : k < w.heap.size) (hn : ¬ S k) : w'.cell? ⟨k, 0, none⟩ = some v := by
  simp only [World.cell?] at h ⊢
  rw [m.block k hk hn]; exact h
end Go.Proofs.YtifnodoffgfpbaaGreatDoor

namespace Go.Proofs.YtifnodoffgfpbaaGreatDoor
open Go Go.ChangeShapes Go.WideShapes

section
variable {P : Program}
def VarR (P : Program) (W : World) (n : String) (d : DataW Unit) : Prop :=
  ∃ g t cs fuel p, P.globalNamed n = some g ∧ (P.globals[g]?).map (·.type) = some t ∧ W.var? P n = some cs ∧ DataW.trod (fun _ => ()) P W 0 (fun _ => true) false fuel t cs.toList = some (d, p) ∧
    ∀ i u v, i < cs.size → W.cell? ⟨g, i, none⟩ = some (.iface u v) → Value.okWide P W .any 0 u v
theorem mem_row (g n i : Nat) (hi : i < n) : MemPlace.cell g i ∈ MemPlace.row ⟨g, 0, none⟩ n := by
  simp only [MemPlace.row]
  exact List.mem_map.2 ⟨i, List.mem_range.2 hi, by rw [Nat.zero_add]⟩
theorem laid_reads {W : World} : ∀ {l : List (String × DataW Unit)} {ps : List MemPlace}, DataW.LaidVars P W l ps → (∀ b off, MemPlace.cell b off ∈ ps → ∀ u v, W.cell? ⟨b, off, none⟩ = some (.iface u v) → Value.okWide P W .any 0 u v) → ∀ n d, (n, d) ∈ l → VarR P W n d
  | [], _, _, _, _, _, hm => by cases hm
  | (n', d') :: r, ps, h, hw, n, d, hm => by
    obtain ⟨g, t, cs, fuel, p, q, h1, h2, h3, h4, h5, rfl⟩ := h
    rcases List.mem_cons.1 hm with e | e
    · cases e
      exact ⟨g, t, cs, fuel, p, h1, h2, h3, h4, fun i u v hi hc => hw g i (List.mem_append_left _ (List.mem_append_left _ (mem_row g cs.size i hi))) u v hc⟩
    · exact laid_reads h5 (fun b off hb => hw b off (List.mem_append_right _ hb)) n d e
theorem laid_var {W : World} {l : List (String × DataW Unit)} (h : laidMet P l W) {n : String} {d : DataW Unit} (hm : (n, d) ∈ l) : VarR P W n d := by
  obtain ⟨ps, hv, _, hw⟩ := h
  exact laid_reads hv (fun b off hb => (hw b off hb).2) n d hm
theorem trod_if {W : World} {fuel : Nat} {t : TypeId} {cs : List Value} {nm : String} {d : DataW Unit} {p : List MemPlace} (ht : ifcB P t = true) (h : DataW.trod (fun _ => ()) P W 0 (fun _ => true) false fuel t cs = some (.iface nm d, p)) :
    ∃ u v n q, cs = [.iface u v] ∧ P.typeName? 3 u = some nm ∧ DataW.trod (fun _ => ()) P W 0 (fun _ => true) false n u v.cells.toList = some (d, q) := by
  cases fuel with
  | zero => simp [DataW.trod] at h
  | succ n =>
    have hu := ifcB_spec ht
    unfold DataW.trod at h
    rw [hu] at h
    match cs, h with
    | [.nilIface], h => simp at h
    | [.iface u v], h =>
      simp only [] at h
      cases hn : P.typeName? 3 u with
      | none => rw [hn] at h; simp at h
      | some name =>
        rw [hn] at h
        simp only [Option.map_eq_some_iff, Prod.mk.injEq, DataW.iface.injEq] at h
        obtain ⟨x, hx, ⟨h1, h2⟩, _⟩ := h
        exact ⟨u, v, n, x.2, rfl, by rw [hn, h1], by rw [hx, ← h2]⟩
theorem trod_ptr {W : World} {fuel : Nat} {t : TypeId} {cs : List Value} {d : DataW Unit} {p : List MemPlace} (h : DataW.trod (fun _ => ()) P W 0 (fun _ => true) false fuel t cs = some (.ptr d, p)) : ∃ e, P.underlying t = some (.pointer e) := by
  cases fuel with
  | zero => simp [DataW.trod] at h
  | succ n =>
    unfold DataW.trod at h
    split at h
    all_goals first
      | exact ⟨_, by assumption⟩
      | (exfalso; revert h; repeat' split
         all_goals (intro h; simp [Option.bind_eq_some_iff, Option.map_eq_some_iff] at h))
theorem err_ofP {ET : TypeId} (hif : ifcB P ET = true)
    {W : World} {l : List (String × DataW Unit)} (h : laidMet P l W) {n : String} {g : Nat} {d : DataW Unit} (hm : (n, .iface "*errors.errorString" (.ptr d)) ∈ l) (hg : P.globalNamed n = some g) (ht : (P.globals[g]?).map (·.type) = some ET) :
    ∃ u e x, W.cell? ⟨g, 0, none⟩ = some (.iface u (.pointer x)) ∧ P.typeName? 3 u = some "*errors.errorString" ∧ P.underlying u = some (.pointer e) := by
  obtain ⟨g', t, cs, fuel, p, h1, h2, h3, h4, h5⟩ := laid_var h hm
  obtain rfl : g = g' := Option.some.inj (hg.symm.trans h1)
  obtain rfl : ET = t := Option.some.inj (ht.symm.trans h2)
  obtain ⟨u, v, fu, q, hcs, hu, hv⟩ := trod_if hif h4
  have hc : W.cell? ⟨g, 0, none⟩ = some (.iface u v) := by
    rw [World.var?_cell h1 h3 0]
    have : cs.toList[0]? = some (.iface u v) := by rw [hcs]; rfl
    simpa using this
  have hsz : 0 < cs.size := by
    have : cs.toList.length = 1 := by rw [hcs]; rfl
    simp at this; omega
  have hw := h5 0 u v hsz hc
  obtain ⟨e, he⟩ := trod_ptr hv
  obtain ⟨x, rfl⟩ := okWide_pointer he hw
  exact ⟨u, e, x, hc, hu, he⟩
end
theorem cell_lt {w : World} {k : Nat} {v : Value} (h : w.cell? ⟨k, 0, none⟩ = some v) : k < w.heap.size := by
  rcases Nat.lt_or_ge k w.heap.size with h' | h'
  · exact h'
  · simp [World.cell?, Array.getElem?_eq_none h'] at h
theorem tn166 : PP.typeName? 3 166 = some "*loop.example/pub-messagesmixed/pub/dnsmessage.nestedError" := by kernel_rfl
def ErrV (v : Value) : Prop := ∃ u e x, v = .iface u (.pointer x) ∧ u ≠ 166 ∧ PP.underlying u = some (.pointer e)
theorem err_of {W : World} {l : List (String × DataW Unit)} (h : laidMet PP l W) {n : String} {g : Nat} {d : DataW Unit} (hm : (n, .iface "*errors.errorString" (.ptr d)) ∈ l) (hg : PP.globalNamed n = some g) (ht : (PP.globals[g]?).map (·.type) = some 89) :
    ∃ v, W.cell? ⟨g, 0, none⟩ = some v ∧ ErrV v := by
  obtain ⟨u, e, x, hc, hu, he⟩ := err_ofP if89 h hm hg ht
  refine ⟨_, hc, u, e, x, rfl, ?_, he⟩
  intro h166
  rw [h166, tn166] at hu
  exact absurd (Option.some.inj hu) (by decide)
end Go.Proofs.YtifnodoffgfpbaaGreatDoor

namespace Go.Proofs.YtifnodoffgfpbaaGreatDoor
open Go

theorem rScope {Q : Exit → Act → World → Prop} {a : Act} {w : World} (h : Q .ret a w) : Exit.noGoto Q .ret a w := h
def GE (w : World) : Prop := ∀ k, k ≤ 20 → (k = 0 ∨ k = 5 ∨ (7 ≤ k ∧ k ≤ 13) ∨ k = 15 ∨ k = 20) → ∃ (v : Value), w.cell? ⟨k, 0, none⟩ = some v ∧ ErrV v
theorem GE.keep {S : Nat → Prop} {w w' : World} (h : GE w) (hU : ∀ k, k ≤ 20 → k < w.heap.size) (m : Fr S w w') (hn : ∀ k, k ≤ 20 → ¬ S k) : GE w' := fun k hk h14 => by
  obtain ⟨v, h, e⟩ := h k hk h14
  exact ⟨v, cell_keep h m (hU k hk) (hn k hk), e⟩
theorem GE.k0 {w w' : World} (h : GE w) (m : Fr0 w w') (hs : 20 < w.heap.size) : GE w' := h.keep (fun k hk => by omega) m fun _ _ h => h
theorem GE.k1 {w w' : World} {b : Nat} (h : GE w) (m : Fr (fun k => k = b) w w') (hs : 20 < w.heap.size) (hb : 20 < b) : GE w' := h.keep (fun k hk => by omega) m fun k hk e => by have e : k = b := e; omega
theorem GE.get {w : World} (h : GE w) (k : Nat) (hk : k ≤ 20) (h14 : (k = 0 ∨ k = 5 ∨ (7 ≤ k ∧ k ≤ 13) ∨ k = 15 ∨ k = 20)) : ∃ (u : TypeId) (x : Option Addr) (e : TypeId), w.cell? ⟨k, 0, none⟩ = some (.iface u (.pointer x)) ∧ u ≠ 166 ∧ PP.underlying u = some (.pointer e) := by
  obtain ⟨v, h, u, e, x, rfl, h1, h2⟩ := h k hk h14
  exact ⟨u, x, e, h, h1, h2⟩
theorem ms_cell {w : World} {bm om n : Nat} {b : List UInt8} (hm : w.rangeAt bm om (bvs (b.take n))) {i : Nat} {c : UInt8} (h : b[i]? = some c) (hi : i < n) : w.cell? ⟨bm, om + i, none⟩ = some (.int .u8 (c.toNat : Int)) :=
  std_cell hm (by rw [List.getElem?_take, if_pos hi]; exact h)
theorem ms_std {b xs : List UInt8} {n p : Nat} (h : Std b p xs) (hn : p + xs.length ≤ n) : Std (b.take n) p xs := fun j c hj => by
  have hl : j < xs.length := (List.getElem?_eq_some_iff.1 hj).1
  rw [List.getElem?_take, if_pos (by omega)]
  exact h j c hj
theorem hi_lo32 {x : Nat} (h : x < 4294967296) : (UInt8.ofNat (x / 16777216)).toNat = x / 16777216 ∧ (UInt8.ofNat (x / 65536)).toNat = x / 65536 % 256 ∧ (UInt8.ofNat (x / 256)).toNat = x / 256 % 256 ∧ (UInt8.ofNat x).toNat = x % 256 := by
  have e1 := UInt8.toNat_ofNat' (n := x / 16777216)
  have e2 := UInt8.toNat_ofNat' (n := x / 65536)
  have e3 := UInt8.toNat_ofNat' (n := x / 256)
  have e4 := UInt8.toNat_ofNat' (n := x)
  have h1 : x / 16777216 < 256 := by omega
  exact ⟨by rw [e1]; omega, by rw [e2], by rw [e3], by rw [e4]⟩

theorem c156 {w : World} {a : Option Addr} {bm om km n : Nat} {b : List UInt8} (hms : n ≠ 0 → a = some ⟨bm, om, none⟩) (hm : w.rangeAt bm om (bvs (b.take n))) (hbm : bm < w.heap.size) (_hnb : n ≤ b.length) (_hkm : n ≤ km) (hbl : b.length < 100000000) (hG : GE w) (hsz : 21 ≤ w.heap.size) {off x : Nat} (hx : x < 65536) (hs : Std b off (be16 x)) (_ho : off ≤ b.length) :
  Ret PP 156 [.slice a n km, .int .i64 (off : Int)] w (fun u w' => ((off + 2 ≤ n ∧ u = .tuple #[.int .u16 (x : Int), .int .i64 ((off + 2 : Nat) : Int), .nilIface]) ∨ (n < off + 2 ∧ ∃ (T : TypeId) (x : Option Addr), u = .tuple #[.int .u16 0, .int .i64 (off : Int), .iface T (.pointer x)])) ∧ Fr0 w w') := by
 have hsl := hs.le (by simp [be16])
 simp only [be16_length] at hsl
 have hhl := hi_lo hx
 have hs0 := hs.head
 have hs1 := hs.tail.head
 have hf : Fr (fun _ => False) w w := Fr.refl _ _
 refine ret_of Tryz.func156 rfl rfl rfl [(0, _), (1, _)] rfl ?_
 refine sreg (sA rfl (sA rfl (sA rfl (send (fcg 0 1 rfl fun _ => wp_seq (sreg (sM rfl (sv (xadd rfl rfl (w64n (off + 2) (by omega) (by omega))) (sM rfl (sv (xlen sl37 rfl) (svP (xgtr rfl rfl) (fun hc11 => ?_) (fun hc11 => ?_))))))))))))
 ·
  refine send (fdg 0 1 11 rfl fun _ => cyes rfl ?_)
  refine sdrawH (Fr (fun _ => False) w.drew) [rd0, rd1, rd2, rd3, rd4] mixed (by kernel_rfl) (fun _ _ _ _ _ h => h) ?_
  have z1 : w.drew.heap.size = w.heap.size := rfl
  have hS2 : Fr (fun _ => False) w.drew w.drew := Fr.refl _ _
  have hG := hG.k0 (fd w) (by omega)
  refine qqM rfl rfl hS2 ?_
  obtain ⟨Tg13, xg13, eg13, hgc13, hgn13, hge13⟩ := hG.get 7 (by omega) (by omega)
  have hf := hf.drew
  refine hvH rfl (fun w' hS => xld on89 rfl (cell_keep hgc13 hS (by omega) id)) hS2 (qqA rfl rfl hS2 (qqA rfl rfl hS2 (qqA rfl rfl hS2 (hendH (fdg 4 5 6 rfl fun _ => wp_ret (rThen (rp3 rfl rfl rfl rfl ?_)))))))
  exact ⟨.inr ⟨by omega, _, _, rfl⟩, hf⟩
 refine send ((cno rfl (wp_skip (nThen (fcg 0 1 rfl fun _ => ?_)))))
 obtain rfl := hms (by omega)
 refine sdrawH (Fr (fun _ => False) w.drew) [rd0, rd1, rd2, rd3, rd4, rd5, rd6, rd7, rd8, rd9, rd10, rd11, rd12, rd13, rd14, rd15, rd16, rd17] mixed (by kernel_rfl) (fun _ _ _ _ _ h => h) ?_
 have z3 : w.drew.heap.size = w.heap.size := rfl
 have hS4 : Fr (fun _ => False) w.drew w.drew := Fr.refl _ _
 have hm := rng_fr hm (fd w) (by omega) id
 have hf := hf.drew
 refine qqM rfl rfl hS4 (qqM rfl rfl hS4 (hvH rfl (fun _ _ => xidx1 (i := off) sl37 sz5 rfl rfl rfl (by omega)) hS4 (hvH rfl (fun w' hS => xld on5 rfl (ms_cell (rng_fr hm hS (by omega) id) hs0 (by omega))) hS4 (hvH rfl (fun _ _ => xconv hs5 ki22 rfl (wu16 (by omega) (by omega))) hS4 (hvH rfl (fun _ _ => xshl (b := 8) (by decide) rfl rfl (wu16n (x / 256 * 256) (by omega))) hS4 (qqM rfl rfl hS4 (qqM rfl rfl hS4 (hvH rfl (fun _ _ => xadd rfl rfl (w64n (off + 1) (by omega) (by omega))) hS4 (hvH rfl (fun _ _ => xidx1 (i := off + 1) sl37 sz5 rfl rfl rfl (by omega)) hS4 (hvH rfl (fun w' hS => xld on5 rfl (ms_cell (rng_fr hm hS (by omega) id) hs1 (by omega))) hS4 (hvH rfl (fun _ _ => xconv hs5 ki22 rfl (wu16 (by omega) (by omega))) hS4 (hvH rfl (fun _ _ => xor16S (a := x / 256 * 256) (b := (UInt8.ofNat x).toNat) (c := x) 8 rfl rfl (by omega) (by omega) (by omega) (by omega)) hS4 (qqM rfl rfl hS4 (hvH rfl (fun _ _ => xadd rfl rfl (w64n (off + 2) (by omega) (by omega))) hS4 (qqA rfl rfl hS4 (qqA rfl rfl hS4 (qqA rfl rfl hS4 (hendH (fdg 4 5 6 rfl fun _ => wp_ret (rp3 rfl rfl rfl rfl ?_))))))))))))))))))))
 exact ⟨.inl ⟨by omega, rfl⟩, hf⟩
theorem c106 {w : World} {a : Option Addr} {bm om km n : Nat} {b : List UInt8} (hms : n ≠ 0 → a = some ⟨bm, om, none⟩) (hm : w.rangeAt bm om (bvs (b.take n))) (hbm : bm < w.heap.size) (hnb : n ≤ b.length) (hkm : n ≤ km) (hbl : b.length < 100000000) (hG : GE w) (hsz : 21 ≤ w.heap.size) {off x : Nat} (hx : x < 65536) (hs : Std b off (be16 x)) (ho : off ≤ b.length) :
  Ret PP 106 [.slice a n km, .int .i64 (off : Int)] w (fun u w' => ((off + 2 ≤ n ∧ u = .tuple #[.int .u16 (x : Int), .int .i64 ((off + 2 : Nat) : Int), .nilIface]) ∨ (n < off + 2 ∧ ∃ (T : TypeId) (x : Option Addr), u = .tuple #[.int .u16 0, .int .i64 (off : Int), .iface T (.pointer x)])) ∧ Fr0 w w') := by
 have hf : Fr (fun _ => False) w w := Fr.refl _ _
 refine ret_of Tryz.func106 rfl rfl rfl [(0, _), (1, _)] rfl ?_
 refine sreg (sA rfl (sA rfl (sA rfl (send (fcg 0 1 rfl fun _ => sreg (sM rfl (sM rfl (sc (xcall ca156 rfl) (c156 (b := b) (off := off) (x := x) hms hm (by omega) hnb hkm hbl hG (by omega) hx (hs) (by omega)) ?_))))))))
 rintro _ w1 ⟨⟨hle13, rfl⟩ | ⟨hgt13, T13, x13, rfl⟩, m2⟩
 ·
  have z3 := m2.size
  have hf := hf.s m2
  refine sM rfl (sE3 rfl (sA rfl (sA rfl (sA rfl (send ((sreg (sM rfl (sM rfl (sM rfl (sA rfl (sA rfl (sA rfl (send (fdg 4 5 6 rfl fun _ => wp_ret (rp3 rfl rfl rfl rfl ?_))))))))))))))))
  exact ⟨.inl ⟨by omega, rfl⟩, hf⟩
 have z4 := m2.size
 have hf := hf.s m2
 refine sM rfl (sE3 rfl (sA rfl (sA rfl (sA rfl (send ((sreg (sM rfl (sM rfl (sM rfl (sA rfl (sA rfl (sA rfl (send (fdg 4 5 6 rfl fun _ => wp_ret (rp3 rfl rfl rfl rfl ?_))))))))))))))))
 exact ⟨.inr ⟨by omega, _, _, rfl⟩, hf⟩
theorem c107 {w : World} {a : Option Addr} {bm om km n : Nat} {b : List UInt8} (hms : n ≠ 0 → a = some ⟨bm, om, none⟩) (hm : w.rangeAt bm om (bvs (b.take n))) (hbm : bm < w.heap.size) (hnb : n ≤ b.length) (hkm : n ≤ km) (hbl : b.length < 100000000) (hG : GE w) (hsz : 21 ≤ w.heap.size) {off x : Nat} (hx : x < 65536) (hs : Std b off (be16 x)) (ho : off ≤ b.length) :
  Ret PP 107 [.slice a n km, .int .i64 (off : Int)] w (fun u w' => ((off + 2 ≤ n ∧ u = .tuple #[.int .u16 (x : Int), .int .i64 ((off + 2 : Nat) : Int), .nilIface]) ∨ (n < off + 2 ∧ ∃ (T : TypeId) (x : Option Addr), u = .tuple #[.int .u16 0, .int .i64 (off : Int), .iface T (.pointer x)])) ∧ Fr0 w w') := by
 have hf : Fr (fun _ => False) w w := Fr.refl _ _
 refine ret_of Tryz.func107 rfl rfl rfl [(0, _), (1, _)] rfl ?_
 refine sreg (sA rfl (sA rfl (sA rfl (send (fcg 0 1 rfl fun _ => sreg (sM rfl (sM rfl (sc (xcall ca156 rfl) (c156 (b := b) (off := off) (x := x) hms hm (by omega) hnb hkm hbl hG (by omega) hx (hs) (by omega)) ?_))))))))
 rintro _ w1 ⟨⟨hle13, rfl⟩ | ⟨hgt13, T13, x13, rfl⟩, m2⟩
 ·
  have z3 := m2.size
  have hf := hf.s m2
  refine sM rfl (sE3 rfl (sA rfl (sA rfl (sA rfl (send ((sreg (sM rfl (sM rfl (sM rfl (sA rfl (sA rfl (sA rfl (send (fdg 4 5 6 rfl fun _ => wp_ret (rp3 rfl rfl rfl rfl ?_))))))))))))))))
  exact ⟨.inl ⟨by omega, rfl⟩, hf⟩
 have z4 := m2.size
 have hf := hf.s m2
 refine sM rfl (sE3 rfl (sA rfl (sA rfl (sA rfl (send ((sreg (sM rfl (sM rfl (sM rfl (sA rfl (sA rfl (sA rfl (send (fdg 4 5 6 rfl fun _ => wp_ret (rp3 rfl rfl rfl rfl ?_))))))))))))))))
 exact ⟨.inr ⟨by omega, _, _, rfl⟩, hf⟩
theorem c211 {w : World} {a : Option Addr} {bm om km n : Nat} {b : List UInt8} (hms : n ≠ 0 → a = some ⟨bm, om, none⟩) (hm : w.rangeAt bm om (bvs (b.take n))) (hbm : bm < w.heap.size) (_hnb : n ≤ b.length) (_hkm : n ≤ km) (hbl : b.length < 100000000) (hG : GE w) (hsz : 21 ≤ w.heap.size) {off x : Nat} (hx : x < 4294967296) (hs : Std b off (be32 x)) (_ho : off ≤ b.length) :
  Ret PP 211 [.slice a n km, .int .i64 (off : Int)] w (fun u w' => ((off + 4 ≤ n ∧ u = .tuple #[.int .u32 (x : Int), .int .i64 ((off + 4 : Nat) : Int), .nilIface]) ∨ (n < off + 4 ∧ ∃ (T : TypeId) (x : Option Addr), u = .tuple #[.int .u32 0, .int .i64 (off : Int), .iface T (.pointer x)])) ∧ Fr0 w w') := by
 have hsl := hs.le (by simp [be32])
 simp only [be32_length] at hsl
 have hhl := hi_lo32 hx
 have hs0 := hs.head
 have hs1 := hs.tail.head
 have hs2 := hs.tail.tail.head
 have hs3 := hs.tail.tail.tail.head
 have hf : Fr (fun _ => False) w w := Fr.refl _ _
 refine ret_of Tryz.func211 rfl rfl rfl [(0, _), (1, _)] rfl ?_
 refine sreg (sA rfl (sA rfl (sA rfl (send (fcg 0 1 rfl fun _ => wp_seq (sreg (sM rfl (sv (xadd rfl rfl (w64n (off + 4) (by omega) (by omega))) (sM rfl (sv (xlen sl37 rfl) (svP (xgtr rfl rfl) (fun hc12 => ?_) (fun hc12 => ?_))))))))))))
 ·
  refine send (fdg 0 1 12 rfl fun _ => cyes rfl ?_)
  refine sdrawH (Fr (fun _ => False) w.drew) [rd0, rd1, rd2, rd3, rd4] mixed (by kernel_rfl) (fun _ _ _ _ _ h => h) ?_
  have z1 : w.drew.heap.size = w.heap.size := rfl
  have hS2 : Fr (fun _ => False) w.drew w.drew := Fr.refl _ _
  have hG := hG.k0 (fd w) (by omega)
  refine qqM rfl rfl hS2 ?_
  obtain ⟨Tg14, xg14, eg14, hgc14, hgn14, hge14⟩ := hG.get 7 (by omega) (by omega)
  have hf := hf.drew
  refine hvH rfl (fun w' hS => xld on89 rfl (cell_keep hgc14 hS (by omega) id)) hS2 (qqA rfl rfl hS2 (qqA rfl rfl hS2 (qqA rfl rfl hS2 (hendH (fdg 4 5 6 rfl fun _ => wp_ret (rThen (rp3 rfl rfl rfl rfl ?_)))))))
  exact ⟨.inr ⟨by omega, _, _, rfl⟩, hf⟩
 refine send ((cno rfl (wp_skip (nThen (fcg 0 1 rfl fun _ => ?_)))))
 obtain rfl := hms (by omega)
 refine sdrawH (Fr (fun _ => False) w.drew) [rd0, rd1, rd2, rd3, rd4, rd5, rd6, rd7, rd8, rd9, rd10, rd11, rd12, rd13, rd14, rd15, rd16, rd17, rd18, rd19, rd20, rd21, rd22, rd23, rd24, rd25, rd26, rd27, rd28, rd29] mixed (by kernel_rfl) (fun _ _ _ _ _ h => h) ?_
 have z3 : w.drew.heap.size = w.heap.size := rfl
 have hS4 : Fr (fun _ => False) w.drew w.drew := Fr.refl _ _
 have hm := rng_fr hm (fd w) (by omega) id
 have hf := hf.drew
 refine qqM rfl rfl hS4 (qqM rfl rfl hS4 (hvH rfl (fun _ _ => xidx1 (i := off) sl37 sz5 rfl rfl rfl (by omega)) hS4 (hvH rfl (fun w' hS => xld on5 rfl (ms_cell (rng_fr hm hS (by omega) id) hs0 (by omega))) hS4 (hvH rfl (fun _ _ => xconv hs5 ki61 rfl (wu32 (by omega) (by omega))) hS4 (hvH rfl (fun _ _ => xshl (b := 24) (by decide) rfl rfl (wu32n (x / 16777216 * 16777216) (by omega))) hS4 (qqM rfl rfl hS4 (qqM rfl rfl hS4 (hvH rfl (fun _ _ => xadd rfl rfl (w64n (off + 1) (by omega) (by omega))) hS4 (hvH rfl (fun _ _ => xidx1 (i := off + 1) sl37 sz5 rfl rfl rfl (by omega)) hS4 (hvH rfl (fun w' hS => xld on5 rfl (ms_cell (rng_fr hm hS (by omega) id) hs1 (by omega))) hS4 (hvH rfl (fun _ _ => xconv hs5 ki61 rfl (wu32 (by omega) (by omega))) hS4 (hvH rfl (fun _ _ => xshl (b := 16) (by decide) rfl rfl (wu32n (x / 65536 % 256 * 65536) (by omega))) hS4 (hvH rfl (fun _ _ => xor32S (a := x / 16777216 * 16777216) (b := x / 65536 % 256 * 65536) (c := x / 65536 * 65536) 24 rfl rfl (by omega) (by omega) (by omega) (by omega)) hS4 (qqM rfl rfl hS4 (qqM rfl rfl hS4 (hvH rfl (fun _ _ => xadd rfl rfl (w64n (off + 1 + 1) (by omega) (by omega))) hS4 (hvH rfl (fun _ _ => xidx1 (i := off + 1 + 1) sl37 sz5 rfl rfl rfl (by omega)) hS4 (hvH rfl (fun w' hS => xld on5 rfl (ms_cell (rng_fr hm hS (by omega) id) hs2 (by omega))) hS4 (hvH rfl (fun _ _ => xconv hs5 ki61 rfl (wu32 (by omega) (by omega))) hS4 (hvH rfl (fun _ _ => xshl (b := 8) (by decide) rfl rfl (wu32n (x / 256 % 256 * 256) (by omega))) hS4 (hvH rfl (fun _ _ => xor32S (a := x / 65536 * 65536) (b := x / 256 % 256 * 256) (c := x / 256 * 256) 16 rfl rfl (by omega) (by omega) (by omega) (by omega)) hS4 (qqM rfl rfl hS4 (qqM rfl rfl hS4 (hvH rfl (fun _ _ => xadd rfl rfl (w64n (off + 1 + 1 + 1) (by omega) (by omega))) hS4 (hvH rfl (fun _ _ => xidx1 (i := off + 1 + 1 + 1) sl37 sz5 rfl rfl rfl (by omega)) hS4 (hvH rfl (fun w' hS => xld on5 rfl (ms_cell (rng_fr hm hS (by omega) id) hs3 (by omega))) hS4 (hvH rfl (fun _ _ => xconv hs5 ki61 rfl (wu32 (by omega) (by omega))) hS4 (hvH rfl (fun _ _ => xor32S (a := x / 256 * 256) (b := (UInt8.ofNat x).toNat) (c := x) 8 rfl rfl (by omega) (by omega) (by omega) (by omega)) hS4 (qqA rfl rfl hS4 (hendH ((sreg (sM rfl (sM rfl (sv (xadd rfl rfl (w64n (off + 4) (by omega) (by omega))) (sA rfl (sA rfl (sA rfl (send (fdg 4 5 6 rfl fun _ => wp_ret (rp3 rfl rfl rfl rfl ?_)))))))))))))))))))))))))))))))))))))))))
 exact ⟨.inl ⟨by omega, rfl⟩, hf⟩
end Go.Proofs.YtifnodoffgfpbaaGreatDoor

namespace Go.Proofs.YtifnodoffgfpbaaGreatDoor
open Go

theorem and192 {x : Nat} (h : x < 256) : x &&& 192 = x / 64 * 64 := by
  have : ∀ x : Fin 256, x.val &&& 192 = x.val / 64 * 64 := by decide
  exact this ⟨x, h⟩
theorem xor192 {x y : Nat} (h : x < 256) (e : x = 192 + y) : x ^^^ 192 = y := by
  have : ∀ x : Fin 256, 192 ≤ x.val → x.val ^^^ 192 = x.val - 192 := by decide
  have h2 := this ⟨x, h⟩ (by simp only; omega)
  simp only at h2; omega
theorem splice_in (segs : List (List Value)) (i j : Nat) (ds : List Value) (hi : i < segs.length) (hj : j + ds.length ≤ segs[i].length) : splice segs.flatten (offs segs i + j) ds = (segs.set i (splice segs[i] j ds)).flatten := by
  have e : segs = segs.take i ++ (segs[i] :: segs.drop (i + 1)) := by
    rw [List.getElem_cons_drop, List.take_append_drop]
  rw [List.set_eq_take_append_cons_drop, if_pos hi, offs_flat]
  have e2 : segs.flatten = (segs.take i).flatten ++ (segs[i] ++ (segs.drop (i + 1)).flatten) := by
    conv => lhs; rw [e]
    rw [List.flatten_append, List.flatten_cons]
  rw [e2, List.flatten_append, List.flatten_cons]
  generalize (segs.take i).flatten = pre
  generalize (segs.drop (i + 1)).flatten = post
  generalize hs : segs[i] = s at hj
  have e3 : s = s.take j ++ ((s.drop j).take ds.length ++ s.drop (j + ds.length)) := by
    rw [← List.drop_drop, List.take_append_drop, List.take_append_drop]
  have hl : ((s.drop j).take ds.length).length = ds.length := by rw [List.length_take, List.length_drop]; omega
  have hp : (pre ++ s.take j).length = pre.length + j := by rw [List.length_append, List.length_take]; omega
  have e4 : pre ++ (s ++ post) = (pre ++ s.take j) ++ ((s.drop j).take ds.length ++ (s.drop (j + ds.length) ++ post)) := by
    conv => lhs; rw [e3]
    simp only [List.append_assoc]
  rw [e4, ← hp, splice_mid _ _ _ _ hl.symm]
  simp only [splice, List.append_assoc]
theorem set_lens {segs : List (List Value)} {i : Nat} {ds : List Value} (hi : i < segs.length) (hd : ds.length = segs[i].length) : (segs.set i ds).map List.length = segs.map List.length := by
  rw [List.map_set]
  apply List.ext_getElem
  · simp
  · intro m h1 h2
    rw [List.getElem_set]
    split
    · rename_i hm; subst hm; simp [hd]
    · rfl
theorem SB.part {w : World} {b i j o' : Nat} {lens : List Nat} {segs : List (List Value)} {ds : List Value} (h : SB w b lens segs) (hi : i < segs.length) (hj : j + ds.length ≤ segs[i].length) (ho : (lens.take i).sum + j = o') :
    SB (w.setCells b o' ds) b lens (segs.set i (splice segs[i] j ds)) ∧ Fr (· = b) w (w.setCells b o' ds) ∧ (w.setCells b o' ds).heap.size = w.heap.size ∧ (∀ m, m < ds.length → (w.cell? ⟨b, o' + m, none⟩).isSome ∧ w.frozen? ⟨b, o' + m, none⟩ = false) := by
  have hof := offs_lens h.2 i
  have hle := offs_le segs i hi
  have hfit : o' + ds.length ≤ segs.flatten.length := by omega
  have hs := h.1.sets ds o' hfit
  have e := splice_in segs i j ds hi hj
  rw [show offs segs i + j = o' by omega] at e
  rw [e] at hs
  have hl : (splice segs[i] j ds).length = segs[i].length := by
    simp only [splice, List.length_append, List.length_take, List.length_drop]; omega
  refine ⟨⟨hs.1, ?_⟩, hs.2.1, hs.2.2, h.1.there hfit⟩
  rw [set_lens hi hl]; exact h.2
def nb (s : List UInt8) : List Value := bvs ((s ++ List.replicate 255 0).take 255) ++ [.int .u8 0]
theorem nb_form {s : List UInt8} (h : s.length ≤ 255) : nb s = bvs s ++ (bvs (List.replicate (255 - s.length) 0) ++ [.int .u8 0]) := by
  rw [nb, List.take_append, List.take_of_length_le h, List.take_replicate, Nat.min_eq_left (by omega), bvs_app, List.append_assoc]
theorem nb_length (s : List UInt8) : (nb s).length = 256 := by
  simp only [nb, List.length_append, nm_body, List.length_cons, List.length_nil]
theorem nb_nil : nb [] = nm [] := rfl
theorem nb_add {s t : List UInt8} (h : s.length + t.length ≤ 255) : splice (nb s) s.length (bvs t) = nb (s ++ t) := by
  rw [nb_form (s := s) (by omega), nb_form (s := s ++ t) (by simp; omega)]
  have e : List.replicate (255 - s.length) (0 : UInt8) = List.replicate t.length 0 ++ List.replicate (255 - (s ++ t).length) 0 := by
    rw [List.replicate_append_replicate]; congr 1; simp; omega
  rw [e, bvs_app, List.append_assoc]
  have h2 := splice_mid (bvs s) (bvs (List.replicate t.length 0)) (bvs (List.replicate (255 - (s ++ t).length) 0) ++ [.int .u8 0]) (bvs t) (by simp [bvs])
  rw [bvs_length] at h2
  rw [h2, bvs_app, List.append_assoc]
theorem nb_end {s : List UInt8} (_h : s.length ≤ 255) : splice (nb s) 255 [.int .u8 (s.length : Int)] = nm s := by
  have h2 := splice_mid (bvs ((s ++ List.replicate 255 0).take 255)) [.int .u8 0] [] [.int .u8 (s.length : Int)] rfl
  rw [nm_body] at h2
  simp only [List.append_nil] at h2
  exact h2
theorem nb_start {w : World} {b i : Nat} {lens : List Nat} {segs : List (List Value)} (h : SB w b lens segs) (hi : segs[i]? = some (nm [])) : SB w b lens (segs.set i (nb [])) := by
  have hlt : i < segs.length := (List.getElem?_eq_some_iff.1 hi).1
  have he : segs[i] = nm [] := (List.getElem?_eq_some_iff.1 hi).2
  rw [nb_nil, ← he, List.set_getElem_self]; exact h
theorem src_cut {w : World} {b o m c : Nat} {xs : List UInt8} (hr : w.rangeAt b o (bvs xs)) (hm : xs.length = m) : Src PP 1 37 (.slice (some ⟨b, o, none⟩) m c) m (bvs xs) w :=
  src_rng sl37 (by rw [bvs_length]; omega) hr (bvs_one _)
section
variable {P : Program} {n : Nat} {l : List (Nat × Value)} {w : World} {ty : TypeId} {x y : Operand}
theorem xappN {T TX E : TypeId} {z u : Value} {bytes bp o' c i k : Nat} {lens : List Nat} {segs : List (List Value)} {os news : List UInt8} (hT : slcB P T E = true) (hI : Inf P E z 1 bytes)
    (hx : ev n l x = some (.slice (some ⟨bp, o', none⟩) os.length c)) (hy : ev n l y = some u) (hP : SB w bp lens (segs.set i (nb os))) (hi : i < segs.length) (hq : (lens.take i).sum = o') (hs : Src P 1 TX u k (bvs news) w) (hk : news.length = k) (hroom : os.length + k ≤ 255) (hc : c = 255) :
    ExK P n l (.call { callee := .builtin .append, args := #[x, y], argTypes := #[T, TX] }) ty w (fun v' w' => v' = .slice (some ⟨bp, o', none⟩) (os ++ news).length c ∧ Fr (· = bp) w w' ∧ SB w' bp lens (segs.set i (nb (os ++ news))) ∧ w'.heap.size = w.heap.size) := by
  obtain ⟨j, hj, hjz, hsz, rfl⟩ := hI
  subst hk
  have hu := slcB_spec hT
  have hil : i < (segs.set i (nb os)).length := by rw [List.length_set]; exact hi
  have hg : (segs.set i (nb os))[i] = nb os := by simp
  have hp := hP.part (ds := bvs news) (j := os.length) (o' := o' + os.length) hil (by rw [hg, nb_length, bvs_length]; omega) (by omega)
  rw [hg, nb_add (by omega), List.set_set] at hp
  rw [← hsz] at hs
  have hr := run_append_room_src (P := P) w T TX ty E j hu hj bp o' os.length c u news.length (bvs news) hs (by omega)
    (fun m hm => by rw [hsz, Nat.mul_one]; exact (hp.2.2.2 m hm).1)
    (fun m hm => by rw [hsz, Nat.mul_one]; exact (hp.2.2.2 m hm).2)
  rw [hsz, Nat.mul_one] at hr
  refine ⟨_, _, fun r _ _ _ _ => ?_, rfl, hp.2.1, hp.1, hp.2.2.1⟩
  simp only [execOp, List.length_append]
  simp [resolve, invoke, builtin, ev_eval r hx, ev_eval r hy, hr]
theorem xstN {T : TypeId} {bp o' i : Nat} {lens : List Nat} {segs : List (List Value)} {os : List UInt8} (hT : szB P T 1 = true) (hP : SB w bp lens (segs.set i (nb os))) (hi : i < segs.length) (hq : (lens.take i).sum + 255 = o') (hl : os.length ≤ 255)
    (hx : ev n l x = some (.pointer (some ⟨bp, o', none⟩))) (hy : ev n l y = some (.int .u8 (os.length : Int))) :
    ExUK P n l (.store T x y) ty w (fun w' => Fr (· = bp) w w' ∧ SB w' bp lens (segs.set i (nm os)) ∧ w'.heap.size = w.heap.size) := by
  have hil : i < (segs.set i (nb os)).length := by rw [List.length_set]; exact hi
  have hg : (segs.set i (nb os))[i] = nb os := by simp
  have hle := offs_le _ i hil
  have hof := offs_lens hP.2 i
  rw [hg, nb_length] at hle
  obtain ⟨w', h, hf, hB, hs⟩ := xst (ty := ty) hT hx hy hP.1 (by omega) rfl
  refine ⟨w', h, hf, ⟨?_, ?_⟩, hs⟩
  · have e := splice_in (segs.set i (nb os)) i 255 [.int .u8 (os.length : Int)] hil (by rw [hg, nb_length]; simp)
    rw [hg, nb_end hl, List.set_set, show offs (segs.set i (nb os)) i + 255 = o' by omega, ← splice_cons _ _ _ _ (by omega), splice_nil] at e
    rw [← e]; exact hB
  · have e := set_lens (ds := nm os) hil (by rw [hg, nb_length, nm_length])
    rw [List.set_set] at e
    rw [e]; exact hP.2
theorem xcopyL {T TX E : TypeId} {bp o' c i d : Nat} {lens : List Nat} {segs : List (List Value)} {zs : List Value} {xs : List UInt8} {u : Value} (hT : slcB P T E = true) (hE : szB P E 1 = true) (hx : ev n l x = some (.slice (some ⟨bp, o', none⟩) d c)) (hy : ev n l y = some u)
    (hc : Cpy P w u xs) (hd : xs.length = d) (hP : SB w bp lens segs) (hi : segs[i]? = some zs) (hz : zs.length = d) (hq : (lens.take i).sum = o') :
    ExK P n l (.call { callee := .builtin .copy, args := #[x, y], argTypes := #[T, TX] }) ty w (fun v w' => v = .int .i64 (d : Int) ∧ Fr (· = bp) w w' ∧ SB w' bp lens (segs.set i (bvs xs)) ∧ w'.heap.size = w.heap.size) := by
  subst hd
  have hlt : i < segs.length := (List.getElem?_eq_some_iff.1 hi).1
  have he : segs[i] = zs := (List.getElem?_eq_some_iff.1 hi).2
  have hof := offs_lens hP.2 i
  have hle := offs_le segs i hlt
  rw [he, hz] at hle
  have hbl : (bvs xs).length = xs.length := bvs_length _
  have hmin : Nat.min xs.length xs.length = xs.length := Nat.min_self _
  obtain ⟨v, w', h, h1, h2, h3, h4⟩ := xcopy (TX := TX) (ty := ty) hT hE hx hy (sn := xs.length) (news := bvs xs) hc.1 (by rw [hbl, hmin]) (by rw [hmin]; have := hc.2 xs.length (Nat.le_refl _); rwa [List.take_length] at this) (bvs_one _) hP.1 (by omega)
  refine ⟨v, w', h, by rw [h1, hbl], h2, ⟨?_, ?_⟩, h4⟩
  · have e := splice_flat segs i (bvs xs) hlt (by rw [he, hbl, hz])
    rw [show offs segs i = o' by omega] at e
    rw [← e]; exact h3
  · rw [set_lens hlt (by rw [he, hbl, hz])]; exact hP.2
end
theorem u8len {xs : List UInt8} (h : xs.length ≤ 255) : (UInt8.ofNat xs.length).toNat = xs.length := by
  rw [UInt8.toNat_ofNat']; omega

theorem c212 {w : World} {a : Option Addr} {bm om km n : Nat} {b : List UInt8} (hms : n ≠ 0 → a = some ⟨bm, om, none⟩) (hm : w.rangeAt bm om (bvs (b.take n))) (hbm : bm < w.heap.size) (_hnb : n ≤ b.length) (hkm : n ≤ km) (hbl : b.length < 100000000) (hG : GE w) (hsz : 21 ≤ w.heap.size) {bp q ip : Nat} {lens : List Nat} {segs : List (List Value)} (hP : SB w bp lens segs) (_hbp : bp ≠ bm) (_hgp : 20 < bp) (hq : (lens.take ip).sum = q) {zs : List Value} (hi : segs[ip]? = some zs) {off d : Nat} {xs : List UInt8} (hs : Std b off xs) (_ho : off ≤ b.length) (hd : xs.length = d) (hz : zs.length = d) (hle : off + d ≤ b.length) (h0 : n ≠ 0) {cd : Nat} :
  Ret PP 212 [.slice a n km, .int .i64 (off : Int), .slice (some ⟨bp, q, none⟩) d cd] w (fun u w' => ((off + d ≤ n ∧ u = .tuple #[.int .i64 ((off + d : Nat) : Int), .nilIface] ∧ SB w' bp lens (segs.set ip (bvs xs))) ∨ (n < off + d ∧ (∃ (T : TypeId) (x : Option Addr), u = .tuple #[.int .i64 (off : Int), .iface T (.pointer x)]) ∧ ∃ o, SB w' bp lens (segs.set ip o))) ∧ Fr (fun k => k = bp) w w') := by
 obtain rfl := hms h0
 have hf : Fr (fun k => k = bp) w w := Fr.refl _ _
 have z_hP := hP.lt
 refine ret_of Tryz.func212 rfl rfl rfl [(0, _), (1, _), (2, _)] rfl ?_
 refine sreg (sA rfl (sA rfl (send ((sreg (sM rfl (sM rfl (sv (xlen sl37 rfl) (sv (xadd rfl rfl (w64n (off + d) (by omega) (by omega))) (sA rfl (send (feg 0 1 2 8 rfl fun _ => wp_seq (sreg (sM rfl (sM rfl (sv (xlen sl37 rfl) (svP (xgtr rfl rfl) (fun hc16 => ?_) (fun hc16 => ?_))))))))))))))))))
 ·
  refine send (ffg 0 1 2 8 16 rfl fun _ => cyes rfl ?_)
  refine sdrawH (Fr (fun _ => False) w.drew) [rd0, rd1, rd2, rd3] mixed (by kernel_rfl) (fun _ _ _ _ _ h => h) ?_
  have z1 : w.drew.heap.size = w.heap.size := rfl
  have hS2 : Fr (fun _ => False) w.drew w.drew := Fr.refl _ _
  have hG := hG.k0 (fd w) (by omega)
  refine qqM rfl rfl hS2 ?_
  obtain ⟨Tg18, xg18, eg18, hgc18, hgn18, hge18⟩ := hG.get 7 (by omega) (by omega)
  have hP := hP.drew
  have hf := hf.drew
  refine hvH rfl (fun w' hS => xld on89 rfl (cell_keep hgc18 hS (by omega) id)) hS2 (qqA rfl rfl hS2 (qqA rfl rfl hS2 (hendH (fcg 6 7 rfl fun _ => wp_ret (rThen (rp2 rfl rfl rfl ?_))))))
  exact ⟨.inr ⟨by omega, ⟨_, _, rfl⟩, zs, by rw [show segs.set ip zs = segs from by rw [← (List.getElem?_eq_some_iff.1 hi).2, List.set_getElem_self]]; exact hP⟩, hf⟩
 refine send ((cno rfl (wp_skip (nThen (feg 0 1 2 8 rfl fun _ => sreg (sM rfl (sM rfl (sM rfl (sM rfl (svK (xcutLH (lo := off) (hi := off + d) sl37 sz5 rfl rfl rfl (by omega) (by omega) (by omega) (by omega)) ?_))))))))))
 rintro _ w ⟨o23, rfl, ho23, rfl⟩
 refine svK (xcopyL sl37 sz5 rfl rfl (cpy_ba (take_ba (cut_rng hm (ms_std hs (by omega)) ho23 (by omega)) (by omega))) hd hP hi hz hq) ?_
 rintro _ w5 ⟨rfl, m6, hP, sz4⟩
 have hf := hf.step m6 nI
 refine send ((sreg (sM rfl (sA rfl (sA rfl (send (fcg 6 7 rfl fun _ => wp_ret (rp2 rfl rfl rfl ?_))))))))
 exact ⟨.inl ⟨by omega, rfl, hP⟩, hf⟩
theorem c213 {w : World} {a : Option Addr} {bm om km n : Nat} {b : List UInt8} (hms : n ≠ 0 → a = some ⟨bm, om, none⟩) (hm : w.rangeAt bm om (bvs (b.take n))) (hbm : bm < w.heap.size) (hnb : n ≤ b.length) (hkm : n ≤ km) (hbl : b.length < 100000000) (hG : GE w) (hsz : 21 ≤ w.heap.size) {off : Nat} {xs : List UInt8} (hxl : xs.length ≤ 255) (hs : Std b off (UInt8.ofNat xs.length :: xs)) (ho : off + 1 + xs.length ≤ b.length) :
  Ret PP 213 [.slice a n km, .int .i64 (off : Int)] w (fun u w' => ((off + 1 + xs.length ≤ n ∧ u = .tuple #[.string (mkB xs), .int .i64 ((off + 1 + xs.length : Nat) : Int), .nilIface]) ∨ (n < off + 1 + xs.length ∧ ∃ (T : TypeId) (x : Option Addr), u = .tuple #[.string ⟨#[]⟩, .int .i64 (off : Int), .iface T (.pointer x)])) ∧ Fr0 w w') := by
 have hul := u8len hxl
 have hf : Fr (fun _ => False) w w := Fr.refl _ _
 refine ret_of Tryz.func213 rfl rfl rfl [(0, _), (1, _)] rfl ?_
 refine sreg (sA rfl (sA rfl (sA rfl (send (fcg 0 1 rfl fun _ => wp_seq (sreg (sM rfl (sM rfl (sv (xlen sl37 rfl) (svP (xgeq rfl rfl) (fun hc12 => ?_) (fun hc12 => ?_)))))))))))
 ·
  refine send (fdg 0 1 12 rfl fun _ => cyes rfl ?_)
  refine sdrawH (Fr (fun _ => False) w.drew) [rd0, rd1, rd2, rd3, rd4] mixed (by kernel_rfl) (fun _ _ _ _ _ h => h) ?_
  have z1 : w.drew.heap.size = w.heap.size := rfl
  have hS2 : Fr (fun _ => False) w.drew w.drew := Fr.refl _ _
  have hG := hG.k0 (fd w) (by omega)
  refine qqM rfl rfl hS2 ?_
  obtain ⟨Tg14, xg14, eg14, hgc14, hgn14, hge14⟩ := hG.get 7 (by omega) (by omega)
  have hf := hf.drew
  refine hvH rfl (fun w' hS => xld on89 rfl (cell_keep hgc14 hS (by omega) id)) hS2 (qqA rfl rfl hS2 (qqA rfl rfl hS2 (qqA rfl rfl hS2 (hendH (fdg 4 5 6 rfl fun _ => wp_ret (rThen (rp3 rfl rfl rfl rfl ?_)))))))
  exact ⟨.inr ⟨by omega, _, _, rfl⟩, hf⟩
 refine send ((cno rfl (wp_skip (nThen (fcg 0 1 rfl fun _ => ?_)))))
 obtain rfl := hms (by omega)
 refine sreg (sM rfl (sv (xadd rfl rfl (w64n (off + 1) (by omega) (by omega))) (sA rfl (send ((sreg (sM rfl (sM rfl (sM rfl (sv (xidx1 (i := off) sl37 sz5 rfl rfl (by omega) (by omega)) (sv (xld on5 rfl (ms_cell hm hs.head (by omega))) (sv (xconv hs5 ki3 rfl (w64 (by omega) (by omega))) (sv (xadd rfl rfl (w64n (off + 1 + xs.length) (by omega) (by omega))) (sA rfl (send (feg 0 1 7 8 rfl fun _ => wp_seq (sreg (sM rfl (sM rfl (sv (xlen sl37 rfl) (svP (xgtr rfl rfl) (fun hc27 => ?_) (fun hc27 => ?_))))))))))))))))))))))
 ·
  refine send (ffg 0 1 7 8 27 rfl fun _ => cyes rfl ?_)
  refine sdrawH (Fr (fun _ => False) w.drew) [rd0, rd1, rd2, rd3, rd4] mixed (by kernel_rfl) (fun _ _ _ _ _ h => h) ?_
  have z3 : w.drew.heap.size = w.heap.size := rfl
  have hS4 : Fr (fun _ => False) w.drew w.drew := Fr.refl _ _
  have hG := hG.k0 (fd w) (by omega)
  refine qqM rfl rfl hS4 ?_
  obtain ⟨Tg29, xg29, eg29, hgc29, hgn29, hge29⟩ := hG.get 8 (by omega) (by omega)
  have hf := hf.drew
  refine hvH rfl (fun w' hS => xld on89 rfl (cell_keep hgc29 hS (by omega) id)) hS4 (qqA rfl rfl hS4 (qqA rfl rfl hS4 (qqA rfl rfl hS4 (hendH (fdg 4 5 6 rfl fun _ => wp_ret (rThen (rp3 rfl rfl rfl rfl ?_)))))))
  exact ⟨.inr ⟨by omega, _, _, rfl⟩, hf⟩
 refine send ((cno rfl (wp_skip (nThen (fdg 0 7 8 rfl fun _ => sreg (sM rfl (sM rfl (sM rfl (svK (xcutLH (lo := off + 1) (hi := off + 1 + xs.length) sl37 sz5 rfl rfl rfl (by omega) (by omega) (by omega) (by omega)) ?_)))))))))
 rintro _ w ⟨o33, rfl, ho33, rfl⟩
 refine sv (xb2sR (bs := xs) sl37 ki5 st9 rfl (by omega) (cut_rng hm (ms_std hs.tail (by omega)) ho33 (by omega))) (sM rfl (sA rfl (sA rfl (sA rfl (send (fdg 4 5 6 rfl fun _ => wp_ret (rp3 rfl rfl rfl rfl ?_)))))))
 exact ⟨.inl ⟨by omega, rfl⟩, hf⟩
theorem c105 {w : World} {a : Option Addr} {bm om km n : Nat} {b : List UInt8} (hms : n ≠ 0 → a = some ⟨bm, om, none⟩) (hm : w.rangeAt bm om (bvs (b.take n))) (hbm : bm < w.heap.size) (hnb : n ≤ b.length) (hkm : n ≤ km) (hbl : b.length < 100000000) (hG : GE w) (hsz : 21 ≤ w.heap.size) {bp q ip : Nat} {lens : List Nat} {segs : List (List Value)} (hP : SB w bp lens segs) (hbp : bp ≠ bm) (hgp : 20 < bp) (hq : (lens.take ip).sum = q) (hip : segs[ip]? = some (nm [])) {K off e : Nat} {S : List UInt8} (hN : NameAt b K off S e) (hS0 : nameL S) (hK : K ≤ 10) (hKn : K = 0 ∨ n = b.length) :
  Ret PP 105 [.pointer (some ⟨bp, 0 + q, none⟩), .slice a n km, .int .i64 (off : Int)] w (fun u w' => ((e ≤ n ∧ u = .tuple #[.int .i64 ((e : Nat) : Int), .nilIface] ∧ SB w' bp lens (segs.set ip (nm S))) ∨ (n < e ∧ (∃ (T : TypeId) (x : Option Addr), u = .tuple #[.int .i64 (off : Int), .iface T (.pointer x)]) ∧ ∃ o, SB w' bp lens (segs.set ip o))) ∧ Fr (fun k => k = bp) w w') := by
 have hn0 : NameR b off K off (txt S) e := hN
 have hNl := hn0.le
 have hS := nameL_ne hS0
 have hSl := (name_pos hS0).2
 have hSt := txt_le S
 have hip1 : ip < segs.length := (List.getElem?_eq_some_iff.1 hip).1
 have hP := nb_start hP hip
 have hf : Fr (fun k => k = bp) w w := Fr.refl _ _
 have z_hP := hP.lt
 refine ret_of Tryz.func105 rfl rfl rfl [(0, _), (1, _), (2, _)] rfl ?_
 refine sreg (sA rfl (sA rfl (send (fdg 0 1 2 rfl fun _ => ?_))))
 refine wp_scope_straight ?_
 refine sreg (sM rfl (sA rfl (send ((sreg (sM rfl (sA rfl (send ((sreg (sA rfl (send ((sreg (sM rfl (sN rfl (sv (xfld fl82_0 rfl) (sv (xcutAH (hi := 0) ar80 sz5 rfl rfl rfl (by omega)) (sA rfl (send (fhg 0 1 2 8 9 10 11 rfl fun _ => wp_seq ?_)))))))))))))))))))))
 refine wp_label ?_
 refine nThen (fhg 0 1 2 8 9 10 11 rfl fun _ => wp_seq (wp_block (lp [(0, _), (1, _), (2, _)] (fun (x : Nat × Nat × Nat × Nat × List UInt8 × List UInt8 × Nat × Nat) => match x with | (i, st, p, kp, o, s, nx, pc) => [(8, .int .i64 (i : Int)), (9, .int .i64 (pc : Int)), (10, .int .i64 (p : Int)), (11, .slice (some ⟨bp, 0 + q + 0, none⟩) o.length 255)]) (fun (x : Nat × Nat × Nat × Nat × List UInt8 × List UInt8 × Nat × Nat) wx => match x with | (i, st, p, kp, o, s, nx, pc) => Fr (fun k => k = bp) w wx ∧ (NameR b st kp i s nx) ∧ (SB wx bp lens (segs.set ip (nb o))) ∧ (o ++ s = txt S) ∧ (p + kp = K) ∧ (p = 0 → nx = e) ∧ (p ≠ 0 → pc = e)) (fun (x : Nat × Nat × Nat × Nat × List UInt8 × List UInt8 × Nat × Nat) => match x with | (i, st, p, kp, o, s, nx, pc) => kp * (b.length + 1) + (b.length - i)) (off, off, 0, K, [], txt S, e, off) ⟨rfl, rfl, rfl, rfl, rfl, rfl, rfl, trivial⟩ ⟨Fr.refl _ _, hn0, hP, rfl, Nat.zero_add _, fun _ => rfl, fun h => absurd rfl h⟩ ?_)))
 rintro ⟨i, st, p, kp, o, s, nx, pc⟩ _ w2 ⟨hL1, hR, hP, hE, hpK, hnx, hpc⟩
 refine fhg 0 1 2 8 9 10 11 rfl fun _ => ?_
 have z3 := hL1.size
 have hRl := hR.le
 obtain ⟨y, hy⟩ := some_get (b := b) (i := i) (by omega)
 have hyl := u8lt y
 have hm := rng_fr hm hL1 (by omega) (nE (by omega))
 have hG := hG.k1 hL1 (by omega) (by omega)
 have hf := hf.step hL1 nI
 refine wp_block (wp_seq (sreg (sM rfl (sM rfl (sv (xlen sl37 rfl) (svP (xgeq rfl rfl) (fun hc26 => ?_) (fun hc26 => ?_)))))))
 ·
  refine send (fig 0 1 2 8 9 10 11 26 rfl fun _ => cyes rfl ?_)
  refine sdrawH (Fr (fun _ => False) w2.drew) [rd0, rd1, rd2, rd3] mixed (by kernel_rfl) (fun _ _ _ _ _ h => h) ?_
  have z4 : w2.drew.heap.size = w2.heap.size := rfl
  have hS5 : Fr (fun _ => False) w2.drew w2.drew := Fr.refl _ _
  have hG := hG.k0 (fd w2) (by omega)
  refine qqM rfl rfl hS5 ?_
  obtain ⟨Tg28, xg28, eg28, hgc28, hgn28, hge28⟩ := hG.get 7 (by omega) (by omega)
  have hf := hf.drew
  have hP := hP.drew
  refine hvH rfl (fun w' hS => xld on89 rfl (cell_keep hgc28 hS (by omega) id)) hS5 (qqA rfl rfl hS5 (qqA rfl rfl hS5 (hendH (fcg 6 7 rfl fun _ => wp_ret (rThen (rBlock (rThen (rBlock (rThen ?_)))))))))
  refine rScope ?_
  refine rp2 rfl rfl rfl ?_
  exact ⟨.inr ⟨by omega, ⟨_, _, rfl⟩, _, hP⟩, hf⟩
 refine send ((cno rfl (wp_skip (nThen (fhg 0 1 2 8 9 10 11 rfl fun _ => ?_)))))
 obtain rfl := hms (by omega)
 refine sreg (sM rfl (sM rfl (sv (xidx1 (i := i) sl37 sz5 rfl rfl (by omega) (by omega)) (sv (xld on5 rfl (ms_cell hm hy (by omega))) (sv (xconv hs5 ki3 rfl (w64 (by omega) (by omega))) (sA rfl (send ((sreg (sM rfl (sv (xadd rfl rfl (w64n (i + 1) (by omega) (by omega))) (sA rfl (send ((sreg (sM rfl (sv (xand64N (a := y.toNat) (b := 192) (c := y.toNat / 64 * 64) rfl rfl (by omega) (by omega) (and192 (by omega))) (send (fjg 0 1 2 8 9 10 11 12 37 rfl fun _ => wp_block (sreg (svP (xeql rfl rfl) (fun hc41 => ?_) (fun hc41 => ?_))))))))))))))))))))))
 rotate_left
 ·
  refine sA rfl (send ((cno rfl (sreg (sv (exT (xeql rfl rfl) (by have hq1 := hR.ptrLe hy (by omega); omega)) (sA rfl (send (fjg 0 1 2 8 9 10 11 12 86 rfl fun _ => cyes rfl (wp_seq ?_)))))))))
  obtain ⟨to, k1, nx1, rfl, hto, hto2, hnt, hb1, hnx1, hR1⟩ := hR.atPtr hy (by omega)
  have hi1 := (List.getElem?_eq_some_iff.1 hb1).1
  have hlo : (UInt8.ofNat to).toNat = to % 256 := by simp only [UInt8.toNat_ofNat']
  refine sreg (sM rfl (sM rfl (sv (xlen sl37 rfl) (sv (exF (xgeq rfl rfl) (by omega)) (send ((cno rfl (wp_skip (nThen ((sreg (sM rfl (sM rfl (sv (xidx1 (i := i + 1) sl37 sz5 rfl rfl (by omega) (by omega)) (sv (xld on5 rfl (ms_cell hm hb1 (by omega))) (sA rfl (send ((sreg (sM rfl (sv (xadd rfl rfl (w64n (i + 2) (by omega) (by omega))) (sA rfl (send (fjg 0 1 2 8 9 10 11 12 16 rfl fun _ => wp_seq (sreg (sM rfl (svP (xeql rfl rfl) (fun hc101 => ?_) (fun hc101 => ?_))))))))))))))))))))))))))))
  ·
   refine send ((cyes rfl (lreg (sM rfl (sA rfl (lend (nThen ((wp_seq (sreg (sM rfl (sv (xadd rfl rfl (w64n (p + 1) (by omega) (by omega))) (sA rfl (send ((sreg (sM rfl (sv (exF (xgtr rfl rfl) (by omega)) (send (fjg 0 1 2 9 10 11 12 16 106 rfl fun _ => cno rfl (wp_skip (nThen (fig 0 1 2 9 10 11 12 16 rfl fun _ => lreg (sM rfl (sv (xxor64N (a := y.toNat) (b := 192) (c := to / 256) rfl rfl (by omega) (by omega) (xor192 (by omega) hnt)) (sv (xshl (b := 8) (by decide) rfl rfl (w64n (to / 256 * 256) (by omega) (by omega))) (sM rfl (sv (xconv hs5 ki3 rfl (w64 (by omega) (by omega))) (sv (xor64S (a := to / 256 * 256) (b := (UInt8.ofNat to).toNat) (c := to) 8 rfl rfl (by omega) (by omega) (by omega) (by omega)) (sA rfl (lend (nBlock (nBlock (nThen ?_))))))))))))))))))))))))))))))))))
   refine ⟨(to, to, p + 1, k1, o, s, nx1, i + 2), _, env_okl ⟨rfl, rfl, rfl, rfl, rfl, rfl, rfl, trivial⟩, ⟨hL1, (hR1), (hP), (hE), (by omega), (fun h => absurd h (by omega)), (fun _ => by omega)⟩, ?_⟩
   first | (show kp * (b.length + 1) + (b.length - (i + 1 + lab.length)) < kp * (b.length + 1) + (b.length - i); omega) | (show k1 * (b.length + 1) + (b.length - to) < (k1 + 1) * (b.length + 1) + (b.length - i); rw [Nat.succ_mul]; omega)
  refine send ((cno rfl (wp_skip (nThen ((wp_seq (sreg (sM rfl (sv (xadd rfl rfl (w64n (p + 1) (by omega) (by omega))) (sA rfl (send ((sreg (sM rfl (sv (exF (xgtr rfl rfl) (by omega)) (send (fjg 0 1 2 9 10 11 12 16 106 rfl fun _ => cno rfl (wp_skip (nThen (fig 0 1 2 9 10 11 12 16 rfl fun _ => lreg (sM rfl (sv (xxor64N (a := y.toNat) (b := 192) (c := to / 256) rfl rfl (by omega) (by omega) (xor192 (by omega) hnt)) (sv (xshl (b := 8) (by decide) rfl rfl (w64n (to / 256 * 256) (by omega) (by omega))) (sM rfl (sv (xconv hs5 ki3 rfl (w64 (by omega) (by omega))) (sv (xor64S (a := to / 256 * 256) (b := (UInt8.ofNat to).toNat) (c := to) 8 rfl rfl (by omega) (by omega) (by omega) (by omega)) (sA rfl (lend (nBlock (nBlock (nThen ?_)))))))))))))))))))))))))))))))
  refine ⟨(to, to, p + 1, k1, o, s, nx1, pc), _, env_okl ⟨rfl, rfl, rfl, rfl, rfl, rfl, rfl, trivial⟩, ⟨hL1, (hR1), (hP), (hE), (by omega), (fun h => absurd h (by omega)), (fun _ => by omega)⟩, ?_⟩
  first | (show kp * (b.length + 1) + (b.length - (i + 1 + lab.length)) < kp * (b.length + 1) + (b.length - i); omega) | (show k1 * (b.length + 1) + (b.length - to) < (k1 + 1) * (b.length + 1) + (b.length - i); rw [Nat.succ_mul]; omega)
 refine sA rfl (send (fkg 0 1 2 8 9 10 11 12 37 40 rfl fun _ => cyes rfl (wp_seq (sreg (sM rfl (svP (xeql rfl rfl) (fun hc43 => ?_) (fun hc43 => ?_)))))))
 ·
  refine send ((cyes rfl (wp_exit (eThen (eMiss (by decide) (eMiss (by decide) (eThen (eHit (nThen (ffg 0 8 9 10 11 rfl fun _ => wp_seq ?_))))))))))
  obtain ⟨rfl, rfl, hnx0⟩ := hR.at0 hy hc43
  rw [aN] at hE
  have hoel := congrArg List.length hE
  refine sreg (sM rfl (sv (xlen sl37 rfl) (svP (xeql rfl rfl) (fun hc117 => ?_) (fun hc117 => ?_))))
  ·
   refine send (fgg 0 8 9 10 11 117 rfl fun _ => cyes rfl (lreg (sM rfl (svK (xslit (bvs [46]) sl37 in5 rfl (by decide) rfl rfl rfl rfl (by decide) (by simp [bvs, bv, Value.cells]) (bvs_one _)) ?_))))
   rintro _ w7 ⟨b119, rfl, m8, h119, e119, s119, r119⟩
   have hP := hP.k m8
   refine svK (xappN sl37 in5 rfl rfl hP hip1 (by omega) (r119.src sl37) rfl (by omega) rfl) ?_
   rintro _ w10 ⟨rfl, m11, hP, sz9⟩
   refine sA rfl (lend (nThen (ffg 0 8 9 10 11 rfl fun _ => ?_)))
   have hol46 : (o ++ [46]).length = o.length + 1 := by rw [List.length_append]; rfl
   refine sreg (sM rfl (sM rfl (sv (xlen sl37 rfl) (sv (xconv hs3 ki5 rfl (wu8 (by omega) (by omega))) (sN rfl (sv (xfld fl82_1 rfl) (suK (xstN (os := o ++ [46]) sz5 hP hip1 (by omega) (by rw [List.length_append]; simp only [List.length_cons, List.length_nil]; omega) rfl rfl) ?_)))))))
   rintro w13 ⟨m14, hP, sz12⟩
   have hf := ((hf.s m8).step m11 nI).step m14 nI
   refine send (fdg 8 9 10 rfl fun _ => wp_seq (sreg (sM rfl (svP (xeql rfl rfl) (fun hc128 => ?_) (fun hc128 => ?_)))))
   ·
    refine send ((cyes rfl (lreg (sM rfl (sA rfl (lend (nThen ((sreg (sM rfl (sA rfl (sA rfl (send (fcg 6 7 rfl fun _ => wp_ret ?_))))))))))))))
    refine rScope ?_
    refine rp2 rfl rfl rfl ?_
    have hSe : o ++ [46] = S := by rw [txt_nil hS (by rw [← hE]; exact List.eq_nil_of_length_eq_zero (by omega)), List.eq_nil_of_length_eq_zero (show o.length = 0 by omega)]; rfl
    rw [hSe] at hP
    exact ⟨.inl ⟨by omega, by rw [show e = i + 1 from by omega], hP⟩, hf⟩
   refine send ((cno rfl (wp_skip (nThen ((sreg (sM rfl (sA rfl (sA rfl (send (fcg 6 7 rfl fun _ => wp_ret ?_)))))))))))
   refine rScope ?_
   refine rp2 rfl rfl rfl ?_
   have hSe : o ++ [46] = S := by rw [txt_nil hS (by rw [← hE]; exact List.eq_nil_of_length_eq_zero (by omega)), List.eq_nil_of_length_eq_zero (show o.length = 0 by omega)]; rfl
   rw [hSe] at hP
   exact ⟨.inl ⟨by omega, by rw [show e = pc from by omega], hP⟩, hf⟩
  refine send ((cno rfl (wp_skip (nThen (ffg 0 8 9 10 11 rfl fun _ => ?_)))))
  have hol46 : (o ++ [46]).length = o.length + 1 := by rw [List.length_append]; rfl
  refine sreg (sM rfl (sM rfl (sv (xlen sl37 rfl) (sv (xconv hs3 ki5 rfl (wu8 (by omega) (by omega))) (sN rfl (sv (xfld fl82_1 rfl) (suK (xstN (os := o) sz5 hP hip1 (by omega) (by omega) rfl rfl) ?_)))))))
  rintro w16 ⟨m17, hP, sz15⟩
  have hf := hf.step m17 nI
  refine send (fdg 8 9 10 rfl fun _ => wp_seq (sreg (sM rfl (svP (xeql rfl rfl) (fun hc128 => ?_) (fun hc128 => ?_)))))
  ·
   refine send ((cyes rfl (lreg (sM rfl (sA rfl (lend (nThen ((sreg (sM rfl (sA rfl (sA rfl (send (fcg 6 7 rfl fun _ => wp_ret ?_))))))))))))))
   refine rScope ?_
   refine rp2 rfl rfl rfl ?_
   have hSe : o = S := by rw [hE, txt_ne (fun h0 => hc117 (by rw [hE, h0]; rfl))]
   rw [hSe] at hP
   exact ⟨.inl ⟨by omega, by rw [show e = i + 1 from by omega], hP⟩, hf⟩
  refine send ((cno rfl (wp_skip (nThen ((sreg (sM rfl (sA rfl (sA rfl (send (fcg 6 7 rfl fun _ => wp_ret ?_)))))))))))
  refine rScope ?_
  refine rp2 rfl rfl rfl ?_
  have hSe : o = S := by rw [hE, txt_ne (fun h0 => hc117 (by rw [hE, h0]; rfl))]
  rw [hSe] at hP
  exact ⟨.inl ⟨by omega, by rw [show e = pc from by omega], hP⟩, hf⟩
 refine send ((cno rfl (wp_skip (nThen (fig 0 1 2 8 9 10 11 12 rfl fun _ => ?_)))))
 obtain ⟨lab, s1, rfl, hll, hl0, hld, hls, hR1⟩ := hR.atLab hy hc43 (by omega)
 have hR1l := hR1.le
 have hol := congrArg List.length hE
 simp only [List.length_append, List.length_cons] at hol
 have hoa : (o ++ lab).length = o.length + lab.length := List.length_append
 refine sreg (sM rfl (sM rfl (sv (xadd rfl rfl (w64n (i + 1 + lab.length) (by omega) (by omega))) (sA rfl (send (fig 0 1 2 8 9 10 11 13 rfl fun _ => wp_seq (sreg (sM rfl (sM rfl (sv (xlen sl37 rfl) (svP (xgtr rfl rfl) (fun hc50 => ?_) (fun hc50 => ?_))))))))))))
 ·
  refine send (fjg 0 1 2 8 9 10 11 13 50 rfl fun _ => cyes rfl ?_)
  refine sdrawH (Fr (fun _ => False) w2.drew) [rd0, rd1, rd2, rd3] mixed (by kernel_rfl) (fun _ _ _ _ _ h => h) ?_
  have z18 : w2.drew.heap.size = w2.heap.size := rfl
  have hS19 : Fr (fun _ => False) w2.drew w2.drew := Fr.refl _ _
  have hG := hG.k0 (fd w2) (by omega)
  refine qqM rfl rfl hS19 ?_
  obtain ⟨Tg52, xg52, eg52, hgc52, hgn52, hge52⟩ := hG.get 8 (by omega) (by omega)
  have hf := hf.drew
  have hP := hP.drew
  refine hvH rfl (fun w' hS => xld on89 rfl (cell_keep hgc52 hS (by omega) id)) hS19 (qqA rfl rfl hS19 (qqA rfl rfl hS19 (hendH (fcg 6 7 rfl fun _ => wp_ret (rThen (rBlock (rBlock (rThen (rBlock (rThen ?_))))))))))
  refine rScope ?_
  refine rp2 rfl rfl rfl ?_
  exact ⟨.inr ⟨by omega, ⟨_, _, rfl⟩, _, hP⟩, hf⟩
 refine send ((cno rfl (wp_skip (nThen (fig 0 1 2 8 9 10 11 13 rfl fun _ => wp_seq (sreg (sM rfl (sM rfl (sM rfl (svK (xcutLH (lo := i + 1) (hi := i + 1 + lab.length) sl37 sz5 rfl rfl rfl (by omega) (by omega) (by omega) (by omega)) ?_))))))))))
 rintro _ w2 ⟨o56, rfl, ho56, rfl⟩
 refine sv (xlen sl37 rfl) (sM rfl ?_)
 have hlr := cut_rng hm (ms_std hls (by omega)) ho56 (by omega)
 refine send (flg 0 1 2 8 9 10 11 13 56 57 58 rfl fun _ => wp_block (lp [(0, _), (1, _), (2, _), (8, _), (9, _), (10, _), (11, _), (13, _), (56, _), (57, _)] (fun (k : Nat) => [(58, .int .i64 (k : Int))]) (fun (k : Nat) wx => Fr (fun _ => False) w2 wx ∧ (k ≤ lab.length)) (fun (k : Nat) => lab.length - k) 0 ⟨rfl, rfl, rfl, rfl, rfl, rfl, rfl, rfl, rfl, rfl, rfl, trivial⟩ ⟨Fr.refl _ _, Nat.zero_le _⟩ ?_))
 rintro k _ w22 ⟨hL21, hk⟩
 refine flg 0 1 2 8 9 10 11 13 56 57 58 rfl fun _ => ?_
 have z23 := hL21.size
 refine sreg (svP (xlss rfl rfl) (fun hc59 => ?_) (fun hc59 => ?_))
 ·
  have hlr := rng_fr hlr hL21 (by omega) id
  refine send ((wp_seq (cyes rfl (wp_skip (nThen ((wp_seq (wp_block (sreg (sv (xidx1 (i := k) sl37 sz5 rfl rfl rfl (by omega)) (sv (xld on5 rfl (hlr k _ (bvs_get (by omega)))) (sA rfl (send ((sreg (sM rfl (sv (exF (xeql rfl rfl) (u8_ne46 (hld _ (List.getElem_mem (by omega))))) (send (fmg 0 1 2 8 9 10 11 13 56 57 58 63 rfl fun _ => cno rfl (wp_skip (nBlock (nThen (flg 0 1 2 8 9 10 11 13 56 57 58 rfl fun _ => lreg (sv (xadd rfl rfl (w64 (by omega) (by omega))) (sM rfl (lend (nThen ?_)))))))))))))))))))))))))))
  refine ⟨k + 1, _, env_okl ⟨rfl, rfl, rfl, rfl, rfl, rfl, rfl, rfl, rfl, rfl, rfl, trivial⟩, ⟨hL21, (by omega)⟩, ?_⟩
  show lab.length - (k + 1) < lab.length - k; omega
 refine send ((wp_seq (cno rfl (wp_exit (eThen (eThen (eHit (nThen ((wp_seq (sreg (sM rfl (sv (xlen sl37 rfl) (sM rfl (sM rfl (sv (xsub rfl rfl (w64n (lab.length) (by omega) (by omega))) (sv (xadd rfl rfl (w64n (o.length + lab.length) (by omega) (by omega))) (sv (exF (xgeq rfl rfl) (by omega)) (send ((cno rfl (wp_skip (nThen (fig 0 1 2 8 9 10 11 13 rfl fun _ => sreg (sM rfl (sM rfl (sM rfl (sM rfl (svK (xcutLH (lo := i + 1) (hi := i + 1 + lab.length) sl37 sz5 rfl rfl rfl (by omega) (by omega) (by omega) (by omega)) ?_)))))))))))))))))))))))))))))
 rintro _ w22 ⟨o80, rfl, ho80, rfl⟩
 have hm := rng_fr hm hL21 (by omega) id
 have hP := hP.k hL21
 refine svK (xappN sl37 in5 rfl rfl hP hip1 (by omega) (src_cut (cut_rng hm (ms_std hls (by omega)) ho80 (by omega)) (by omega)) (by omega) (by omega) rfl) ?_
 rintro _ w26 ⟨rfl, m27, hP, sz25⟩
 refine sA rfl (send (fhg 0 1 2 9 10 11 13 rfl fun _ => sreg (sM rfl (svK (xslit (bvs [46]) sl37 in5 rfl (by decide) rfl rfl rfl rfl (by decide) (by simp [bvs, bv, Value.cells]) (bvs_one _)) ?_))))
 rintro _ w29 ⟨b83, rfl, m30, h83, e83, s83, r83⟩
 have hP := hP.k m30
 refine svK (xappN sl37 in5 rfl rfl hP hip1 (by omega) (r83.src sl37) rfl (by omega) rfl) ?_
 rintro _ w32 ⟨rfl, m33, hP, sz31⟩
 have hL1 := (((hL1.s hL21).step m27 nI).s m30).step m33 nI
 refine sA rfl (send (fhg 0 1 2 9 10 11 13 rfl fun _ => lreg (sM rfl (sA rfl (lend (nBlock (nBlock (nThen ?_))))))))
 refine ⟨(i + 1 + lab.length, st, p, kp, o ++ lab ++ [46], s1, nx, pc), _, env_okl ⟨rfl, rfl, rfl, rfl, rfl, rfl, rfl, trivial⟩, ⟨hL1, (hR1), (hP), (by simpa using hE), (hpK), (hnx), (hpc)⟩, ?_⟩
 first | (show kp * (b.length + 1) + (b.length - (i + 1 + lab.length)) < kp * (b.length + 1) + (b.length - i); omega) | (show k1 * (b.length + 1) + (b.length - to) < (k1 + 1) * (b.length + 1) + (b.length - i); rw [Nat.succ_mul]; omega)
end Go.Proofs.YtifnodoffgfpbaaGreatDoor

namespace Go.Proofs.YtifnodoffgfpbaaGreatDoor
open Go

abbrev lPr : List Nat := [1, 1, 1, 1, 1, 1, 1, 1, 1, 1, 1, 1, 1, 1]
def prSegs (vm : Value) (y0 y1 y2 y3 y4 y5 sec off idx : Int) (val : Bool) (ho ty ln : Int) : List (List Value) :=
  [[vm], [.int .u16 y0], [.int .u16 y1], [.int .u16 y2], [.int .u16 y3], [.int .u16 y4], [.int .u16 y5], [.int .u8 sec], [.int .i64 off], [.int .i64 idx], [.bool val], [.int .i64 ho], [.int .u16 ty], [.int .u16 ln]]
abbrev lRh : List Nat := [256, 1, 1, 1, 1]

theorem c102 {w : World} {a : Option Addr} {bm om km n : Nat} {b : List UInt8} (hms : n ≠ 0 → a = some ⟨bm, om, none⟩) (hm : w.rangeAt bm om (bvs (b.take n))) (hbm : bm < w.heap.size) (hnb : n ≤ b.length) (hkm : n ≤ km) (hbl : b.length < 100000000) (hG : GE w) (hsz : 21 ≤ w.heap.size) {bp : Nat} {vm : Value} {y0 y1 y2 y3 y4 y5 sec po idx ho ty ln : Int} {val : Bool} (hP : SB w bp lPr (prSegs vm y0 y1 y2 y3 y4 y5 sec po idx val ho ty ln)) (hbp : bp ≠ bm) (hgp : 20 < bp) {ka kb kc kd ke kf : Nat} (la : ka < 65536) (lb : kb < 65536) (lc : kc < 65536) (ld : kd < 65536) (le : ke < 65536) (lf : kf < 65536) (ha : Std b 0 (be16 ka)) (hb : Std b (0 + 2) (be16 kb)) (hc : Std b (0 + 2 + 2) (be16 kc)) (hd : Std b (0 + 2 + 2 + 2) (be16 kd)) (he : Std b (0 + 2 + 2 + 2 + 2) (be16 ke)) (hff : Std b (0 + 2 + 2 + 2 + 2 + 2) (be16 kf)) (hbl12 : 12 ≤ b.length) :
  Ret PP 102 [.pointer (some ⟨bp, 0 + 1, none⟩), .slice a n km, .int .i64 ((0 : Nat) : Int)] w (fun u w' => ((12 ≤ n ∧ u = .tuple #[.int .i64 ((0 + 2 + 2 + 2 + 2 + 2 + 2 : Nat) : Int), .nilIface] ∧ SB w' bp lPr (prSegs vm ka kb kc kd ke kf sec po idx val ho ty ln)) ∨ (n < 12 ∧ (∃ (T : TypeId) (x : Option Addr), u = .tuple #[.int .i64 ((0 : Nat) : Int), .iface T (.pointer x)]) ∧ ∃ i0 i1 i2 i3 i4 i5 : Int, SB w' bp lPr (prSegs vm i0 i1 i2 i3 i4 i5 sec po idx val ho ty ln))) ∧ Fr (fun k => k = bp) w w') := by
 have hf : Fr (fun k => k = bp) w w := Fr.refl _ _
 have z_hP := hP.lt
 refine ret_of Tryz.func102 rfl rfl rfl [(0, _), (1, _), (2, _)] rfl ?_
 refine sreg (sA rfl (sA rfl (send ((sreg (sM rfl (sA rfl (send ((sreg (sA rfl (send (feg 0 1 2 8 rfl fun _ => wp_seq (sreg (sM rfl (sM rfl (sM rfl (sc (xcall ca156 rfl) (c156 (b := b) (off := 0) (x := ka) hms hm (by omega) hnb hkm hbl hG (by omega) la (ha) (by omega)) ?_))))))))))))))))))
 rintro _ w1 ⟨⟨hle15, rfl⟩ | ⟨hgt15, T15, x15, rfl⟩, m2⟩
 rotate_left
 ·
  have z72 := m2.size
  have hP := hP.k m2
  refine sM rfl (sE3 rfl (sN rfl (sv (xfld fl121_0 rfl) (suK (xstF 1 sz22 hP rfl rfl rfl rfl rfl) ?_))))
  rintro w74 ⟨m75, hP, s73⟩
  refine sA rfl (sA rfl (send ((sreg (sM rfl (sv (xneI if89 rfl) (send (fgg 0 1 2 8 9 22 rfl fun _ => cyes rfl (sreg (sM rfl (sM rfl (sv (xbuildS [[_], [_]] zr168 ly168 rfl (by simp [fitAll, zs168, Value.cells]) rfl) (svK (xboxS (lens := [1, 1]) rfl (by simp [])) ?_)))))))))))))
  rintro _ w77 ⟨b26, rfl, m78, h26, e76, s76⟩
  have hf := ((hf.s m2).step m75 nI).s m78
  have hP := hP.k m78
  refine sv (xmkif ni166 rfl) (sA rfl (sA rfl (send (fcg 6 7 rfl fun _ => wp_ret (rThen (rp2 rfl rfl rfl ?_))))))
  exact ⟨.inr ⟨by omega, ⟨_, _, rfl⟩, _, _, _, _, _, _, hP⟩, hf⟩
 have z3 := m2.size
 have hP := hP.k m2
 refine sM rfl (sE3 rfl (sN rfl (sv (xfld fl121_0 rfl) (suK (xstF 1 sz22 hP rfl rfl rfl rfl rfl) ?_))))
 rintro w5 ⟨m6, hP, s4⟩
 have hm := rng_fr (rng_fr hm m2 (by omega) id) m6 (by omega) (nE (by omega))
 have hG := (hG.k0 m2 (by omega)).k1 m6 (by omega) (by omega)
 refine sA rfl (sA rfl (send ((sreg (sM rfl (sv (xneN if89 rfl) (send ((cno rfl (wp_skip (nThen (feg 0 1 2 8 rfl fun _ => wp_seq (sreg (sM rfl (sM rfl (sM rfl (sc (xcall ca156 rfl) (c156 (b := b) (off := 0 + 2) (x := kb) hms hm (by omega) hnb hkm hbl hG (by omega) lb (hb) (by omega)) ?_)))))))))))))))))
 have hf := (hf.s m2).step m6 nI
 rintro _ w7 ⟨⟨hle32, rfl⟩ | ⟨hgt32, T32, x32, rfl⟩, m8⟩
 rotate_left
 ·
  have z65 := m8.size
  have hP := hP.k m8
  refine sM rfl (sE3 rfl (sN rfl (sv (xfld fl121_1 rfl) (suK (xstF 2 sz22 hP rfl rfl rfl rfl rfl) ?_))))
  rintro w67 ⟨m68, hP, s66⟩
  refine sA rfl (sA rfl (send ((sreg (sM rfl (sv (xneI if89 rfl) (send (fgg 0 1 2 8 9 39 rfl fun _ => cyes rfl (sreg (sM rfl (sM rfl (sv (xbuildS [[_], [_]] zr168 ly168 rfl (by simp [fitAll, zs168, Value.cells]) rfl) (svK (xboxS (lens := [1, 1]) rfl (by simp [])) ?_)))))))))))))
  rintro _ w70 ⟨b43, rfl, m71, h43, e69, s69⟩
  have hf := ((hf.s m8).step m68 nI).s m71
  have hP := hP.k m71
  refine sv (xmkif ni166 rfl) (sA rfl (sA rfl (send (fcg 6 7 rfl fun _ => wp_ret (rThen (rp2 rfl rfl rfl ?_))))))
  exact ⟨.inr ⟨by omega, ⟨_, _, rfl⟩, _, _, _, _, _, _, hP⟩, hf⟩
 have z9 := m8.size
 have hP := hP.k m8
 refine sM rfl (sE3 rfl (sN rfl (sv (xfld fl121_1 rfl) (suK (xstF 2 sz22 hP rfl rfl rfl rfl rfl) ?_))))
 rintro w11 ⟨m12, hP, s10⟩
 have hm := rng_fr (rng_fr hm m8 (by omega) id) m12 (by omega) (nE (by omega))
 have hG := (hG.k0 m8 (by omega)).k1 m12 (by omega) (by omega)
 refine sA rfl (sA rfl (send ((sreg (sM rfl (sv (xneN if89 rfl) (send ((cno rfl (wp_skip (nThen (feg 0 1 2 8 rfl fun _ => wp_seq (sreg (sM rfl (sM rfl (sM rfl (sc (xcall ca156 rfl) (c156 (b := b) (off := 0 + 2 + 2) (x := kc) hms hm (by omega) hnb hkm hbl hG (by omega) lc (hc) (by omega)) ?_)))))))))))))))))
 have hf := (hf.s m8).step m12 nI
 rintro _ w13 ⟨⟨hle49, rfl⟩ | ⟨hgt49, T49, x49, rfl⟩, m14⟩
 rotate_left
 ·
  have z58 := m14.size
  have hP := hP.k m14
  refine sM rfl (sE3 rfl (sN rfl (sv (xfld fl121_2 rfl) (suK (xstF 3 sz22 hP rfl rfl rfl rfl rfl) ?_))))
  rintro w60 ⟨m61, hP, s59⟩
  refine sA rfl (sA rfl (send ((sreg (sM rfl (sv (xneI if89 rfl) (send (fgg 0 1 2 8 9 56 rfl fun _ => cyes rfl (sreg (sM rfl (sM rfl (sv (xbuildS [[_], [_]] zr168 ly168 rfl (by simp [fitAll, zs168, Value.cells]) rfl) (svK (xboxS (lens := [1, 1]) rfl (by simp [])) ?_)))))))))))))
  rintro _ w63 ⟨b60, rfl, m64, h60, e62, s62⟩
  have hf := ((hf.s m14).step m61 nI).s m64
  have hP := hP.k m64
  refine sv (xmkif ni166 rfl) (sA rfl (sA rfl (send (fcg 6 7 rfl fun _ => wp_ret (rThen (rp2 rfl rfl rfl ?_))))))
  exact ⟨.inr ⟨by omega, ⟨_, _, rfl⟩, _, _, _, _, _, _, hP⟩, hf⟩
 have z15 := m14.size
 have hP := hP.k m14
 refine sM rfl (sE3 rfl (sN rfl (sv (xfld fl121_2 rfl) (suK (xstF 3 sz22 hP rfl rfl rfl rfl rfl) ?_))))
 rintro w17 ⟨m18, hP, s16⟩
 have hm := rng_fr (rng_fr hm m14 (by omega) id) m18 (by omega) (nE (by omega))
 have hG := (hG.k0 m14 (by omega)).k1 m18 (by omega) (by omega)
 refine sA rfl (sA rfl (send ((sreg (sM rfl (sv (xneN if89 rfl) (send ((cno rfl (wp_skip (nThen (feg 0 1 2 8 rfl fun _ => wp_seq (sreg (sM rfl (sM rfl (sM rfl (sc (xcall ca156 rfl) (c156 (b := b) (off := 0 + 2 + 2 + 2) (x := kd) hms hm (by omega) hnb hkm hbl hG (by omega) ld (hd) (by omega)) ?_)))))))))))))))))
 have hf := (hf.s m14).step m18 nI
 rintro _ w19 ⟨⟨hle66, rfl⟩ | ⟨hgt66, T66, x66, rfl⟩, m20⟩
 rotate_left
 ·
  have z51 := m20.size
  have hP := hP.k m20
  refine sM rfl (sE3 rfl (sN rfl (sv (xfld fl121_3 rfl) (suK (xstF 4 sz22 hP rfl rfl rfl rfl rfl) ?_))))
  rintro w53 ⟨m54, hP, s52⟩
  refine sA rfl (sA rfl (send ((sreg (sM rfl (sv (xneI if89 rfl) (send (fgg 0 1 2 8 9 73 rfl fun _ => cyes rfl (sreg (sM rfl (sM rfl (sv (xbuildS [[_], [_]] zr168 ly168 rfl (by simp [fitAll, zs168, Value.cells]) rfl) (svK (xboxS (lens := [1, 1]) rfl (by simp [])) ?_)))))))))))))
  rintro _ w56 ⟨b77, rfl, m57, h77, e55, s55⟩
  have hf := ((hf.s m20).step m54 nI).s m57
  have hP := hP.k m57
  refine sv (xmkif ni166 rfl) (sA rfl (sA rfl (send (fcg 6 7 rfl fun _ => wp_ret (rThen (rp2 rfl rfl rfl ?_))))))
  exact ⟨.inr ⟨by omega, ⟨_, _, rfl⟩, _, _, _, _, _, _, hP⟩, hf⟩
 have z21 := m20.size
 have hP := hP.k m20
 refine sM rfl (sE3 rfl (sN rfl (sv (xfld fl121_3 rfl) (suK (xstF 4 sz22 hP rfl rfl rfl rfl rfl) ?_))))
 rintro w23 ⟨m24, hP, s22⟩
 have hm := rng_fr (rng_fr hm m20 (by omega) id) m24 (by omega) (nE (by omega))
 have hG := (hG.k0 m20 (by omega)).k1 m24 (by omega) (by omega)
 refine sA rfl (sA rfl (send ((sreg (sM rfl (sv (xneN if89 rfl) (send ((cno rfl (wp_skip (nThen (feg 0 1 2 8 rfl fun _ => wp_seq (sreg (sM rfl (sM rfl (sM rfl (sc (xcall ca156 rfl) (c156 (b := b) (off := 0 + 2 + 2 + 2 + 2) (x := ke) hms hm (by omega) hnb hkm hbl hG (by omega) le (he) (by omega)) ?_)))))))))))))))))
 have hf := (hf.s m20).step m24 nI
 rintro _ w25 ⟨⟨hle83, rfl⟩ | ⟨hgt83, T83, x83, rfl⟩, m26⟩
 rotate_left
 ·
  have z44 := m26.size
  have hP := hP.k m26
  refine sM rfl (sE3 rfl (sN rfl (sv (xfld fl121_4 rfl) (suK (xstF 5 sz22 hP rfl rfl rfl rfl rfl) ?_))))
  rintro w46 ⟨m47, hP, s45⟩
  refine sA rfl (sA rfl (send ((sreg (sM rfl (sv (xneI if89 rfl) (send (fgg 0 1 2 8 9 90 rfl fun _ => cyes rfl (sreg (sM rfl (sM rfl (sv (xbuildS [[_], [_]] zr168 ly168 rfl (by simp [fitAll, zs168, Value.cells]) rfl) (svK (xboxS (lens := [1, 1]) rfl (by simp [])) ?_)))))))))))))
  rintro _ w49 ⟨b94, rfl, m50, h94, e48, s48⟩
  have hf := ((hf.s m26).step m47 nI).s m50
  have hP := hP.k m50
  refine sv (xmkif ni166 rfl) (sA rfl (sA rfl (send (fcg 6 7 rfl fun _ => wp_ret (rThen (rp2 rfl rfl rfl ?_))))))
  exact ⟨.inr ⟨by omega, ⟨_, _, rfl⟩, _, _, _, _, _, _, hP⟩, hf⟩
 have z27 := m26.size
 have hP := hP.k m26
 refine sM rfl (sE3 rfl (sN rfl (sv (xfld fl121_4 rfl) (suK (xstF 5 sz22 hP rfl rfl rfl rfl rfl) ?_))))
 rintro w29 ⟨m30, hP, s28⟩
 have hm := rng_fr (rng_fr hm m26 (by omega) id) m30 (by omega) (nE (by omega))
 have hG := (hG.k0 m26 (by omega)).k1 m30 (by omega) (by omega)
 refine sA rfl (sA rfl (send ((sreg (sM rfl (sv (xneN if89 rfl) (send ((cno rfl (wp_skip (nThen (feg 0 1 2 8 rfl fun _ => wp_seq (sreg (sM rfl (sM rfl (sM rfl (sc (xcall ca156 rfl) (c156 (b := b) (off := 0 + 2 + 2 + 2 + 2 + 2) (x := kf) hms hm (by omega) hnb hkm hbl hG (by omega) lf (hff) (by omega)) ?_)))))))))))))))))
 have hf := (hf.s m26).step m30 nI
 rintro _ w31 ⟨⟨hle100, rfl⟩ | ⟨hgt100, T100, x100, rfl⟩, m32⟩
 ·
  have z33 := m32.size
  have hP := hP.k m32
  refine sM rfl (sE3 rfl (sN rfl (sv (xfld fl121_5 rfl) (suK (xstF 6 sz22 hP rfl rfl rfl rfl rfl) ?_))))
  rintro w35 ⟨m36, hP, s34⟩
  have hf := (hf.s m32).step m36 nI
  refine sA rfl (sA rfl (send ((sreg (sM rfl (sv (xneN if89 rfl) (send ((cno rfl (wp_skip (nThen ((sreg (sM rfl (sA rfl (sA rfl (send (fcg 6 7 rfl fun _ => wp_ret (rp2 rfl rfl rfl ?_)))))))))))))))))))
  exact ⟨.inl ⟨by omega, rfl, hP⟩, hf⟩
 have z37 := m32.size
 have hP := hP.k m32
 refine sM rfl (sE3 rfl (sN rfl (sv (xfld fl121_5 rfl) (suK (xstF 6 sz22 hP rfl rfl rfl rfl rfl) ?_))))
 rintro w39 ⟨m40, hP, s38⟩
 refine sA rfl (sA rfl (send ((sreg (sM rfl (sv (xneI if89 rfl) (send (feg 2 8 9 107 rfl fun _ => cyes rfl (sreg (sM rfl (sM rfl (sv (xbuildS [[_], [_]] zr168 ly168 rfl (by simp [fitAll, zs168, Value.cells]) rfl) (svK (xboxS (lens := [1, 1]) rfl (by simp [])) ?_)))))))))))))
 rintro _ w42 ⟨b111, rfl, m43, h111, e41, s41⟩
 have hf := ((hf.s m32).step m40 nI).s m43
 have hP := hP.k m43
 refine sv (xmkif ni166 rfl) (sA rfl (sA rfl (send (fcg 6 7 rfl fun _ => wp_ret (rThen (rp2 rfl rfl rfl ?_))))))
 exact ⟨.inr ⟨by omega, ⟨_, _, rfl⟩, _, _, _, _, _, _, hP⟩, hf⟩
theorem c103 {w : World} {bp : Nat} {vm : Value} {y2 y3 y4 y5 sec po idx ho ty ln : Int} {val : Bool} {hd : HeadD} (hho : hd.ok) (hP : SB w bp lPr (prSegs vm hd.id.toNat (hbits hd).toNat y2 y3 y4 y5 sec po idx val ho ty ln)) :
  Ret PP 103 [.pointer (some ⟨bp, 0 + 1, none⟩)] w (fun u w' => u = ag (headSegs hd) ∧ Fr0 w w') := by
 obtain ⟨an1, an2, an3, an4, an5, an6, an7, an8, an9, an10⟩ := hbits_and hho
 have hf : Fr (fun _ => False) w w := Fr.refl _ _
 have z_hP := hP.lt
 refine ret_of Tryz.func103 rfl rfl rfl [(0, _)] rfl ?_
 refine sreg (svK (xallS (lens := [1, 1, 1, 1, 1, 1, 1, 1, 1, 1]) in73 rfl) ?_)
 rintro _ w2 ⟨b2, rfl, m3, h2, e1, s1⟩
 refine send (fcg 0 2 rfl fun _ => ?_)
 refine sdrawH (Fr (fun k => k = b2) w2.drew) [rd0, rd1, rd2, rd3, rd4, rd5, rd6, rd7, rd8, rd9, rd10, rd11, rd12, rd13, rd14, rd15, rd16, rd17, rd18, rd19, rd20, rd21, rd22, rd23, rd24, rd25, rd26, rd27, rd28, rd29, rd30, rd31, rd32, rd33, rd34, rd35, rd36, rd37, rd38, rd39, (40, .rd), (41, .rd), (42, .rd), (43, .rd), (44, .rd), (45, .rd), (46, .rd), (47, .rd), (48, .rd), (49, .rd), (50, .rd), (51, .rd), (52, .rd), (53, .rd), (54, .rd), (55, .rd), (56, .rd), (57, .rd), (58, .bh)] mixed (by kernel_rfl) (fun _ _ _ _ _ h => h) ?_
 have z4 : w2.drew.heap.size = w2.heap.size := rfl
 have hS5 : Fr (fun k => k = b2) w2.drew w2.drew := Fr.refl _ _
 have hP := (hP.k m3).drew
 have h2 := h2.drew
 refine qqM rfl rfl hS5 (qqN rfl rfl hS5 (hvH rfl (fun _ _ => xfld fl121_0 rfl) hS5 (hvH rfl (fun w' hS => xld on22 rfl ((hP.keep hS (nE (by omega))).r.c 1 rfl rfl)) hS5 (qqM rfl rfl hS5 (qqN rfl rfl hS5 (hvH rfl (fun _ _ => xfld fl121_1 rfl) hS5 (hvH rfl (fun w' hS => xld on22 rfl ((hP.keep hS (nE (by omega))).r.c 2 rfl rfl)) hS5 (hvH rfl (fun _ _ => xand16N (a := (hbits hd).toNat) (c := 32768 * bN hd.resp) rfl rfl (by have hq := u16lt (hbits hd); omega) (by decide) an1) hS5 (hvH rfl (fun _ _ => xbit (c := 32768) rfl rfl (by decide)) hS5 (qqM rfl rfl hS5 (qqN rfl rfl hS5 (hvH rfl (fun _ _ => xfld fl121_1 rfl) hS5 (hvH rfl (fun w' hS => xld on22 rfl ((hP.keep hS (nE (by omega))).r.c 2 rfl rfl)) hS5 (hvH rfl (fun _ _ => xshrN 11 (by decide) rfl rfl rfl) hS5 (hvH rfl (fun _ _ => xand16N (a := (hbits hd).toNat / 2 ^ 11) (c := hd.op.toNat) rfl rfl (by have hq := u16lt (hbits hd); omega) (by decide) an9) hS5 (qqM rfl rfl hS5 (qqN rfl rfl hS5 (hvH rfl (fun _ _ => xfld fl121_1 rfl) hS5 (hvH rfl (fun w' hS => xld on22 rfl ((hP.keep hS (nE (by omega))).r.c 2 rfl rfl)) hS5 (hvH rfl (fun _ _ => xand16N (a := (hbits hd).toNat) (c := 1024 * bN hd.auth) rfl rfl (by have hq := u16lt (hbits hd); omega) (by decide) an2) hS5 (hvH rfl (fun _ _ => xbit (c := 1024) rfl rfl (by decide)) hS5 (qqM rfl rfl hS5 (qqN rfl rfl hS5 (hvH rfl (fun _ _ => xfld fl121_1 rfl) hS5 (hvH rfl (fun w' hS => xld on22 rfl ((hP.keep hS (nE (by omega))).r.c 2 rfl rfl)) hS5 (hvH rfl (fun _ _ => xand16N (a := (hbits hd).toNat) (c := 512 * bN hd.cut) rfl rfl (by have hq := u16lt (hbits hd); omega) (by decide) an3) hS5 (hvH rfl (fun _ _ => xbit (c := 512) rfl rfl (by decide)) hS5 (qqM rfl rfl hS5 (qqN rfl rfl hS5 (hvH rfl (fun _ _ => xfld fl121_1 rfl) hS5 (hvH rfl (fun w' hS => xld on22 rfl ((hP.keep hS (nE (by omega))).r.c 2 rfl rfl)) hS5 (hvH rfl (fun _ _ => xand16N (a := (hbits hd).toNat) (c := 256 * bN hd.des) rfl rfl (by have hq := u16lt (hbits hd); omega) (by decide) an4) hS5 (hvH rfl (fun _ _ => xbit (c := 256) rfl rfl (by decide)) hS5 (qqM rfl rfl hS5 (qqN rfl rfl hS5 (hvH rfl (fun _ _ => xfld fl121_1 rfl) hS5 (hvH rfl (fun w' hS => xld on22 rfl ((hP.keep hS (nE (by omega))).r.c 2 rfl rfl)) hS5 (hvH rfl (fun _ _ => xand16N (a := (hbits hd).toNat) (c := 128 * bN hd.avail) rfl rfl (by have hq := u16lt (hbits hd); omega) (by decide) an5) hS5 (hvH rfl (fun _ _ => xbit (c := 128) rfl rfl (by decide)) hS5 (qqM rfl rfl hS5 (qqN rfl rfl hS5 (hvH rfl (fun _ _ => xfld fl121_1 rfl) hS5 (hvH rfl (fun w' hS => xld on22 rfl ((hP.keep hS (nE (by omega))).r.c 2 rfl rfl)) hS5 (hvH rfl (fun _ _ => xand16N (a := (hbits hd).toNat) (c := 32 * bN hd.authc) rfl rfl (by have hq := u16lt (hbits hd); omega) (by decide) an6) hS5 (hvH rfl (fun _ _ => xbit (c := 32) rfl rfl (by decide)) hS5 (qqM rfl rfl hS5 (qqN rfl rfl hS5 (hvH rfl (fun _ _ => xfld fl121_1 rfl) hS5 (hvH rfl (fun w' hS => xld on22 rfl ((hP.keep hS (nE (by omega))).r.c 2 rfl rfl)) hS5 (hvH rfl (fun _ _ => xand16N (a := (hbits hd).toNat) (c := 16 * bN hd.unch) rfl rfl (by have hq := u16lt (hbits hd); omega) (by decide) an7) hS5 (hvH rfl (fun _ _ => xbit (c := 16) rfl rfl (by decide)) hS5 (qqM rfl rfl hS5 (qqN rfl rfl hS5 (hvH rfl (fun _ _ => xfld fl121_1 rfl) hS5 (hvH rfl (fun w' hS => xld on22 rfl ((hP.keep hS (nE (by omega))).r.c 2 rfl rfl)) hS5 (hvH rfl (fun _ _ => xand16N (a := (hbits hd).toNat) (c := hd.code.toNat) rfl rfl (by have hq := u16lt (hbits hd); omega) (by decide) an8) hS5 (hvH rfl (fun _ _ => xbuildS (headSegs hd) zr73 ly73 rfl (by simp [fitAll, zs73, Value.cells]) rfl) hS5 ?_)))))))))))))))))))))))))))))))))))))))))))))))))))))))))
 refine bluKH rfl (xstW h2 (lens' := [1, 1, 1, 1, 1, 1, 1, 1, 1, 1]) sz73 rfl rfl rfl rfl rfl) ?_
 rintro w7 ⟨m8, h2, s6⟩
 have hf := ((hf.s m3).drew).t m8 (by omega)
 refine hendH (fbg 2 rfl fun _ => wp_ret (rp1 rfl ⟨_, rfl, ldS (lens := [1, 1, 1, 1, 1, 1, 1, 1, 1, 1]) ro73 h2.r⟩ ?_))
 exact ⟨rfl, hf⟩
theorem c194 {w : World} {a : Option Addr} {bm om km n : Nat} {b : List UInt8} (hms : n ≠ 0 → a = some ⟨bm, om, none⟩) (hm : w.rangeAt bm om (bvs (b.take n))) (hbm : bm < w.heap.size) (hnb : n ≤ b.length) (hkm : n ≤ km) (hbl : b.length < 100000000) (hG : GE w) (hsz : 21 ≤ w.heap.size) {bp : Nat} (hP : SB w bp lRh [nm [], [.int .u16 0], [.int .u16 0], [.int .u32 0], [.int .u16 0]]) (hbp : bp ≠ bm) (hgp : 20 < bp) {K off e : Nat} {S : List UInt8} (hN : NameAt b K off S e) (hS0 : nameL S) (hK : K ≤ 10) (hKn : K = 0 ∨ n = b.length) {ka kb kc kd : Nat} (la : ka < 65536) (lb : kb < 65536) (lc : kc < 4294967296) (ld : kd < 65536) (ha : Std b e (be16 ka)) (hb : Std b (e + 2) (be16 kb)) (hc : Std b (e + 2 + 2) (be32 kc)) (hd : Std b (e + 2 + 2 + 4) (be16 kd)) (hel : e + 10 ≤ b.length) :
  Ret PP 194 [.pointer (some ⟨bp, 0, none⟩), .slice a n km, .int .i64 (off : Int)] w (fun u w' => ((e + 10 ≤ n ∧ u = .tuple #[.int .i64 ((e + 2 + 2 + 4 + 2 : Nat) : Int), .nilIface] ∧ SB w' bp lRh [nm S, [.int .u16 (ka : Int)], [.int .u16 (kb : Int)], [.int .u32 (kc : Int)], [.int .u16 (kd : Int)]]) ∨ (n < e + 10 ∧ (∃ (x : Option Addr), u = .tuple #[.int .i64 (off : Int), .iface 166 (.pointer x)]))) ∧ Fr (fun k => k = bp) w w') := by
 have hf : Fr (fun k => k = bp) w w := Fr.refl _ _
 have z_hP := hP.lt
 refine ret_of Tryz.func194 rfl rfl rfl [(0, _), (1, _), (2, _)] rfl ?_
 refine sreg (sA rfl (sA rfl (send ((sreg (sM rfl (sA rfl (send ((sreg (sA rfl (send (feg 0 1 2 8 rfl fun _ => wp_seq (sreg (sM rfl (sN rfl (sv (xfld fl135_0 rfl) (sM rfl (sM rfl (sc (xcall ca105 rfl) (c105 (b := b) (bp := bp) (q := 0) (ip := 0) (K := K) (off := off) (e := e) (S := S) hms hm (by omega) hnb hkm hbl hG (by omega) hP hbp hgp rfl rfl hN hS0 hK hKn) ?_))))))))))))))))))))
 rintro _ w1 ⟨⟨hle17, rfl, hP⟩ | ⟨hgt17, ⟨T17, x17, rfl⟩, o17, hP⟩, m2⟩
 rotate_left
 ·
  have z56 := m2.size
  refine sM rfl (sE2 rfl (sA rfl (sA rfl (send ((sreg (sM rfl (sv (xneI if89 rfl) (send (fgg 0 1 2 8 9 21 rfl fun _ => cyes rfl (sreg (sM rfl (sM rfl (sv (xbuildS [[_], [_]] zr168 ly168 rfl (by simp [fitAll, zs168, Value.cells]) rfl) (svK (xboxS (lens := [1, 1]) rfl (by simp [])) ?_)))))))))))))))
  rintro _ w58 ⟨b25, rfl, m59, h25, e57, s57⟩
  have hf := (hf.step m2 nI).s m59
  refine sv (xmkif ni166 rfl) (sA rfl (sA rfl (send (fcg 6 7 rfl fun _ => wp_ret (rThen (rp2 rfl rfl rfl ?_))))))
  exact ⟨.inr ⟨by omega, _, rfl⟩, hf⟩
 have z3 := m2.size
 have hP : SB w1 bp lRh ([nm S, [.int .u16 0], [.int .u16 0], [.int .u32 0], [.int .u16 0]]) := hP
 have hm := rng_fr hm m2 (by omega) (nE (by omega))
 have hG := hG.k1 m2 (by omega) (by omega)
 refine sM rfl (sE2 rfl (sA rfl (sA rfl (send ((sreg (sM rfl (sv (xneN if89 rfl) (send ((cno rfl (wp_skip (nThen (feg 0 1 2 8 rfl fun _ => wp_seq (sreg (sM rfl (sM rfl (sM rfl (sc (xcall ca106 rfl) (c106 (b := b) (off := e) (x := ka) hms hm (by omega) hnb hkm hbl hG (by omega) la (ha) (by omega)) ?_)))))))))))))))))))
 have hf := hf.step m2 nI
 rintro _ w4 ⟨⟨hle31, rfl⟩ | ⟨hgt31, T31, x31, rfl⟩, m5⟩
 rotate_left
 ·
  have z49 := m5.size
  have hP := hP.k m5
  refine sM rfl (sE3 rfl (sN rfl (sv (xfld fl135_1 rfl) (suK (xstF 1 sz83 hP rfl rfl rfl rfl rfl) ?_))))
  rintro w51 ⟨m52, hP, s50⟩
  refine sA rfl (sA rfl (send ((sreg (sM rfl (sv (xneI if89 rfl) (send (fgg 0 1 2 8 9 38 rfl fun _ => cyes rfl (sreg (sM rfl (sM rfl (sv (xbuildS [[_], [_]] zr168 ly168 rfl (by simp [fitAll, zs168, Value.cells]) rfl) (svK (xboxS (lens := [1, 1]) rfl (by simp [])) ?_)))))))))))))
  rintro _ w54 ⟨b42, rfl, m55, h42, e53, s53⟩
  have hf := ((hf.s m5).step m52 nI).s m55
  refine sv (xmkif ni166 rfl) (sA rfl (sA rfl (send (fcg 6 7 rfl fun _ => wp_ret (rThen (rp2 rfl rfl rfl ?_))))))
  exact ⟨.inr ⟨by omega, _, rfl⟩, hf⟩
 have z6 := m5.size
 have hP := hP.k m5
 refine sM rfl (sE3 rfl (sN rfl (sv (xfld fl135_1 rfl) (suK (xstF 1 sz83 hP rfl rfl rfl rfl rfl) ?_))))
 rintro w8 ⟨m9, hP, s7⟩
 have hm := rng_fr (rng_fr hm m5 (by omega) id) m9 (by omega) (nE (by omega))
 have hG := (hG.k0 m5 (by omega)).k1 m9 (by omega) (by omega)
 refine sA rfl (sA rfl (send ((sreg (sM rfl (sv (xneN if89 rfl) (send ((cno rfl (wp_skip (nThen (feg 0 1 2 8 rfl fun _ => wp_seq (sreg (sM rfl (sM rfl (sM rfl (sc (xcall ca107 rfl) (c107 (b := b) (off := e + 2) (x := kb) hms hm (by omega) hnb hkm hbl hG (by omega) lb (hb) (by omega)) ?_)))))))))))))))))
 have hf := (hf.s m5).step m9 nI
 rintro _ w10 ⟨⟨hle48, rfl⟩ | ⟨hgt48, T48, x48, rfl⟩, m11⟩
 rotate_left
 ·
  have z42 := m11.size
  have hP := hP.k m11
  refine sM rfl (sE3 rfl (sN rfl (sv (xfld fl135_2 rfl) (suK (xstF 2 sz84 hP rfl rfl rfl rfl rfl) ?_))))
  rintro w44 ⟨m45, hP, s43⟩
  refine sA rfl (sA rfl (send ((sreg (sM rfl (sv (xneI if89 rfl) (send (fgg 0 1 2 8 9 55 rfl fun _ => cyes rfl (sreg (sM rfl (sM rfl (sv (xbuildS [[_], [_]] zr168 ly168 rfl (by simp [fitAll, zs168, Value.cells]) rfl) (svK (xboxS (lens := [1, 1]) rfl (by simp [])) ?_)))))))))))))
  rintro _ w47 ⟨b59, rfl, m48, h59, e46, s46⟩
  have hf := ((hf.s m11).step m45 nI).s m48
  refine sv (xmkif ni166 rfl) (sA rfl (sA rfl (send (fcg 6 7 rfl fun _ => wp_ret (rThen (rp2 rfl rfl rfl ?_))))))
  exact ⟨.inr ⟨by omega, _, rfl⟩, hf⟩
 have z12 := m11.size
 have hP := hP.k m11
 refine sM rfl (sE3 rfl (sN rfl (sv (xfld fl135_2 rfl) (suK (xstF 2 sz84 hP rfl rfl rfl rfl rfl) ?_))))
 rintro w14 ⟨m15, hP, s13⟩
 have hm := rng_fr (rng_fr hm m11 (by omega) id) m15 (by omega) (nE (by omega))
 have hG := (hG.k0 m11 (by omega)).k1 m15 (by omega) (by omega)
 refine sA rfl (sA rfl (send ((sreg (sM rfl (sv (xneN if89 rfl) (send ((cno rfl (wp_skip (nThen (feg 0 1 2 8 rfl fun _ => wp_seq (sreg (sM rfl (sM rfl (sM rfl (sc (xcall ca211 rfl) (c211 (b := b) (off := e + 2 + 2) (x := kc) hms hm (by omega) hnb hkm hbl hG (by omega) lc (hc) (by omega)) ?_)))))))))))))))))
 have hf := (hf.s m11).step m15 nI
 rintro _ w16 ⟨⟨hle65, rfl⟩ | ⟨hgt65, T65, x65, rfl⟩, m17⟩
 rotate_left
 ·
  have z35 := m17.size
  have hP := hP.k m17
  refine sM rfl (sE3 rfl (sN rfl (sv (xfld fl135_3 rfl) (suK (xstF 3 sz61 hP rfl rfl rfl rfl rfl) ?_))))
  rintro w37 ⟨m38, hP, s36⟩
  refine sA rfl (sA rfl (send ((sreg (sM rfl (sv (xneI if89 rfl) (send (fgg 0 1 2 8 9 72 rfl fun _ => cyes rfl (sreg (sM rfl (sM rfl (sv (xbuildS [[_], [_]] zr168 ly168 rfl (by simp [fitAll, zs168, Value.cells]) rfl) (svK (xboxS (lens := [1, 1]) rfl (by simp [])) ?_)))))))))))))
  rintro _ w40 ⟨b76, rfl, m41, h76, e39, s39⟩
  have hf := ((hf.s m17).step m38 nI).s m41
  refine sv (xmkif ni166 rfl) (sA rfl (sA rfl (send (fcg 6 7 rfl fun _ => wp_ret (rThen (rp2 rfl rfl rfl ?_))))))
  exact ⟨.inr ⟨by omega, _, rfl⟩, hf⟩
 have z18 := m17.size
 have hP := hP.k m17
 refine sM rfl (sE3 rfl (sN rfl (sv (xfld fl135_3 rfl) (suK (xstF 3 sz61 hP rfl rfl rfl rfl rfl) ?_))))
 rintro w20 ⟨m21, hP, s19⟩
 have hm := rng_fr (rng_fr hm m17 (by omega) id) m21 (by omega) (nE (by omega))
 have hG := (hG.k0 m17 (by omega)).k1 m21 (by omega) (by omega)
 refine sA rfl (sA rfl (send ((sreg (sM rfl (sv (xneN if89 rfl) (send ((cno rfl (wp_skip (nThen (feg 0 1 2 8 rfl fun _ => wp_seq (sreg (sM rfl (sM rfl (sM rfl (sc (xcall ca156 rfl) (c156 (b := b) (off := e + 2 + 2 + 4) (x := kd) hms hm (by omega) hnb hkm hbl hG (by omega) ld (hd) (by omega)) ?_)))))))))))))))))
 have hf := (hf.s m17).step m21 nI
 rintro _ w22 ⟨⟨hle82, rfl⟩ | ⟨hgt82, T82, x82, rfl⟩, m23⟩
 ·
  have z24 := m23.size
  have hP := hP.k m23
  refine sM rfl (sE3 rfl (sN rfl (sv (xfld fl135_4 rfl) (suK (xstF 4 sz22 hP rfl rfl rfl rfl rfl) ?_))))
  rintro w26 ⟨m27, hP, s25⟩
  have hf := (hf.s m23).step m27 nI
  refine sA rfl (sA rfl (send ((sreg (sM rfl (sv (xneN if89 rfl) (send ((cno rfl (wp_skip (nThen ((sreg (sM rfl (sA rfl (sA rfl (send (fcg 6 7 rfl fun _ => wp_ret (rp2 rfl rfl rfl ?_)))))))))))))))))))
  exact ⟨.inl ⟨by omega, rfl, hP⟩, hf⟩
 have z28 := m23.size
 have hP := hP.k m23
 refine sM rfl (sE3 rfl (sN rfl (sv (xfld fl135_4 rfl) (suK (xstF 4 sz22 hP rfl rfl rfl rfl rfl) ?_))))
 rintro w30 ⟨m31, hP, s29⟩
 refine sA rfl (sA rfl (send ((sreg (sM rfl (sv (xneI if89 rfl) (send (feg 2 8 9 89 rfl fun _ => cyes rfl (sreg (sM rfl (sM rfl (sv (xbuildS [[_], [_]] zr168 ly168 rfl (by simp [fitAll, zs168, Value.cells]) rfl) (svK (xboxS (lens := [1, 1]) rfl (by simp [])) ?_)))))))))))))
 rintro _ w33 ⟨b93, rfl, m34, h93, e32, s32⟩
 have hf := ((hf.s m23).step m31 nI).s m34
 refine sv (xmkif ni166 rfl) (sA rfl (sA rfl (send (fcg 6 7 rfl fun _ => wp_ret (rThen (rp2 rfl rfl rfl ?_))))))
 exact ⟨.inr ⟨by omega, _, rfl⟩, hf⟩
theorem c195 {w : World} {a : Option Addr} {bm om km n : Nat} {b : List UInt8} (hms : n ≠ 0 → a = some ⟨bm, om, none⟩) (hm : w.rangeAt bm om (bvs (b.take n))) (hbm : bm < w.heap.size) (hnb : n ≤ b.length) (hkm : n ≤ km) (hbl : b.length < 100000000) (hG : GE w) (hsz : 21 ≤ w.heap.size) {off : Nat} {xs : List UInt8} (hx : xs.length = 4) (hs : Std b off xs) (hle : off + 4 ≤ b.length) (h0 : n ≠ 0) :
  Ret PP 195 [.slice a n km, .int .i64 (off : Int)] w (fun u w' => ((off + 4 ≤ n ∧ u = .tuple #[ag ([bvs xs]), .nilIface]) ∨ (n < off + 4 ∧ ∃ (T : TypeId) (x : Option Addr), u = .tuple #[ag ([bvs (List.replicate 4 0)]), .iface T (.pointer x)])) ∧ Fr0 w w') := by
 have hf : Fr (fun _ => False) w w := Fr.refl _ _
 refine ret_of Tryz.func195 rfl rfl rfl [(0, _), (1, _)] rfl ?_
 refine sreg (svK (xallS (lens := [4]) in189 (by simp [bvs_length])) ?_)
 rintro _ w2 ⟨b4, rfl, m3, h4, e1, s1⟩
 refine sA rfl (send (fdg 0 1 4 rfl fun _ => sreg (svK (xallS (lens := [4]) in187 (by simp [bvs_length])) ?_)))
 rintro _ w5 ⟨b6, rfl, m6, h6, e4, s4⟩
 have hm := rng_fr (rng_fr hm m3 (by omega) id) m6 (by omega) id
 have hG := (hG.k0 m3 (by omega)).k0 m6 (by omega)
 refine send (feg 0 1 4 6 rfl fun _ => wp_seq (sreg (sM rfl (sM rfl (sv (xcutA ar187 sz5 rfl) (sc (xcall ca212 rfl) (c212 (b := b) (bp := b6) (q := 0) (ip := 0) (off := off) (d := 4) (xs := xs) hms hm (by omega) hnb hkm hbl hG (by omega) h6 (by omega) (by omega) rfl rfl hs (by omega) hx (by simp [bvs_length]) hle h0) ?_))))))
 have hf := (hf.s m3).s m6
 have h4 := h4.k m6
 rintro _ w7 ⟨⟨hle13, rfl, h6⟩ | ⟨hgt13, ⟨T13, x13, rfl⟩, o13, h6⟩, m8⟩
 ·
  have z9 := m8.size
  have h6 : SB w7 b6 [4] [bvs xs] := h6
  have h4 := h4.keep m8 (nE (by omega))
  refine sM rfl (sE2 rfl (sA rfl (sA rfl (send ((sreg (sM rfl (sv (xneN if89 rfl) (send ((cno rfl (wp_skip (nThen (fcg 4 6 rfl fun _ => sreg (sv (xldS (lens := [4]) ro187 rfl h6.r) (sv (xbuildS [bvs xs] zr189 ly189 rfl (by simp [fitAll, zs189, Value.cells, bvs_length, hx]) (by simp [setAll, zs189, Value.cells])) (suK (xstW h4 (lens' := [4]) sz189 (by simp [bvs_length, hx]) rfl (by simp only [fC, fN, aN, bvs_one] <;> rfl) rfl rfl) ?_)))))))))))))))))
  rintro w11 ⟨m12, h4, s10⟩
  have hf := (hf.t m8 (by omega)).t m12 (by omega)
  refine sA rfl (send (fcg 4 5 rfl fun _ => wp_ret (rp2 rfl ⟨_, rfl, ldS (lens := [4]) ro189 h4.r⟩ rfl ?_)))
  exact ⟨.inl ⟨by omega, rfl⟩, hf⟩
 have z13 := m8.size
 have h4 := h4.keep m8 (nE (by omega))
 refine sM rfl (sE2 rfl (sA rfl (sA rfl (send ((sreg (sM rfl (sv (xneI if89 rfl) (send (feg 4 6 8 17 rfl fun _ => cyes rfl (sreg (sv (xbuildS [bvs (List.replicate 4 0)] zr189 ly189 rfl trivial (by simp [setAll, zs189])) (sM rfl (suK (xstW h4 (lens' := [4]) sz189 (by simp [bvs_length]) rfl (by simp only [fC, fN, aN, bvs_one] <;> rfl) rfl rfl) ?_))))))))))))))
 rintro w15 ⟨m16, h4, s14⟩
 have hf := (hf.t m8 (by omega)).t m16 (by omega)
 refine sA rfl (send (fcg 4 5 rfl fun _ => wp_ret (rThen (rp2 rfl ⟨_, rfl, ldS (lens := [4]) ro189 h4.r⟩ rfl ?_))))
 exact ⟨.inr ⟨by omega, _, _, rfl⟩, hf⟩
theorem c202 {w : World} {a : Option Addr} {bm om km n : Nat} {b : List UInt8} (hms : n ≠ 0 → a = some ⟨bm, om, none⟩) (hm : w.rangeAt bm om (bvs (b.take n))) (hbm : bm < w.heap.size) (hnb : n ≤ b.length) (hkm : n ≤ km) (hbl : b.length < 100000000) (hG : GE w) (hsz : 21 ≤ w.heap.size) {off : Nat} {xs : List UInt8} (hx : xs.length = 16) (hs : Std b off xs) (hle : off + 16 ≤ b.length) (h0 : n ≠ 0) :
  Ret PP 202 [.slice a n km, .int .i64 (off : Int)] w (fun u w' => ((off + 16 ≤ n ∧ u = .tuple #[ag ([bvs xs]), .nilIface]) ∨ (n < off + 16 ∧ ∃ (T : TypeId) (x : Option Addr), u = .tuple #[ag ([bvs (List.replicate 16 0)]), .iface T (.pointer x)])) ∧ Fr0 w w') := by
 have hf : Fr (fun _ => False) w w := Fr.refl _ _
 refine ret_of Tryz.func202 rfl rfl rfl [(0, _), (1, _)] rfl ?_
 refine sreg (svK (xallS (lens := [16]) in211 (by simp [bvs_length])) ?_)
 rintro _ w2 ⟨b4, rfl, m3, h4, e1, s1⟩
 refine sA rfl (send (fdg 0 1 4 rfl fun _ => sreg (svK (xallS (lens := [16]) in209 (by simp [bvs_length])) ?_)))
 rintro _ w5 ⟨b6, rfl, m6, h6, e4, s4⟩
 have hm := rng_fr (rng_fr hm m3 (by omega) id) m6 (by omega) id
 have hG := (hG.k0 m3 (by omega)).k0 m6 (by omega)
 refine send (feg 0 1 4 6 rfl fun _ => wp_seq (sreg (sM rfl (sM rfl (sv (xcutA ar209 sz5 rfl) (sc (xcall ca212 rfl) (c212 (b := b) (bp := b6) (q := 0) (ip := 0) (off := off) (d := 16) (xs := xs) hms hm (by omega) hnb hkm hbl hG (by omega) h6 (by omega) (by omega) rfl rfl hs (by omega) hx (by simp [bvs_length]) hle h0) ?_))))))
 have hf := (hf.s m3).s m6
 have h4 := h4.k m6
 rintro _ w7 ⟨⟨hle13, rfl, h6⟩ | ⟨hgt13, ⟨T13, x13, rfl⟩, o13, h6⟩, m8⟩
 ·
  have z9 := m8.size
  have h6 : SB w7 b6 [16] [bvs xs] := h6
  have h4 := h4.keep m8 (nE (by omega))
  refine sM rfl (sE2 rfl (sA rfl (sA rfl (send ((sreg (sM rfl (sv (xneN if89 rfl) (send ((cno rfl (wp_skip (nThen (fcg 4 6 rfl fun _ => sreg (sv (xldS (lens := [16]) ro209 rfl h6.r) (sv (xbuildS [bvs xs] zr211 ly211 rfl (by simp [fitAll, zs211, Value.cells, bvs_length, hx]) (by simp [setAll, zs211, Value.cells])) (suK (xstW h4 (lens' := [16]) sz211 (by simp [bvs_length, hx]) rfl (by simp only [fC, fN, aN, bvs_one] <;> rfl) rfl rfl) ?_)))))))))))))))))
  rintro w11 ⟨m12, h4, s10⟩
  have hf := (hf.t m8 (by omega)).t m12 (by omega)
  refine sA rfl (send (fcg 4 5 rfl fun _ => wp_ret (rp2 rfl ⟨_, rfl, ldS (lens := [16]) ro211 h4.r⟩ rfl ?_)))
  exact ⟨.inl ⟨by omega, rfl⟩, hf⟩
 have z13 := m8.size
 have h4 := h4.keep m8 (nE (by omega))
 refine sM rfl (sE2 rfl (sA rfl (sA rfl (send ((sreg (sM rfl (sv (xneI if89 rfl) (send (feg 4 6 8 17 rfl fun _ => cyes rfl (sreg (sv (xbuildS [bvs (List.replicate 16 0)] zr211 ly211 rfl trivial (by simp [setAll, zs211])) (sM rfl (suK (xstW h4 (lens' := [16]) sz211 (by simp [bvs_length]) rfl (by simp only [fC, fN, aN, bvs_one] <;> rfl) rfl rfl) ?_))))))))))))))
 rintro w15 ⟨m16, h4, s14⟩
 have hf := (hf.t m8 (by omega)).t m16 (by omega)
 refine sA rfl (send (fcg 4 5 rfl fun _ => wp_ret (rThen (rp2 rfl ⟨_, rfl, ldS (lens := [16]) ro211 h4.r⟩ rfl ?_))))
 exact ⟨.inr ⟨by omega, _, _, rfl⟩, hf⟩
theorem c196 {w : World} {a : Option Addr} {bm om km n : Nat} {b : List UInt8} (hms : n ≠ 0 → a = some ⟨bm, om, none⟩) (hm : w.rangeAt bm om (bvs (b.take n))) (hbm : bm < w.heap.size) (hnb : n ≤ b.length) (hkm : n ≤ km) (hbl : b.length < 100000000) (hG : GE w) (hsz : 21 ≤ w.heap.size) {K off e : Nat} {S : List UInt8} (hN : NameAt b K off S e) (hS0 : nameL S) (hK : K ≤ 10) (hKn : K = 0 ∨ n = b.length)  :
  Ret PP 196 [.slice a n km, .int .i64 (off : Int)] w (fun u w' => ((e ≤ n ∧ u = .tuple #[ag ([nm S]), .nilIface]) ∨ (n < e ∧ ∃ (T : TypeId) (x : Option Addr), u = .tuple #[ag ([nm []]), .iface T (.pointer x)])) ∧ Fr0 w w') := by
 have hf : Fr (fun _ => False) w w := Fr.refl _ _
 refine ret_of Tryz.func196 rfl rfl rfl [(0, _), (1, _)] rfl ?_
 refine sreg (svK (xallS (lens := [256]) in192 (by simp [nm_length])) ?_)
 rintro _ w2 ⟨b4, rfl, m3, h4, e1, s1⟩
 refine sA rfl (send (fdg 0 1 4 rfl fun _ => sreg (svK (xallS (lens := [256]) in82 (by simp [nm_length])) ?_)))
 rintro _ w5 ⟨b6, rfl, m6, h6, e4, s4⟩
 have hm := rng_fr (rng_fr hm m3 (by omega) id) m6 (by omega) id
 have hG := (hG.k0 m3 (by omega)).k0 m6 (by omega)
 refine send (feg 0 1 4 6 rfl fun _ => wp_seq (sreg (sM rfl (sM rfl (sc (xcall ca105 rfl) (c105 (b := b) (bp := b6) (q := 0) (ip := 0) (K := K) (off := off) (e := e) (S := S) hms hm (by omega) hnb hkm hbl hG (by omega) h6 (by omega) (by omega) rfl rfl hN hS0 hK hKn) ?_)))))
 have hf := (hf.s m3).s m6
 have h4 := h4.k m6
 rintro _ w7 ⟨⟨hle12, rfl, h6⟩ | ⟨hgt12, ⟨T12, x12, rfl⟩, o12, h6⟩, m8⟩
 ·
  have z9 := m8.size
  have h6 : SB w7 b6 [256] ([nm (S)]) := h6
  have h4 := h4.keep m8 (nE (by omega))
  refine sM rfl (sE2 rfl (sA rfl (sA rfl (send ((sreg (sM rfl (sv (xneN if89 rfl) (send ((cno rfl (wp_skip (nThen (fcg 4 6 rfl fun _ => sreg (sv (xldS (lens := [256]) ro82 rfl h6.r) (sv (xbuildS [nm S] zr192 ly192 rfl (by simp [fitAll, zs192, Value.cells, nm_length]) (by simp [setAll, zs192, Value.cells])) (suK (xstW h4 (lens' := [256]) sz192 (by simp [nm_length]) rfl (by simp only [fC, fN, aN, nm_one] <;> rfl) rfl rfl) ?_)))))))))))))))))
  rintro w11 ⟨m12, h4, s10⟩
  have hf := (hf.t m8 (by omega)).t m12 (by omega)
  refine sA rfl (send (fcg 4 5 rfl fun _ => wp_ret (rp2 rfl ⟨_, rfl, ldS (lens := [256]) ro192 h4.r⟩ rfl ?_)))
  exact ⟨.inl ⟨by omega, rfl⟩, hf⟩
 have z13 := m8.size
 have h4 := h4.keep m8 (nE (by omega))
 refine sM rfl (sE2 rfl (sA rfl (sA rfl (send ((sreg (sM rfl (sv (xneI if89 rfl) (send (feg 4 6 8 16 rfl fun _ => cyes rfl (sreg (sv (xbuildS [nm []] zr192 ly192 rfl trivial (by simp [setAll, zs192])) (sM rfl (suK (xstW h4 (lens' := [256]) sz192 (by simp [nm_length]) rfl (by simp only [fC, fN, aN, nm_one] <;> rfl) rfl rfl) ?_))))))))))))))
 rintro w15 ⟨m16, h4, s14⟩
 have hf := (hf.t m8 (by omega)).t m16 (by omega)
 refine sA rfl (send (fcg 4 5 rfl fun _ => wp_ret (rThen (rp2 rfl ⟨_, rfl, ldS (lens := [256]) ro192 h4.r⟩ rfl ?_))))
 exact ⟨.inr ⟨by omega, _, _, rfl⟩, hf⟩
theorem c197 {w : World} {a : Option Addr} {bm om km n : Nat} {b : List UInt8} (hms : n ≠ 0 → a = some ⟨bm, om, none⟩) (hm : w.rangeAt bm om (bvs (b.take n))) (hbm : bm < w.heap.size) (hnb : n ≤ b.length) (hkm : n ≤ km) (hbl : b.length < 100000000) (hG : GE w) (hsz : 21 ≤ w.heap.size) {K off e : Nat} {S : List UInt8} (hN : NameAt b K off S e) (hS0 : nameL S) (hK : K ≤ 10) (hKn : K = 0 ∨ n = b.length)  :
  Ret PP 197 [.slice a n km, .int .i64 (off : Int)] w (fun u w' => ((e ≤ n ∧ u = .tuple #[ag ([nm S]), .nilIface]) ∨ (n < e ∧ ∃ (T : TypeId) (x : Option Addr), u = .tuple #[ag ([nm []]), .iface T (.pointer x)])) ∧ Fr0 w w') := by
 have hf : Fr (fun _ => False) w w := Fr.refl _ _
 refine ret_of Tryz.func197 rfl rfl rfl [(0, _), (1, _)] rfl ?_
 refine sreg (svK (xallS (lens := [256]) in195 (by simp [nm_length])) ?_)
 rintro _ w2 ⟨b4, rfl, m3, h4, e1, s1⟩
 refine sA rfl (send (fdg 0 1 4 rfl fun _ => sreg (svK (xallS (lens := [256]) in82 (by simp [nm_length])) ?_)))
 rintro _ w5 ⟨b6, rfl, m6, h6, e4, s4⟩
 have hm := rng_fr (rng_fr hm m3 (by omega) id) m6 (by omega) id
 have hG := (hG.k0 m3 (by omega)).k0 m6 (by omega)
 refine send (feg 0 1 4 6 rfl fun _ => wp_seq (sreg (sM rfl (sM rfl (sc (xcall ca105 rfl) (c105 (b := b) (bp := b6) (q := 0) (ip := 0) (K := K) (off := off) (e := e) (S := S) hms hm (by omega) hnb hkm hbl hG (by omega) h6 (by omega) (by omega) rfl rfl hN hS0 hK hKn) ?_)))))
 have hf := (hf.s m3).s m6
 have h4 := h4.k m6
 rintro _ w7 ⟨⟨hle12, rfl, h6⟩ | ⟨hgt12, ⟨T12, x12, rfl⟩, o12, h6⟩, m8⟩
 ·
  have z9 := m8.size
  have h6 : SB w7 b6 [256] ([nm (S)]) := h6
  have h4 := h4.keep m8 (nE (by omega))
  refine sM rfl (sE2 rfl (sA rfl (sA rfl (send ((sreg (sM rfl (sv (xneN if89 rfl) (send ((cno rfl (wp_skip (nThen (fcg 4 6 rfl fun _ => sreg (sv (xldS (lens := [256]) ro82 rfl h6.r) (sv (xbuildS [nm S] zr195 ly195 rfl (by simp [fitAll, zs195, Value.cells, nm_length]) (by simp [setAll, zs195, Value.cells])) (suK (xstW h4 (lens' := [256]) sz195 (by simp [nm_length]) rfl (by simp only [fC, fN, aN, nm_one] <;> rfl) rfl rfl) ?_)))))))))))))))))
  rintro w11 ⟨m12, h4, s10⟩
  have hf := (hf.t m8 (by omega)).t m12 (by omega)
  refine sA rfl (send (fcg 4 5 rfl fun _ => wp_ret (rp2 rfl ⟨_, rfl, ldS (lens := [256]) ro195 h4.r⟩ rfl ?_)))
  exact ⟨.inl ⟨by omega, rfl⟩, hf⟩
 have z13 := m8.size
 have h4 := h4.keep m8 (nE (by omega))
 refine sM rfl (sE2 rfl (sA rfl (sA rfl (send ((sreg (sM rfl (sv (xneI if89 rfl) (send (feg 4 6 8 16 rfl fun _ => cyes rfl (sreg (sv (xbuildS [nm []] zr195 ly195 rfl trivial (by simp [setAll, zs195])) (sM rfl (suK (xstW h4 (lens' := [256]) sz195 (by simp [nm_length]) rfl (by simp only [fC, fN, aN, nm_one] <;> rfl) rfl rfl) ?_))))))))))))))
 rintro w15 ⟨m16, h4, s14⟩
 have hf := (hf.t m8 (by omega)).t m16 (by omega)
 refine sA rfl (send (fcg 4 5 rfl fun _ => wp_ret (rThen (rp2 rfl ⟨_, rfl, ldS (lens := [256]) ro195 h4.r⟩ rfl ?_))))
 exact ⟨.inr ⟨by omega, _, _, rfl⟩, hf⟩
theorem c199 {w : World} {a : Option Addr} {bm om km n : Nat} {b : List UInt8} (hms : n ≠ 0 → a = some ⟨bm, om, none⟩) (hm : w.rangeAt bm om (bvs (b.take n))) (hbm : bm < w.heap.size) (hnb : n ≤ b.length) (hkm : n ≤ km) (hbl : b.length < 100000000) (hG : GE w) (hsz : 21 ≤ w.heap.size) {K off e : Nat} {S : List UInt8} (hN : NameAt b K off S e) (hS0 : nameL S) (hK : K ≤ 10) (hKn : K = 0 ∨ n = b.length)  :
  Ret PP 199 [.slice a n km, .int .i64 (off : Int)] w (fun u w' => ((e ≤ n ∧ u = .tuple #[ag ([nm S]), .nilIface]) ∨ (n < e ∧ ∃ (T : TypeId) (x : Option Addr), u = .tuple #[ag ([nm []]), .iface T (.pointer x)])) ∧ Fr0 w w') := by
 have hf : Fr (fun _ => False) w w := Fr.refl _ _
 refine ret_of Tryz.func199 rfl rfl rfl [(0, _), (1, _)] rfl ?_
 refine sreg (svK (xallS (lens := [256]) in201 (by simp [nm_length])) ?_)
 rintro _ w2 ⟨b4, rfl, m3, h4, e1, s1⟩
 refine sA rfl (send (fdg 0 1 4 rfl fun _ => sreg (svK (xallS (lens := [256]) in82 (by simp [nm_length])) ?_)))
 rintro _ w5 ⟨b6, rfl, m6, h6, e4, s4⟩
 have hm := rng_fr (rng_fr hm m3 (by omega) id) m6 (by omega) id
 have hG := (hG.k0 m3 (by omega)).k0 m6 (by omega)
 refine send (feg 0 1 4 6 rfl fun _ => wp_seq (sreg (sM rfl (sM rfl (sc (xcall ca105 rfl) (c105 (b := b) (bp := b6) (q := 0) (ip := 0) (K := K) (off := off) (e := e) (S := S) hms hm (by omega) hnb hkm hbl hG (by omega) h6 (by omega) (by omega) rfl rfl hN hS0 hK hKn) ?_)))))
 have hf := (hf.s m3).s m6
 have h4 := h4.k m6
 rintro _ w7 ⟨⟨hle12, rfl, h6⟩ | ⟨hgt12, ⟨T12, x12, rfl⟩, o12, h6⟩, m8⟩
 ·
  have z9 := m8.size
  have h6 : SB w7 b6 [256] ([nm (S)]) := h6
  have h4 := h4.keep m8 (nE (by omega))
  refine sM rfl (sE2 rfl (sA rfl (sA rfl (send ((sreg (sM rfl (sv (xneN if89 rfl) (send ((cno rfl (wp_skip (nThen (fcg 4 6 rfl fun _ => sreg (sv (xldS (lens := [256]) ro82 rfl h6.r) (sv (xbuildS [nm S] zr201 ly201 rfl (by simp [fitAll, zs201, Value.cells, nm_length]) (by simp [setAll, zs201, Value.cells])) (suK (xstW h4 (lens' := [256]) sz201 (by simp [nm_length]) rfl (by simp only [fC, fN, aN, nm_one] <;> rfl) rfl rfl) ?_)))))))))))))))))
  rintro w11 ⟨m12, h4, s10⟩
  have hf := (hf.t m8 (by omega)).t m12 (by omega)
  refine sA rfl (send (fcg 4 5 rfl fun _ => wp_ret (rp2 rfl ⟨_, rfl, ldS (lens := [256]) ro201 h4.r⟩ rfl ?_)))
  exact ⟨.inl ⟨by omega, rfl⟩, hf⟩
 have z13 := m8.size
 have h4 := h4.keep m8 (nE (by omega))
 refine sM rfl (sE2 rfl (sA rfl (sA rfl (send ((sreg (sM rfl (sv (xneI if89 rfl) (send (feg 4 6 8 16 rfl fun _ => cyes rfl (sreg (sv (xbuildS [nm []] zr201 ly201 rfl trivial (by simp [setAll, zs201])) (sM rfl (suK (xstW h4 (lens' := [256]) sz201 (by simp [nm_length]) rfl (by simp only [fC, fN, aN, nm_one] <;> rfl) rfl rfl) ?_))))))))))))))
 rintro w15 ⟨m16, h4, s14⟩
 have hf := (hf.t m8 (by omega)).t m16 (by omega)
 refine sA rfl (send (fcg 4 5 rfl fun _ => wp_ret (rThen (rp2 rfl ⟨_, rfl, ldS (lens := [256]) ro201 h4.r⟩ rfl ?_))))
 exact ⟨.inr ⟨by omega, _, _, rfl⟩, hf⟩
theorem c198 {w : World} {a : Option Addr} {bm om km n : Nat} {b : List UInt8} (hms : n ≠ 0 → a = some ⟨bm, om, none⟩) (hm : w.rangeAt bm om (bvs (b.take n))) (hbm : bm < w.heap.size) (hnb : n ≤ b.length) (hkm : n ≤ km) (hbl : b.length < 100000000) (hG : GE w) (hsz : 21 ≤ w.heap.size) {Ka Kb off ea eb : Nat} {Sa Sb : List UInt8} (hNa : NameAt b Ka off Sa ea) (hSa : nameL Sa) (hKa : Ka ≤ 10) (hKna : Ka = 0 ∨ n = b.length) (hNb : NameAt b Kb ea Sb eb) (hSb : nameL Sb) (hKb : Kb ≤ 10) (hKnb : Kb = 0 ∨ n = b.length) {ka kb kc kd ke : Nat} (la : ka < 4294967296) (lb : kb < 4294967296) (lc : kc < 4294967296) (ld : kd < 4294967296) (le : ke < 4294967296) (hs : Std b eb (be32 ka ++ (be32 kb ++ (be32 kc ++ (be32 kd ++ be32 ke))))) (hle : eb + 20 ≤ b.length) :
  Ret PP 198 [.slice a n km, .int .i64 (off : Int)] w (fun u w' => ((eb + 20 ≤ n ∧ u = .tuple #[ag ([nm Sa, nm Sb, [.int .u32 (ka : Int)], [.int .u32 (kb : Int)], [.int .u32 (kc : Int)], [.int .u32 (kd : Int)], [.int .u32 (ke : Int)]]), .nilIface]) ∨ (n < eb + 20 ∧ ∃ (T : TypeId) (x : Option Addr), u = .tuple #[ag ([nm [], nm [], [.int .u32 0], [.int .u32 0], [.int .u32 0], [.int .u32 0], [.int .u32 0]]), .iface T (.pointer x)])) ∧ Fr0 w w') := by
 have hNbl := (show NameR b ea Kb ea (txt Sb) eb from hNb).le
 have hf : Fr (fun _ => False) w w := Fr.refl _ _
 refine ret_of Tryz.func198 rfl rfl rfl [(0, _), (1, _)] rfl ?_
 refine sreg (svK (xallS (lens := [256, 256, 1, 1, 1, 1, 1]) in198 (by simp [nm_length])) ?_)
 rintro _ w2 ⟨b4, rfl, m3, h4, e1, s1⟩
 refine sA rfl (send (fdg 0 1 4 rfl fun _ => sreg (svK (xallS (lens := [256]) in82 (by simp [nm_length])) ?_)))
 rintro _ w5 ⟨b6, rfl, m6, h6, e4, s4⟩
 have hm := rng_fr (rng_fr hm m3 (by omega) id) m6 (by omega) id
 have hG := (hG.k0 m3 (by omega)).k0 m6 (by omega)
 refine send (feg 0 1 4 6 rfl fun _ => sreg (sM rfl (sM rfl (sc (xcall ca105 rfl) (c105 (b := b) (bp := b6) (q := 0) (ip := 0) (K := Ka) (off := off) (e := ea) (S := Sa) hms hm (by omega) hnb hkm hbl hG (by omega) h6 (by omega) (by omega) rfl rfl hNa hSa hKa hKna) ?_))))
 have hf := (hf.s m3).s m6
 have h4 := h4.k m6
 rintro _ w7 ⟨⟨hle18, rfl, h6⟩ | ⟨hgt18, ⟨T18, x18, rfl⟩, o18, h6⟩, m8⟩
 rotate_left
 ·
  have z77 := m8.size
  refine sM rfl (sE2 rfl (sA rfl (sA rfl (send ((wp_seq (sreg (sM rfl (sv (xneI if89 rfl) (send (fgg 0 1 4 6 7 22 rfl fun _ => cyes rfl (sreg (sv (xbuildS [nm [], nm [], [.int .u32 0], [.int .u32 0], [.int .u32 0], [.int .u32 0], [.int .u32 0]] zr198 ly198 rfl trivial (by simp [setAll, zs198])) (sM rfl (sv (xbuildS [[_], [_]] zr168 ly168 rfl (by simp [fitAll, zs168, Value.cells]) rfl) (svK (xboxS (lens := [1, 1]) rfl (by simp [])) ?_))))))))))))))))
  rintro _ w79 ⟨b26, rfl, m80, h26, e78, s78⟩
  have h4 := (h4.keep m8 (nE (by omega))).k m80
  refine sv (xmkif ni166 rfl) (suK (xstW h4 (lens' := [256, 256, 1, 1, 1, 1, 1]) sz198 (by simp [nm_length]) rfl (by simp only [fC, fN, aA, aN, nm_one, bT] <;> rfl) rfl rfl) ?_)
  rintro w82 ⟨m83, h4, s81⟩
  have hf := ((hf.t m8 (by omega)).s m80).t m83 (by omega)
  refine sA rfl (send (fcg 4 5 rfl fun _ => wp_ret (rThen (rp2 rfl ⟨_, rfl, ldS (lens := [256, 256, 1, 1, 1, 1, 1]) ro198 h4.r⟩ rfl ?_))))
  exact ⟨.inr ⟨by omega, _, _, rfl⟩, hf⟩
 have z9 := m8.size
 have h6 : SB w7 b6 [256] ([nm (Sa)]) := h6
 refine sM rfl (sE2 rfl (sA rfl (sA rfl (send ((wp_seq (sreg (sM rfl (sv (xneN if89 rfl) (send ((cno rfl (wp_skip (nThen (feg 0 1 4 6 rfl fun _ => sreg (svK (xallS (lens := [256]) in82 (by simp [nm_length])) ?_))))))))))))))))
 rintro _ w11 ⟨b8, rfl, m12, h8, e10, s10⟩
 have hm := rng_fr (rng_fr hm m8 (by omega) (nE (by omega))) m12 (by omega) id
 have hG := (hG.k1 m8 (by omega) (by omega)).k0 m12 (by omega)
 refine send (ffg 0 1 4 6 8 rfl fun _ => wp_seq (sreg (sM rfl (sM rfl (sc (xcall ca105 rfl) (c105 (b := b) (bp := b8) (q := 0) (ip := 0) (K := Kb) (off := ea) (e := eb) (S := Sb) hms hm (by omega) hnb hkm hbl hG (by omega) h8 (by omega) (by omega) rfl rfl hNb hSb hKb hKnb) ?_)))))
 have hf := (hf.t m8 (by omega)).s m12
 have h4 := (h4.keep m8 (nE (by omega))).k m12
 rintro _ w13 ⟨⟨hle31, rfl, h8⟩ | ⟨hgt31, ⟨T31, x31, rfl⟩, o31, h8⟩, m14⟩
 rotate_left
 ·
  have z70 := m14.size
  refine sM rfl (sE2 rfl (sA rfl (sA rfl (send ((sreg (sM rfl (sv (xneI if89 rfl) (send (fhg 0 1 4 6 7 8 35 rfl fun _ => cyes rfl (sreg (sv (xbuildS [nm [], nm [], [.int .u32 0], [.int .u32 0], [.int .u32 0], [.int .u32 0], [.int .u32 0]] zr198 ly198 rfl trivial (by simp [setAll, zs198])) (sM rfl (sv (xbuildS [[_], [_]] zr168 ly168 rfl (by simp [fitAll, zs168, Value.cells]) rfl) (svK (xboxS (lens := [1, 1]) rfl (by simp [])) ?_)))))))))))))))
  rintro _ w72 ⟨b39, rfl, m73, h39, e71, s71⟩
  have h4 := (h4.keep m14 (nE (by omega))).k m73
  refine sv (xmkif ni166 rfl) (suK (xstW h4 (lens' := [256, 256, 1, 1, 1, 1, 1]) sz198 (by simp [nm_length]) rfl (by simp only [fC, fN, aA, aN, nm_one, bT] <;> rfl) rfl rfl) ?_)
  rintro w75 ⟨m76, h4, s74⟩
  have hf := ((hf.t m14 (by omega)).s m73).t m76 (by omega)
  refine sA rfl (send (fcg 4 5 rfl fun _ => wp_ret (rThen (rp2 rfl ⟨_, rfl, ldS (lens := [256, 256, 1, 1, 1, 1, 1]) ro198 h4.r⟩ rfl ?_))))
  exact ⟨.inr ⟨by omega, _, _, rfl⟩, hf⟩
 have z15 := m14.size
 have h8 : SB w13 b8 [256] ([nm (Sb)]) := h8
 have hm := rng_fr hm m14 (by omega) (nE (by omega))
 have hG := hG.k1 m14 (by omega) (by omega)
 refine sM rfl (sE2 rfl (sA rfl (sA rfl (send ((sreg (sM rfl (sv (xneN if89 rfl) (send ((cno rfl (wp_skip (nThen (ffg 0 1 4 6 8 rfl fun _ => sreg (sM rfl (sM rfl (sc (xcall ca211 rfl) (c211 (b := b) (off := eb) (x := ka) hms hm (by omega) hnb hkm hbl hG (by omega) la (hs.left) (by omega)) ?_)))))))))))))))))
 have hf := hf.t m14 (by omega)
 have h4 := h4.keep m14 (nE (by omega))
 rintro _ w16 ⟨⟨hle44, rfl⟩ | ⟨hgt44, T44, x44, rfl⟩, m17⟩
 rotate_left
 ·
  have z62 := m17.size
  refine sM rfl (sE3 rfl (sA rfl (sA rfl (sA rfl (send ((wp_seq (sreg (sM rfl (sv (xneI if89 rfl) (send (fig 0 1 4 6 7 8 9 49 rfl fun _ => cyes rfl (sreg (sv (xbuildS [nm [], nm [], [.int .u32 0], [.int .u32 0], [.int .u32 0], [.int .u32 0], [.int .u32 0]] zr198 ly198 rfl trivial (by simp [setAll, zs198])) (sM rfl (sv (xbuildS [[_], [_]] zr168 ly168 rfl (by simp [fitAll, zs168, Value.cells]) rfl) (svK (xboxS (lens := [1, 1]) rfl (by simp [])) ?_)))))))))))))))))
  rintro _ w65 ⟨b53, rfl, m66, h53, e63, s63⟩
  have h4 := (h4.k m17).k m66
  refine sv (xmkif ni166 rfl) (suK (xstW h4 (lens' := [256, 256, 1, 1, 1, 1, 1]) sz198 (by simp [nm_length]) rfl (by simp only [fC, fN, aA, aN, nm_one, bT] <;> rfl) rfl rfl) ?_)
  rintro w68 ⟨m69, h4, s67⟩
  have hf := ((hf.s m17).s m66).t m69 (by omega)
  refine sA rfl (send (fcg 4 5 rfl fun _ => wp_ret (rThen (rp2 rfl ⟨_, rfl, ldS (lens := [256, 256, 1, 1, 1, 1, 1]) ro198 h4.r⟩ rfl ?_))))
  exact ⟨.inr ⟨by omega, _, _, rfl⟩, hf⟩
 have z18 := m17.size
 have hm := rng_fr hm m17 (by omega) id
 have hG := hG.k0 m17 (by omega)
 refine sM rfl (sE3 rfl (sA rfl (sA rfl (sA rfl (send ((wp_seq (sreg (sM rfl (sv (xneN if89 rfl) (send ((cno rfl (wp_skip (nThen (fgg 0 1 4 6 8 9 rfl fun _ => sreg (sM rfl (sM rfl (sc (xcall ca211 rfl) (c211 (b := b) (off := eb + 4) (x := kb) hms hm (by omega) hnb hkm hbl hG (by omega) lb ((hs.right' rfl).left) (by omega)) ?_)))))))))))))))))))
 have hf := hf.s m17
 have h4 := h4.k m17
 rintro _ w19 ⟨⟨hle58, rfl⟩ | ⟨hgt58, T58, x58, rfl⟩, m20⟩
 rotate_left
 ·
  have z55 := m20.size
  refine sM rfl (sE3 rfl (sA rfl (sA rfl (sA rfl (send ((wp_seq (sreg (sM rfl (sv (xneI if89 rfl) (send (fjg 0 1 4 6 7 8 9 10 63 rfl fun _ => cyes rfl (sreg (sv (xbuildS [nm [], nm [], [.int .u32 0], [.int .u32 0], [.int .u32 0], [.int .u32 0], [.int .u32 0]] zr198 ly198 rfl trivial (by simp [setAll, zs198])) (sM rfl (sv (xbuildS [[_], [_]] zr168 ly168 rfl (by simp [fitAll, zs168, Value.cells]) rfl) (svK (xboxS (lens := [1, 1]) rfl (by simp [])) ?_)))))))))))))))))
  rintro _ w57 ⟨b67, rfl, m58, h67, e56, s56⟩
  have h4 := (h4.k m20).k m58
  refine sv (xmkif ni166 rfl) (suK (xstW h4 (lens' := [256, 256, 1, 1, 1, 1, 1]) sz198 (by simp [nm_length]) rfl (by simp only [fC, fN, aA, aN, nm_one, bT] <;> rfl) rfl rfl) ?_)
  rintro w60 ⟨m61, h4, s59⟩
  have hf := ((hf.s m20).s m58).t m61 (by omega)
  refine sA rfl (send (fcg 4 5 rfl fun _ => wp_ret (rThen (rp2 rfl ⟨_, rfl, ldS (lens := [256, 256, 1, 1, 1, 1, 1]) ro198 h4.r⟩ rfl ?_))))
  exact ⟨.inr ⟨by omega, _, _, rfl⟩, hf⟩
 have z21 := m20.size
 have hm := rng_fr hm m20 (by omega) id
 have hG := hG.k0 m20 (by omega)
 refine sM rfl (sE3 rfl (sA rfl (sA rfl (sA rfl (send ((wp_seq (sreg (sM rfl (sv (xneN if89 rfl) (send ((cno rfl (wp_skip (nThen (fhg 0 1 4 6 8 9 10 rfl fun _ => sreg (sM rfl (sM rfl (sc (xcall ca211 rfl) (c211 (b := b) (off := eb + 4 + 4) (x := kc) hms hm (by omega) hnb hkm hbl hG (by omega) lc (((hs.right' rfl).right' rfl).left) (by omega)) ?_)))))))))))))))))))
 have hf := hf.s m20
 have h4 := h4.k m20
 rintro _ w22 ⟨⟨hle72, rfl⟩ | ⟨hgt72, T72, x72, rfl⟩, m23⟩
 rotate_left
 ·
  have z48 := m23.size
  refine sM rfl (sE3 rfl (sA rfl (sA rfl (sA rfl (send ((wp_seq (sreg (sM rfl (sv (xneI if89 rfl) (send (fkg 0 1 4 6 7 8 9 10 11 77 rfl fun _ => cyes rfl (sreg (sv (xbuildS [nm [], nm [], [.int .u32 0], [.int .u32 0], [.int .u32 0], [.int .u32 0], [.int .u32 0]] zr198 ly198 rfl trivial (by simp [setAll, zs198])) (sM rfl (sv (xbuildS [[_], [_]] zr168 ly168 rfl (by simp [fitAll, zs168, Value.cells]) rfl) (svK (xboxS (lens := [1, 1]) rfl (by simp [])) ?_)))))))))))))))))
  rintro _ w50 ⟨b81, rfl, m51, h81, e49, s49⟩
  have h4 := (h4.k m23).k m51
  refine sv (xmkif ni166 rfl) (suK (xstW h4 (lens' := [256, 256, 1, 1, 1, 1, 1]) sz198 (by simp [nm_length]) rfl (by simp only [fC, fN, aA, aN, nm_one, bT] <;> rfl) rfl rfl) ?_)
  rintro w53 ⟨m54, h4, s52⟩
  have hf := ((hf.s m23).s m51).t m54 (by omega)
  refine sA rfl (send (fcg 4 5 rfl fun _ => wp_ret (rThen (rp2 rfl ⟨_, rfl, ldS (lens := [256, 256, 1, 1, 1, 1, 1]) ro198 h4.r⟩ rfl ?_))))
  exact ⟨.inr ⟨by omega, _, _, rfl⟩, hf⟩
 have z24 := m23.size
 have hm := rng_fr hm m23 (by omega) id
 have hG := hG.k0 m23 (by omega)
 refine sM rfl (sE3 rfl (sA rfl (sA rfl (sA rfl (send ((wp_seq (sreg (sM rfl (sv (xneN if89 rfl) (send ((cno rfl (wp_skip (nThen (fig 0 1 4 6 8 9 10 11 rfl fun _ => sreg (sM rfl (sM rfl (sc (xcall ca211 rfl) (c211 (b := b) (off := eb + 4 + 4 + 4) (x := kd) hms hm (by omega) hnb hkm hbl hG (by omega) ld ((((hs.right' rfl).right' rfl).right' rfl).left) (by omega)) ?_)))))))))))))))))))
 have hf := hf.s m23
 have h4 := h4.k m23
 rintro _ w25 ⟨⟨hle86, rfl⟩ | ⟨hgt86, T86, x86, rfl⟩, m26⟩
 rotate_left
 ·
  have z41 := m26.size
  refine sM rfl (sE3 rfl (sA rfl (sA rfl (sA rfl (send ((wp_seq (sreg (sM rfl (sv (xneI if89 rfl) (send (flg 0 1 4 6 7 8 9 10 11 12 91 rfl fun _ => cyes rfl (sreg (sv (xbuildS [nm [], nm [], [.int .u32 0], [.int .u32 0], [.int .u32 0], [.int .u32 0], [.int .u32 0]] zr198 ly198 rfl trivial (by simp [setAll, zs198])) (sM rfl (sv (xbuildS [[_], [_]] zr168 ly168 rfl (by simp [fitAll, zs168, Value.cells]) rfl) (svK (xboxS (lens := [1, 1]) rfl (by simp [])) ?_)))))))))))))))))
  rintro _ w43 ⟨b95, rfl, m44, h95, e42, s42⟩
  have h4 := (h4.k m26).k m44
  refine sv (xmkif ni166 rfl) (suK (xstW h4 (lens' := [256, 256, 1, 1, 1, 1, 1]) sz198 (by simp [nm_length]) rfl (by simp only [fC, fN, aA, aN, nm_one, bT] <;> rfl) rfl rfl) ?_)
  rintro w46 ⟨m47, h4, s45⟩
  have hf := ((hf.s m26).s m44).t m47 (by omega)
  refine sA rfl (send (fcg 4 5 rfl fun _ => wp_ret (rThen (rp2 rfl ⟨_, rfl, ldS (lens := [256, 256, 1, 1, 1, 1, 1]) ro198 h4.r⟩ rfl ?_))))
  exact ⟨.inr ⟨by omega, _, _, rfl⟩, hf⟩
 have z27 := m26.size
 have hm := rng_fr hm m26 (by omega) id
 have hG := hG.k0 m26 (by omega)
 refine sM rfl (sE3 rfl (sA rfl (sA rfl (sA rfl (send ((wp_seq (sreg (sM rfl (sv (xneN if89 rfl) (send ((cno rfl (wp_skip (nThen (fjg 0 1 4 6 8 9 10 11 12 rfl fun _ => sreg (sM rfl (sM rfl (sc (xcall ca211 rfl) (c211 (b := b) (off := eb + 4 + 4 + 4 + 4) (x := ke) hms hm (by omega) hnb hkm hbl hG (by omega) le (((((hs.right' rfl).right' rfl).right' rfl).right' rfl)) (by omega)) ?_)))))))))))))))))))
 have hf := hf.s m26
 have h4 := h4.k m26
 rintro _ w28 ⟨⟨hle100, rfl⟩ | ⟨hgt100, T100, x100, rfl⟩, m29⟩
 ·
  have z30 := m29.size
  have h6 := ((((((h6.k m12).keep m14 (nE (by omega))).k m17).k m20).k m23).k m26).k m29
  have h8 := ((((h8.k m17).k m20).k m23).k m26).k m29
  have h4 := h4.k m29
  refine sM rfl (sE3 rfl (sA rfl (sA rfl (sA rfl (send ((wp_seq (sreg (sM rfl (sv (xneN if89 rfl) (send ((cno rfl (wp_skip (nThen (fig 4 6 8 9 10 11 12 13 rfl fun _ => sreg (sv (xldS (lens := [256]) ro82 rfl h6.r) (sv (xldS (lens := [256]) ro82 rfl h8.r) (sM rfl (sM rfl (sM rfl (sM rfl (sM rfl (sv (xbuildS [nm Sa, nm Sb, [.int .u32 (ka : Int)], [.int .u32 (kb : Int)], [.int .u32 (kc : Int)], [.int .u32 (kd : Int)], [.int .u32 (ke : Int)]] zr198 ly198 rfl (by simp [fitAll, zs198, Value.cells, nm_length]) (by simp [setAll, zs198, Value.cells])) (suK (xstW h4 (lens' := [256, 256, 1, 1, 1, 1, 1]) sz198 (by simp [nm_length]) rfl (by simp only [fC, fN, aA, aN, nm_one, bT] <;> rfl) rfl rfl) ?_)))))))))))))))))))))))))
  rintro w32 ⟨m33, h4, s31⟩
  have hf := (hf.s m29).t m33 (by omega)
  refine sA rfl (send (fcg 4 5 rfl fun _ => wp_ret (rp2 rfl ⟨_, rfl, ldS (lens := [256, 256, 1, 1, 1, 1, 1]) ro198 h4.r⟩ rfl ?_)))
  exact ⟨.inl ⟨by omega, rfl⟩, hf⟩
 have z34 := m29.size
 refine sM rfl (sE3 rfl (sA rfl (sA rfl (sA rfl (send ((wp_seq (sreg (sM rfl (sv (xneI if89 rfl) (send (fkg 4 6 7 8 9 10 11 12 13 105 rfl fun _ => cyes rfl (sreg (sv (xbuildS [nm [], nm [], [.int .u32 0], [.int .u32 0], [.int .u32 0], [.int .u32 0], [.int .u32 0]] zr198 ly198 rfl trivial (by simp [setAll, zs198])) (sM rfl (sv (xbuildS [[_], [_]] zr168 ly168 rfl (by simp [fitAll, zs168, Value.cells]) rfl) (svK (xboxS (lens := [1, 1]) rfl (by simp [])) ?_)))))))))))))))))
 rintro _ w36 ⟨b109, rfl, m37, h109, e35, s35⟩
 have h4 := (h4.k m29).k m37
 refine sv (xmkif ni166 rfl) (suK (xstW h4 (lens' := [256, 256, 1, 1, 1, 1, 1]) sz198 (by simp [nm_length]) rfl (by simp only [fC, fN, aA, aN, nm_one, bT] <;> rfl) rfl rfl) ?_)
 rintro w39 ⟨m40, h4, s38⟩
 have hf := ((hf.s m29).s m37).t m40 (by omega)
 refine sA rfl (send (fcg 4 5 rfl fun _ => wp_ret (rThen (rp2 rfl ⟨_, rfl, ldS (lens := [256, 256, 1, 1, 1, 1, 1]) ro198 h4.r⟩ rfl ?_))))
 exact ⟨.inr ⟨by omega, _, _, rfl⟩, hf⟩
theorem c200 {w : World} {a : Option Addr} {bm om km n : Nat} {b : List UInt8} (hms : n ≠ 0 → a = some ⟨bm, om, none⟩) (hm : w.rangeAt bm om (bvs (b.take n))) (hbm : bm < w.heap.size) (hnb : n ≤ b.length) (hkm : n ≤ km) (hbl : b.length < 100000000) (hG : GE w) (hsz : 21 ≤ w.heap.size) {K off e : Nat} {S : List UInt8} {ka : Nat} (la : ka < 65536) (hs : Std b off (be16 ka)) (hN : NameAt b K (off + 2) S e) (hS0 : nameL S) (hK : K ≤ 10) (hKn : K = 0 ∨ n = b.length) :
  Ret PP 200 [.slice a n km, .int .i64 (off : Int)] w (fun u w' => ((e ≤ n ∧ u = .tuple #[ag ([[.int .u16 (ka : Int)], nm S]), .nilIface]) ∨ (n < e ∧ ∃ (T : TypeId) (x : Option Addr), u = .tuple #[ag ([[.int .u16 0], nm []]), .iface T (.pointer x)])) ∧ Fr0 w w') := by
 have hNl := (show NameR b (off + 2) K (off + 2) (txt S) e from hN).le
 have hf : Fr (fun _ => False) w w := Fr.refl _ _
 refine ret_of Tryz.func200 rfl rfl rfl [(0, _), (1, _)] rfl ?_
 refine sreg (svK (xallS (lens := [1, 256]) in204 (by simp [nm_length])) ?_)
 rintro _ w2 ⟨b4, rfl, m3, h4, e1, s1⟩
 have hm := rng_fr hm m3 (by omega) id
 have hG := hG.k0 m3 (by omega)
 refine sA rfl (send (fdg 0 1 4 rfl fun _ => sreg (sM rfl (sM rfl (sc (xcall ca156 rfl) (c156 (b := b) (off := off) (x := ka) hms hm (by omega) hnb hkm hbl hG (by omega) la (hs) (by omega)) ?_)))))
 have hf := hf.s m3
 rintro _ w4 ⟨⟨hle14, rfl⟩ | ⟨hgt14, T14, x14, rfl⟩, m5⟩
 rotate_left
 ·
  have z23 := m5.size
  refine sM rfl (sE3 rfl (sA rfl (sA rfl (sA rfl (send ((wp_seq (sreg (sM rfl (sv (xneI if89 rfl) (send (fgg 0 1 4 6 7 19 rfl fun _ => cyes rfl (sreg (sv (xbuildS [[.int .u16 0], nm []] zr204 ly204 rfl trivial (by simp [setAll, zs204])) (sM rfl (sv (xbuildS [[_], [_]] zr168 ly168 rfl (by simp [fitAll, zs168, Value.cells]) rfl) (svK (xboxS (lens := [1, 1]) rfl (by simp [])) ?_)))))))))))))))))
  rintro _ w25 ⟨b23, rfl, m26, h23, e24, s24⟩
  have h4 := (h4.k m5).k m26
  refine sv (xmkif ni166 rfl) (suK (xstW h4 (lens' := [1, 256]) sz204 (by simp [nm_length]) rfl (by simp only [fC, fN, aA, aN, nm_one] <;> rfl) rfl rfl) ?_)
  rintro w28 ⟨m29, h4, s27⟩
  have hf := ((hf.s m5).s m26).t m29 (by omega)
  refine sA rfl (send (fcg 4 5 rfl fun _ => wp_ret (rThen (rp2 rfl ⟨_, rfl, ldS (lens := [1, 256]) ro204 h4.r⟩ rfl ?_))))
  exact ⟨.inr ⟨by omega, _, _, rfl⟩, hf⟩
 have z6 := m5.size
 refine sM rfl (sE3 rfl (sA rfl (sA rfl (sA rfl (send ((wp_seq (sreg (sM rfl (sv (xneN if89 rfl) (send ((cno rfl (wp_skip (nThen (feg 0 1 4 6 rfl fun _ => sreg (svK (xallS (lens := [256]) in82 (by simp [nm_length])) ?_)))))))))))))))))
 rintro _ w8 ⟨b8, rfl, m9, h8, e7, s7⟩
 have hm := rng_fr (rng_fr hm m5 (by omega) id) m9 (by omega) id
 have hG := (hG.k0 m5 (by omega)).k0 m9 (by omega)
 refine send (ffg 0 1 4 6 8 rfl fun _ => wp_seq (sreg (sM rfl (sM rfl (sc (xcall ca105 rfl) (c105 (b := b) (bp := b8) (q := 0) (ip := 0) (K := K) (off := off + 2) (e := e) (S := S) hms hm (by omega) hnb hkm hbl hG (by omega) h8 (by omega) (by omega) rfl rfl hN hS0 hK hKn) ?_)))))
 have hf := (hf.s m5).s m9
 have h4 := (h4.k m5).k m9
 rintro _ w10 ⟨⟨hle28, rfl, h8⟩ | ⟨hgt28, ⟨T28, x28, rfl⟩, o28, h8⟩, m11⟩
 ·
  have z12 := m11.size
  have h8 : SB w10 b8 [256] ([nm (S)]) := h8
  have h4 := h4.keep m11 (nE (by omega))
  refine sM rfl (sE2 rfl (sA rfl (sA rfl (send ((sreg (sM rfl (sv (xneN if89 rfl) (send ((cno rfl (wp_skip (nThen (fdg 4 6 8 rfl fun _ => sreg (sM rfl (sv (xldS (lens := [256]) ro82 rfl h8.r) (sv (xbuildS [[.int .u16 (ka : Int)], nm S] zr204 ly204 rfl (by simp [fitAll, zs204, Value.cells, nm_length]) (by simp [setAll, zs204, Value.cells])) (suK (xstW h4 (lens' := [1, 256]) sz204 (by simp [nm_length]) rfl (by simp only [fC, fN, aA, aN, nm_one] <;> rfl) rfl rfl) ?_))))))))))))))))))
  rintro w14 ⟨m15, h4, s13⟩
  have hf := (hf.t m11 (by omega)).t m15 (by omega)
  refine sA rfl (send (fcg 4 5 rfl fun _ => wp_ret (rp2 rfl ⟨_, rfl, ldS (lens := [1, 256]) ro204 h4.r⟩ rfl ?_)))
  exact ⟨.inl ⟨by omega, rfl⟩, hf⟩
 have z16 := m11.size
 refine sM rfl (sE2 rfl (sA rfl (sA rfl (send ((sreg (sM rfl (sv (xneI if89 rfl) (send (ffg 4 6 8 10 32 rfl fun _ => cyes rfl (sreg (sv (xbuildS [[.int .u16 0], nm []] zr204 ly204 rfl trivial (by simp [setAll, zs204])) (sM rfl (sv (xbuildS [[_], [_]] zr168 ly168 rfl (by simp [fitAll, zs168, Value.cells]) rfl) (svK (xboxS (lens := [1, 1]) rfl (by simp [])) ?_)))))))))))))))
 rintro _ w18 ⟨b36, rfl, m19, h36, e17, s17⟩
 have h4 := (h4.keep m11 (nE (by omega))).k m19
 refine sv (xmkif ni166 rfl) (suK (xstW h4 (lens' := [1, 256]) sz204 (by simp [nm_length]) rfl (by simp only [fC, fN, aA, aN, nm_one] <;> rfl) rfl rfl) ?_)
 rintro w21 ⟨m22, h4, s20⟩
 have hf := ((hf.t m11 (by omega)).s m19).t m22 (by omega)
 refine sA rfl (send (fcg 4 5 rfl fun _ => wp_ret (rThen (rp2 rfl ⟨_, rfl, ldS (lens := [1, 256]) ro204 h4.r⟩ rfl ?_))))
 exact ⟨.inr ⟨by omega, _, _, rfl⟩, hf⟩
theorem c203 {w : World} {a : Option Addr} {bm om km n : Nat} {b : List UInt8} (hms : n ≠ 0 → a = some ⟨bm, om, none⟩) (hm : w.rangeAt bm om (bvs (b.take n))) (hbm : bm < w.heap.size) (hnb : n ≤ b.length) (hkm : n ≤ km) (hbl : b.length < 100000000) (hG : GE w) (hsz : 21 ≤ w.heap.size) {K off e : Nat} {S : List UInt8} {ka kb kc : Nat} (la : ka < 65536) (lb : kb < 65536) (lc : kc < 65536) (hs : Std b off (be16 ka ++ (be16 kb ++ be16 kc))) (hN : NameAt b K (off + 2 + 2 + 2) S e) (hS0 : nameL S) (hK : K ≤ 10) (hKn : K = 0 ∨ n = b.length) :
  Ret PP 203 [.slice a n km, .int .i64 (off : Int)] w (fun u w' => ((e ≤ n ∧ u = .tuple #[ag ([[.int .u16 (ka : Int)], [.int .u16 (kb : Int)], [.int .u16 (kc : Int)], nm S]), .nilIface]) ∨ (n < e ∧ ∃ (T : TypeId) (x : Option Addr), u = .tuple #[ag ([[.int .u16 0], [.int .u16 0], [.int .u16 0], nm []]), .iface T (.pointer x)])) ∧ Fr0 w w') := by
 have hNl := (show NameR b (off + 2 + 2 + 2) K (off + 2 + 2 + 2) (txt S) e from hN).le
 have hf : Fr (fun _ => False) w w := Fr.refl _ _
 refine ret_of Tryz.func203 rfl rfl rfl [(0, _), (1, _)] rfl ?_
 refine sreg (svK (xallS (lens := [1, 1, 1, 256]) in214 (by simp [nm_length])) ?_)
 rintro _ w2 ⟨b4, rfl, m3, h4, e1, s1⟩
 have hm := rng_fr hm m3 (by omega) id
 have hG := hG.k0 m3 (by omega)
 refine sA rfl (send (fdg 0 1 4 rfl fun _ => sreg (sM rfl (sM rfl (sc (xcall ca156 rfl) (c156 (b := b) (off := off) (x := ka) hms hm (by omega) hnb hkm hbl hG (by omega) la (hs.left) (by omega)) ?_)))))
 have hf := hf.s m3
 rintro _ w4 ⟨⟨hle16, rfl⟩ | ⟨hgt16, T16, x16, rfl⟩, m5⟩
 rotate_left
 ·
  have z43 := m5.size
  refine sM rfl (sE3 rfl (sA rfl (sA rfl (sA rfl (send ((wp_seq (sreg (sM rfl (sv (xneI if89 rfl) (send (fgg 0 1 4 6 7 21 rfl fun _ => cyes rfl (sreg (sv (xbuildS [[.int .u16 0], [.int .u16 0], [.int .u16 0], nm []] zr214 ly214 rfl trivial (by simp [setAll, zs214])) (sM rfl (sv (xbuildS [[_], [_]] zr168 ly168 rfl (by simp [fitAll, zs168, Value.cells]) rfl) (svK (xboxS (lens := [1, 1]) rfl (by simp [])) ?_)))))))))))))))))
  rintro _ w45 ⟨b25, rfl, m46, h25, e44, s44⟩
  have h4 := (h4.k m5).k m46
  refine sv (xmkif ni166 rfl) (suK (xstW h4 (lens' := [1, 1, 1, 256]) sz214 (by simp [nm_length]) rfl (by simp only [fC, fN, aA, aN, nm_one] <;> rfl) rfl rfl) ?_)
  rintro w48 ⟨m49, h4, s47⟩
  have hf := ((hf.s m5).s m46).t m49 (by omega)
  refine sA rfl (send (fcg 4 5 rfl fun _ => wp_ret (rThen (rp2 rfl ⟨_, rfl, ldS (lens := [1, 1, 1, 256]) ro214 h4.r⟩ rfl ?_))))
  exact ⟨.inr ⟨by omega, _, _, rfl⟩, hf⟩
 have z6 := m5.size
 have hm := rng_fr hm m5 (by omega) id
 have hG := hG.k0 m5 (by omega)
 refine sM rfl (sE3 rfl (sA rfl (sA rfl (sA rfl (send ((wp_seq (sreg (sM rfl (sv (xneN if89 rfl) (send ((cno rfl (wp_skip (nThen (feg 0 1 4 6 rfl fun _ => sreg (sM rfl (sM rfl (sc (xcall ca156 rfl) (c156 (b := b) (off := off + 2) (x := kb) hms hm (by omega) hnb hkm hbl hG (by omega) lb ((hs.right' rfl).left) (by omega)) ?_)))))))))))))))))))
 have hf := hf.s m5
 have h4 := h4.k m5
 rintro _ w7 ⟨⟨hle30, rfl⟩ | ⟨hgt30, T30, x30, rfl⟩, m8⟩
 rotate_left
 ·
  have z36 := m8.size
  refine sM rfl (sE3 rfl (sA rfl (sA rfl (sA rfl (send ((wp_seq (sreg (sM rfl (sv (xneI if89 rfl) (send (fhg 0 1 4 6 7 8 35 rfl fun _ => cyes rfl (sreg (sv (xbuildS [[.int .u16 0], [.int .u16 0], [.int .u16 0], nm []] zr214 ly214 rfl trivial (by simp [setAll, zs214])) (sM rfl (sv (xbuildS [[_], [_]] zr168 ly168 rfl (by simp [fitAll, zs168, Value.cells]) rfl) (svK (xboxS (lens := [1, 1]) rfl (by simp [])) ?_)))))))))))))))))
  rintro _ w38 ⟨b39, rfl, m39, h39, e37, s37⟩
  have h4 := (h4.k m8).k m39
  refine sv (xmkif ni166 rfl) (suK (xstW h4 (lens' := [1, 1, 1, 256]) sz214 (by simp [nm_length]) rfl (by simp only [fC, fN, aA, aN, nm_one] <;> rfl) rfl rfl) ?_)
  rintro w41 ⟨m42, h4, s40⟩
  have hf := ((hf.s m8).s m39).t m42 (by omega)
  refine sA rfl (send (fcg 4 5 rfl fun _ => wp_ret (rThen (rp2 rfl ⟨_, rfl, ldS (lens := [1, 1, 1, 256]) ro214 h4.r⟩ rfl ?_))))
  exact ⟨.inr ⟨by omega, _, _, rfl⟩, hf⟩
 have z9 := m8.size
 have hm := rng_fr hm m8 (by omega) id
 have hG := hG.k0 m8 (by omega)
 refine sM rfl (sE3 rfl (sA rfl (sA rfl (sA rfl (send ((wp_seq (sreg (sM rfl (sv (xneN if89 rfl) (send ((cno rfl (wp_skip (nThen (ffg 0 1 4 6 8 rfl fun _ => sreg (sM rfl (sM rfl (sc (xcall ca156 rfl) (c156 (b := b) (off := off + 2 + 2) (x := kc) hms hm (by omega) hnb hkm hbl hG (by omega) lc ((hs.right' rfl).right' rfl) (by omega)) ?_)))))))))))))))))))
 have hf := hf.s m8
 have h4 := h4.k m8
 rintro _ w10 ⟨⟨hle44, rfl⟩ | ⟨hgt44, T44, x44, rfl⟩, m11⟩
 rotate_left
 ·
  have z29 := m11.size
  refine sM rfl (sE3 rfl (sA rfl (sA rfl (sA rfl (send ((wp_seq (sreg (sM rfl (sv (xneI if89 rfl) (send (fig 0 1 4 6 7 8 9 49 rfl fun _ => cyes rfl (sreg (sv (xbuildS [[.int .u16 0], [.int .u16 0], [.int .u16 0], nm []] zr214 ly214 rfl trivial (by simp [setAll, zs214])) (sM rfl (sv (xbuildS [[_], [_]] zr168 ly168 rfl (by simp [fitAll, zs168, Value.cells]) rfl) (svK (xboxS (lens := [1, 1]) rfl (by simp [])) ?_)))))))))))))))))
  rintro _ w31 ⟨b53, rfl, m32, h53, e30, s30⟩
  have h4 := (h4.k m11).k m32
  refine sv (xmkif ni166 rfl) (suK (xstW h4 (lens' := [1, 1, 1, 256]) sz214 (by simp [nm_length]) rfl (by simp only [fC, fN, aA, aN, nm_one] <;> rfl) rfl rfl) ?_)
  rintro w34 ⟨m35, h4, s33⟩
  have hf := ((hf.s m11).s m32).t m35 (by omega)
  refine sA rfl (send (fcg 4 5 rfl fun _ => wp_ret (rThen (rp2 rfl ⟨_, rfl, ldS (lens := [1, 1, 1, 256]) ro214 h4.r⟩ rfl ?_))))
  exact ⟨.inr ⟨by omega, _, _, rfl⟩, hf⟩
 have z12 := m11.size
 refine sM rfl (sE3 rfl (sA rfl (sA rfl (sA rfl (send ((wp_seq (sreg (sM rfl (sv (xneN if89 rfl) (send ((cno rfl (wp_skip (nThen (fgg 0 1 4 6 8 9 rfl fun _ => sreg (svK (xallS (lens := [256]) in82 (by simp [nm_length])) ?_)))))))))))))))))
 rintro _ w14 ⟨b10, rfl, m15, h10, e13, s13⟩
 have hm := rng_fr (rng_fr hm m11 (by omega) id) m15 (by omega) id
 have hG := (hG.k0 m11 (by omega)).k0 m15 (by omega)
 refine send (fhg 0 1 4 6 8 9 10 rfl fun _ => wp_seq (sreg (sM rfl (sM rfl (sc (xcall ca105 rfl) (c105 (b := b) (bp := b10) (q := 0) (ip := 0) (K := K) (off := off + 2 + 2 + 2) (e := e) (S := S) hms hm (by omega) hnb hkm hbl hG (by omega) h10 (by omega) (by omega) rfl rfl hN hS0 hK hKn) ?_)))))
 have hf := (hf.s m11).s m15
 have h4 := (h4.k m11).k m15
 rintro _ w16 ⟨⟨hle58, rfl, h10⟩ | ⟨hgt58, ⟨T58, x58, rfl⟩, o58, h10⟩, m17⟩
 ·
  have z18 := m17.size
  have h10 : SB w16 b10 [256] ([nm (S)]) := h10
  have h4 := h4.keep m17 (nE (by omega))
  refine sM rfl (sE2 rfl (sA rfl (sA rfl (send ((sreg (sM rfl (sv (xneN if89 rfl) (send ((cno rfl (wp_skip (nThen (ffg 4 6 8 9 10 rfl fun _ => sreg (sM rfl (sM rfl (sM rfl (sv (xldS (lens := [256]) ro82 rfl h10.r) (sv (xbuildS [[.int .u16 (ka : Int)], [.int .u16 (kb : Int)], [.int .u16 (kc : Int)], nm S] zr214 ly214 rfl (by simp [fitAll, zs214, Value.cells, nm_length]) (by simp [setAll, zs214, Value.cells])) (suK (xstW h4 (lens' := [1, 1, 1, 256]) sz214 (by simp [nm_length]) rfl (by simp only [fC, fN, aA, aN, nm_one] <;> rfl) rfl rfl) ?_))))))))))))))))))))
  rintro w20 ⟨m21, h4, s19⟩
  have hf := (hf.t m17 (by omega)).t m21 (by omega)
  refine sA rfl (send (fcg 4 5 rfl fun _ => wp_ret (rp2 rfl ⟨_, rfl, ldS (lens := [1, 1, 1, 256]) ro214 h4.r⟩ rfl ?_)))
  exact ⟨.inl ⟨by omega, rfl⟩, hf⟩
 have z22 := m17.size
 refine sM rfl (sE2 rfl (sA rfl (sA rfl (send ((sreg (sM rfl (sv (xneI if89 rfl) (send (fhg 4 6 8 9 10 12 62 rfl fun _ => cyes rfl (sreg (sv (xbuildS [[.int .u16 0], [.int .u16 0], [.int .u16 0], nm []] zr214 ly214 rfl trivial (by simp [setAll, zs214])) (sM rfl (sv (xbuildS [[_], [_]] zr168 ly168 rfl (by simp [fitAll, zs168, Value.cells]) rfl) (svK (xboxS (lens := [1, 1]) rfl (by simp [])) ?_)))))))))))))))
 rintro _ w24 ⟨b66, rfl, m25, h66, e23, s23⟩
 have h4 := (h4.keep m17 (nE (by omega))).k m25
 refine sv (xmkif ni166 rfl) (suK (xstW h4 (lens' := [1, 1, 1, 256]) sz214 (by simp [nm_length]) rfl (by simp only [fC, fN, aA, aN, nm_one] <;> rfl) rfl rfl) ?_)
 rintro w27 ⟨m28, h4, s26⟩
 have hf := ((hf.t m17 (by omega)).s m25).t m28 (by omega)
 refine sA rfl (send (fcg 4 5 rfl fun _ => wp_ret (rThen (rp2 rfl ⟨_, rfl, ldS (lens := [1, 1, 1, 256]) ro214 h4.r⟩ rfl ?_))))
 exact ⟨.inr ⟨by omega, _, _, rfl⟩, hf⟩
end Go.Proofs.YtifnodoffgfpbaaGreatDoor
