/- How a message that was packed is read: a relation on bytes, in plain Lean; conditions: none. -/
import Derived.Test.YtifnodoffgfpbaaGreatDoorPk
namespace Go.Proofs.YtifnodoffgfpbaaGreatDoor
open Go

/-- these bytes stand in b from i on -/
def Std (b : List UInt8) (i : Nat) (bs : List UInt8) : Prop := ∀ (j : Nat) (c : UInt8), bs[j]? = some c → b[i + j]? = some c
theorem Std.nil (b : List UInt8) (i : Nat) : Std b i [] := fun j c h => by simp at h
theorem Std.left {b xs ys : List UInt8} {i : Nat} (h : Std b i (xs ++ ys)) : Std b i xs := fun j c hj => h j c (by
  have : j < xs.length := (List.getElem?_eq_some_iff.1 hj).1
  rw [List.getElem?_append_left this]; exact hj)
theorem Std.right {b xs ys : List UInt8} {i : Nat} (h : Std b i (xs ++ ys)) : Std b (i + xs.length) ys := fun j c hj => by
  have := h (xs.length + j) c (by rw [List.getElem?_append_right (by omega), Nat.add_sub_cancel_left]; exact hj)
  rw [Nat.add_assoc]; exact this
theorem Std.right' {b xs ys : List UInt8} {i k : Nat} (h : Std b i (xs ++ ys)) (hk : i + xs.length = k) : Std b k ys := hk ▸ h.right
theorem Std.app {b xs ys : List UInt8} {i : Nat} (h : Std b i xs) (h2 : Std b (i + xs.length) ys) : Std b i (xs ++ ys) := fun j c hj => by
  by_cases hx : j < xs.length
  · rw [List.getElem?_append_left hx] at hj; exact h j c hj
  · rw [List.getElem?_append_right (by omega)] at hj
    have := h2 _ c hj
    rw [show i + xs.length + (j - xs.length) = i + j by omega] at this
    exact this
theorem Std.head {b xs : List UInt8} {x : UInt8} {i : Nat} (h : Std b i (x :: xs)) : b[i]? = some x := h 0 x rfl
theorem Std.tail {b xs : List UInt8} {x : UInt8} {i : Nat} (h : Std b i (x :: xs)) : Std b (i + 1) xs := Std.right (xs := [x]) h
theorem Std.self (b : List UInt8) : Std b 0 b := fun j c h => by rw [Nat.zero_add]; exact h
theorem Std.le {b bs : List UInt8} {i : Nat} (h : Std b i bs) (h0 : bs ≠ []) : i + bs.length ≤ b.length := by
  have hp : 0 < bs.length := List.length_pos_iff.2 h0
  have := h (bs.length - 1) _ (List.getElem?_eq_getElem (by omega))
  have := (List.getElem?_eq_some_iff.1 this).1
  omega
theorem Std.cut {b bs : List UInt8} {i : Nat} (h : Std b i bs) (hl : i + bs.length ≤ b.length) : (b.drop i).take bs.length = bs := by
  apply List.ext_getElem
  · rw [List.length_take, List.length_drop]; omega
  · intro j h1 h2
    have := h j _ (List.getElem?_eq_getElem h2)
    rw [List.getElem_take, List.getElem_drop]
    exact (List.getElem?_eq_some_iff.1 this).2

/-- In b there stands from i on a name of these labels, whose writing ends at nx; st: where the part begins that each pointer must lead ahead of; k: how many pointers. -/
inductive NameR (b : List UInt8) : Nat → Nat → Nat → List UInt8 → Nat → Prop
  | fin {st i : Nat} (hb : b[i]? = some 0) : NameR b st 0 i [] (i + 1)
  | lab {st k i nx : Nat} {s : List UInt8} (lab : List UInt8) (h0 : lab ≠ []) (h63 : lab.length ≤ 63) (hd : ∀ c ∈ lab, c ≠ 46) (hb : b[i]? = some (UInt8.ofNat lab.length)) (hs : Std b (i + 1) lab)
      (h : NameR b st k (i + 1 + lab.length) s nx) : NameR b st k i (lab ++ (46 :: s)) nx
  | ptr {st k i to nx : Nat} {s : List UInt8} (h1 : to < st) (h14 : to ≤ 16383) (hb : b[i]? = some (UInt8.ofNat (192 + to / 256))) (hb2 : b[i + 1]? = some (UInt8.ofNat to))
      (h : NameR b to k to s nx) : NameR b st (k + 1) i s (i + 2)

theorem NameR.up {b : List UInt8} {st k i nx : Nat} {s : List UInt8} (h : NameR b st k i s nx) : ∀ {st' : Nat}, st ≤ st' → NameR b st' k i s nx := by
  induction h with
  | fin hb => intro st' _; exact .fin hb
  | lab lab h0 h63 hd hb hs _ ih => intro st' hl; exact .lab lab h0 h63 hd hb hs (ih hl)
  | ptr h1 h14 hb hb2 h _ => intro st' hl; exact .ptr (by omega) h14 hb hb2 h
theorem NameR.le {b : List UInt8} {st k i nx : Nat} {s : List UInt8} (h : NameR b st k i s nx) : i < nx ∧ nx ≤ b.length := by
  induction h with
  | fin hb => have := (List.getElem?_eq_some_iff.1 hb).1; omega
  | lab lab h0 h63 hd hb hs _ ih => omega
  | ptr h1 h14 hb hb2 h _ => have := (List.getElem?_eq_some_iff.1 hb2).1; omega

/-- the labels of a name: of the dot alone there are none -/
def txt (s : List UInt8) : List UInt8 := if s = [46] then [] else s
def NameAt (b : List UInt8) (k i : Nat) (s : List UInt8) (nx : Nat) : Prop := NameR b i k i (txt s) nx

/-! ### what is packed is read -/
/-- what the map tells of a text: where it stands -/
def GoodE (b : List UInt8) (st : Nat) (key : List UInt8) (p : UInt16) : Prop := p.toNat < st ∧ p.toNat ≤ 16383 ∧ ∃ k nx, NameR b p.toNat k p.toNat key nx ∧ k < key.count 46
theorem GoodE.up {b : List UInt8} {st st' : Nat} {key : List UInt8} {p : UInt16} (h : GoodE b st key p) (hs : st ≤ st') : GoodE b st' key p := ⟨by have := h.1; omega, h.2⟩

theorem look_app (M : Ent) (key : ByteArray) (v : UInt16) (s : ByteArray) : look (M ++ [(key, v)]) s = match look M s with
    | some p => some p
    | none => if s = key then some v else none := by
  induction M with
  | nil => simp [look]
  | cons p M ih =>
    obtain ⟨k, u⟩ := p
    simp only [List.cons_append, look]
    split
    · rfl
    · exact ih
theorem ptr_bytes (p : UInt16) (h : p.toNat ≤ 16383) : ptrL p = [UInt8.ofNat (192 + p.toNat / 256), UInt8.ofNat p.toNat] := by
  have key : ∀ x : Nat, x < 64 → x ||| 192 = 192 + x := by decide
  simp only [ptrL]
  congr 1
  congr 1
  rw [UInt16.toNat_or, UInt16.toNat_shiftRight]
  have e1 : (8 : UInt16).toNat % 16 = 8 := rfl
  have e2 : (192 : UInt16).toNat = 192 := rfl
  rw [e1, e2, Nat.shiftRight_eq_div_pow]
  exact key _ (by omega)

theorem packGo_at (b : List UInt8) (st : Nat) : ∀ (cs lab : List UInt8) (M : Ent) (pos : Nat), nameGo lab.length cs = true → (∀ c ∈ lab, c ≠ 46) → st ≤ pos → Std b pos (packGo (some M) pos lab cs).1 →
    (∀ key p, key.length ≤ cs.length → look M (mkB key) = some p → GoodE b st key p) →
    (∃ k, NameR b st k pos (lab ++ cs) (pos + (packGo (some M) pos lab cs).1.length) ∧ k ≤ (lab ++ cs).count 46 ∧ (lab ≠ [] → k < (lab ++ cs).count 46)) ∧
    ∃ M', (packGo (some M) pos lab cs).2 = some M' ∧ ∀ key p, look M' (mkB key) = some p → look M (mkB key) = some p ∨ GoodE b (pos + (packGo (some M) pos lab cs).1.length) key p
  | [], lab, M, pos, hn, _, _, hb, _ => by
    have hl : lab = [] := by
      cases lab with
      | nil => rfl
      | cons x xs => simp [nameGo] at hn
    subst hl
    refine ⟨⟨0, ?_, by simp, fun h => absurd rfl h⟩, M, rfl, fun key p h => .inl h⟩
    simp only [packGo, List.append_nil, List.length_cons, List.length_nil]
    exact .fin hb.head
  | c :: cs, lab, M, pos, hn, hlab, hst, hb, hold => by
    by_cases hc : c = 46
    · subst hc
      rw [nameGo, if_pos rfl] at hn
      split at hn
      · cases hn
      · rename_i hl
        have h0 : lab ≠ [] := by intro h; subst h; simp at hl
        simp only [packGo, if_pos] at hb ⊢
        have ih := packGo_at b st cs [] M (pos + (lab.length + 1)) (by simpa using hn) (by simp) (by omega) (hb.right' (by simp)) (fun key p hk hm => hold key p (by simp; omega) hm)
        obtain ⟨⟨k, hr, hk, _⟩, M', hM, hnew⟩ := ih
        refine ⟨⟨k, ?_, ?_, ?_⟩, M', hM, ?_⟩
        · refine NameR.lab lab h0 (by omega) hlab hb.left.head hb.left.tail ?_
          have e1 : pos + 1 + lab.length = pos + (lab.length + 1) := by omega
          have e2 : pos + (UInt8.ofNat lab.length :: lab ++ (packGo (some M) (pos + (lab.length + 1)) [] cs).1).length = pos + (lab.length + 1) + (packGo (some M) (pos + (lab.length + 1)) [] cs).1.length := by simp; omega
          rw [e1, e2]
          simpa using hr
        · simp only [List.nil_append] at hk
          rw [List.count_append, List.count_cons_self]; omega
        · intro _
          simp only [List.nil_append] at hk
          rw [List.count_append, List.count_cons_self]; omega
        · intro key p h
          rcases hnew key p h with h | h
          · exact .inl h
          · exact .inr (h.up (by simp; omega))
    · have hn' : nameGo (lab.length + 1) cs = true := nameGo_let hn hc
      by_cases hl : lab = []
      · subst hl
        cases hlk : look M (mkB (c :: cs)) with
        | some p =>
          rw [pk_hit hc hlk] at hb ⊢
          obtain ⟨g1, g2, k, nx, g3, g4⟩ := hold (c :: cs) p (Nat.le_refl _) hlk
          rw [ptr_bytes p g2] at hb ⊢
          refine ⟨⟨k + 1, ?_, by rw [List.nil_append]; exact g4, fun h => absurd rfl h⟩, M, rfl, fun key p h => .inl h⟩
          exact .ptr g1 g2 hb.head hb.tail.head g3
        | none =>
          rw [pk_miss hc hlk] at hb ⊢
          have hold2 : ∀ key p, key.length ≤ cs.length → look (if pos ≤ 16383 then M ++ [(mkB (c :: cs), UInt16.ofNat pos)] else M) (mkB key) = some p → GoodE b st key p := by
            intro key p hk hm
            split at hm
            · rw [look_app] at hm
              split at hm
              · rename_i q hq
                simp only [Option.some.injEq] at hm; subst hm
                exact hold key _ (by simp; omega) hq
              · split at hm
                · rename_i he
                  have := congrArg bt he
                  rw [bt_mkB, bt_mkB] at this
                  rw [this] at hk
                  simp at hk; omega
                · cases hm
            · exact hold key p (by simp; omega) hm
          have ih := packGo_at b st cs [c] _ pos hn' (by simpa using hc) hst hb hold2
          obtain ⟨⟨k, hr, hk, hk2⟩, M', hM, hnew⟩ := ih
          refine ⟨⟨k, hr, hk, fun h => absurd rfl h⟩, M', hM, ?_⟩
          intro key p h
          rcases hnew key p h with h | h
          · split at h
            · rename_i hp
              rw [look_app] at h
              split at h
              · rename_i q hq; exact .inl (by rw [hq]; exact h)
              · split at h
                · rename_i he
                  simp only [Option.some.injEq] at h
                  subst h
                  have he := congrArg bt he
                  rw [bt_mkB, bt_mkB] at he
                  subst he
                  have e : (UInt16.ofNat pos).toNat = pos := by rw [UInt16.toNat_ofNat']; omega
                  have hr' : ∃ nx, NameR b (UInt16.ofNat pos).toNat k (UInt16.ofNat pos).toNat (c :: cs) nx := by rw [e]; exact ⟨_, hr.up hst⟩
                  obtain ⟨nx, hr'⟩ := hr'
                  exact .inr ⟨by have := hr.le; omega, by omega, k, nx, hr', hk2 (by simp)⟩
                · cases h
            · exact .inl h
          · exact .inr h
      · rw [pk_mid hc hl] at hb ⊢
        have ih := packGo_at b st cs (lab ++ [c]) M pos (by simpa using hn') (by
          intro x hx
          rcases List.mem_append.1 hx with h | h
          · exact hlab x h
          · simp at h; subst h; exact hc) hst hb (fun key p hk hm => hold key p (by simp; omega) hm)
        obtain ⟨⟨k, hr, hk, hk2⟩, M', hM, hnew⟩ := ih
        rw [List.append_assoc] at hr hk hk2
        exact ⟨⟨k, hr, hk, fun _ => hk2 (by simp)⟩, M', hM, hnew⟩

/-- what is in the map stands ahead of st -/
def GoodM (b : List UInt8) (st : Nat) (M : Ent) : Prop := ∀ key p, look M (mkB key) = some p → GoodE b st key p
theorem packName_at {b : List UInt8} {M : Ent} {pos : Nat} {s : List UInt8} (hs : nameL s) (hb : Std b pos (packName (some M) pos s).1) (hM : GoodM b pos M) :
    (∃ k, NameAt b k pos s (pos + (packName (some M) pos s).1.length) ∧ k ≤ (s.drop 1).count 46) ∧ ∃ M', (packName (some M) pos s).2 = some M' ∧ GoodM b (pos + (packName (some M) pos s).1.length) M' := by
  simp only [packName] at hb ⊢
  by_cases hd : s = [46]
  · simp only [if_pos hd] at hb ⊢
    refine ⟨⟨0, ?_, by omega⟩, M, rfl, fun key p h => (hM key p h).up (by omega)⟩
    simp only [NameAt, txt, if_pos hd]
    exact .fin hb.head
  · simp only [if_neg hd] at hb ⊢
    rcases hs with hs | ⟨_, hs, _⟩
    · exact absurd hs hd
    · obtain ⟨⟨k, hr, hk, _⟩, M', hM', hnew⟩ := packGo_at b pos s [] M pos (by simpa using hs) (by simp) (Nat.le_refl _) hb (fun key p _ h => hM key p h)
      have hcount : s.count 46 = (s.drop 1).count 46 := by
        cases s with
        | nil => rfl
        | cons c cs =>
          have := nameGo_first hs
          simp only [List.getElem?_cons_zero, ne_eq, Option.some.injEq] at this
          rw [List.drop_one, List.tail_cons, List.count_cons_of_ne this]
      refine ⟨⟨k, ?_, by simpa [hcount] using hk⟩, M', hM', fun key p h => ?_⟩
      · simp only [NameAt, txt, if_neg hd]; simpa using hr
      · rcases hnew key p h with h | h
        · exact (hM key p h).up (by omega)
        · exact h
/-- a name that is written whole is read without pointers -/
theorem wireGo_at {b : List UInt8} (st : Nat) : ∀ (cs lab : List UInt8) (pos : Nat), nameGo lab.length cs = true → (∀ c ∈ lab, c ≠ 46) → Std b pos (wireGo lab cs ++ [0]) →
    NameR b st 0 pos (lab ++ cs) (pos + (wireGo lab cs).length + 1)
  | [], lab, pos, hn, _, hb => by
    have hl : lab = [] := by
      cases lab with
      | nil => rfl
      | cons x xs => simp [nameGo] at hn
    subst hl
    simp only [wireGo, List.nil_append, List.length_nil, Nat.add_zero] at hb ⊢
    exact .fin hb.head
  | c :: cs, lab, pos, hn, hlab, hb => by
    by_cases hc : c = 46
    · subst hc
      rw [nameGo, if_pos rfl] at hn
      split at hn
      · cases hn
      · rename_i hl
        have h0 : lab ≠ [] := by intro h; subst h; simp at hl
        simp only [wireGo, if_true, if_neg h0] at hb ⊢
        rw [List.append_assoc] at hb
        have ih := wireGo_at st cs [] (pos + (lab.length + 1)) (by simpa using hn) (by simp) (hb.right' (by simp))
        refine NameR.lab lab h0 (by omega) hlab hb.left.head hb.left.tail ?_
        have e1 : pos + 1 + lab.length = pos + (lab.length + 1) := by omega
        have e2 : pos + (UInt8.ofNat lab.length :: lab ++ wireGo [] cs).length + 1 = pos + (lab.length + 1) + (wireGo [] cs).length + 1 := by simp; omega
        rw [e1, e2]
        simpa using ih
    · have hn' : nameGo (lab.length + 1) cs = true := nameGo_let hn hc
      simp only [wireGo, hc, if_false] at hb ⊢
      have ih := wireGo_at st cs (lab ++ [c]) pos (by simpa using hn') (by
          intro x hx
          rcases List.mem_append.1 hx with h | h
          · exact hlab x h
          · simp at h; subst h; exact hc) hb
      rw [List.append_assoc] at ih
      exact ih
theorem wire_at {b : List UInt8} {pos : Nat} {s : List UInt8} (hs : nameL s) (hb : Std b pos (wire s)) : NameAt b 0 pos s (pos + (wire s).length) := by
  by_cases hd : s = [46]
  · subst hd
    simp only [NameAt, txt, if_true]
    exact .fin hb.head
  · rcases hs with hs | ⟨_, hs, _⟩
    · exact absurd hs hd
    · simp only [NameAt, txt, if_neg hd]
      have := wireGo_at (b := b) pos s [] pos (by simpa using hs) (by simp) hb
      simpa [wire, Nat.add_assoc] using this
end Go.Proofs.YtifnodoffgfpbaaGreatDoor
