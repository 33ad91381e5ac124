/- How names are packed, in plain Lean; conditions: none. -/
import Derived.Test.YtifnodoffgfpbaaGreatDoorMp
namespace Go.Proofs.YtifnodoffgfpbaaGreatDoor
open Go

abbrev mkB (l : List UInt8) : ByteArray := ⟨l.toArray⟩
theorem mkB_bt (s : ByteArray) : mkB (bt s) = s := rfl
theorem bt_mkB (l : List UInt8) : bt (mkB l) = l := by simp [bt]
/-- a pointer as two bytes -/
def ptrL (p : UInt16) : List UInt8 := [UInt8.ofNat ((p >>> 8) ||| 192).toNat, UInt8.ofNat p.toNat]
/-- from a place on: what is written, and what the map is then; lab: the label begun; pos: how far behind the start the message ends -/
def packGo : Option Ent → Nat → List UInt8 → List UInt8 → List UInt8 × Option Ent
  | C, _, _, [] => ([0], C)
  | C, pos, lab, c :: cs =>
    if c = 46 then ((UInt8.ofNat lab.length :: lab) ++ (packGo C (pos + (lab.length + 1)) [] cs).1, (packGo C (pos + (lab.length + 1)) [] cs).2)
    else if lab = [] then
      match C with
      | none => packGo none pos [c] cs
      | some M => match look M (mkB (c :: cs)) with
        | some p => (ptrL p, some M)
        | none => packGo (some (if pos ≤ 16383 then M ++ [(mkB (c :: cs), UInt16.ofNat pos)] else M)) pos [c] cs
    else packGo C pos (lab ++ [c]) cs
def packName (C : Option Ent) (pos : Nat) (s : List UInt8) : List UInt8 × Option Ent := if s = [46] then ([0], C) else packGo C pos [] s

theorem packGo_none : ∀ (cs lab : List UInt8) (pos : Nat), nameGo lab.length cs = true → packGo none pos lab cs = (wireGo lab cs ++ [0], none)
  | [], lab, pos, _ => by simp [packGo, wireGo]
  | c :: cs, lab, pos, h => by
    by_cases hc : c = 46
    · simp only [packGo, wireGo, hc, if_pos, nameGo] at h ⊢
      split at h
      · cases h
      · rename_i hl
        have hl' : lab ≠ [] := by intro h0; subst h0; simp at hl
        rw [packGo_none cs [] _ h, if_neg hl']
        simp
    · simp only [nameGo, hc, if_false] at h
      simp only [packGo, wireGo, hc, if_false]
      by_cases hl : lab = []
      · subst hl
        rw [if_pos rfl]
        simp only [List.nil_append]
        exact packGo_none cs [c] pos (by simpa using h)
      · rw [if_neg hl]
        exact packGo_none cs (lab ++ [c]) pos (by simpa using h)
theorem packName_none {s : ByteArray} (h : nameOk s = true) (pos : Nat) : packName none pos (bt s) = (wire (bt s), none) := by
  simp only [packName]
  by_cases hd : bt s = [46]
  · rw [if_pos hd, hd]; rfl
  · rw [if_neg hd]
    simp only [nameOk, hd, decide_false, Bool.false_or, Bool.and_eq_true] at h
    rw [packGo_none _ [] _ h.1.1]
    rfl
theorem packGo_le : ∀ (cs lab : List UInt8) (C : Option Ent) (pos : Nat), (packGo C pos lab cs).1.length ≤ lab.length + 2 * cs.length + 1
  | [], lab, C, pos => by simp [packGo]
  | c :: cs, lab, C, pos => by
    by_cases hc : c = 46
    · simp only [packGo, hc, if_pos]
      have := packGo_le cs [] C (pos + (lab.length + 1))
      simp only [List.length_append, List.length_cons, List.length_nil] at this ⊢
      omega
    · simp only [packGo, hc, if_false]
      by_cases hl : lab = []
      · subst hl
        simp only [if_true]
        cases C with
        | none =>
          have := packGo_le cs [c] none pos
          simp only [List.length_cons, List.length_nil] at this ⊢; omega
        | some M =>
          simp only []
          split
          · simp [ptrL]; omega
          · have := packGo_le cs [c] (some (if pos ≤ 16383 then M ++ [(mkB (c :: cs), UInt16.ofNat pos)] else M)) pos
            simp only [List.length_cons, List.length_nil] at this ⊢; omega
      · rw [if_neg hl]
        have := packGo_le cs (lab ++ [c]) C pos
        simp only [List.length_append, List.length_cons, List.length_nil] at this ⊢; omega
theorem packName_le (C : Option Ent) (pos : Nat) (s : List UInt8) : (packName C pos s).1.length ≤ 2 * s.length + 1 := by
  simp only [packName]
  split
  · simp
  · have := packGo_le s [] C pos
    simpa using this
theorem packGo_some : ∀ (cs lab : List UInt8) (M : Ent) (pos : Nat), ∃ M', (packGo (some M) pos lab cs).2 = some M'
  | [], lab, M, pos => ⟨M, rfl⟩
  | c :: cs, lab, M, pos => by
    by_cases hc : c = 46
    · simp only [packGo, hc, if_pos]; exact packGo_some cs [] M _
    · simp only [packGo, hc, if_false]
      by_cases hl : lab = []
      · subst hl
        simp only [if_true]
        split
        · exact ⟨M, rfl⟩
        · exact packGo_some cs [c] _ pos
      · rw [if_neg hl]; exact packGo_some cs _ M pos
/-- the map of a message, if it has one -/
def Cmp (w : World) (cm : Option Nat) (C : Option Ent) : Prop := match cm, C with
  | none, none => True
  | some b, some M => Mp w b M
  | _, _ => False
theorem Cmp.keep {S : Nat → Prop} {w w' : World} {cm : Option Nat} {C : Option Ent} (h : Cmp w cm C) (m : Fr S w w') (hn : ∀ b, cm = some b → ¬ S b) : Cmp w' cm C := by
  cases cm <;> cases C <;> simp only [Cmp] at h ⊢
  exact h.keep m (hn _ rfl)
theorem Cmp.lt {w : World} {b : Nat} {C : Option Ent} (h : Cmp w (some b) C) : b < w.heap.size := by
  cases C <;> simp only [Cmp] at h
  exact h.lt
/-- the block of a message's map, or, without one, the message's own -/
def MapB (cm : Option Nat) (g n gm : Nat) : Prop := (cm = some gm ∧ gm ≠ g ∧ gm < n) ∨ (cm = none ∧ gm = g)
theorem MapB.num {cm : Option Nat} {g n gm : Nat} (h : MapB cm g n gm) : (gm ≠ g ∧ gm < n) ∨ gm = g := h.imp (fun h => h.2) (fun h => h.2)
theorem MapB.next {cm : Option Nat} {g n gm g' n' : Nat} (h : MapB cm g n gm) (hg : g' = g ∨ n ≤ g') (hn : n ≤ n') : ∃ gm', MapB cm g' n' gm' ∧ (gm' = g' ∨ gm' = gm) := by
  rcases h with ⟨h1, h2, h3⟩ | ⟨h1, h2⟩
  · exact ⟨gm, .inl ⟨h1, by omega, by omega⟩, .inr rfl⟩
  · exact ⟨g', .inr ⟨h1, rfl⟩, .inl rfl⟩
theorem Cmp.keepB {S : Nat → Prop} {w w' : World} {cm : Option Nat} {C : Option Ent} {g n gm : Nat} (h : Cmp w cm C) (hm : MapB cm g n gm) (m : Fr S w w') (hn : gm ≠ g → ¬ S gm) : Cmp w' cm C :=
  h.keep m fun b hb => by
    rcases hm with ⟨h1, h2, h3⟩ | ⟨h1, h2⟩
    · rw [h1] at hb; simp only [Option.some.injEq] at hb; subst hb; exact hn h2
    · rw [h1] at hb; cases hb
/-- what a function gives back that appends to a message and may write into its map -/
def AppC (w : World) (g gm : Nat) (cm : Option Nat) (n : Nat) (bs out : List UInt8) (C' : Option Ent) (u : Value) (w' : World) : Prop :=
  ∃ a c g', u = .tuple #[.slice a (n + out.length) c, .nilIface] ∧ BR w' (.slice a (n + out.length) c) g' (n + out.length) (bs ++ out) ∧ Fr (fun k => k = g ∨ k = gm) w w' ∧ (g' = g ∨ w.heap.size ≤ g') ∧ g' < w'.heap.size ∧ Cmp w' cm C'

/-- a name that can be packed -/
def nameL (s : List UInt8) : Prop := s = [46] ∨ (s ≠ [46] ∧ nameGo 0 s = true ∧ 1 < s.length ∧ s.length ≤ 254)
theorem nameL_of {s : ByteArray} (h : nameOk s = true) : nameL (bt s) := by
  by_cases hd : bt s = [46]
  · exact .inl hd
  · simp only [nameOk, hd, decide_false, Bool.false_or, Bool.and_eq_true, decide_eq_true_eq] at h
    exact .inr ⟨hd, h.1.1, by rw [bt_length]; exact h.1.2, by rw [bt_length]; exact h.2⟩
theorem nameOk_size {s : ByteArray} (h : nameOk s = true) : s.size ≤ 254 := by
  rcases nameL_of h with h | h
  · have := congrArg List.length h; rw [bt_length] at this; simp at this; omega
  · have := h.2.2.2; rw [bt_length] at this; exact this
theorem nameGo_last : ∀ (s : List UInt8) (n : Nat), nameGo n s = true → (hs : 0 < s.length) → s[s.length - 1]? = some 46
  | [], n, h, hs => by simp at hs
  | [c], n, h, _ => by
    by_cases hc : c = 46
    · subst hc; rfl
    · simp [nameGo, hc] at h
  | c :: d :: cs, n, h, _ => by
    simp only [List.length_cons, Nat.add_sub_cancel]
    have : nameGo 0 (d :: cs) = true ∨ nameGo (n + 1) (d :: cs) = true := by
      rw [nameGo] at h
      split at h
      · split at h
        · cases h
        · exact .inl h
      · exact .inr h
    rw [List.getElem?_cons_succ]
    rcases this with h' | h'
    · exact nameGo_last (d :: cs) 0 h' (by simp)
    · exact nameGo_last (d :: cs) (n + 1) h' (by simp)
theorem nameGo_first {s : List UInt8} (h : nameGo 0 s = true) : s[0]? ≠ some 46 := by
  cases s with
  | nil => simp
  | cons c cs =>
    intro h0
    simp only [List.getElem?_cons_zero, Option.some.injEq] at h0
    subst h0
    simp [nameGo] at h
theorem nm_rng {w : World} {b o : Nat} {s : List UInt8} (h : w.rangeAt b o (nm s)) (hs : s.length ≤ 255) (i : Nat) : w.rangeAt b (o + i) (bvs (s.drop i)) := fun j v hv => by
  have : (bvs s)[i + j]? = some v := by simpa [bvs] using hv
  have := h (i + j) v (nm_pre s hs _ _ this)
  rw [Nat.add_assoc]; exact this
theorem name_dot {s : List UInt8} (h : nameL s) (h0 : 0 < s.length) (hc : (s[0].toNat : Int) = 46) : s = [46] := by
  rcases h with h | h
  · exact h
  · exfalso
    apply nameGo_first h.2.1
    rw [List.getElem?_eq_getElem h0]
    exact congrArg some (UInt8.toNat_inj.1 (by have : (46 : UInt8).toNat = 46 := rfl; omega))
theorem name_nodot {s : List UInt8} (h : nameL s) (h0 : 0 < s.length) (hc : ¬ (s[0].toNat : Int) = 46) : s ≠ [46] ∧ nameGo 0 s = true := by
  rcases h with h | h
  · subst h; exact absurd rfl hc
  · exact ⟨h.1, h.2.1⟩
theorem name_pos {s : List UInt8} (h : nameL s) : 0 < s.length ∧ s.length ≤ 254 := by
  rcases h with h | h
  · subst h; simp
  · omega
theorem name_last {s : List UInt8} (h : nameL s) (h0 : s.length - 1 < s.length) : s[s.length - 1] = 46 := by
  rcases h with h | h
  · subst h; rfl
  · have := nameGo_last s 0 h.2.1 (by omega)
    rw [List.getElem?_eq_getElem h0] at this
    simpa using this
theorem nameGo_dot {n : Nat} {cs : List UInt8} (h : nameGo n (46 :: cs) = true) : 1 ≤ n ∧ n ≤ 63 ∧ nameGo 0 cs = true := by
  rw [nameGo, if_pos rfl] at h
  split at h
  · cases h
  · exact ⟨by omega, by omega, h⟩
theorem nameGo_let {n : Nat} {c : UInt8} {cs : List UInt8} (h : nameGo n (c :: cs) = true) (hc : c ≠ 46) : nameGo (n + 1) cs = true := by
  rw [nameGo, if_neg hc] at h; exact h
theorem u8ne {c : UInt8} (h : ¬ (c.toNat : Int) = 46) : c ≠ 46 := by intro e; subst e; exact h rfl
theorem u8eq {c : UInt8} (h : (c.toNat : Int) = 46) : c = 46 := UInt8.toNat_inj.1 (by have : (46 : UInt8).toNat = 46 := rfl; omega)
def pkE (o : List UInt8) (r : List UInt8 × Option Ent) : List UInt8 × Option Ent := (o ++ r.1, r.2)
theorem pk_dot {C : Option Ent} {pos : Nat} {lab cs o : List UInt8} : pkE o (packGo C pos lab (46 :: cs)) = pkE (o ++ (UInt8.ofNat lab.length :: lab)) (packGo C (pos + (lab.length + 1)) [] cs) := by
  simp [packGo, pkE, List.append_assoc]
theorem pk_mid {C : Option Ent} {pos : Nat} {c : UInt8} {lab cs : List UInt8} (hc : c ≠ 46) (hl : lab ≠ []) : packGo C pos lab (c :: cs) = packGo C pos (lab ++ [c]) cs := by
  cases C <;> simp [packGo, hc, hl]
theorem pk_none {pos : Nat} {c : UInt8} {cs : List UInt8} (hc : c ≠ 46) : packGo none pos [] (c :: cs) = packGo none pos [c] cs := by
  simp [packGo, hc]
theorem pk_hit {M : Ent} {pos : Nat} {c : UInt8} {cs : List UInt8} {p : UInt16} (hc : c ≠ 46) (hl : look M (mkB (c :: cs)) = some p) : packGo (some M) pos [] (c :: cs) = (ptrL p, some M) := by
  simp [packGo, hc, hl]
theorem pk_miss {M : Ent} {pos : Nat} {c : UInt8} {cs : List UInt8} (hc : c ≠ 46) (hl : look M (mkB (c :: cs)) = none) : packGo (some M) pos [] (c :: cs) = packGo (some (if pos ≤ 16383 then M ++ [(mkB (c :: cs), UInt16.ofNat pos)] else M)) pos [c] cs := by
  simp [packGo, hc, hl]
theorem lab_get {s lab : List UInt8} {i bg j : Nat} (h : lab = (s.take i).drop bg) (h1 : bg ≤ j) (h2 : j < i) (h3 : i ≤ s.length) : lab[j - bg]? = some (s[j]'(by omega)) := by
  subst h
  rw [List.getElem?_drop, List.getElem?_take, if_pos (by omega), show bg + (j - bg) = j by omega, List.getElem?_eq_getElem (by omega)]
theorem lab_next {s lab : List UInt8} {i bg : Nat} (h : lab = (s.take i).drop bg) (h1 : bg ≤ i) (h3 : i < s.length) : lab ++ [s[i]] = (s.take (i + 1)).drop bg := by
  subst h
  rw [List.take_add_one, List.getElem?_eq_getElem h3, List.drop_append_of_le_length (by simp; omega)]
  rfl
theorem Cmp.some {w : World} {b : Nat} {C : Option Ent} (h : Cmp w (.some b) C) : ∃ M, C = .some M ∧ Mp w b M := by
  cases C <;> simp only [Cmp] at h
  exact ⟨_, rfl, h⟩
theorem Cmp.none {w : World} {C : Option Ent} (h : Cmp w .none C) : C = .none := by
  cases C <;> simp only [Cmp] at h
  rfl
theorem extr_drop (s : List UInt8) (i : Nat) : (mkB s).extract i (mkB s).size = mkB (s.drop i) := by
  apply ByteArray.ext
  simp only [ByteArray.data_extract]
  apply Array.ext'
  have : (mkB s).size = s.length := by simp [ByteArray.size]
  rw [this]
  simp only [Array.toList_extract, List.extract_eq_take_drop]
  rw [List.take_of_length_le (by simp)]
theorem drop_one {s : List UInt8} {i : Nat} (hi : i < s.length) : s.drop i = s[i] :: s.drop (i + 1) := List.drop_eq_getElem_cons hi
end Go.Proofs.YtifnodoffgfpbaaGreatDoor
