/- Structs in memory, as lists of parts; names; and what is met with them; conditions: none. -/
import Derived.Test.YtifnodoffgfpbaaGreatDoorCut
namespace Go.Proofs.YtifnodoffgfpbaaGreatDoor
open Go

noncomputable abbrev PP : Program := Tryz.prog

/-- a struct's value: its parts -/
abbrev ag (segs : List (List Value)) : Value := .agg segs.flatten.toArray

/-- a name of at most 255 bytes, as its 256 cells -/
def nm (s : List UInt8) : List Value := bvs ((s ++ List.replicate 255 0).take 255) ++ [.int .u8 (s.length : Int)]
theorem nm_body (s : List UInt8) : (bvs ((s ++ List.replicate 255 0).take 255)).length = 255 := by
  simp only [bvs, List.length_map, List.length_take, List.length_append, List.length_replicate]; omega
theorem nm_length (s : List UInt8) : (nm s).length = 256 := by
  simp only [nm, List.length_append, nm_body, List.length_cons, List.length_nil]
theorem nm_one (s : List UInt8) : (nm s).all (·.oneCell') = true := by
  simp only [nm, List.all_append, bvs_one]
  rfl
theorem nm_get (s : List UInt8) {i : Nat} (h : i < s.length) (h2 : i < 255) : (nm s)[i]? = some (bv s[i]) := by
  simp only [nm]
  rw [List.getElem?_append_left (by rw [nm_body]; exact h2)]
  simp only [bvs, List.getElem?_map, List.getElem?_take, if_pos h2]
  rw [List.getElem?_append_left h, List.getElem?_eq_getElem h]
  rfl
theorem nm_last (s : List UInt8) : (nm s)[255]? = some (.int .u8 (s.length : Int)) := by
  simp only [nm]
  rw [List.getElem?_append_right (by rw [nm_body]; exact Nat.le_refl _), nm_body]
  rfl
theorem nm_pre (s : List UInt8) (h : s.length ≤ 255) (j : Nat) (v : Value) (hv : (bvs s)[j]? = some v) : (nm s)[j]? = some v := by
  have hj : j < s.length := by
    have := (List.getElem?_eq_some_iff.1 hv).1
    simpa [bvs] using this
  rw [nm_get s hj (by omega)]
  rw [← hv]
  simp [bvs, hj]

/-- A struct lies in block b from cell o on: its parts, of these lengths. -/
def SR (w : World) (b o : Nat) (lens : List Nat) (segs : List (List Value)) : Prop := w.rangeAt b o segs.flatten ∧ segs.map List.length = lens
/-- Block b is a struct of its own. -/
def SB (w : World) (b : Nat) (lens : List Nat) (segs : List (List Value)) : Prop := Blk w b segs.flatten ∧ segs.map List.length = lens

theorem offs_lens {segs : List (List Value)} {lens : List Nat} (h : segs.map List.length = lens) (i : Nat) : offs segs i = (lens.take i).sum := by
  rw [← h, offs, List.map_take]

section
variable {w w' : World} {b o : Nat} {lens : List Nat} {segs : List (List Value)}
theorem SB.r (h : SB w b lens segs) : SR w b 0 lens segs := ⟨h.1.rng0, h.2⟩
theorem SB.lt (h : SB w b lens segs) : b < w.heap.size := h.1.lt
theorem SB.keep {S : Nat → Prop} (h : SB w b lens segs) (m : Fr S w w') (hn : ¬ S b) : SB w' b lens segs := ⟨h.1.keep m hn, h.2⟩
theorem SB.keep0 (h : SB w b lens segs) (m : Fr0 w w') : SB w' b lens segs := h.keep m id
theorem SB.drew (h : SB w b lens segs) : SB w.drew b lens segs := h
theorem SR.heap (h : SR w b o lens segs) (hb : w'.heap[b]? = w.heap[b]?) : SR w' b o lens segs := ⟨rng_keep h.1 hb, h.2⟩
theorem SR.seg (h : SR w b o lens segs) {i k : Nat} {seg : List Value} (hi : segs[i]? = some seg) (hk : (lens.take i).sum = k) : w.rangeAt b (o + k) seg := by
  obtain ⟨hr, hl⟩ := h
  have hlt : i < segs.length := (List.getElem?_eq_some_iff.1 hi).1
  have he : segs[i] = seg := (List.getElem?_eq_some_iff.1 hi).2
  intro j v hv
  have hj : j < seg.length := (List.getElem?_eq_some_iff.1 hv).1
  have e : segs = segs.take i ++ (segs[i] :: segs.drop (i + 1)) := by
    rw [List.getElem_cons_drop, List.take_append_drop]
  have hko : (segs.take i).flatten.length = k := by rw [← offs_flat, offs_lens hl, hk]
  have := hr (k + j) v (by
    rw [e]
    simp only [List.flatten_append, List.flatten_cons]
    rw [List.getElem?_append_right (by omega), hko, Nat.add_sub_cancel_left, he, List.getElem?_append_left hj]
    exact hv)
  rw [Nat.add_assoc]; exact this
theorem SR.c (h : SR w b o lens segs) (i : Nat) {k : Nat} {v : Value} (hi : segs[i]? = some [v]) (hk : (lens.take i).sum = k) : w.cell? ⟨b, o + k, none⟩ = some v := by
  have := h.seg hi hk 0 v rfl
  exact this
/-- parts i to i + m -/
theorem SR.sub (h : SR w b o lens segs) (i m : Nat) {k : Nat} (hk : (lens.take i).sum = k) : SR w b (o + k) ((lens.drop i).take m) ((segs.drop i).take m) := by
  obtain ⟨hr, hl⟩ := h
  refine ⟨fun j v hv => ?_, by rw [← hl]; simp⟩
  have e : segs = segs.take i ++ ((segs.drop i).take m ++ (segs.drop i).drop m) := by
    rw [List.take_append_drop, List.take_append_drop]
  have hko : (segs.take i).flatten.length = k := by rw [← offs_flat, offs_lens hl, hk]
  have hj : j < ((segs.drop i).take m).flatten.length := (List.getElem?_eq_some_iff.1 hv).1
  have := hr (k + j) v (by
    rw [e]
    simp only [List.flatten_append]
    rw [List.getElem?_append_right (by omega), hko, Nat.add_sub_cancel_left, List.getElem?_append_left hj]
    exact hv)
  rw [Nat.add_assoc]; exact this
theorem SR.all (h : SR w b o lens segs) : w.rangeAt b o segs.flatten := h.1
theorem SR.len (h : SR w b o lens segs) : segs.flatten.length = lens.sum := by rw [List.length_flatten, h.2]
theorem SB.len (h : SB w b lens segs) : segs.flatten.length = lens.sum := by rw [List.length_flatten, h.2]
end

section
variable {P : Program} {n : Nat} {l : List (Nat × Value)} {w : World} {ty : TypeId} {x y : Operand} {v : Value}
/-- a store into a part of one cell -/
theorem xstF {T : TypeId} {b k : Nat} {lens : List Nat} {segs : List (List Value)} (i : Nat) {u : Value} (hT : szB P T 1 = true) (hb : SB w b lens segs) (hi : segs[i]? = some [u]) (hk : (lens.take i).sum = k) (hx : ev n l x = some (.pointer (some ⟨b, 0 + k, none⟩))) (hy : ev n l y = some v) (h1 : v.oneCell' = true) :
    ExUK P n l (.store T x y) ty w (fun w' => Fr (· = b) w w' ∧ SB w' b lens (segs.set i [v]) ∧ w'.heap.size = w.heap.size) := by
  have hlt : i < segs.length := (List.getElem?_eq_some_iff.1 hi).1
  have he : segs[i] = [u] := (List.getElem?_eq_some_iff.1 hi).2
  have hk' : offs segs i = k := by rw [offs_lens hb.2, hk]
  have hle := offs_le segs i hlt
  rw [he, hk'] at hle
  simp only [List.length_cons, List.length_nil] at hle
  rw [Nat.zero_add] at hx
  obtain ⟨w', h, hf, hB, hs⟩ := xst (ty := ty) hT hx hy hb.1 (by omega) h1
  refine ⟨w', h, hf, ⟨?_, ?_⟩, hs⟩
  · have := splice_flat segs i [v] hlt (by rw [he]; rfl)
    rw [hk', ← splice_cons _ _ _ _ (by omega), splice_nil] at this
    rw [← this]; exact hB
  · rw [List.map_set, ← hb.2]
    apply List.ext_getElem
    · simp
    · intro m h1 h2
      rw [List.getElem_set]
      split
      · rename_i hm; subst hm; simp [he]
      · rfl
/-- a store of a whole struct -/
theorem xstW {T : TypeId} {b : Nat} {lens lens' : List Nat} {segs segs' : List (List Value)} (hb : SB w b lens segs) (hT : szB P T lens'.sum = true) (hl' : segs'.map List.length = lens') (hsum : lens'.sum = lens.sum) (h1 : segs'.flatten.all (·.oneCell') = true) (hx : ev n l x = some (.pointer (some ⟨b, 0, none⟩))) (hy : ev n l y = some (ag segs')) :
    ExUK P n l (.store T x y) ty w (fun w' => Fr (· = b) w w' ∧ SB w' b lens' segs' ∧ w'.heap.size = w.heap.size) := by
  have hlen : segs'.flatten.length = lens'.sum := by rw [List.length_flatten, hl']
  obtain ⟨w', h, hf, hB, hs⟩ := xstR (ty := ty) (by rw [hlen]; exact hT) hx hy hb.1 (by rw [hb.len, hlen, hsum]; omega) h1
  refine ⟨w', h, hf, ⟨?_, hl'⟩, hs⟩
  have : splice segs.flatten 0 segs'.flatten = segs'.flatten := by
    simp only [splice, List.take_zero, List.nil_append, Nat.zero_add]
    rw [List.drop_of_length_le (by rw [hb.len, hlen, hsum]; exact Nat.le_refl _), List.append_nil]
  rw [this] at hB
  exact hB
/-- a store of a struct into parts i, .. -/
theorem xstS {T : TypeId} {b k : Nat} {lens lens' : List Nat} {segs segs' : List (List Value)} (i : Nat) (hb : SB w b lens segs) (hT : szB P T lens'.sum = true) (hl' : segs'.map List.length = lens') (hk : (lens.take i).sum = k) (hsub : (lens.drop i).take lens'.length = lens') (h1 : segs'.flatten.all (·.oneCell') = true) (hx : ev n l x = some (.pointer (some ⟨b, 0 + k, none⟩))) (hy : ev n l y = some (ag segs')) :
    ExUK P n l (.store T x y) ty w (fun w' => Fr (· = b) w w' ∧ SB w' b lens (segs.take i ++ (segs' ++ segs.drop (i + lens'.length))) ∧ w'.heap.size = w.heap.size) := by
  have hlen : segs'.flatten.length = lens'.sum := by rw [List.length_flatten, hl']
  have hk' : (segs.take i).flatten.length = k := by rw [← offs_flat, offs_lens hb.2, hk]
  have e : segs = segs.take i ++ ((segs.drop i).take lens'.length ++ segs.drop (i + lens'.length)) := by
    rw [← List.drop_drop, List.take_append_drop, List.take_append_drop]
  have hmid : ((segs.drop i).take lens'.length).map List.length = lens' := by
    conv => rhs; rw [← hsub]
    rw [← hb.2]; simp
  have hmidl : ((segs.drop i).take lens'.length).flatten.length = lens'.sum := by rw [List.length_flatten, hmid]
  rw [Nat.zero_add] at hx
  have hfit : k + segs'.flatten.length ≤ segs.flatten.length := by
    conv => rhs; rw [e]
    simp only [List.flatten_append, List.length_append]
    omega
  obtain ⟨w', h, hf, hB, hs⟩ := xstR (ty := ty) (by rw [hlen]; exact hT) hx hy hb.1 hfit h1
  refine ⟨w', h, hf, ⟨?_, ?_⟩, hs⟩
  · have : splice segs.flatten k segs'.flatten = (segs.take i ++ (segs' ++ segs.drop (i + lens'.length))).flatten := by
      conv => lhs; arg 1; rw [e]
      simp only [List.flatten_append]
      rw [← hk']
      exact splice_mid _ _ _ _ (by rw [hlen, hmidl])
    rw [this] at hB
    exact hB
  · rw [← hb.2]
    conv => rhs; rw [e]
    simp only [List.map_append, hl', hmid]
/-- the load of a struct -/
theorem xldS {T : TypeId} {b o : Nat} {lens : List Nat} {segs : List (List Value)} (hT : rowB P T lens.sum = true) (hx : ev n l x = some (.pointer (some ⟨b, o, none⟩))) (hr : SR w b o lens segs) : Ex P n l (.load T x) ty w (ag segs) w :=
  xldR hT hx hr.all hr.len
theorem ldS {T : TypeId} {b o : Nat} {lens : List Nat} {segs : List (List Value)} (hT : rowB P T lens.sum = true) (hr : SR w b o lens segs) : (loadVar T ⟨b, o, none⟩).run P w = .ok (ag segs) w :=
  ld_row (by rw [hr.len]; exact hT) hr.all
/-- a new block that is a struct -/
theorem xboxS {T : TypeId} {lens : List Nat} {segs : List (List Value)} (hx : ev n l x = some (ag segs)) (hl : segs.map List.length = lens) :
    ExK P n l (.box T x) ty w (fun u w' => ∃ b, u = .pointer (some ⟨b, 0, none⟩) ∧ Fr0 w w' ∧ SB w' b lens segs ∧ b = w.heap.size ∧ w'.heap.size = w.heap.size + 1) := by
  obtain ⟨u, w', h, b, h1, h2, h3, h4⟩ := xbox (P := P) (w := w) (ty := ty) (T := T) hx (cs := segs.flatten) rfl
  exact ⟨u, w', h, b, h1, h2, ⟨h3, hl⟩, h4⟩
theorem xboxV {T : TypeId} (hx : ev n l x = some v) (h1 : v.oneCell' = true) :
    ExK P n l (.box T x) ty w (fun u w' => ∃ b, u = .pointer (some ⟨b, 0, none⟩) ∧ Fr0 w w' ∧ SB w' b [1] [[v]] ∧ b = w.heap.size ∧ w'.heap.size = w.heap.size + 1) := by
  have hc : v.cells = [v].toArray := by cases v <;> first | rfl | cases h1
  obtain ⟨u, w', h, b, h1, h2, h3, h4⟩ := xbox (P := P) (w := w) (ty := ty) (T := T) hx (cs := [v]) hc
  exact ⟨u, w', h, b, h1, h2, ⟨h3, rfl⟩, h4⟩
theorem xallV {T : TypeId} {z : Value} {sz by' : Nat} (hT : Inf P T z sz by') (h1 : z.oneCell' = true) :
    ExK P n l (.alloc T) ty w (fun u w' => ∃ b, u = .pointer (some ⟨b, 0, none⟩) ∧ Fr0 w w' ∧ SB w' b [1] [[z]] ∧ b = w.heap.size ∧ w'.heap.size = w.heap.size + 1) := by
  have hc : z.cells = [z].toArray := by cases z <;> first | rfl | cases h1
  obtain ⟨u, w', h, b, h1, h2, h3, h4⟩ := xalloc (P := P) (w := w) (ty := ty) (n := n) (l := l) hT (cs := [z]) hc
  exact ⟨u, w', h, b, h1, h2, ⟨h3, rfl⟩, h4⟩
theorem xallS {T : TypeId} {sz by' : Nat} {lens : List Nat} {segs : List (List Value)} (hT : Inf P T (ag segs) sz by') (hl : segs.map List.length = lens) :
    ExK P n l (.alloc T) ty w (fun u w' => ∃ b, u = .pointer (some ⟨b, 0, none⟩) ∧ Fr0 w w' ∧ SB w' b lens segs ∧ b = w.heap.size ∧ w'.heap.size = w.heap.size + 1) := by
  obtain ⟨u, w', h, b, h1, h2, h3, h4⟩ := xalloc (P := P) (w := w) (ty := ty) (n := n) (l := l) hT (cs := segs.flatten) rfl
  exact ⟨u, w', h, b, h1, h2, ⟨h3, hl⟩, h4⟩
end

section
variable {P : Program} {n : Nat} {l : List (Nat × Value)} {w : World} {ty : TypeId}
/-- the literal of a struct, its parts told -/
theorem xbuildS {T : TypeId} {ps : List (Nat × Operand)} {vs : List (Nat × Value)} {zs : List (List Value)} (segs : List (List Value)) (hz : (P.info? T).map (·.zero) = some (some (.agg zs.flatten.toArray))) (hl : layB P T (zs.map List.length) = true)
    (hp : evp n l ps = some vs) (hf : fitAll zs vs) (hc : (setAll zs vs).flatten = segs.flatten) : Ex P n l (.build T ps.toArray) ty w (ag segs) w := xbuild _ hz hl hp hf hc
end
section
variable {P : Program} {n : Nat} {l : List (Nat × Value)} {w : World} {ty : TypeId} {x y : Operand}
theorem xidx1 {T E : TypeId} {k : IntKind} {i b o m c : Nat} (hT : slcB P T E = true) (hE : szB P E 1 = true) (hx : ev n l x = some (.slice (some ⟨b, o, none⟩) m c)) {j : Int} (hy : ev n l y = some (.int k j)) (hj : j = (i : Int)) (hi : i < m) :
    Ex P n l (.indexAddr T x y) ty w (.pointer (some ⟨b, o + i, none⟩)) w := by
  have := xidx (w := w) (ty := ty) hT hE hx hy hj hi
  rwa [Nat.mul_one] at this
theorem xidxA1 {T E : TypeId} {k : IntKind} {i b o m : Nat} (hT : arrB P T m E = true) (hE : szB P E 1 = true) (hx : ev n l x = some (.pointer (some ⟨b, o, none⟩))) {j : Int} (hy : ev n l y = some (.int k j)) (hj : j = (i : Int)) (hi : i < m) :
    Ex P n l (.indexAddr T x y) ty w (.pointer (some ⟨b, o + i, none⟩)) w := by
  have := xidxA (w := w) (ty := ty) hT hE hx hy hj hi
  rwa [Nat.mul_one] at this
end
theorem rng_fr {S : Nat → Prop} {w w' : World} {b o : Nat} {cs : List Value} (h : w.rangeAt b o cs) (m : Fr S w w') (hb : b < w.heap.size) (hn : ¬ S b) : w'.rangeAt b o cs := rng_keep h (m.block b hb hn)
/-- two lists side by side -/
def All2 {α β : Type} (R : α → β → Prop) (l : List α) (r : List β) : Prop := l.length = r.length ∧ ∀ (i : Nat) a b, l[i]? = some a → r[i]? = some b → R a b
theorem All2.get {α β : Type} {R : α → β → Prop} {l : List α} {r : List β} (h : All2 R l r) {k : Nat} (hk : k < r.length) : ∃ a b, l[k]? = some a ∧ r[k]? = some b ∧ R a b := by
  have hk' : k < l.length := by rw [h.1]; exact hk
  exact ⟨l[k], r[k], List.getElem?_eq_getElem hk', List.getElem?_eq_getElem hk, h.2 k _ _ (List.getElem?_eq_getElem hk') (List.getElem?_eq_getElem hk)⟩
theorem All2.nil {α β : Type} {R : α → β → Prop} : All2 R ([] : List α) ([] : List β) := ⟨rfl, fun i a b h => by simp at h⟩
theorem All2.cons {α β : Type} {R : α → β → Prop} {a : α} {b : β} {l : List α} {r : List β} (h : R a b) (t : All2 R l r) : All2 R (a :: l) (b :: r) :=
  ⟨by simp [t.1], fun i x y hx hy => by
    cases i with
    | zero => simp at hx hy; subst hx; subst hy; exact h
    | succ i => simp at hx hy; exact t.2 i x y hx hy⟩
theorem All2.imp {α β : Type} {R R' : α → β → Prop} {l : List α} {r : List β} (h : All2 R l r) (hi : ∀ a b, R a b → R' a b) : All2 R' l r := ⟨h.1, fun i a b ha hb => hi a b (h.2 i a b ha hb)⟩
theorem All2.snoc {α β : Type} {R : α → β → Prop} {a : α} {b : β} {l : List α} {r : List β} (t : All2 R l r) (h : R a b) : All2 R (l ++ [a]) (r ++ [b]) :=
  ⟨by simp [t.1], fun i x y hx hy => by
    by_cases hi : i < l.length
    · rw [List.getElem?_append_left hi] at hx
      rw [List.getElem?_append_left (by rw [← t.1]; exact hi)] at hy
      exact t.2 i x y hx hy
    · rw [List.getElem?_append_right (by omega)] at hx
      rw [List.getElem?_append_right (by rw [← t.1]; omega)] at hy
      rw [← t.1] at hy
      cases hk : i - l.length with
      | zero => rw [hk] at hx hy; simp at hx hy; subst hx; subst hy; exact h
      | succ k => rw [hk] at hx; simp at hx⟩
theorem take_snoc {α : Type} {l : List α} {k : Nat} {a : α} (h : l[k]? = some a) : l.take (k + 1) = l.take k ++ [a] := by
  rw [List.take_add_one, h]; rfl
theorem flat_take_le {α : Type} {l : List (List α)} {k : Nat} {a : List α} (h : l[k]? = some a) : (l.take k).flatten.length + a.length ≤ l.flatten.length := by
  have e : l = l.take (k + 1) ++ l.drop (k + 1) := (List.take_append_drop _ _).symm
  conv => rhs; rw [e]
  rw [take_snoc h]
  simp only [List.flatten_append, List.length_append, List.flatten_cons, List.flatten_nil, List.length_nil]
  omega
theorem SR.keep {S : Nat → Prop} {w w' : World} {b o : Nat} {lens : List Nat} {segs : List (List Value)} (h : SR w b o lens segs) (m : Fr S w w') (hb : b < w.heap.size) (hn : ¬ S b) : SR w' b o lens segs := h.heap (m.block b hb hn)
theorem mixed : PP.follows .mixedOrders = true := by kernel_rfl

/-! ### tests whose outcome is told -/
section
variable {P : Program} {ops : Array Oper} {Q : Exit → Act → World → Prop} {n : Nat} {l : List (Nat × Value)} {r : Nat → Value} {w w' : World}
  {op : Op} {ty : TypeId} {pos : String} {af : Array Edge} {d i : Nat} {p : Prop} [Decidable p]
theorem exT (h : Ex P n l op ty w (.bool (decide p)) w') (hp : p) : Ex P n l op ty w (.bool true) w' := by rw [← decide_eq_true hp]; exact h
theorem exF (h : Ex P n l op ty w (.bool (decide p)) w') (hp : ¬ p) : Ex P n l op ty w (.bool false) w' := by rw [← decide_eq_false hp]; exact h
theorem svP {rest : List Oper} (h : Ex P n l op ty w (.bool (decide p)) w') (k1 : p → WL P ops Q rest (env n ((d, .bool true) :: l) r) w') (k2 : ¬ p → WL P ops Q rest (env n ((d, .bool false) :: l) r) w') :
    WL P ops Q (⟨some d, op, ty, pos, af, none⟩ :: rest) (env n l r) w := by
  by_cases hp : p
  · exact sv (exT h hp) (k1 hp)
  · exact sv (exF h hp) (k2 hp)
theorem hvP {S : World → Prop} {rest : List (Nat × Kd)} (ho : ops[i]? = some ⟨some d, op, ty, pos, af, none⟩) (h : ∀ w, S w → Ex P n l op ty w (.bool (decide p)) w) (hS : S w)
    (k1 : p → runH P ops Q S rest (env n ((d, .bool true) :: l) r) w) (k2 : ¬ p → runH P ops Q S rest (env n ((d, .bool false) :: l) r) w) : runH P ops Q S ((i, .rd) :: rest) (env n l r) w := by
  by_cases hp : p
  · exact hv ho (fun w hw => exT (h w hw) hp) hS (k1 hp)
  · exact hv ho (fun w hw => exF (h w hw) hp) hS (k2 hp)
end
end Go.Proofs.YtifnodoffgfpbaaGreatDoor
