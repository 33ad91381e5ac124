/- What a walk knows of memory: blocks of cells, rows that are appended to, what a step leaves alone; conditions: none. -/
import Derived.Test.YtifnodoffgfpbaaGreatDoorStep
import Derived.Laws.IdiomCopy
import Derived.Laws.CopyRow
import Derived.Laws.AppendOwn
import Derived.Below
namespace Go.Proofs.YtifnodoffgfpbaaGreatDoor
open Go

/-- From w to w' no block that stood is turned, but those that S names. -/
structure Fr (S : Nat → Prop) (w w' : World) : Prop where
  os : w'.os = w.os
  tape : w'.tape = w.tape
  output : w'.output = w.output
  size : w.heap.size ≤ w'.heap.size
  block : ∀ k, k < w.heap.size → ¬ S k → w'.heap[k]? = w.heap[k]?

abbrev Fr0 : World → World → Prop := Fr (fun _ => False)

theorem Fr.refl (S : Nat → Prop) (w : World) : Fr S w w := ⟨rfl, rfl, rfl, Nat.le_refl _, fun _ _ _ => rfl⟩
theorem Fr.drew {S : Nat → Prop} {w w' : World} (h : Fr S w w') : Fr S w w'.drew := ⟨h.os, h.tape, h.output, h.size, h.block⟩
/-- one step more; what it may turn is new or named -/
theorem Fr.step {S S' : Nat → Prop} {a b c : World} (h : Fr S a b) (k : Fr S' b c) (hs : ∀ i, i < a.heap.size → S' i → S i) : Fr S a c :=
  ⟨k.os.trans h.os, k.tape.trans h.tape, k.output.trans h.output, Nat.le_trans h.size k.size,
    fun i hi hn => (k.block i (Nat.lt_of_lt_of_le hi h.size) (fun hS => hn (hs i hi hS))).trans (h.block i hi hn)⟩
theorem Fr.step0 {S : Nat → Prop} {a b c : World} (h : Fr S a b) (k : Fr0 b c) : Fr S a c := h.step k (fun _ _ hf => hf.elim)
theorem Fr.mono {S S' : Nat → Prop} {a b : World} (h : Fr S a b) (hs : ∀ i, i < a.heap.size → S i → S' i) : Fr S' a b :=
  ⟨h.os, h.tape, h.output, h.size, fun i hi hn => h.block i hi (fun hS => hn (hs i hi hS))⟩

/-- Block b is a row of just these cells, none of them frozen. -/
def Blk (w : World) (b : Nat) (cs : List Value) : Prop := ∃ T, w.heap[b]? = some (.cells cs.toArray T (0, 0))

section
variable {w w' : World} {b : Nat} {cs : List Value}
theorem Blk.lt (h : Blk w b cs) : b < w.heap.size := by
  obtain ⟨T, h⟩ := h
  exact (Array.getElem?_eq_some_iff.1 h).1
theorem Blk.keep {S : Nat → Prop} (h : Blk w b cs) (m : Fr S w w') (hn : ¬ S b) : Blk w' b cs := by
  have hl := h.lt
  obtain ⟨T, h⟩ := h
  exact ⟨T, (m.block b hl hn).trans h⟩
theorem Blk.keep0 (h : Blk w b cs) (m : Fr0 w w') : Blk w' b cs := h.keep m id
theorem Blk.drew (h : Blk w b cs) : Blk w.drew b cs := h
theorem Blk.cell (h : Blk w b cs) {i : Nat} {v : Value} (e : cs[i]? = some v) : w.cell? ⟨b, i, none⟩ = some v := by
  obtain ⟨T, h⟩ := h
  simp [World.cell?, h, e]
theorem Blk.frozen (h : Blk w b cs) (i : Nat) : w.frozen? ⟨b, i, none⟩ = false := by
  obtain ⟨T, h⟩ := h
  simp only [World.frozen?, h]
  simp
theorem Blk.rng (h : Blk w b cs) (i : Nat) (ds : List Value) (e : ∀ j v, ds[j]? = some v → cs[i + j]? = some v) : w.rangeAt b i ds :=
  fun j v hv => h.cell (e j v hv)
theorem Blk.rng0 (h : Blk w b cs) : w.rangeAt b 0 cs := fun j v hv => by
  have := h.cell (i := 0 + j) (v := v) (by simpa using hv)
  exact this
theorem Blk.mid {pre ds post : List Value} (h : Blk w b (pre ++ (ds ++ post))) {i : Nat} (hi : pre.length = i) : w.rangeAt b i ds :=
  h.rng i ds fun j v hv => by
    subst hi
    have hj : j < ds.length := (List.getElem?_eq_some_iff.1 hv).1
    rw [List.getElem?_append_right (by omega)]
    simp only [Nat.add_sub_cancel_left]
    rw [List.getElem?_append_left hj]
    exact hv
theorem Blk.there (h : Blk w b cs) {i n : Nat} (hn : i + n ≤ cs.length) : w.there b i n := fun j hj =>
  ⟨by rw [h.cell (i := i + j) (v := cs[i + j]) (by simp)]; rfl, h.frozen _⟩
end

theorem rng_keep {w w' : World} {b o : Nat} {cs : List Value} (h : w.rangeAt b o cs) (hb : w'.heap[b]? = w.heap[b]?) : w'.rangeAt b o cs := fun j v hv => by
  have := h j v hv
  simp only [World.cell?] at this ⊢
  rw [hb]
  exact this

theorem heap_setCell_ne (w : World) (a : Addr) (v : Value) (k : Nat) (h : k ≠ a.block) : (w.setCell a v).heap[k]? = w.heap[k]? := by
  simp only [World.setCell, Array.getElem?_modify]
  rw [if_neg (by omega)]

theorem fr_setCell (w : World) (b i : Nat) (v : Value) : Fr (· = b) w (w.setCell ⟨b, i, none⟩ v) :=
  ⟨rfl, rfl, rfl, by simp [World.setCell], fun k _ hk => heap_setCell_ne w _ v k hk⟩
theorem size_setCell (w : World) (a : Addr) (v : Value) : (w.setCell a v).heap.size = w.heap.size := by simp [World.setCell]
theorem Blk.set {w : World} {b : Nat} {cs : List Value} (h : Blk w b cs) (i : Nat) (v : Value) : Blk (w.setCell ⟨b, i, none⟩ v) b (cs.set i v) := by
  obtain ⟨T, h⟩ := h
  refine ⟨T, ?_⟩
  simp only [World.setCell, Array.getElem?_modify, h]
  simp

/-- put a list into a list -/
def splice (cs : List Value) (i : Nat) (ds : List Value) : List Value := cs.take i ++ ds ++ cs.drop (i + ds.length)
theorem splice_nil (cs : List Value) (i : Nat) : splice cs i [] = cs := by simp [splice]
theorem splice_cons (cs : List Value) (i : Nat) (v : Value) (ds : List Value) (h : i < cs.length) : splice (cs.set i v) (i + 1) ds = splice cs i (v :: ds) := by
  simp only [splice, List.length_cons]
  rw [List.take_set, List.drop_set]
  have e1 : (List.take (i + 1) cs).set i v = List.take i cs ++ [v] := by
    rw [List.take_succ_eq_append_getElem h, List.set_append_right _ _ (by rw [List.length_take]; omega)]
    simp [Nat.min_eq_left (Nat.le_of_lt h)]
  rw [e1]
  rw [if_pos (by omega)]
  have e2 : i + (ds.length + 1) = i + 1 + ds.length := by omega
  rw [e2]
  simp
theorem splice_mid (pre mid post ds : List Value) (h : ds.length = mid.length) : splice (pre ++ (mid ++ post)) pre.length ds = pre ++ (ds ++ post) := by
  simp only [splice]
  rw [List.take_left, h]
  have : List.drop (pre.length + mid.length) (pre ++ (mid ++ post)) = post := by
    rw [← List.append_assoc, ← List.length_append, List.drop_left]
  rw [this]; simp

theorem heap_set {w : World} {b : Nat} {T : TypeId} {cs : List Value} (h : w.heap[b]? = some (.cells cs.toArray T (0, 0))) (i : Nat) (v : Value) : (w.setCell ⟨b, i, none⟩ v).heap[b]? = some (.cells (cs.set i v).toArray T (0, 0)) := by
  simp only [World.setCell, Array.getElem?_modify, h]
  simp
theorem heap_sets {b : Nat} {T : TypeId} : ∀ (ds : List Value) {w : World} {cs : List Value} (i : Nat), w.heap[b]? = some (.cells cs.toArray T (0, 0)) → i + ds.length ≤ cs.length →
    (w.setCells b i ds).heap[b]? = some (.cells (splice cs i ds).toArray T (0, 0)) ∧ Fr (· = b) w (w.setCells b i ds) ∧ (w.setCells b i ds).heap.size = w.heap.size
  | [], w, cs, i, h, _ => by rw [splice_nil]; exact ⟨h, Fr.refl _ _, rfl⟩
  | v :: ds, w, cs, i, h, hi => by
    simp only [List.length_cons] at hi
    have h1 := heap_sets ds (i + 1) (heap_set h i v) (by simp; omega)
    simp only [World.setCells]
    rw [splice_cons _ _ _ _ (by omega)] at h1
    exact ⟨h1.1, (fr_setCell w b i v).step h1.2.1 (fun _ _ h => h), h1.2.2.trans (size_setCell _ _ _)⟩
theorem Blk.sets {b : Nat} (ds : List Value) {w : World} {cs : List Value} (i : Nat) (h : Blk w b cs) (hi : i + ds.length ≤ cs.length) :
    Blk (w.setCells b i ds) b (splice cs i ds) ∧ Fr (· = b) w (w.setCells b i ds) ∧ (w.setCells b i ds).heap.size = w.heap.size := by
  obtain ⟨T, h⟩ := h
  have := heap_sets ds i h hi
  exact ⟨⟨T, this.1⟩, this.2⟩

theorem fr_alloc (w : World) (o : Obj) : Fr0 w (w.alloc o) :=
  ⟨rfl, rfl, rfl, by simp, fun _ hk _ => heap_alloc_old w o hk⟩
theorem blk_alloc (w : World) (cs : List Value) (T : TypeId) : Blk (w.alloc (.cells cs.toArray T)) w.heap.size cs := ⟨T, heap_alloc_new w _⟩
theorem size_alloc (w : World) (o : Obj) : (w.alloc o).heap.size = w.heap.size + 1 := by simp

/-- ROWS THAT ARE APPENDED TO. v: the slice; g: its block (of a nil slice: any number); e: the element's type, s: its cells; n: how many elements; cs: their cells. -/
def Rw (w : World) (v : Value) (g : Nat) (e s n : Nat) (cs : List Value) : Prop :=
  w.ownsRow 0 e s v n cs ∧ (∀ k, v.ownBlock = some k → k = g) ∧ cs.all (·.oneCell') = true

section
variable {w w' : World} {v : Value} {g e s n : Nat} {cs : List Value}
theorem Rw.nil (w : World) (g e s : Nat) : Rw w (.slice none 0 0) g e s 0 [] := ⟨World.ownsRow_nil w 0 e s, fun k h => by simp [Value.ownBlock] at h, rfl⟩
theorem Rw.keep {S : Nat → Prop} (h : Rw w v g e s n cs) (m : Fr S w w') (hn : ¬ S g) : Rw w' v g e s n cs := by
  obtain ⟨⟨h1, h2⟩, h3, h4⟩ := h
  refine ⟨⟨h1, ?_⟩, h3, h4⟩
  rcases h2 with h2 | ⟨k, cap, cur, hv, hb, hk, r⟩
  · exact .inl h2
  · have hkg : k = g := h3 k (by rw [hv]; rfl)
    subst hkg
    exact .inr ⟨k, cap, cur, hv, hb, by rw [m.block k (Array.getElem?_eq_some_iff.1 hk).1 hn]; exact hk, r⟩
theorem Rw.keep0 (h : Rw w v g e s n cs) (m : Fr0 w w') : Rw w' v g e s n cs := h.keep m id
theorem Rw.lt (h : Rw w v g e s n cs) (hv : v ≠ .slice none 0 0) : g < w.heap.size := by
  obtain ⟨⟨h1, h2⟩, h3, _⟩ := h
  rcases h2 with h2 | ⟨k, cap, cur, hv', hb, hk, r⟩
  · exact absurd h2.1 hv
  · rw [← h3 k (by rw [hv']; rfl)]
    exact (Array.getElem?_eq_some_iff.1 hk).1
theorem Rw.one (h : Rw w v g e s n cs) : v.oneCell' = true := by
  rcases h.1.2 with ⟨rfl, _⟩ | ⟨k, cap, cur, rfl, _⟩ <;> rfl
theorem Rw.len (h : Rw w v g e s n cs) : cs.length = n * s := h.1.1
theorem Rw.form (h : Rw w v g e s n cs) : ∃ a c, v = .slice a n c ∧ n ≤ c ∧ c ≤ maxLen ∧ (0 < n → a = some ⟨g, 0, none⟩) ∧ (a = none ∨ a = some ⟨g, 0, none⟩) := by
  rcases h.1.2 with ⟨rfl, rfl⟩ | ⟨k, cap, cur, rfl, _, _, h5, h6, _⟩
  · exact ⟨none, 0, rfl, Nat.le_refl _, by simp, fun h => absurd h (by omega), .inl rfl⟩
  · obtain rfl := h.2.1 k rfl
    exact ⟨_, cap, rfl, h5, h6, fun _ => rfl, .inr rfl⟩
theorem Rw.rng (h : Rw w v g e s n cs) : w.rangeAt g 0 cs := fun j u hu => by
  rcases h.1.2 with ⟨rfl, rfl⟩ | ⟨k, cap, cur, rfl, _, hk, _, _, _, ht⟩
  · have := h.len
    simp at this
    subst this
    simp at hu
  · obtain rfl := h.2.1 k rfl
    rw [← ht] at hu
    rw [List.getElem?_take] at hu
    split at hu
    · simp only [World.cell?, hk]; simpa using hu
    · cases hu
/-- a nil row bears any number -/
theorem Rw.other (h : Rw w v g e s n cs) (hv : v = .slice none 0 0) (g' : Nat) : Rw w v g' e s n cs := ⟨h.1, (fun k hk => by subst hv; simp [Value.ownBlock] at hk), h.2.2⟩
end
end Go.Proofs.YtifnodoffgfpbaaGreatDoor
