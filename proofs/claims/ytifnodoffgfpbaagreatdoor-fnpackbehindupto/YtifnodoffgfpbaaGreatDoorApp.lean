/- What append, a slice's literal, a struct's literal, a cut and a copy give; conditions: none. -/
import Derived.Test.YtifnodoffgfpbaaGreatDoorOps
namespace Go.Proofs.YtifnodoffgfpbaaGreatDoor
open Go

theorem next_fits {m k cap bytes : Nat} (hg : cap < m + k) (hb : (m + k) * bytes ≤ 140737488355328) : Builtin.nextslicecap (m + k) cap * bytes ≤ 281474976710656 := growslice_fits hg hb

/-- APPEND TO A ROW. -/
theorem run_app {P : Program} {w : World} {T TX ty E : TypeId} {z : Value} {size bytes : Nat} (hT : slcB P T E = true) (hI : Inf P E z size bytes) (hz : z.cells.size = size) (hsz : 0 < size)
    {v u : Value} {g m k : Nat} {cs news : List Value} (hR : Rw w v g E size m cs) (hs : Src P size TX u k news w) (hm : m + k ≤ maxLen) (hb : (m + k) * bytes ≤ 140737488355328) :
    ∃ v' w', (Builtin.append_ #[T, TX] ty #[v, u]).run P w = .ok v' w' ∧ ∃ g', Rw w' v' g' E size (m + k) (cs ++ news) ∧ Fr (· = g) w w' ∧ (g' = g ∨ w.heap.size ≤ g') ∧ (g < w.heap.size ∨ 0 < m + k → g' < w'.heap.size) := by
  obtain ⟨i, hi, hiz, rfl, rfl⟩ := hI
  have hu := slcB_spec hT
  have h63 : ((m + k : Nat) : Int) ≤ 9223372036854775807 := by simp only [maxLen] at hm; omega
  have hlen : (cs ++ news).length = (m + k) * i.size := by rw [List.length_append, hR.len, hs.newsLen, Nat.add_mul]
  have hone : (cs ++ news).all (·.oneCell') = true := by
    rw [List.all_append, hR.2.2, Bool.true_and, List.all_eq_true]
    exact fun u hu => hs.one u hu
  have grown : ∀ (old : Nat), old < m + k → ∃ g', Rw (w.drew.alloc (.cells ((cs ++ news).toArray ++ Builtin.zeroCells z.cells (grownCap w (m + k) old E - (m + k))) E)) (.slice (some ⟨w.heap.size, 0, none⟩) (m + k) (grownCap w (m + k) old E)) g' E i.size (m + k) (cs ++ news) ∧
      Fr (· = g) w (w.drew.alloc (.cells ((cs ++ news).toArray ++ Builtin.zeroCells z.cells (grownCap w (m + k) old E - (m + k))) E)) ∧ (g' = g ∨ w.heap.size ≤ g') ∧
      (g < w.heap.size ∨ 0 < m + k → g' < (w.drew.alloc (.cells ((cs ++ news).toArray ++ Builtin.zeroCells z.cells (grownCap w (m + k) old E - (m + k))) E)).heap.size) := by
    intro old ho
    have hge := grownCap_ge w (m + k) old E
    have hcm : grownCap w (m + k) old E ≤ maxLen := grownCap_le_maxLen w (m + k) old E hm
    refine ⟨w.heap.size, ⟨⟨hlen, .inr ⟨w.heap.size, _, _, rfl, Nat.zero_le _, heap_alloc_new w.drew _, hge, hcm, ?_, ?_⟩⟩, (fun k hk => by simp only [Value.ownBlock, Option.some.injEq] at hk; exact hk.symm), hone⟩, ?_, .inr (Nat.le_refl _), fun _ => by simp⟩
    · simp only [Array.size_append, List.size_toArray, size_zeroCells, hz, hlen]
      rw [← Nat.add_mul]
      congr 1
      omega
    · simp only [Array.toList_append]
      rw [← hlen]
      exact List.take_left
    · exact ((Fr.refl (· = g) w).drew).step0 (fr_alloc w.drew _)
  rcases hR.1.2 with ⟨rfl, rfl⟩ | ⟨g1, cap, cur, rfl, _, hg1, hnc, hcm, hcs, htake⟩
  · have hx : cs = [] := List.eq_nil_of_length_eq_zero (by simpa using hR.len)
    subst hx
    by_cases hk : k = 0
    · subst hk
      have hn : news = [] := List.eq_nil_of_length_eq_zero (by simpa using hs.newsLen)
      subst hn
      refine ⟨.slice none 0 0, w, ?_, g, Rw.nil w g E i.size, Fr.refl _ _, .inl rfl, fun h => h.elim id (fun h => absurd h (by omega))⟩
      rcases hs.kind with ⟨e', hk⟩ | hk <;> simp [Builtin.append_, run_underlying hu, run_underlying hk, sizeOf, typeInfo, hi, hs.len, hs.cells]
    · have hold : (Builtin.firstCells i.size 0 (.slice none 0 0)).run P w.drew = .ok ([] : List Value).toArray w.drew := run_firstCells_none w.drew i.size 0 0 0
      have hr := run_append_grow_src (P := P) w T TX ty E i z hu hi hiz none 0 0 [] hold u k news hs (by omega) h63 (growslice_fits (by omega) hb)
      obtain ⟨g', hg'⟩ := grown 0 (by omega)
      simp only [Nat.zero_add, List.nil_append] at hr hg' ⊢
      exact ⟨_, _, hr, g', hg'⟩
  · obtain rfl := hR.2.1 g1 rfl
    by_cases hroom : m + k ≤ cap
    · have hblk : w.heap[g1]? = some (.cells cur.toList.toArray E (0, 0)) := by simpa using hg1
      have hfit : m * i.size + news.length ≤ cur.toList.length := by rw [hs.newsLen, Array.length_toList, hcs, ← Nat.add_mul]; exact Nat.mul_le_mul_right _ hroom
      have hsets := heap_sets news (m * i.size) hblk hfit
      have hB : Blk w g1 cur.toList := ⟨E, hblk⟩
      have hr := run_append_room_src (P := P) w T TX ty E i hu hi g1 0 m cap u k news hs hroom
        (fun j hj => by rw [show 0 + m * i.size + j = m * i.size + j by omega]; exact (hB.there (i := m * i.size) (n := news.length) hfit j hj).1)
        (fun j _ => hB.frozen _)
      rw [Nat.zero_add] at hr
      refine ⟨_, _, hr, g1, ⟨⟨hlen, .inr ⟨g1, cap, _, rfl, Nat.zero_le _, hsets.1, hroom, hcm, ?_, ?_⟩⟩, (fun k hk => by simp only [Value.ownBlock, Option.some.injEq] at hk; exact hk.symm), hone⟩, hsets.2.1, .inl rfl, fun _ => ?_⟩
      · simp only [splice, List.size_toArray, List.length_append, List.length_take, List.length_drop, Array.length_toList] at hfit ⊢
        omega
      · simp only [splice]
        rw [htake, ← hlen]
        exact List.take_left
      · rw [hsets.2.2]; exact (Array.getElem?_eq_some_iff.1 hg1).1
    · have hold : (Builtin.firstCells i.size m (.slice (some ⟨g1, 0, none⟩) m cap)).run P w.drew = .ok cs.toArray w.drew :=
        run_firstCells_some w.drew i.size m ⟨g1, 0, none⟩ m cap cs hR.len fun j u hu => by
          rw [addr_add]
          exact hR.rng j u hu
      have hr := run_append_grow_src (P := P) w T TX ty E i z hu hi hiz (some ⟨g1, 0, none⟩) m cap cs hold u k news hs (by omega) h63 (growslice_fits (by omega) hb)
      obtain ⟨g', hg'⟩ := grown cap (by omega)
      exact ⟨_, _, hr, g', hg'⟩

/-- what is appended: bytes or cells that lie somewhere -/
theorem src_rng {P : Program} {w : World} {T E : TypeId} {size b o m c : Nat} {cs : List Value} (hT : slcB P T E = true) (hl : cs.length = m * size) (hr : w.rangeAt b o cs) (h1 : cs.all (·.oneCell') = true) : Src P size T (.slice (some ⟨b, o, none⟩) m c) m cs w :=
  Src.ofSlice w (slcB_spec hT) _ _ _ _ hl (fun j u h => by rw [addr_add]; exact hr j u h) (fun u hu => List.all_eq_true.1 h1 u hu)
theorem Rw.src {P : Program} {w : World} {T E e size m g : Nat} {v : Value} {cs : List Value} (h : Rw w v g e size m cs) (hT : slcB P T E = true) : Src P size T v m cs w := by
  obtain ⟨a, c, rfl, _, _, h5, h6⟩ := h.form
  rcases h6 with rfl | rfl
  · have hm : m = 0 := by
      cases m with
      | zero => rfl
      | succ m => exact absurd (h5 (by omega)) (by simp)
    subst hm
    have : cs = [] := List.eq_nil_of_length_eq_zero (by simpa using h.len)
    subst this
    exact Src.ofNil w (slcB_spec hT) c
  · exact src_rng hT h.len h.rng h.2.2

section
variable {P : Program} {n : Nat} {l : List (Nat × Value)} {w : World} {ty : TypeId} {x y : Operand} {v : Value}
theorem xapp {T TX E : TypeId} {z : Value} {size bytes : Nat} (hT : slcB P T E = true) (hI : Inf P E z size bytes) (hz : z.cells.size = size) (hsz : 0 < size)
    {u : Value} {g m k : Nat} {cs news : List Value} (hx : ev n l x = some v) (hy : ev n l y = some u) (hR : Rw w v g E size m cs) (hs : Src P size TX u k news w) (hm : m + k ≤ maxLen) (hb : (m + k) * bytes ≤ 140737488355328) :
    ExK P n l (.call { callee := .builtin .append, args := #[x, y], argTypes := #[T, TX] }) ty w
      (fun v' w' => ∃ g', Rw w' v' g' E size (m + k) (cs ++ news) ∧ Fr (· = g) w w' ∧ (g' = g ∨ w.heap.size ≤ g') ∧ (g < w.heap.size ∨ 0 < m + k → g' < w'.heap.size)) := by
  obtain ⟨v', w', hr, hh⟩ := run_app (ty := ty) hT hI hz hsz hR hs hm hb
  refine ⟨v', w', fun r _ _ _ _ => ?_, hh⟩
  simp only [execOp]
  simp [resolve, invoke, builtin, ev_eval r hx, ev_eval r hy, hr]
end
end Go.Proofs.YtifnodoffgfpbaaGreatDoor
