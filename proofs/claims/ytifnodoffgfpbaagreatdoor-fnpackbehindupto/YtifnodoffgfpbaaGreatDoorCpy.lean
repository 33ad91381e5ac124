/- What is copied over zeros; conditions: none. -/
import Derived.Test.YtifnodoffgfpbaaGreatDoorBits
namespace Go.Proofs.YtifnodoffgfpbaaGreatDoor
open Go

theorem fixedL_min (bs : List UInt8) (m : Nat) : fixedL bs m = bs.take (min bs.length m) ++ List.replicate (m - min bs.length m) 0 := by
  simp only [fixedL]
  rw [List.take_append]
  congr 1
  · by_cases h : bs.length ≤ m
    · rw [Nat.min_eq_left h, List.take_of_length_le (Nat.le_refl _), List.take_of_length_le h]
    · rw [Nat.min_eq_right (by omega)]
  · rw [List.take_replicate]
    congr 1
    omega
theorem splice_zero (bs : List UInt8) (m : Nat) (rest : List Value) : splice (bvs (List.replicate m 0) ++ rest) 0 (bvs (bs.take (min bs.length m))) = bvs (fixedL bs m) ++ rest := by
  rw [fixedL_min, bvs_app]
  simp only [splice, List.take_zero, List.nil_append, Nat.zero_add, List.append_assoc]
  congr 1
  have : (bvs (bs.take (min bs.length m))).length = min bs.length m := by simp [bvs]
  rw [this, List.drop_append_of_le_length (by simp [bvs]; omega)]
  congr 1
  simp only [bvs, ← List.map_drop, List.drop_replicate]
theorem rep_zero (n : Nat) : (List.replicate n (Value.int .u8 0).cells.toList).flatten = bvs (List.replicate n 0) := by
  simp only [bvs, List.map_replicate]
  induction n with
  | zero => rfl
  | succ n ih => rw [List.replicate_succ, List.flatten_cons, ih, List.replicate_succ]; rfl

section
variable {P : Program} {n : Nat} {l : List (Nat × Value)} {w : World} {ty : TypeId} {x y : Operand}
/-- what can be copied -/
def Cpy (P : Program) (w : World) (u : Value) (bs : List UInt8) : Prop :=
  (∀ w' : World, (Builtin.lenOf u).run P w' = .ok bs.length w') ∧ ∀ m, m ≤ bs.length → (Builtin.firstCells 1 m u).run P w = .ok (bvs (bs.take m)).toArray w
theorem cpy_ba {U : Nat → Prop} {u : Value} {bs : List UInt8} (h : BA U w u bs) : Cpy P w u bs := by
  obtain ⟨a, c, rfl, h⟩ := h
  refine ⟨fun _ => rfl, fun m hm => ?_⟩
  by_cases hb : bs = []
  · subst hb
    obtain rfl : m = 0 := by simpa using hm
    cases a with
    | none => exact run_firstCells_none w 1 0 _ c
    | some a => exact run_firstCells_some w 1 0 a _ c [] rfl (fun j u h => by simp at h)
  · obtain ⟨b, o, rfl, _, hr⟩ := h hb
    refine run_firstCells_some w 1 m _ _ c _ (by simp [bvs]; omega) fun j v hv => ?_
    rw [addr_add]
    refine hr j v ?_
    simp only [bvs, List.map_take] at hv ⊢
    rw [List.getElem?_take] at hv
    split at hv
    · exact hv
    · cases hv
theorem cpy_str (s : ByteArray) : Cpy P w (.string s) (bt s) := by
  refine ⟨fun w' => by rw [bt_length]; rfl, fun m hm => ?_⟩
  simp only [Builtin.firstCells, Sem.run_pure]
  congr 1
  apply Array.ext'
  simp only [bvs, bt, ByteArray.data_extract, Array.toList_map, Array.toList_extract, List.extract_eq_take_drop, List.drop_zero, Nat.sub_zero, List.map_take]
  rfl
theorem xcopyZ {T TX E : TypeId} {b m c : Nat} {rest : List Value} {bs : List UInt8} {u : Value} (hT : slcB P T E = true) (hE : szB P E 1 = true) (hx : ev n l x = some (.slice (some ⟨b, 0, none⟩) m c)) (hy : ev n l y = some u)
    (hc : Cpy P w u bs) (hb : Blk w b (bvs (List.replicate m 0) ++ rest)) :
    ExK P n l (.call { callee := .builtin .copy, args := #[x, y], argTypes := #[T, TX] }) ty w
      (fun v w' => v = .int .i64 ((min bs.length m : Nat) : Int) ∧ Fr (· = b) w w' ∧ Blk w' b (bvs (fixedL bs m) ++ rest) ∧ w'.heap.size = w.heap.size) := by
  have hl : (bvs (bs.take (min bs.length m))).length = min bs.length m := by simp [bvs]
  obtain ⟨v, w', h, h1, h2, h3, h4⟩ := xcopy (TX := TX) (ty := ty) hT hE hx hy (sn := bs.length) (news := bvs (bs.take (min bs.length m))) hc.1 hl (by exact hc.2 _ (Nat.min_le_left _ _)) (bvs_one _) hb (by rw [hl]; simp [bvs]; omega)
  refine ⟨v, w', h, ?_, h2, ?_, h4⟩
  · rw [h1, hl]
  · rw [splice_zero] at h3; exact h3
/-- the same, and the row is a row still -/
theorem xcopyR {T TX E : TypeId} {b m c e : Nat} {bs : List UInt8} {u : Value} (hT : slcB P T E = true) (hE : szB P E 1 = true) (hx : ev n l x = some (.slice (some ⟨b, 0, none⟩) m c)) (hy : ev n l y = some u)
    (hc : Cpy P w u bs) (hb : Rw w (.slice (some ⟨b, 0, none⟩) m c) b e 1 m (bvs (List.replicate m 0))) (hmc : Blk w b (bvs (List.replicate m 0))) :
    ExK P n l (.call { callee := .builtin .copy, args := #[x, y], argTypes := #[T, TX] }) ty w
      (fun _ w' => Fr (· = b) w w' ∧ Rw w' (.slice (some ⟨b, 0, none⟩) m c) b e 1 m (bvs (fixedL bs m)) ∧ w'.heap.size = w.heap.size) := by
  have hl : (bvs (bs.take (min bs.length m))).length = min bs.length m := by simp [bvs]
  have hs := szB_spec hE
  cases hi' : P.info? E with
  | none => rw [hi'] at hs; cases hs
  | some j =>
    rw [hi'] at hs
    simp only [Option.map_some, Option.some.injEq] at hs
    obtain ⟨⟨h1, h2⟩, h3, h4⟩ := hb
    rcases h2 with h2 | ⟨k, cap, cur, hv, hb0, hk, r1, r2, r3, r4⟩
    · cases h2.1
    · simp only [Value.slice.injEq, Option.some.injEq, Addr.mk.injEq, true_and] at hv
      obtain ⟨⟨rfl, _⟩, rfl⟩ := hv
      have hcur : cur.toList = bvs (List.replicate m 0) := by
        obtain ⟨T', hm⟩ := hmc
        rw [hk] at hm
        simp only [Option.some.injEq, Obj.cells.injEq] at hm
        rw [hm.1]
      have hblk : w.heap[b]? = some (.cells (bvs (List.replicate m 0)).toArray e (0, 0)) := by rw [← hcur]; simpa using hk
      have hfit : 0 + (bvs (bs.take (min bs.length m))).length ≤ (bvs (List.replicate m 0)).length := by rw [hl]; simp [bvs]; omega
      have hsets := heap_sets (bvs (bs.take (min bs.length m))) 0 hblk hfit
      have hB : Blk w b (bvs (List.replicate m 0)) := hmc
      have hst := run_storeCells_cells (P := P) b 0 (bvs (bs.take (min bs.length m))) 0 w (fun j hj => by rw [Nat.add_zero]; exact (hB.there hfit j hj).1) (fun j hj => by rw [Nat.add_zero]; exact (hB.there hfit j hj).2) (by simpa using bvs_one (bs.take (min bs.length m)))
      simp only [Nat.add_zero] at hst
      have hz := splice_zero bs m []
      simp only [List.append_nil] at hz
      rw [hz] at hsets
      refine ⟨.int .i64 ((min bs.length m : Nat) : Int), w.setCells b 0 (bvs (bs.take (min bs.length m))), fun r _ _ _ _ => ?_, hsets.2.1, ⟨⟨?_, .inr ⟨b, _, _, rfl, hb0, hsets.1, r1, r2, ?_, ?_⟩⟩, h3, bvs_one _⟩, hsets.2.2⟩
      · simp only [execOp]
        have hf := hc.2 (min bs.length m) (Nat.min_le_left _ _)
        simp [resolve, invoke, builtin, ev_eval r hx, ev_eval r hy, Builtin.copy_, run_underlying (slcB_spec hT), hc.1, sizeOf, typeInfo, hi', hs, hf, hst, goInt]
      · simp [bvs, fixedL_length]
      · have : (bvs (List.replicate m 0)).length = m := by simp [bvs]
        have h5 : cur.size = m := by rw [← Array.length_toList, hcur, this]
        rw [h5] at r3
        simp [bvs, fixedL_length, r3]
      · simp only [Nat.mul_one]
        rw [List.take_of_length_le]
        simp [bvs, fixedL_length]
/-- the literal of an array of small things -/
theorem xbuildA {T E : TypeId} {m : Nat} {ps : List (Nat × Operand)} {vs : List (Nat × Value)} {zs : List (List Value)} {sz by' : Nat} (segs : List (List Value)) (hI : Inf P T (ag zs) sz by') (hT : arrB P T m E = true) (hE : szB P E 1 = true)
    (hl : zs.map List.length = List.replicate m 1) (hp : evp n l ps = some vs) (hf : fitAll zs vs) (hc : (setAll zs vs).flatten = segs.flatten) : Ex P n l (.build T ps.toArray) ty w (ag segs) w := fun r _ _ _ _ => by
  have hs := szB_spec hE
  have hev := evp_eval r hp
  have hm : zs.length = m := by have := congrArg List.length hl; simpa using this
  obtain ⟨i, hi, hz, _, _⟩ := hI
  · cases hi' : P.info? E with
    | none => rw [hi'] at hs; cases hs
    | some j =>
      rw [hi'] at hs
      simp only [Option.map_some, Option.some.injEq] at hs
      have hplace : ∀ k, (h : k < zs.length) → (fun i => some (i * 1, 1)) k = some (offs zs k, zs[k].length) := by
        intro k hk
        have h1 : offs zs k = k := by
          rw [offs_lens hl, List.take_replicate, List.sum_replicate_nat]
          omega
        have h2 : zs[k].length = 1 := by
          have := congrArg (fun l => l[k]?) hl
          simp only [List.getElem?_map] at this
          rw [List.getElem?_eq_getElem hk, List.getElem?_replicate, if_pos (by omega)] at this
          simpa using this
        rw [h1, h2]; simp
      have hfill := fill_all (fun i => some (i * 1, 1)) vs zs hplace hf
      rw [hc] at hfill
      simp only [execOp]
      simp only [List.map_toArray]
      rw [show (List.map (fun x => (x.1, (env n l r).eval x.2)) ps) = vs from hev]
      simp only [Instr.build]
      simp at hfill
      simp [zeroValue, typeInfo, run_underlying (arrB_spec hT), hi, hz, sizeOf, hi', hs, hfill, Value.cells]
end
end Go.Proofs.YtifnodoffgfpbaaGreatDoor
