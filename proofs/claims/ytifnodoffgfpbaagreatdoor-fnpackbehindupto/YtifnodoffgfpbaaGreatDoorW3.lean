/- Walks: how the reference writes bodies. Conditions: none. -/
import Derived.Test.YtifnodoffgfpbaaGreatDoorW2
import Derived.Test.YtifnodoffgfpbaaGreatDoorCpy
namespace Go.Proofs.YtifnodoffgfpbaaGreatDoor
open Go

theorem pairs_snoc {ps : List PairD} {k : Nat} {p : PairD} (h : ps[k]? = some p) : pairsL (ps.take (k + 1)) = pairsL (ps.take k) ++ pairL p := by
  rw [take_snoc h]; simp [pairsL]
theorem sum_take_le {α : Type} {f : α → Nat} {l : List α} {k : Nat} {a : α} (h : l[k]? = some a) : ((l.take k).map f).sum + f a ≤ (l.map f).sum := by
  have e : l = l.take (k + 1) ++ l.drop (k + 1) := (List.take_append_drop _ _).symm
  conv => rhs; rw [e]
  rw [take_snoc h]
  simp only [List.map_append, List.sum_append, List.map_cons, List.map_nil, List.sum_cons, List.sum_nil]
  omega
theorem pairsL_length (ps : List PairD) : (pairsL ps).length = 4 * ps.length + (ps.map (·.data.length)).sum := by
  induction ps with
  | nil => rfl
  | cons p ps ih =>
    simp only [pairsL, List.map_cons, List.flatten_cons, List.length_append, pairL, be16_length, List.length_cons, List.sum_cons] at ih ⊢
    omega
theorem textsL_length (ss : List ByteArray) : (textsL ss).length = ss.length + (ss.map (·.size)).sum := by
  induction ss with
  | nil => rfl
  | cons p ps ih =>
    simp only [textsL, List.map_cons, List.flatten_cons, List.length_append, textL, List.length_cons, List.sum_cons, bt_length] at ih ⊢
    omega
theorem texts_snoc {ps : List ByteArray} {k : Nat} {p : ByteArray} (h : ps[k]? = some p) : textsL (ps.take (k + 1)) = textsL (ps.take k) ++ textL p := by
  rw [take_snoc h]; simp [textsL]
theorem some_of_lt {α : Type} {l : List α} {k : Nat} (h : k < l.length) : ∃ x, l[k]? = some x := ⟨_, List.getElem?_eq_getElem h⟩
theorem counts_snoc {cs : List Nat} {k : Nat} {c : Nat} (h : cs[k]? = some c) : ((cs.take (k + 1)).map be16).flatten = ((cs.take k).map be16).flatten ++ be16 c := by
  rw [take_snoc h]; simp
theorem counts_length (cs : List Nat) : ((cs.map be16).flatten).length = 2 * cs.length := by
  induction cs with
  | nil => rfl
  | cons c cs ih => simp only [List.map_cons, List.flatten_cons, List.length_append, be16_length, List.length_cons, ih]; omega

set_option maxRecDepth 100000 in
theorem c146 {w : World} {U : Nat → Prop} (hU : ∀ k, U k → k < w.heap.size) {v : Value} {bs : List UInt8} (hd : BA U w v bs) {n : Nat} (hn : n ≤ 100) (h0 : 0 < n) :
    Ret PP 146 [v, .int .i64 (n : Int)] w (New w n (fixedL bs n)) := by
  have hf : Fr (fun _ => False) w w := Fr.refl _ _
  refine ret_of Tryz.func146 rfl rfl rfl [(0, _), (1, _)] rfl ?_
  refine sreg ?_
  refine sv (xassign rfl) ?_
  refine send ?_
  refine forget_wp [(0, _), (1, _)] ⟨rfl, rfl, trivial⟩ fun _ => ?_
  refine sreg ?_
  refine sv (xmove rfl) ?_
  refine svK (xmake sl37 in5 rfl (by decide) rfl rfl rfl rfl (by omega) (by omega) (by simp only [maxLen]; omega) rfl) ?_
  rintro _ w1 ⟨b7, rfl, m2, h7, e7, s7, r7⟩
  have hd := hd.keep (fun k hk => by have hk := hU k hk; omega) m2 (fun _ _ h => h)
  have hf := hf.step0 m2
  rw [rep_zero] at h7 r7
  refine sv (xassign rfl) ?_
  refine send ?_
  refine forget_wp [(0, _), (5, _)] ⟨rfl, rfl, trivial⟩ fun _ => ?_
  refine sreg ?_
  refine sv (xmove rfl) ?_
  refine sv (xmove rfl) ?_
  refine svK (xcopyR sl37 sz5 rfl rfl (cpy_ba hd) r7 h7) ?_
  rintro _ w3 ⟨m4, r7, s10⟩
  have hd := hd.keep (fun k hk => by have hk := hU k hk; omega) m4 (fun k hk hS => by have hk := hU k hk; have hS : k = b7 := hS; omega)
  have hf := hf.step m4 (fun k hk hS => by have hS : k = b7 := hS; show False; omega)
  refine send ?_
  refine forget_wp [(5, _)] ⟨rfl, trivial⟩ fun _ => ?_
  refine sreg ?_
  refine sv (xmove rfl) ?_
  refine sv (xassign rfl) ?_
  refine send ?_
  refine forget_wp [(4, _)] ⟨rfl, trivial⟩ fun _ => ?_
  refine wp_ret ?_
  refine rp1 rfl rfl ?_
  exact ⟨_, _, _, rfl, r7, hf, by omega, by omega⟩
set_option maxRecDepth 100000 in
theorem c147 {w : World} {U : Nat → Prop} (hU : ∀ k, U k → k < w.heap.size) {v : Value} {ps : List PairD} (hp : LA PairEl lPair U w v ps) (hn : ps.length ≤ 1048576) (hs : (ps.map (·.data.length)).sum ≤ 1048576) :
    Ret PP 147 [v] w (fun u w' => New w (pairsL ps).length (pairsL ps) u w') := by
  obtain ⟨a0, c0, rfl⟩ := hp.form
  have hf : Fr (fun _ => False) w w := Fr.refl _ _
  refine ret_of Tryz.func147 rfl rfl rfl [(0, _)] rfl ?_
  refine sreg ?_
  refine sv (xassign rfl) ?_
  refine send ?_
  refine forget_wp [(0, _)] ⟨rfl, trivial⟩ fun _ => ?_
  refine sreg ?_
  refine svK (xslit (bvs []) sl37 in5 rfl (by decide) rfl rfl rfl rfl (by decide) rfl (bvs_one _)) ?_
  rintro _ w2 ⟨b6, rfl, m3, h6, e6, s6, r6⟩
  have hp := hp.keep pair_st (fun k hk => by have hk := hU k hk; omega) m3 (fun _ _ h => h)
  have hf := hf.step0 m3
  refine sv (xassign rfl) ?_
  refine send ?_
  refine forget_wp [(0, _), (3, _)] ⟨rfl, rfl, trivial⟩ fun _ => ?_
  refine wp_seq ?_
  refine sreg ?_
  refine sv (xmove rfl) ?_
  refine sv (xlen sl63 rfl) ?_
  refine sv (xmove rfl) ?_
  refine send ?_
  refine forget_wp [(3, _), (7, _), (8, _), (9, _)] ⟨rfl, rfl, rfl, rfl, trivial⟩ fun _ => ?_
  refine wp_block ?_
  refine lp [(7, _), (8, _)] (fun (x : Nat × Value × Nat) => match x with | (k, v, g) => [(3, v), (9, .int .i64 (k : Int))]) (fun (x : Nat × Value × Nat) wx => match x with | (k, v, g) => Fr (fun k => k = b6) w2 wx ∧ (k ≤ ps.length) ∧ (BR wx v g (pairsL (ps.take k)).length (pairsL (ps.take k))) ∧ (w.heap.size ≤ g) ∧ (g < wx.heap.size)) (fun (x : Nat × Value × Nat) => match x with | (k, v, g) => ps.length - k) (0, _, b6) ⟨rfl, rfl, rfl, rfl, trivial⟩ ⟨Fr.refl _ _, Nat.zero_le _, r6, (by omega), (by omega)⟩ ?_
  rintro ⟨k, v, g⟩ _ w5 ⟨hL4, hk, hv3, hg, hg2⟩
  refine forget_wp [(3, _), (7, _), (8, _), (9, _)] ⟨rfl, rfl, rfl, rfl, trivial⟩ fun _ => ?_
  have z6 := hL4.size
  have hp := hp.keep pair_st (fun k hk => by have hk := hU k hk; omega) hL4 (fun k hk hS => by have hk := hU k hk; have hS : k = b6 := hS; omega)
  have hf := hf.step hL4 (fun k hk hS => by have hS : k = b6 := hS; show False; omega)
  obtain ⟨a3, c3, rfl, -⟩ := hv3.form
  refine sreg ?_
  refine svP (xlss rfl rfl) (fun hc10 => ?_) (fun hc10 => ?_)
  · skip
    refine send ?_
    refine forget_wp [(3, _), (7, _), (8, _), (9, _), (10, _)] ⟨rfl, rfl, rfl, rfl, rfl, trivial⟩ fun _ => ?_
    refine wp_seq ?_
    refine cyes rfl ?_
    refine wp_skip ?_
    refine nThen ?_
    refine forget_wp [(3, _), (7, _), (8, _), (9, _)] ⟨rfl, rfl, rfl, rfl, trivial⟩ fun _ => ?_
    refine wp_seq ?_
    refine wp_block ?_
    obtain ⟨p, hpk⟩ := some_of_lt (by omega : k < ps.length)
    have hsk := sum_take_le (f := fun p : PairD => p.data.length) hpk
    refine sreg ?_
    obtain ⟨bE11, oE11, sgE11, rfl, uE11, hsE11, heE11⟩ := LA.get hp hpk
    obtain ⟨vd, rfl, hd⟩ := heE11
    have zE11 := hU _ uE11
    obtain ⟨ad, cd, rfl, -⟩ := id hd
    refine sv (xidx sl63 sz67 rfl rfl rfl (by omega)) ?_
    refine sv (xldS (lens := [1, 1]) ro67 rfl hsE11) ?_
    refine svK (xallS (lens := [1, 1]) in67 rfl) ?_
    rintro _ w8 ⟨b5, rfl, m9, h5, e7, s7⟩
    have hp := hp.keep pair_st (fun k hk => by have hk := hU k hk; omega) m9 (fun _ _ h => h)
    have hf := hf.step0 m9
    have hv3 := hv3.keep m9 (fun h => h)
    have hL4 := hL4.step0 m9
    have hsE11 := hsE11.keep m9 (by omega) (fun h => h)
    have hd := hd.keep (fun k hk => by have hk := hU k hk; omega) m9 (fun _ _ h => h)
    refine suK (xstW h5 (lens' := [1, 1]) sz67 rfl rfl rfl rfl rfl) ?_
    rintro w11 ⟨m12, h5, s10⟩
    have hp := hp.keep pair_st (fun k hk => by have hk := hU k hk; omega) m12 (fun k hk hS => by have hk := hU k hk; have hS : k = b5 := hS; omega)
    have hf := hf.step m12 (fun k hk hS => by have hS : k = b5 := hS; show False; omega)
    have hv3 := hv3.keep m12 (by show ¬ (g = b5); omega)
    have hL4 := hL4.step m12 (fun k hk hS => by have hS : k = b5 := hS; show k = b6; omega)
    have hsE11 := hsE11.keep m12 (by omega) (by show ¬ (bE11 = b5); omega)
    have hd := hd.keep (fun k hk => by have hk := hU k hk; omega) m12 (fun k hk hS => by have hk := hU k hk; have hS : k = b5 := hS; omega)
    refine send ?_
    refine forget_wp [(3, _), (5, _), (7, _), (8, _), (9, _)] ⟨rfl, rfl, rfl, rfl, rfl, trivial⟩ fun _ => ?_
    have hol : (pairsL (ps.take k)).length ≤ 6000000 := by rw [pairsL_length, List.length_take]; omega
    refine ldraw (Fr (fun _ => False) w11.drew) [(0, .rd), (1, .rd), (2, .rd), (4, .rd), (5, .rd), (6, .rd), (7, .rd), (9, .rd), (10, .rd), (3, .ld), (8, .ld), (11, .ld), (12, .ld), (13, .rd)] mixed (by kernel_rfl) (fun _ _ _ _ _ h => h) ?_
    have z13 : w11.drew.heap.size = w11.heap.size := rfl
    have hp := hp.keep pair_st (fun k hk => by have hk := hU k hk; omega) (Fr.drew (Fr.refl (fun _ => False) w11)) (fun _ _ h => h)
    have hf := hf.drew
    have hv3 := hv3.keep (Fr.drew (Fr.refl (fun _ => False) w11)) (fun h => h)
    have hL4 := hL4.drew
    have hsE11 := hsE11.keep (Fr.drew (Fr.refl (fun _ => False) w11)) (by omega) (fun h => h)
    have hd := hd.keep (fun k hk => by have hk := hU k hk; omega) (Fr.drew (Fr.refl (fun _ => False) w11)) (fun _ _ h => h)
    have h5 := h5.drew
    have hS14 : Fr (fun _ => False) w11.drew w11.drew := Fr.refl _ _
    refine hv rfl (fun _ _ => xmove rfl) hS14 ?_
    refine hv rfl (fun _ _ => xfld fl67_0 rfl) hS14 ?_
    refine hv rfl (fun w' hS => xld on22 rfl ((h5.keep hS (fun h => h)).r.c 0 rfl rfl)) hS14 ?_
    refine hv rfl (fun _ _ => xfld fl67_1 rfl) hS14 ?_
    refine hv rfl (fun w' hS => xld on37 rfl ((h5.keep hS (fun h => h)).r.c 1 rfl rfl)) hS14 ?_
    refine hv rfl (fun _ _ => xlen sl37 rfl) hS14 ?_
    refine hv rfl (fun _ _ => xconv hs3 ki22 rfl (wu16n (p.data.length % 65536) (by omega))) hS14 ?_
    refine hv rfl (fun _ _ => xfld fl67_1 rfl) hS14 ?_
    refine hv rfl (fun w' hS => xld on37 rfl ((h5.keep hS (fun h => h)).r.c 1 rfl rfl)) hS14 ?_
    refine hc rfl (xcall ca53 rfl) (c53 (by first | omega | exact u16lt _)) ?_
    rintro _ w15 ⟨p16, q16, g16, rfl, r16, m16, a16, l16⟩
    have z17 := m16.size
    have hp := hp.keep pair_st (fun k hk => by have hk := hU k hk; omega) m16 (fun _ _ h => h)
    have hf := hf.step0 m16
    have hv3 := hv3.keep m16 (fun h => h)
    have hL4 := hL4.step0 m16
    have hsE11 := hsE11.keep m16 (by omega) (fun h => h)
    have hd := hd.keep (fun k hk => by have hk := hU k hk; omega) m16 (fun _ _ h => h)
    have h5 := h5.keep m16 (fun h => h)
    have hS18 := hS14.step0 m16
    refine ⟨hS18, ?_⟩
    refine hc rfl (xcall ca53 rfl) (c53 (by first | omega | exact u16lt _)) ?_
    rintro _ w19 ⟨p21, q21, g21, rfl, r21, m20, a21, l21⟩
    have z21 := m20.size
    have hp := hp.keep pair_st (fun k hk => by have hk := hU k hk; omega) m20 (fun _ _ h => h)
    have hf := hf.step0 m20
    have hv3 := hv3.keep m20 (fun h => h)
    have hL4 := hL4.step0 m20
    have hsE11 := hsE11.keep m20 (by omega) (fun h => h)
    have hd := hd.keep (fun k hk => by have hk := hU k hk; omega) m20 (fun _ _ h => h)
    have h5 := h5.keep m20 (fun h => h)
    have r16 := r16.keep m20 (fun h => h)
    have hS22 := hS18.step0 m20
    refine ⟨hS22, ?_⟩
    refine hlK rfl (xslit [_, _, _, _] sl105 in37 rfl (by decide) rfl rfl rfl rfl (by decide) rfl rfl) ?_
    rintro _ w24 ⟨b24, rfl, m25, h24, e24, s24, r24⟩
    have hp := hp.keep pair_st (fun k hk => by have hk := hU k hk; omega) m25 (fun _ _ h => h)
    have hf := hf.step0 m25
    have hv3 := hv3.keep m25 (fun h => h)
    have hL4 := hL4.step0 m25
    have hsE11 := hsE11.keep m25 (by omega) (fun h => h)
    have hd := hd.keep (fun k hk => by have hk := hU k hk; omega) m25 (fun _ _ h => h)
    have h5 := h5.keep m25 (fun h => h)
    have r16 := r16.keep m25 (fun h => h)
    have r21 := r21.keep m25 (fun h => h)
    have hS26 := hS22.step0 m25
    refine ⟨hS26, ?_⟩
    refine hc rfl (xcall ca21 rfl) (c21 (U := fun k => k = g ∨ k = g16 ∨ k = g21 ∨ U k) (Rw.rng r24) (by omega) rfl (fun k hk => by have hk : k = g ∨ k = g16 ∨ k = g21 ∨ U k := hk; rcases hk with hk | hk | hk | hk <;> first | omega | (have := hU k hk; omega)) (All2.cons (BR.ba hv3 (.inl rfl)) (All2.cons (BR.ba r16 (.inr (.inl rfl))) (All2.cons (BR.ba r21 (.inr (.inr (.inl rfl)))) (All2.cons (BA.mono hd (fun k h => (.inr (.inr (.inr h))))) All2.nil)))) (by simp only [List.flatten_cons, List.flatten_nil, List.length_append, be16_length, List.length_nil]; omega) (by decide)) ?_
    rintro _ w27 ⟨p25, q25, g25, rfl, r25, m28, a25, l25⟩
    have z29 := m28.size
    have hp := hp.keep pair_st (fun k hk => by have hk := hU k hk; omega) m28 (fun _ _ h => h)
    have hf := hf.step0 m28
    have hv3 := hv3.keep m28 (fun h => h)
    have hL4 := hL4.step0 m28
    have hsE11 := hsE11.keep m28 (by omega) (fun h => h)
    have hd := hd.keep (fun k hk => by have hk := hU k hk; omega) m28 (fun _ _ h => h)
    have h5 := h5.keep m28 (fun h => h)
    have r16 := r16.keep m28 (fun h => h)
    have r21 := r21.keep m28 (fun h => h)
    have r24 := r24.keep m28 (fun h => h)
    have hS30 := hS26.step0 m28
    refine ⟨hS30, ?_⟩
    refine hv rfl (fun _ _ => xassign rfl) hS30 ?_
    refine lhend ?_
    refine nBlock ?_
    refine nThen ?_
    refine forget_wp [(3, _), (7, _), (8, _), (9, _)] ⟨rfl, rfl, rfl, rfl, trivial⟩ fun _ => ?_
    refine lreg ?_
    refine sv (xadd rfl rfl (w64 (by omega) (by omega))) ?_
    refine sv (xmove rfl) ?_
    refine lend ?_
    refine nThen ?_
    refine ⟨(k + 1, _, g25), _, env_okl ⟨rfl, rfl, rfl, rfl, trivial⟩, ⟨hL4, (by omega), (by rw [pairs_snoc hpk]; exact br_cast r25 (by simp [pairL, be16_mod]) (by simp [pairL, be16_length])), (by omega), (by omega)⟩, ?_⟩
    show ps.length - (k + 1) < ps.length - k; omega
  · skip
    refine send ?_
    refine forget_wp [(3, _), (7, _), (8, _), (9, _), (10, _)] ⟨rfl, rfl, rfl, rfl, rfl, trivial⟩ fun _ => ?_
    refine wp_seq ?_
    refine cno rfl ?_
    refine wp_exit ?_
    refine eThen ?_
    refine eThen ?_
    refine eHit ?_
    refine nThen ?_
    refine forget_wp [(3, _)] ⟨rfl, trivial⟩ fun _ => ?_
    refine sreg ?_
    refine sv (xmove rfl) ?_
    refine sv (xassign rfl) ?_
    refine send ?_
    refine forget_wp [(2, _)] ⟨rfl, trivial⟩ fun _ => ?_
    refine wp_ret ?_
    refine rp1 rfl rfl ?_
    have e : ps.take k = ps := List.take_of_length_le (by omega)
    exact new_cast hv3 (by rw [e]) hf hg hg2
end Go.Proofs.YtifnodoffgfpbaaGreatDoor
