/- Part 2 of the texts for a law of this seat: walks, and plain laws about messages; conditions: none. -/
import Derived.Test.YtifnodoffgfpbaaGreatDoorCt1
namespace Go.Proofs.YtifnodoffgfpbaaGreatDoor
open Go

theorem pairs_snoc {ps : List PairD} {k : Nat} {p : PairD} (h : ps[k]? = some p) : pairsL (ps.take (k + 1)) = pairsL (ps.take k) ++ pairL p := by
  rw [take_snoc h]; simp [pairsL]
theorem sum_take_le {α : Type} {f : α → Nat} {l : List α} {k : Nat} {a : α} (h : l[k]? = some a) : ((l.take k).map f).sum + f a ≤ (l.map f).sum := by
  have e : l = l.take (k + 1) ++ l.drop (k + 1) := (List.take_append_drop _ _).symm
  conv => rhs; rw [e]
  rw [take_snoc h]
  simp only [List.map_append, List.sum_append, List.map_cons, List.map_nil, List.sum_cons, List.sum_nil]
  omega
theorem pairsL_length (ps : List PairD) : (pairsL ps).length = 4 * ps.length + (ps.map (·.data.length)).sum := by
  induction ps with
  | nil => rfl
  | cons p ps ih =>
    simp only [pairsL, List.map_cons, List.flatten_cons, List.length_append, pairL, be16_length, List.length_cons, List.sum_cons] at ih ⊢
    omega
theorem textsL_length (ss : List ByteArray) : (textsL ss).length = ss.length + (ss.map (·.size)).sum := by
  induction ss with
  | nil => rfl
  | cons p ps ih =>
    simp only [textsL, List.map_cons, List.flatten_cons, List.length_append, textL, List.length_cons, List.sum_cons, bt_length] at ih ⊢
    omega
theorem texts_snoc {ps : List ByteArray} {k : Nat} {p : ByteArray} (h : ps[k]? = some p) : textsL (ps.take (k + 1)) = textsL (ps.take k) ++ textL p := by
  rw [take_snoc h]; simp [textsL]
theorem some_of_lt {α : Type} {l : List α} {k : Nat} (h : k < l.length) : ∃ x, l[k]? = some x := ⟨_, List.getElem?_eq_getElem h⟩
theorem counts_snoc {cs : List Nat} {k : Nat} {c : Nat} (h : cs[k]? = some c) : ((cs.take (k + 1)).map be16).flatten = ((cs.take k).map be16).flatten ++ be16 c := by
  rw [take_snoc h]; simp
theorem counts_length (cs : List Nat) : ((cs.map be16).flatten).length = 2 * cs.length := by
  induction cs with
  | nil => rfl
  | cons c cs ih => simp only [List.map_cons, List.flatten_cons, List.length_append, be16_length, List.length_cons, ih]; omega

set_option maxRecDepth 100000 in
theorem c146 {w : World} {U : Nat → Prop} (hU : ∀ k, U k → k < w.heap.size) {v : Value} {bs : List UInt8} (hd : BA U w v bs) {n : Nat} (hn : n ≤ 100) (h0 : 0 < n) :
  Ret PP 146 [v, .int .i64 (n : Int)] w (New w n (fixedL bs n)) := by
 have hf : Fr (fun _ => False) w w := Fr.refl _ _
 refine ret_of Tryz.func146 rfl rfl rfl [(0, _), (1, _)] rfl ?_
 refine sreg (sA rfl (send (fg [(0, _), (1, _)] ⟨rfl, rfl, ⟨⟩⟩ fun _ => (sreg (sM rfl ?_)))))
 refine svK (xmake sl37 in5 rfl (by decide) rfl rfl rfl rfl (by omega) (by omega) (by simp only [maxLen]; omega) rfl) ?_
 rintro _ w1 ⟨b7, rfl, m2, h7, e7, s7, r7⟩
 have hd := hd.keep (lU hU (by omega)) m2 nF
 have hf := hf.step0 m2
 rw [rep_zero] at h7 r7
 refine sA rfl (send (fg [(0, _), (5, _)] ⟨rfl, rfl, ⟨⟩⟩ fun _ => (sreg (sM rfl (sM rfl ?_)))))
 refine svK (xcopyR sl37 sz5 rfl rfl (cpy_ba hd) r7 h7) ?_
 rintro _ w3 ⟨m4, r7, s10⟩
 have hf := hf.step m4 (nB (by omega))
 refine send (fg [(5, _)] ⟨rfl, ⟨⟩⟩ fun _ => (sreg (sM rfl (sA rfl (send (fg [(4, _)] ⟨rfl, ⟨⟩⟩ fun _ => (wp_ret ?_)))))))
 refine rp1 rfl rfl ?_
 exact ⟨_, _, _, rfl, r7, hf, by omega, by omega⟩
set_option maxRecDepth 100000 in
theorem c147 {w : World} {U : Nat → Prop} (hU : ∀ k, U k → k < w.heap.size) {v : Value} {ps : List PairD} (hp : LA PairEl lPair U w v ps) (hn : ps.length ≤ 1048576) (hs : (ps.map (·.data.length)).sum ≤ 1048576) :
  Ret PP 147 [v] w (fun u w' => New w (pairsL ps).length (pairsL ps) u w') := by
 obtain ⟨a0, c0, rfl⟩ := hp.form
 have hf : Fr (fun _ => False) w w := Fr.refl _ _
 refine ret_of Tryz.func147 rfl rfl rfl [(0, _)] rfl ?_
 refine sreg (sA rfl (send (fg [(0, _)] ⟨rfl, ⟨⟩⟩ fun _ => (sreg ?_))))
 refine svK (xslit (bvs []) sl37 in5 rfl (by decide) rfl rfl rfl rfl (by decide) rfl (bvs_one _)) ?_
 rintro _ w2 ⟨b6, rfl, m3, h6, e6, s6, r6⟩
 have hp := hp.keep pair_st (lU hU (by omega)) m3 nF
 have hf := hf.step0 m3
 refine sA rfl (send (fg [(0, _), (3, _)] ⟨rfl, rfl, ⟨⟩⟩ fun _ => (wp_seq (sreg (sM rfl (sv (xlen sl63 rfl) (sM rfl (send (fg [(3, _), (7, _), (8, _), (9, _)] ⟨rfl, rfl, rfl, rfl, ⟨⟩⟩ fun _ => (wp_block ?_))))))))))
 refine lp [(7, _), (8, _)] (fun (x : Nat × Value × Nat) => match x with | (k, v, g) => [(3, v), (9, .int .i64 (k : Int))]) (fun (x : Nat × Value × Nat) wx => match x with | (k, v, g) => Fr (fun k => k = b6) w2 wx ∧ (k ≤ ps.length) ∧ (BR wx v g (pairsL (ps.take k)).length (pairsL (ps.take k))) ∧ (w.heap.size ≤ g) ∧ (g < wx.heap.size)) (fun (x : Nat × Value × Nat) => match x with | (k, v, g) => ps.length - k) (0, _, b6) ⟨rfl, rfl, rfl, rfl, trivial⟩ ⟨Fr.refl _ _, Nat.zero_le _, r6, (by omega), (by omega)⟩ ?_
 rintro ⟨k, v, g⟩ _ w5 ⟨hL4, hk, hv3, hg, hg2⟩
 refine fg [(3, _), (7, _), (8, _), (9, _)] ⟨rfl, rfl, rfl, rfl, ⟨⟩⟩ fun _ => ?_
 have z6 := hL4.size
 have hp := hp.keep pair_st (lU hU (by omega)) hL4 (fun k hk hS => by have hk := hU k hk; have hS : k = b6 := hS; omega)
 have hf := hf.step hL4 (nB (by omega))
 obtain ⟨a3, c3, rfl, -⟩ := hv3.form
 refine sreg ?_
 refine svP (xlss rfl rfl) (fun hc10 => ?_) (fun hc10 => ?_)
 ·
  refine send (fg [(3, _), (7, _), (8, _), (9, _), (10, _)] ⟨rfl, rfl, rfl, rfl, rfl, ⟨⟩⟩ fun _ => (wp_seq (cyes rfl (wp_skip (nThen (fg [(3, _), (7, _), (8, _), (9, _)] ⟨rfl, rfl, rfl, rfl, ⟨⟩⟩ fun _ => (wp_seq (wp_block ?_))))))))
  obtain ⟨p, hpk⟩ := some_of_lt (by omega : k < ps.length)
  have hsk := sum_take_le (f := fun p : PairD => p.data.length) hpk
  refine sreg ?_
  obtain ⟨bE11, oE11, sgE11, rfl, uE11, hsE11, heE11⟩ := LA.get hp hpk
  obtain ⟨vd, rfl, hd⟩ := heE11
  have zE11 := hU _ uE11
  obtain ⟨ad, cd, rfl, -⟩ := id hd
  refine sv (xidx sl63 sz67 rfl rfl rfl (by omega)) (sv (xldS (lens := [1, 1]) ro67 rfl hsE11) ?_)
  refine svK (xallS (lens := [1, 1]) in67 rfl) ?_
  rintro _ w8 ⟨b5, rfl, m9, h5, e7, s7⟩
  have hf := hf.step0 m9
  have hv3 := hv3.keep m9 id
  have hL4 := hL4.step0 m9
  have hd := hd.keep (lU hU (by omega)) m9 nF
  refine suK (xstW h5 (lens' := [1, 1]) sz67 rfl rfl rfl rfl rfl) ?_
  rintro w11 ⟨m12, h5, s10⟩
  have hf := hf.step m12 (nB (by omega))
  have hv3 := hv3.keep m12 (by show ¬ (g = b5); omega)
  have hL4 := hL4.step m12 (fun k hk hS => by have hS : k = b5 := hS; show k = b6; omega)
  have hd := hd.keep (lU hU (by omega)) m12 (fun k hk hS => by have hk := hU k hk; have hS : k = b5 := hS; omega)
  refine send (fg [(3, _), (5, _), (7, _), (8, _), (9, _)] ⟨rfl, rfl, rfl, rfl, rfl, ⟨⟩⟩ fun _ => ?_)
  have hol : (pairsL (ps.take k)).length ≤ 6000000 := by rw [pairsL_length, List.length_take]; omega
  refine ldraw (Fr (fun _ => False) w11.drew) [(0, .rd), (1, .rd), (2, .rd), (4, .rd), (5, .rd), (6, .rd), (7, .rd), (9, .rd), (10, .rd), (3, .ld), (8, .ld), (11, .ld), (12, .ld), (13, .rd)] mixed (by kernel_rfl) (fun _ _ _ _ _ h => h) ?_
  have z13 : w11.drew.heap.size = w11.heap.size := rfl
  have hf := hf.drew
  have hv3 := hv3.keep (fd w11) id
  have hL4 := hL4.drew
  have hd := hd.keep (lU hU (by omega)) (fd w11) nF
  have h5 := h5.drew
  have hS14 : Fr (fun _ => False) w11.drew w11.drew := Fr.refl _ _
  refine ggM rfl rfl hS14 (hv rfl (fun _ _ => xfld fl67_0 rfl) hS14 (hv rfl (fun w' hS => xld on22 rfl ((h5.keep hS id).r.c 0 rfl rfl)) hS14 (hv rfl (fun _ _ => xfld fl67_1 rfl) hS14 (hv rfl (fun w' hS => xld on37 rfl ((h5.keep hS id).r.c 1 rfl rfl)) hS14 (hv rfl (fun _ _ => xlen sl37 rfl) hS14 (hv rfl (fun _ _ => xconv hs3 ki22 rfl (wu16n (p.data.length % 65536) (by omega))) hS14 (hv rfl (fun _ _ => xfld fl67_1 rfl) hS14 (hv rfl (fun w' hS => xld on37 rfl ((h5.keep hS id).r.c 1 rfl rfl)) hS14 ?_))))))))
  refine hc rfl (xcall ca53 rfl) (c53 (by first | omega | exact u16lt _)) ?_
  rintro _ w15 ⟨p16, q16, g16, rfl, r16, m16, a16, l16⟩
  have z17 := m16.size
  have hf := hf.step0 m16
  have hv3 := hv3.keep m16 id
  have hL4 := hL4.step0 m16
  have hd := hd.keep (lU hU (by omega)) m16 nF
  have hS18 := hS14.step0 m16
  refine ⟨hS18, ?_⟩
  refine hc rfl (xcall ca53 rfl) (c53 (by first | omega | exact u16lt _)) ?_
  rintro _ w19 ⟨p21, q21, g21, rfl, r21, m20, a21, l21⟩
  have z21 := m20.size
  have hf := hf.step0 m20
  have hv3 := hv3.keep m20 id
  have hL4 := hL4.step0 m20
  have hd := hd.keep (lU hU (by omega)) m20 nF
  have r16 := r16.keep m20 id
  have hS22 := hS18.step0 m20
  refine ⟨hS22, ?_⟩
  refine hlK rfl (xslit [_, _, _, _] sl105 in37 rfl (by decide) rfl rfl rfl rfl (by decide) rfl rfl) ?_
  rintro _ w24 ⟨b24, rfl, m25, h24, e24, s24, r24⟩
  have hf := hf.step0 m25
  have hv3 := hv3.keep m25 id
  have hL4 := hL4.step0 m25
  have hd := hd.keep (lU hU (by omega)) m25 nF
  have r16 := r16.keep m25 id
  have r21 := r21.keep m25 id
  have hS26 := hS22.step0 m25
  refine ⟨hS26, ?_⟩
  refine hc rfl (xcall ca21 rfl) (c21 (U := fun k => k = g ∨ k = g16 ∨ k = g21 ∨ U k) (Rw.rng r24) (by omega) rfl (fun k hk => by have hk : k = g ∨ k = g16 ∨ k = g21 ∨ U k := hk; rcases hk with hk | hk | hk | hk <;> first | omega | (have := hU k hk; omega)) (All2.cons (BR.ba hv3 (.inl rfl)) (All2.cons (BR.ba r16 (.inr (.inl rfl))) (All2.cons (BR.ba r21 (.inr (.inr (.inl rfl)))) (All2.cons (BA.mono hd (fun k h => (.inr (.inr (.inr h))))) All2.nil)))) (by simp only [List.flatten_cons, List.flatten_nil, List.length_append, be16_length, List.length_nil]; omega) (by decide)) ?_
  rintro _ w27 ⟨p25, q25, g25, rfl, r25, m28, a25, l25⟩
  have z29 := m28.size
  have hf := hf.step0 m28
  have hv3 := hv3.keep m28 id
  have hL4 := hL4.step0 m28
  have hS30 := hS26.step0 m28
  refine ⟨hS30, ?_⟩
  refine ggA rfl rfl hS30 (lhend (nBlock (nThen (fg [(3, _), (7, _), (8, _), (9, _)] ⟨rfl, rfl, rfl, rfl, ⟨⟩⟩ fun _ => (lreg (sv (xadd rfl rfl (w64 (by omega) (by omega))) (sM rfl (lend (nThen ?_)))))))))
  refine ⟨(k + 1, _, g25), _, env_okl ⟨rfl, rfl, rfl, rfl, trivial⟩, ⟨hL4, (by omega), (by rw [pairs_snoc hpk]; exact br_cast r25 (by simp [pairL, be16_mod]) (by simp [pairL, be16_length])), (by omega), (by omega)⟩, ?_⟩
  show ps.length - (k + 1) < ps.length - k; omega
 ·
  refine send (fg [(3, _), (7, _), (8, _), (9, _), (10, _)] ⟨rfl, rfl, rfl, rfl, rfl, ⟨⟩⟩ fun _ => (wp_seq (cno rfl (wp_exit (eThen (eThen (eHit (nThen (fg [(3, _)] ⟨rfl, ⟨⟩⟩ fun _ => (sreg (sM rfl (sA rfl (send (fg [(2, _)] ⟨rfl, ⟨⟩⟩ fun _ => (wp_ret ?_)))))))))))))))
  refine rp1 rfl rfl ?_
  have e : ps.take k = ps := List.take_of_length_le (by omega)
  exact new_cast hv3 (by rw [e]) hf hg hg2
end Go.Proofs.YtifnodoffgfpbaaGreatDoor

namespace Go.Proofs.YtifnodoffgfpbaaGreatDoor
open Go

theorem typ_get (r : RecD) (h0 : 0 ≤ r.kind) (h1 : r.kind < 13) : ([[Value.int .u16 0], [.int .u16 1], [.int .u16 2], [.int .u16 5], [.int .u16 6], [.int .u16 12], [.int .u16 15], [.int .u16 16], [.int .u16 28], [.int .u16 33], [.int .u16 41], [.int .u16 64], [.int .u16 65], [.int .u16 0]] : List (List Value)).flatten[r.kind.toNat]? = some (.int .u16 ((typeN r).toNat : Int)) := by
  obtain ⟨n, hn⟩ := Int.eq_ofNat_of_zero_le h0
  have hlt : n < 13 := by omega
  simp only [typeN, hn]
  match n, hlt with
  | 0, _ | 1, _ | 2, _ | 3, _ | 4, _ | 5, _ | 6, _ | 7, _ | 8, _ | 9, _ | 10, _ | 11, _ | 12, _ => rfl
theorem RecD.fits.texts {r : RecD} (h : r.fits) : (textsL r.texts).length ≤ 3000000 := by
  rw [textsL_length]; simp only [RecD.fits] at h; omega
theorem RecD.fits.pairs {r : RecD} (h : r.fits) : (pairsL r.pairs).length ≤ 6000000 := by
  rw [pairsL_length]; simp only [RecD.fits] at h; omega
theorem bodyL_fits {r : RecD} (h : r.fits) : (bodyL r).length ≤ 10000000 := by
  have h1 := h.texts
  have h2 := h.pairs
  have h3 := wire_le (bt r.host)
  have h4 := wire_le (bt r.box)
  rw [bt_length] at h3 h4
  simp only [RecD.fits] at h
  simp only [bodyL]
  repeat' split
  all_goals try simp only [List.length_append, be16_length, be32_length, fixedL_length]
  all_goals omega
theorem two16 (n : Nat) : be16 (n % 65536) = be16 n := be16_mod n
set_option maxRecDepth 100000 in
theorem c86 {w : World} {r : RecD} {vd vt vp : Value} (h0 : 0 ≤ r.kind) (h1 : r.kind ≤ 13) :
  Ret PP 86 [ag (recSegs r vd vt vp)] w (fun u w' => u = .int .u16 ((typeN r).toNat : Int) ∧ Fr0 w w') := by
 have hf : Fr (fun _ => False) w w := Fr.refl _ _
 refine ret_of Tryz.func86 rfl rfl rfl [(0, _)] rfl ?_
 refine sreg ?_
 refine svK (xboxS (lens := lRec) rfl rfl) ?_
 rintro _ w2 ⟨b1, rfl, m3, h1, e1, s1⟩
 have hf := hf.step0 m3
 refine sA rfl (send (fg [(1, _)] ⟨rfl, ⟨⟩⟩ fun _ => (sreg (sv (xbuildA [[.int .u16 0], [.int .u16 1], [.int .u16 2], [.int .u16 5], [.int .u16 6], [.int .u16 12], [.int .u16 15], [.int .u16 16], [.int .u16 28], [.int .u16 33], [.int .u16 41], [.int .u16 64], [.int .u16 65], [.int .u16 0]] in265 ar265 sz22 rfl rfl (by simp [fitAll, Value.cells]) rfl) ?_))))
 refine svK (xallS (lens := lMsg) in265 (by decide)) ?_
 rintro _ w5 ⟨b3, rfl, m6, h3, e4, s4⟩
 have hf := hf.step0 m6
 have h1 := h1.keep m6 id
 refine suK (xstW h3 (lens' := lMsg) sz265 (by decide) rfl rfl rfl rfl) ?_
 rintro w8 ⟨m9, h3, s7⟩
 have hf := hf.step m9 (nB (by omega))
 have h1 := h1.keep m9 (by show ¬ (b1 = b3); omega)
 refine send (fg [(1, _), (3, _)] ⟨rfl, rfl, ⟨⟩⟩ fun _ => (wp_seq (sreg (sv (xfld fl65_5 rfl) (sv (xld on3 rfl (h1.r.c 5 rfl rfl)) ?_)))))
 refine svP (xeql rfl rfl) (fun hc7 => ?_) (fun hc7 => ?_)
 ·
  refine send (fg [(1, _), (3, _), (7, _)] ⟨rfl, rfl, rfl, ⟨⟩⟩ fun _ => (cyes rfl (sreg (sv (xfld fl65_1 rfl) (sv (xld on22 rfl (h1.r.c 1 rfl rfl)) (sA rfl (send (fg [(2, _)] ⟨rfl, ⟨⟩⟩ fun _ => (wp_ret (rThen ?_))))))))))
  refine rp1 rfl rfl ?_
  exact ⟨by simp [typeN, hc7], hf⟩
 ·
  refine send (fg [(1, _), (3, _), (7, _)] ⟨rfl, rfl, rfl, ⟨⟩⟩ fun _ => (cno rfl (wp_skip (nThen (fg [(1, _), (3, _)] ⟨rfl, rfl, ⟨⟩⟩ fun _ => (sreg (sv (xfld fl65_5 rfl) (sv (xld on3 rfl (h1.r.c 5 rfl rfl)) (sv (xidxA1 (i := r.kind.toNat) ar265 sz22 rfl rfl (by omega) (by omega)) (sv (xld on22 rfl (h3.1.cell (by rw [Nat.zero_add]; exact typ_get r h0 (by omega)))) (sA rfl (send (fg [(2, _)] ⟨rfl, ⟨⟩⟩ fun _ => (wp_ret ?_))))))))))))))
  refine rp1 rfl rfl ?_
  exact ⟨rfl, hf⟩
set_option maxRecDepth 100000 in
theorem c84 {w : World} {U : Nat → Prop} (hU : ∀ k, U k → k < w.heap.size) {r : RecD} {vd vt vp : Value} (hd : BA U w vd r.data) (ht : LA TextEl [1] U w vt r.texts) (hp : LA PairEl lPair U w vp r.pairs) (hr : r.fits) :
  Ret PP 84 [ag (recSegs r vd vt vp)] w (fun u w' => New w (bodyL r).length (bodyL r) u w') := by
 obtain ⟨at0, ct0, rfl⟩ := ht.form
 obtain ⟨ap0, cp0, rfl⟩ := hp.form
 obtain ⟨ad0, cd0, rfl, -⟩ := id hd
 have hft := hr.texts
 have hfp := hr.pairs
 have hw1 := wire_le (bt r.host)
 have hw2 := wire_le (bt r.box)
 rw [bt_length] at hw1 hw2
 have hr0 := hr
 simp only [RecD.fits] at hr0
 have hf : Fr (fun _ => False) w w := Fr.refl _ _
 refine ret_of Tryz.func84 rfl rfl rfl [(0, _)] rfl ?_
 refine sreg ?_
 refine svK (xboxS (lens := lRec) rfl rfl) ?_
 rintro _ w2 ⟨b1, rfl, m3, h1, e1, s1⟩
 have hd := hd.keep (lU hU (by omega)) m3 nF
 have ht := ht.keep text_st (lU hU (by omega)) m3 nF
 have hp := hp.keep pair_st (lU hU (by omega)) m3 nF
 have hf := hf.step0 m3
 refine sA rfl (send (fg [(1, _)] ⟨rfl, ⟨⟩⟩ fun _ => (sreg (sv (xfld fl65_9 rfl) (sv (xld on61 rfl (h1.r.c 9 rfl rfl)) (sv (xconv hs61 ki22 rfl (wu16n (r.n1.toNat % 65536) (by omega))) (sv (xfld fl65_10 rfl) (sv (xld on61 rfl (h1.r.c 10 rfl rfl)) (sv (xconv hs61 ki22 rfl (wu16n (r.n2.toNat % 65536) (by omega))) (sv (xfld fl65_11 rfl) (sv (xld on61 rfl (h1.r.c 11 rfl rfl)) (sv (xconv hs61 ki22 rfl (wu16n (r.n3.toNat % 65536) (by omega))) ?_))))))))))))
 refine svK (xslit ([Value.int .u16 ((r.n1.toNat % 65536 : Nat) : Int), .int .u16 ((r.n2.toNat % 65536 : Nat) : Int), .int .u16 ((r.n3.toNat % 65536 : Nat) : Int)]) sl262 in22 rfl (by decide) rfl rfl rfl rfl (by decide) rfl rfl) ?_
 rintro _ w5 ⟨b16, rfl, m6, h16, e16, s16, r16⟩
 have hd := hd.keep (lU hU (by omega)) m6 nF
 have ht := ht.keep text_st (lU hU (by omega)) m6 nF
 have hp := hp.keep pair_st (lU hU (by omega)) m6 nF
 have hf := hf.step0 m6
 have h1 := h1.keep m6 id
 refine sA rfl (send (fg [(1, _), (3, _)] ⟨rfl, rfl, ⟨⟩⟩ fun _ => (wp_seq (sreg (sv (xfld fl65_5 rfl) (sv (xld on3 rfl (h1.r.c 5 rfl rfl)) (send (fg [(1, _), (3, _), (18, _)] ⟨rfl, rfl, rfl, ⟨⟩⟩ fun _ => (wp_block (sreg ?_))))))))))
 refine svP (xeql rfl rfl) (fun hc20 => ?_) (fun hc20 => ?_)
 ·
  refine sA rfl (send (fg [(1, _), (3, _), (18, _), (19, _)] ⟨rfl, rfl, rfl, rfl, ⟨⟩⟩ fun _ => (cyes rfl (sreg (sv (xfld fl65_6 rfl) (sv (xld on37 rfl (h1.r.c 6 rfl rfl)) ?_))))))
  refine sc (xcall ca146 rfl) (c146 (n := 4) (lU hU (by omega)) hd (by decide) (by decide)) ?_
  rintro _ w7 ⟨p23, q23, g23, rfl, r23, m8, a23, l23⟩
  have z9 := m8.size
  have hd := hd.keep (lU hU (by omega)) m8 nF
  have ht := ht.keep text_st (lU hU (by omega)) m8 nF
  have hp := hp.keep pair_st (lU hU (by omega)) m8 nF
  have hf := hf.step0 m8
  have h1 := h1.keep m8 id
  have r16 := r16.keep m8 id
  refine sA rfl (send (fg [(2, _)] ⟨rfl, ⟨⟩⟩ fun _ => (wp_ret (rBlock (rThen ?_)))))
  refine rp1 rfl rfl ?_
  exact new_cast r23 (by simp [bodyL, *]) hf (by omega) (by omega)
 ·
  refine sA rfl (send (fg [(1, _), (3, _), (18, _), (19, _)] ⟨rfl, rfl, rfl, rfl, ⟨⟩⟩ fun _ => (cno rfl (sreg ?_))))
  refine svP (xeql rfl rfl) (fun hc25 => ?_) (fun hc25 => ?_)
  ·
   refine sA rfl (send (fg [(1, _), (3, _), (18, _), (24, _)] ⟨rfl, rfl, rfl, rfl, ⟨⟩⟩ fun _ => (cyes rfl (sreg (sv (xfld fl65_6 rfl) (sv (xld on37 rfl (h1.r.c 6 rfl rfl)) ?_))))))
   refine sc (xcall ca146 rfl) (c146 (n := 16) (lU hU (by omega)) hd (by decide) (by decide)) ?_
   rintro _ w10 ⟨p28, q28, g28, rfl, r28, m11, a28, l28⟩
   have z12 := m11.size
   have hd := hd.keep (lU hU (by omega)) m11 nF
   have ht := ht.keep text_st (lU hU (by omega)) m11 nF
   have hp := hp.keep pair_st (lU hU (by omega)) m11 nF
   have hf := hf.step0 m11
   have h1 := h1.keep m11 id
   have r16 := r16.keep m11 id
   refine sA rfl (send (fg [(2, _)] ⟨rfl, ⟨⟩⟩ fun _ => (wp_ret (rBlock (rThen ?_)))))
   refine rp1 rfl rfl ?_
   exact new_cast r28 (by simp [bodyL, *]) hf (by omega) (by omega)
  ·
   refine sA rfl (send (fg [(1, _), (3, _), (18, _), (24, _)] ⟨rfl, rfl, rfl, rfl, ⟨⟩⟩ fun _ => (cno rfl (wp_seq (sreg ?_)))))
   refine svP (xeql rfl rfl) (fun hc30 => ?_) (fun hc30 => ?_)
   ·
    refine sA rfl (send (fg [(1, _), (3, _), (18, _), (29, _)] ⟨rfl, rfl, rfl, rfl, ⟨⟩⟩ fun _ => (cyes rfl (wp_skip (nThen (fg [(1, _), (3, _), (18, _), (29, _)] ⟨rfl, rfl, rfl, rfl, ⟨⟩⟩ fun _ => (cyes rfl (sreg (sv (xfld fl65_7 rfl) (sv (xld on9 rfl (h1.r.c 7 rfl rfl)) ?_))))))))))
    refine sc (xcall ca98 rfl) (c98 (by omega)) ?_
    rintro _ w13 ⟨p35, q35, g35, rfl, r35, m14, a35, l35⟩
    have z15 := m14.size
    have hd := hd.keep (lU hU (by omega)) m14 nF
    have ht := ht.keep text_st (lU hU (by omega)) m14 nF
    have hp := hp.keep pair_st (lU hU (by omega)) m14 nF
    have hf := hf.step0 m14
    have h1 := h1.keep m14 id
    have r16 := r16.keep m14 id
    refine sA rfl (send (fg [(2, _)] ⟨rfl, ⟨⟩⟩ fun _ => (wp_ret (rBlock (rThen ?_)))))
    refine rp1 rfl rfl ?_
    exact new_cast r35 (by simp [bodyL, *]) hf (by omega) (by omega)
   ·
    refine sA rfl (send (fg [(1, _), (3, _), (18, _), (29, _)] ⟨rfl, rfl, rfl, rfl, ⟨⟩⟩ fun _ => (cno rfl (sreg ?_))))
    refine svP (xeql rfl rfl) (fun hc31 => ?_) (fun hc31 => ?_)
    ·
     refine sA rfl (send (fg [(1, _), (3, _), (18, _), (29, _)] ⟨rfl, rfl, rfl, rfl, ⟨⟩⟩ fun _ => (cyes rfl (wp_skip (nThen (fg [(1, _), (3, _), (18, _), (29, _)] ⟨rfl, rfl, rfl, rfl, ⟨⟩⟩ fun _ => (cyes rfl (sreg (sv (xfld fl65_7 rfl) (sv (xld on9 rfl (h1.r.c 7 rfl rfl)) ?_))))))))))
     refine sc (xcall ca98 rfl) (c98 (by omega)) ?_
     rintro _ w16 ⟨p35, q35, g35, rfl, r35, m17, a35, l35⟩
     have z18 := m17.size
     have hd := hd.keep (lU hU (by omega)) m17 nF
     have ht := ht.keep text_st (lU hU (by omega)) m17 nF
     have hp := hp.keep pair_st (lU hU (by omega)) m17 nF
     have hf := hf.step0 m17
     have h1 := h1.keep m17 id
     have r16 := r16.keep m17 id
     refine sA rfl (send (fg [(2, _)] ⟨rfl, ⟨⟩⟩ fun _ => (wp_ret (rBlock (rThen ?_)))))
     refine rp1 rfl rfl ?_
     exact new_cast r35 (by simp [bodyL, *]) hf (by omega) (by omega)
    ·
     refine sA rfl (send (fg [(1, _), (3, _), (18, _), (29, _)] ⟨rfl, rfl, rfl, rfl, ⟨⟩⟩ fun _ => (cno rfl (lreg ?_))))
     refine svP (xeql rfl rfl) (fun hc32 => ?_) (fun hc32 => ?_)
     ·
      refine sA rfl (lend (nThen (fg [(1, _), (3, _), (18, _), (29, _)] ⟨rfl, rfl, rfl, rfl, ⟨⟩⟩ fun _ => (cyes rfl (sreg (sv (xfld fl65_7 rfl) (sv (xld on9 rfl (h1.r.c 7 rfl rfl)) ?_)))))))
      refine sc (xcall ca98 rfl) (c98 (by omega)) ?_
      rintro _ w19 ⟨p35, q35, g35, rfl, r35, m20, a35, l35⟩
      have z21 := m20.size
      have hd := hd.keep (lU hU (by omega)) m20 nF
      have ht := ht.keep text_st (lU hU (by omega)) m20 nF
      have hp := hp.keep pair_st (lU hU (by omega)) m20 nF
      have hf := hf.step0 m20
      have h1 := h1.keep m20 id
      have r16 := r16.keep m20 id
      refine sA rfl (send (fg [(2, _)] ⟨rfl, ⟨⟩⟩ fun _ => (wp_ret (rBlock (rThen ?_)))))
      refine rp1 rfl rfl ?_
      exact new_cast r35 (by simp [bodyL, *]) hf (by omega) (by omega)
     ·
      refine sA rfl (lend (nThen (fg [(1, _), (3, _), (18, _), (29, _)] ⟨rfl, rfl, rfl, rfl, ⟨⟩⟩ fun _ => (cno rfl (sreg ?_)))))
      refine svP (xeql rfl rfl) (fun hc37 => ?_) (fun hc37 => ?_)
      ·
       refine sA rfl (send (fg [(1, _), (3, _), (18, _), (36, _)] ⟨rfl, rfl, rfl, rfl, ⟨⟩⟩ fun _ => (cyes rfl ?_)))
       refine sdraw (Fr (fun _ => False) w5.drew) [(0, .rd), (1, .rd), (2, .rd), (4, .rd), (5, .rd), (3, .ld), (6, .ld), (7, .ld), (8, .ld), (9, .rd)] mixed (by kernel_rfl) (fun _ _ _ _ _ h => h) ?_
       have z22 : w5.drew.heap.size = w5.heap.size := rfl
       have hd := hd.keep (lU hU (by omega)) (fd w5) nF
       have ht := ht.keep text_st (lU hU (by omega)) (fd w5) nF
       have hp := hp.keep pair_st (lU hU (by omega)) (fd w5) nF
       have hf := hf.drew
       have h1 := h1.drew
       have r16 := r16.keep (fd w5) id
       have hS23 : Fr (fun _ => False) w5.drew w5.drew := Fr.refl _ _
       refine ggM rfl rfl hS23 (hv rfl (fun _ _ => xidx1 (i := 0) sl262 sz22 rfl rfl rfl (by decide)) hS23 (hv rfl (fun w' hS => xld on22 rfl (Rw.rng (r16.keep hS id) 0 _ rfl)) hS23 (hv rfl (fun _ _ => xfld fl65_7 rfl) hS23 (hv rfl (fun w' hS => xld on9 rfl ((h1.keep hS id).r.c 7 rfl rfl)) hS23 ?_))))
       refine hc rfl (xcall ca53 rfl) (c53 (by first | omega | exact u16lt _)) ?_
       rintro _ w24 ⟨p41, q41, g41, rfl, r41, m25, a41, l41⟩
       have z26 := m25.size
       have hd := hd.keep (lU hU (by omega)) m25 nF
       have ht := ht.keep text_st (lU hU (by omega)) m25 nF
       have hp := hp.keep pair_st (lU hU (by omega)) m25 nF
       have hf := hf.step0 m25
       have h1 := h1.keep m25 id
       have r16 := r16.keep m25 id
       have hS27 := hS23.step0 m25
       refine ⟨hS27, ?_⟩
       refine hc rfl (xcall ca98 rfl) (c98 (by omega)) ?_
       rintro _ w28 ⟨p44, q44, g44, rfl, r44, m29, a44, l44⟩
       have z30 := m29.size
       have hd := hd.keep (lU hU (by omega)) m29 nF
       have ht := ht.keep text_st (lU hU (by omega)) m29 nF
       have hp := hp.keep pair_st (lU hU (by omega)) m29 nF
       have hf := hf.step0 m29
       have h1 := h1.keep m29 id
       have r16 := r16.keep m29 id
       have r41 := r41.keep m29 id
       have hS31 := hS27.step0 m29
       refine ⟨hS31, ?_⟩
       refine hlK rfl (xslit [_, _] sl105 in37 rfl (by decide) rfl rfl rfl rfl (by decide) rfl rfl) ?_
       rintro _ w33 ⟨b45, rfl, m34, h45, e45, s45, r45⟩
       have hd := hd.keep (lU hU (by omega)) m34 nF
       have ht := ht.keep text_st (lU hU (by omega)) m34 nF
       have hp := hp.keep pair_st (lU hU (by omega)) m34 nF
       have hf := hf.step0 m34
       have h1 := h1.keep m34 id
       have r16 := r16.keep m34 id
       have r41 := r41.keep m34 id
       have r44 := r44.keep m34 id
       have hS35 := hS31.step0 m34
       refine ⟨hS35, ?_⟩
       refine hc rfl (xcall ca21 rfl) (c21 (U := fun k => k = g41 ∨ k = g44) (Rw.rng r45) (by omega) rfl (fun k hk => by have hk : k = g41 ∨ k = g44 := hk; rcases hk with hk | hk <;> first | omega | (have := hU k hk; omega)) (All2.cons (BR.ba r41 (.inl rfl)) (All2.cons (BR.ba r44 (.inr rfl)) All2.nil)) (by simp only [List.flatten_cons, List.flatten_nil, List.length_append, be16_length, List.length_nil]; omega) (by decide)) ?_
       rintro _ w36 ⟨p46, q46, g46, rfl, r46, m37, a46, l46⟩
       have z38 := m37.size
       have hd := hd.keep (lU hU (by omega)) m37 nF
       have ht := ht.keep text_st (lU hU (by omega)) m37 nF
       have hp := hp.keep pair_st (lU hU (by omega)) m37 nF
       have hf := hf.step0 m37
       have h1 := h1.keep m37 id
       have r16 := r16.keep m37 id
       have hS39 := hS35.step0 m37
       refine ⟨hS39, ?_⟩
       refine ggA rfl rfl hS39 (hend (fg [(2, _)] ⟨rfl, ⟨⟩⟩ fun _ => (wp_ret (rBlock (rThen ?_)))))
       refine rp1 rfl rfl ?_
       exact new_cast r46 (by simp [bodyL, two16, *]) hf (by omega) (by omega)
      ·
       refine sA rfl (send (fg [(1, _), (3, _), (18, _), (36, _)] ⟨rfl, rfl, rfl, rfl, ⟨⟩⟩ fun _ => (cno rfl (sreg ?_))))
       refine svP (xeql rfl rfl) (fun hc48 => ?_) (fun hc48 => ?_)
       ·
        refine sA rfl (send (fg [(1, _), (3, _), (18, _), (47, _)] ⟨rfl, rfl, rfl, rfl, ⟨⟩⟩ fun _ => (cyes rfl ?_)))
        refine sdraw (Fr (fun _ => False) w5.drew) [(0, .rd), (1, .rd), (3, .rd), (4, .rd), (6, .rd), (7, .rd), (9, .rd), (10, .rd), (12, .rd), (13, .rd), (15, .rd), (16, .rd), (18, .rd), (19, .rd), (2, .ld), (5, .ld), (8, .ld), (11, .ld), (14, .ld), (17, .ld), (20, .ld), (21, .ld), (22, .ld), (23, .rd)] mixed (by kernel_rfl) (fun _ _ _ _ _ h => h) ?_
        have z40 : w5.drew.heap.size = w5.heap.size := rfl
        have hd := hd.keep (lU hU (by omega)) (fd w5) nF
        have ht := ht.keep text_st (lU hU (by omega)) (fd w5) nF
        have hp := hp.keep pair_st (lU hU (by omega)) (fd w5) nF
        have hf := hf.drew
        have h1 := h1.drew
        have r16 := r16.keep (fd w5) id
        have hS41 : Fr (fun _ => False) w5.drew w5.drew := Fr.refl _ _
        refine hv rfl (fun _ _ => xfld fl65_7 rfl) hS41 (hv rfl (fun w' hS => xld on9 rfl ((h1.keep hS id).r.c 7 rfl rfl)) hS41 (hv rfl (fun _ _ => xfld fl65_8 rfl) hS41 (hv rfl (fun w' hS => xld on9 rfl ((h1.keep hS id).r.c 8 rfl rfl)) hS41 (hv rfl (fun _ _ => xfld fl65_9 rfl) hS41 (hv rfl (fun w' hS => xld on61 rfl ((h1.keep hS id).r.c 9 rfl rfl)) hS41 (hv rfl (fun _ _ => xfld fl65_10 rfl) hS41 (hv rfl (fun w' hS => xld on61 rfl ((h1.keep hS id).r.c 10 rfl rfl)) hS41 (hv rfl (fun _ _ => xfld fl65_11 rfl) hS41 (hv rfl (fun w' hS => xld on61 rfl ((h1.keep hS id).r.c 11 rfl rfl)) hS41 (hv rfl (fun _ _ => xfld fl65_12 rfl) hS41 (hv rfl (fun w' hS => xld on61 rfl ((h1.keep hS id).r.c 12 rfl rfl)) hS41 (hv rfl (fun _ _ => xfld fl65_13 rfl) hS41 (hv rfl (fun w' hS => xld on61 rfl ((h1.keep hS id).r.c 13 rfl rfl)) hS41 ?_)))))))))))))
        refine hc rfl (xcall ca98 rfl) (c98 (by omega)) ?_
        rintro _ w42 ⟨p51, q51, g51, rfl, r51, m43, a51, l51⟩
        have z44 := m43.size
        have hd := hd.keep (lU hU (by omega)) m43 nF
        have ht := ht.keep text_st (lU hU (by omega)) m43 nF
        have hp := hp.keep pair_st (lU hU (by omega)) m43 nF
        have hf := hf.step0 m43
        have h1 := h1.keep m43 id
        have r16 := r16.keep m43 id
        have hS45 := hS41.step0 m43
        refine ⟨hS45, ?_⟩
        refine hc rfl (xcall ca98 rfl) (c98 (by omega)) ?_
        rintro _ w46 ⟨p54, q54, g54, rfl, r54, m47, a54, l54⟩
        have z48 := m47.size
        have hd := hd.keep (lU hU (by omega)) m47 nF
        have ht := ht.keep text_st (lU hU (by omega)) m47 nF
        have hp := hp.keep pair_st (lU hU (by omega)) m47 nF
        have hf := hf.step0 m47
        have h1 := h1.keep m47 id
        have r16 := r16.keep m47 id
        have r51 := r51.keep m47 id
        have hS49 := hS45.step0 m47
        refine ⟨hS49, ?_⟩
        refine hc rfl (xcall ca99 rfl) (c99 (by first | omega | exact u32lt _)) ?_
        rintro _ w50 ⟨p57, q57, g57, rfl, r57, m51, a57, l57⟩
        have z52 := m51.size
        have hd := hd.keep (lU hU (by omega)) m51 nF
        have ht := ht.keep text_st (lU hU (by omega)) m51 nF
        have hp := hp.keep pair_st (lU hU (by omega)) m51 nF
        have hf := hf.step0 m51
        have h1 := h1.keep m51 id
        have r16 := r16.keep m51 id
        have r51 := r51.keep m51 id
        have r54 := r54.keep m51 id
        have hS53 := hS49.step0 m51
        refine ⟨hS53, ?_⟩
        refine hc rfl (xcall ca99 rfl) (c99 (by first | omega | exact u32lt _)) ?_
        rintro _ w54 ⟨p60, q60, g60, rfl, r60, m55, a60, l60⟩
        have z56 := m55.size
        have hd := hd.keep (lU hU (by omega)) m55 nF
        have ht := ht.keep text_st (lU hU (by omega)) m55 nF
        have hp := hp.keep pair_st (lU hU (by omega)) m55 nF
        have hf := hf.step0 m55
        have h1 := h1.keep m55 id
        have r16 := r16.keep m55 id
        have r51 := r51.keep m55 id
        have r54 := r54.keep m55 id
        have r57 := r57.keep m55 id
        have hS57 := hS53.step0 m55
        refine ⟨hS57, ?_⟩
        refine hc rfl (xcall ca99 rfl) (c99 (by first | omega | exact u32lt _)) ?_
        rintro _ w58 ⟨p63, q63, g63, rfl, r63, m59, a63, l63⟩
        have z60 := m59.size
        have hd := hd.keep (lU hU (by omega)) m59 nF
        have ht := ht.keep text_st (lU hU (by omega)) m59 nF
        have hp := hp.keep pair_st (lU hU (by omega)) m59 nF
        have hf := hf.step0 m59
        have h1 := h1.keep m59 id
        have r16 := r16.keep m59 id
        have r51 := r51.keep m59 id
        have r54 := r54.keep m59 id
        have r57 := r57.keep m59 id
        have r60 := r60.keep m59 id
        have hS61 := hS57.step0 m59
        refine ⟨hS61, ?_⟩
        refine hc rfl (xcall ca99 rfl) (c99 (by first | omega | exact u32lt _)) ?_
        rintro _ w62 ⟨p66, q66, g66, rfl, r66, m63, a66, l66⟩
        have z64 := m63.size
        have hd := hd.keep (lU hU (by omega)) m63 nF
        have ht := ht.keep text_st (lU hU (by omega)) m63 nF
        have hp := hp.keep pair_st (lU hU (by omega)) m63 nF
        have hf := hf.step0 m63
        have h1 := h1.keep m63 id
        have r16 := r16.keep m63 id
        have r51 := r51.keep m63 id
        have r54 := r54.keep m63 id
        have r57 := r57.keep m63 id
        have r60 := r60.keep m63 id
        have r63 := r63.keep m63 id
        have hS65 := hS61.step0 m63
        refine ⟨hS65, ?_⟩
        refine hc rfl (xcall ca99 rfl) (c99 (by first | omega | exact u32lt _)) ?_
        rintro _ w66 ⟨p69, q69, g69, rfl, r69, m67, a69, l69⟩
        have z68 := m67.size
        have hd := hd.keep (lU hU (by omega)) m67 nF
        have ht := ht.keep text_st (lU hU (by omega)) m67 nF
        have hp := hp.keep pair_st (lU hU (by omega)) m67 nF
        have hf := hf.step0 m67
        have h1 := h1.keep m67 id
        have r16 := r16.keep m67 id
        have r51 := r51.keep m67 id
        have r54 := r54.keep m67 id
        have r57 := r57.keep m67 id
        have r60 := r60.keep m67 id
        have r63 := r63.keep m67 id
        have r66 := r66.keep m67 id
        have hS69 := hS65.step0 m67
        refine ⟨hS69, ?_⟩
        refine hlK rfl (xslit [_, _, _, _, _, _, _] sl105 in37 rfl (by decide) rfl rfl rfl rfl (by decide) rfl rfl) ?_
        rintro _ w71 ⟨b70, rfl, m72, h70, e70, s70, r70⟩
        have hd := hd.keep (lU hU (by omega)) m72 nF
        have ht := ht.keep text_st (lU hU (by omega)) m72 nF
        have hp := hp.keep pair_st (lU hU (by omega)) m72 nF
        have hf := hf.step0 m72
        have h1 := h1.keep m72 id
        have r16 := r16.keep m72 id
        have r51 := r51.keep m72 id
        have r54 := r54.keep m72 id
        have r57 := r57.keep m72 id
        have r60 := r60.keep m72 id
        have r63 := r63.keep m72 id
        have r66 := r66.keep m72 id
        have r69 := r69.keep m72 id
        have hS73 := hS69.step0 m72
        refine ⟨hS73, ?_⟩
        refine hc rfl (xcall ca21 rfl) (c21 (U := fun k => k = g51 ∨ k = g54 ∨ k = g57 ∨ k = g60 ∨ k = g63 ∨ k = g66 ∨ k = g69) (Rw.rng r70) (by omega) rfl (fun k hk => by have hk : k = g51 ∨ k = g54 ∨ k = g57 ∨ k = g60 ∨ k = g63 ∨ k = g66 ∨ k = g69 := hk; rcases hk with hk | hk | hk | hk | hk | hk | hk <;> first | omega | (have := hU k hk; omega)) (All2.cons (BR.ba r51 (.inl rfl)) (All2.cons (BR.ba r54 (.inr (.inl rfl))) (All2.cons (BR.ba r57 (.inr (.inr (.inl rfl)))) (All2.cons (BR.ba r60 (.inr (.inr (.inr (.inl rfl))))) (All2.cons (BR.ba r63 (.inr (.inr (.inr (.inr (.inl rfl)))))) (All2.cons (BR.ba r66 (.inr (.inr (.inr (.inr (.inr (.inl rfl))))))) (All2.cons (BR.ba r69 (.inr (.inr (.inr (.inr (.inr (.inr rfl))))))) All2.nil))))))) (by simp only [List.flatten_cons, List.flatten_nil, List.length_append, be32_length, List.length_nil]; omega) (by decide)) ?_
        rintro _ w74 ⟨p71, q71, g71, rfl, r71, m75, a71, l71⟩
        have z76 := m75.size
        have hd := hd.keep (lU hU (by omega)) m75 nF
        have ht := ht.keep text_st (lU hU (by omega)) m75 nF
        have hp := hp.keep pair_st (lU hU (by omega)) m75 nF
        have hf := hf.step0 m75
        have h1 := h1.keep m75 id
        have r16 := r16.keep m75 id
        have hS77 := hS73.step0 m75
        refine ⟨hS77, ?_⟩
        refine ggA rfl rfl hS77 (hend (fg [(2, _)] ⟨rfl, ⟨⟩⟩ fun _ => (wp_ret (rBlock (rThen ?_)))))
        refine rp1 rfl rfl ?_
        exact new_cast r71 (by simp [bodyL, *]) hf (by omega) (by omega)
       ·
        refine sA rfl (send (fg [(1, _), (3, _), (18, _), (47, _)] ⟨rfl, rfl, rfl, rfl, ⟨⟩⟩ fun _ => (cno rfl (sreg ?_))))
        refine svP (xeql rfl rfl) (fun hc73 => ?_) (fun hc73 => ?_)
        ·
         refine sA rfl (send (fg [(1, _), (3, _), (18, _), (72, _)] ⟨rfl, rfl, rfl, rfl, ⟨⟩⟩ fun _ => (cyes rfl (sreg ?_))))
         refine svK (xslit (bvs []) sl37 in5 rfl (by decide) rfl rfl rfl rfl (by decide) rfl (bvs_one _)) ?_
         rintro _ w79 ⟨b74, rfl, m80, h74, e74, s74, r74⟩
         have hd := hd.keep (lU hU (by omega)) m80 nF
         have ht := ht.keep text_st (lU hU (by omega)) m80 nF
         have hp := hp.keep pair_st (lU hU (by omega)) m80 nF
         have hf := hf.step0 m80
         have h1 := h1.keep m80 id
         have r16 := r16.keep m80 id
         refine sA rfl (send (fg [(1, _), (4, _)] ⟨rfl, rfl, ⟨⟩⟩ fun _ => (wp_seq (sreg (sv (xfld fl65_14 rfl) (sv (xld on62 rfl (h1.r.c 14 rfl rfl)) (sv (xlen sl62 rfl) (sM rfl (send (fg [(4, _), (76, _), (77, _), (78, _)] ⟨rfl, rfl, rfl, rfl, ⟨⟩⟩ fun _ => (wp_block ?_)))))))))))
         refine lp [(76, _), (77, _)] (fun (x : Nat × Value × Nat) => match x with | (k, v, g) => [(4, v), (78, .int .i64 (k : Int))]) (fun (x : Nat × Value × Nat) wx => match x with | (k, v, g) => Fr (fun k => k = b74) w79 wx ∧ (k ≤ r.texts.length) ∧ (BR wx v g (textsL (r.texts.take k)).length (textsL (r.texts.take k))) ∧ (w.heap.size ≤ g) ∧ (g < wx.heap.size) ∧ (g = b74 ∨ w79.heap.size ≤ g)) (fun (x : Nat × Value × Nat) => match x with | (k, v, g) => r.texts.length - k) (0, _, b74) ⟨rfl, rfl, rfl, rfl, trivial⟩ ⟨Fr.refl _ _, Nat.zero_le _, r74, (by omega), (by omega), (.inl rfl)⟩ ?_
         rintro ⟨k, v, g⟩ _ w82 ⟨hL81, hk, hv4, hg, hg2, hg3⟩
         refine fg [(4, _), (76, _), (77, _), (78, _)] ⟨rfl, rfl, rfl, rfl, ⟨⟩⟩ fun _ => ?_
         have z83 := hL81.size
         have hd := hd.keep (lU hU (by omega)) hL81 (fun k hk hS => by have hk := hU k hk; have hS : k = b74 := hS; omega)
         have ht := ht.keep text_st (lU hU (by omega)) hL81 (fun k hk hS => by have hk := hU k hk; have hS : k = b74 := hS; omega)
         have hp := hp.keep pair_st (lU hU (by omega)) hL81 (fun k hk hS => by have hk := hU k hk; have hS : k = b74 := hS; omega)
         have hf := hf.step hL81 (nB (by omega))
         have h1 := h1.keep hL81 (by show ¬ (b1 = b74); omega)
         have r16 := r16.keep hL81 (by show ¬ (b16 = b74); omega)
         obtain ⟨a3, c3, rfl, -⟩ := hv4.form
         refine sreg ?_
         refine svP (xlss rfl rfl) (fun hc79 => ?_) (fun hc79 => ?_)
         ·
          refine send (fg [(4, _), (76, _), (77, _), (78, _), (79, _)] ⟨rfl, rfl, rfl, rfl, rfl, ⟨⟩⟩ fun _ => (wp_seq (cyes rfl (wp_skip (nThen (fg [(4, _), (76, _), (77, _), (78, _)] ⟨rfl, rfl, rfl, rfl, ⟨⟩⟩ fun _ => (wp_seq (wp_block ?_))))))))
          obtain ⟨t, htk⟩ := some_of_lt (by omega : k < r.texts.length)
          have hsk := sum_take_le (f := fun s : ByteArray => s.size) htk
          have hol : (textsL (r.texts.take k)).length ≤ 3000000 := by rw [textsL_length, List.length_take]; omega
          refine sreg ?_
          obtain ⟨bE80, oE80, sgE80, rfl, uE80, hsE80, heE80⟩ := LA.get ht htk
          obtain rfl := heE80
          have zE80 := hU _ uE80
          refine sv (xidx sl62 sz9 rfl rfl rfl (by omega)) (sv (xld on9 rfl (hsE80.c 0 rfl rfl)) (sA rfl (send (fg [(4, _), (6, _), (76, _), (77, _), (78, _)] ⟨rfl, rfl, rfl, rfl, rfl, ⟨⟩⟩ fun _ => (lreg (sM rfl (sM rfl (sv (xlenS st9 rfl) (sv (xconv hs3 ki5 rfl (wu8m _)) ?_)))))))))
          refine svK (xslit (bvs [UInt8.ofNat t.size]) sl37 in5 rfl (by decide) rfl rfl rfl rfl (by decide) (by simp [bvs, bv, Value.cells]) (bvs_one _)) ?_
          rintro _ w85 ⟨b86, rfl, m86, h86, e86, s86, r86⟩
          have hd := hd.keep (lU hU (by omega)) m86 nF
          have hp := hp.keep pair_st (lU hU (by omega)) m86 nF
          have hf := hf.step0 m86
          have h1 := h1.keep m86 id
          have r16 := r16.keep m86 id
          have hv4 := hv4.keep m86 id
          have hL81 := hL81.step0 m86
          refine svK (xapp sl37 in5 rfl (by decide) rfl rfl hv4 (r86.src sl37) (by simp only [maxLen]; omega) (by omega)) ?_
          rintro _ w87 ⟨g87, r87, m88, a87, l87⟩
          have z89 := m88.size
          have hd := hd.keep (lU hU (by omega)) m88 (fun k hk hS => by have hk := hU k hk; have hS : k = g := hS; omega)
          have hp := hp.keep pair_st (lU hU (by omega)) m88 (fun k hk hS => by have hk := hU k hk; have hS : k = g := hS; omega)
          have hf := hf.step m88 (nB (by omega))
          have h1 := h1.keep m88 (by show ¬ (b1 = g); omega)
          have r16 := r16.keep m88 (by show ¬ (b16 = g); omega)
          have hL81 := hL81.step m88 (fun k hk hS => by have hS : k = g := hS; show k = b74; omega)
          obtain ⟨p87, q87, rfl, -⟩ := r87.form
          refine sM rfl ?_
          refine svK (xapp sl37 in5 rfl (by decide) rfl rfl r87 (src_str st9 t) (by simp only [maxLen]; omega) (by omega)) ?_
          rintro _ w90 ⟨g89, r89, m91, a89, l89⟩
          have z92 := m91.size
          have hd := hd.keep (lU hU (by omega)) m91 (fun k hk hS => by have hk := hU k hk; have hS : k = g87 := hS; omega)
          have hp := hp.keep pair_st (lU hU (by omega)) m91 (fun k hk hS => by have hk := hU k hk; have hS : k = g87 := hS; omega)
          have hf := hf.step m91 (nB (by omega))
          have h1 := h1.keep m91 (by show ¬ (b1 = g87); omega)
          have r16 := r16.keep m91 (by show ¬ (b16 = g87); omega)
          have hL81 := hL81.step m91 (fun k hk hS => by have hS : k = g87 := hS; show k = b74; omega)
          obtain ⟨p89, q89, rfl, -⟩ := r89.form
          refine sA rfl (lend (nBlock (nThen (fg [(4, _), (76, _), (77, _), (78, _)] ⟨rfl, rfl, rfl, rfl, ⟨⟩⟩ fun _ => (lreg (sv (xadd rfl rfl (w64 (by omega) (by omega))) (sM rfl (lend (nThen ?_)))))))))
          refine ⟨(k + 1, _, g89), _, env_okl ⟨rfl, rfl, rfl, rfl, trivial⟩, ⟨hL81, (by omega), (by rw [texts_snoc htk]; exact br_cast r89 (by simp [textL, bvs, bv]) (by simp [textL]; omega)), (by omega), (by omega), (by omega)⟩, ?_⟩
          show r.texts.length - (k + 1) < r.texts.length - k; omega
         ·
          refine send (fg [(4, _), (76, _), (77, _), (78, _), (79, _)] ⟨rfl, rfl, rfl, rfl, rfl, ⟨⟩⟩ fun _ => (wp_seq (cno rfl (wp_exit (eThen (eThen (eHit (nThen (fg [(4, _)] ⟨rfl, ⟨⟩⟩ fun _ => (sreg (sM rfl (sA rfl (send (fg [(2, _)] ⟨rfl, ⟨⟩⟩ fun _ => (wp_ret (rBlock (rThen ?_)))))))))))))))))
          refine rp1 rfl rfl ?_
          have e : r.texts.take k = r.texts := List.take_of_length_le (by omega)
          exact new_cast hv4 (by rw [e]; simp [bodyL, *]) hf hg hg2
        ·
         refine sA rfl (send (fg [(1, _), (3, _), (18, _), (72, _)] ⟨rfl, rfl, rfl, rfl, ⟨⟩⟩ fun _ => (cno rfl (sreg ?_))))
         refine svP (xeql rfl rfl) (fun hc93 => ?_) (fun hc93 => ?_)
         ·
          refine sA rfl (send (fg [(1, _), (3, _), (18, _), (92, _)] ⟨rfl, rfl, rfl, rfl, ⟨⟩⟩ fun _ => (cyes rfl ?_)))
          refine sdraw (Fr (fun _ => False) w5.drew) [(0, .rd), (1, .rd), (2, .rd), (4, .rd), (5, .rd), (6, .rd), (8, .rd), (9, .rd), (10, .rd), (12, .rd), (13, .rd), (3, .ld), (7, .ld), (11, .ld), (14, .ld), (15, .ld), (16, .ld), (17, .rd)] mixed (by kernel_rfl) (fun _ _ _ _ _ h => h) ?_
          have z93 : w5.drew.heap.size = w5.heap.size := rfl
          have hd := hd.keep (lU hU (by omega)) (fd w5) nF
          have hp := hp.keep pair_st (lU hU (by omega)) (fd w5) nF
          have hf := hf.drew
          have h1 := h1.drew
          have r16 := r16.keep (fd w5) id
          have hS94 : Fr (fun _ => False) w5.drew w5.drew := Fr.refl _ _
          refine ggM rfl rfl hS94 (hv rfl (fun _ _ => xidx1 (i := 0) sl262 sz22 rfl rfl rfl (by decide)) hS94 (hv rfl (fun w' hS => xld on22 rfl (Rw.rng (r16.keep hS id) 0 _ rfl)) hS94 (ggM rfl rfl hS94 (hv rfl (fun _ _ => xidx1 (i := 1) sl262 sz22 rfl rfl rfl (by decide)) hS94 (hv rfl (fun w' hS => xld on22 rfl (Rw.rng (r16.keep hS id) 1 _ rfl)) hS94 (ggM rfl rfl hS94 (hv rfl (fun _ _ => xidx1 (i := 2) sl262 sz22 rfl rfl rfl (by decide)) hS94 (hv rfl (fun w' hS => xld on22 rfl (Rw.rng (r16.keep hS id) 2 _ rfl)) hS94 (hv rfl (fun _ _ => xfld fl65_7 rfl) hS94 (hv rfl (fun w' hS => xld on9 rfl ((h1.keep hS id).r.c 7 rfl rfl)) hS94 ?_))))))))))
          refine hc rfl (xcall ca53 rfl) (c53 (by first | omega | exact u16lt _)) ?_
          rintro _ w95 ⟨p97, q97, g97, rfl, r97, m96, a97, l97⟩
          have z97 := m96.size
          have hd := hd.keep (lU hU (by omega)) m96 nF
          have hp := hp.keep pair_st (lU hU (by omega)) m96 nF
          have hf := hf.step0 m96
          have h1 := h1.keep m96 id
          have r16 := r16.keep m96 id
          have hS98 := hS94.step0 m96
          refine ⟨hS98, ?_⟩
          refine hc rfl (xcall ca53 rfl) (c53 (by first | omega | exact u16lt _)) ?_
          rintro _ w99 ⟨p101, q101, g101, rfl, r101, m100, a101, l101⟩
          have z101 := m100.size
          have hd := hd.keep (lU hU (by omega)) m100 nF
          have hp := hp.keep pair_st (lU hU (by omega)) m100 nF
          have hf := hf.step0 m100
          have h1 := h1.keep m100 id
          have r16 := r16.keep m100 id
          have r97 := r97.keep m100 id
          have hS102 := hS98.step0 m100
          refine ⟨hS102, ?_⟩
          refine hc rfl (xcall ca53 rfl) (c53 (by first | omega | exact u16lt _)) ?_
          rintro _ w103 ⟨p105, q105, g105, rfl, r105, m104, a105, l105⟩
          have z105 := m104.size
          have hd := hd.keep (lU hU (by omega)) m104 nF
          have hp := hp.keep pair_st (lU hU (by omega)) m104 nF
          have hf := hf.step0 m104
          have h1 := h1.keep m104 id
          have r16 := r16.keep m104 id
          have r97 := r97.keep m104 id
          have r101 := r101.keep m104 id
          have hS106 := hS102.step0 m104
          refine ⟨hS106, ?_⟩
          refine hc rfl (xcall ca98 rfl) (c98 (by omega)) ?_
          rintro _ w107 ⟨p108, q108, g108, rfl, r108, m108, a108, l108⟩
          have z109 := m108.size
          have hd := hd.keep (lU hU (by omega)) m108 nF
          have hp := hp.keep pair_st (lU hU (by omega)) m108 nF
          have hf := hf.step0 m108
          have h1 := h1.keep m108 id
          have r16 := r16.keep m108 id
          have r97 := r97.keep m108 id
          have r101 := r101.keep m108 id
          have r105 := r105.keep m108 id
          have hS110 := hS106.step0 m108
          refine ⟨hS110, ?_⟩
          refine hlK rfl (xslit [_, _, _, _] sl105 in37 rfl (by decide) rfl rfl rfl rfl (by decide) rfl rfl) ?_
          rintro _ w112 ⟨b109, rfl, m113, h109, e109, s109, r109⟩
          have hd := hd.keep (lU hU (by omega)) m113 nF
          have hp := hp.keep pair_st (lU hU (by omega)) m113 nF
          have hf := hf.step0 m113
          have h1 := h1.keep m113 id
          have r16 := r16.keep m113 id
          have r97 := r97.keep m113 id
          have r101 := r101.keep m113 id
          have r105 := r105.keep m113 id
          have r108 := r108.keep m113 id
          have hS114 := hS110.step0 m113
          refine ⟨hS114, ?_⟩
          refine hc rfl (xcall ca21 rfl) (c21 (U := fun k => k = g97 ∨ k = g101 ∨ k = g105 ∨ k = g108) (Rw.rng r109) (by omega) rfl (fun k hk => by have hk : k = g97 ∨ k = g101 ∨ k = g105 ∨ k = g108 := hk; rcases hk with hk | hk | hk | hk <;> first | omega | (have := hU k hk; omega)) (All2.cons (BR.ba r97 (.inl rfl)) (All2.cons (BR.ba r101 (.inr (.inl rfl))) (All2.cons (BR.ba r105 (.inr (.inr (.inl rfl)))) (All2.cons (BR.ba r108 (.inr (.inr (.inr rfl)))) All2.nil)))) (by simp only [List.flatten_cons, List.flatten_nil, List.length_append, be16_length, List.length_nil]; omega) (by decide)) ?_
          rintro _ w115 ⟨p110, q110, g110, rfl, r110, m116, a110, l110⟩
          have z117 := m116.size
          have hd := hd.keep (lU hU (by omega)) m116 nF
          have hp := hp.keep pair_st (lU hU (by omega)) m116 nF
          have hf := hf.step0 m116
          have h1 := h1.keep m116 id
          have r16 := r16.keep m116 id
          have hS118 := hS114.step0 m116
          refine ⟨hS118, ?_⟩
          refine ggA rfl rfl hS118 (hend (fg [(2, _)] ⟨rfl, ⟨⟩⟩ fun _ => (wp_ret (rBlock (rThen ?_)))))
          refine rp1 rfl rfl ?_
          exact new_cast r110 (by simp [bodyL, two16, *]) hf (by omega) (by omega)
         ·
          refine sA rfl (send (fg [(1, _), (3, _), (18, _), (92, _)] ⟨rfl, rfl, rfl, rfl, ⟨⟩⟩ fun _ => (cno rfl (sreg ?_))))
          refine svP (xeql rfl rfl) (fun hc112 => ?_) (fun hc112 => ?_)
          ·
           refine sA rfl (send (fg [(1, _), (3, _), (18, _), (111, _)] ⟨rfl, rfl, rfl, rfl, ⟨⟩⟩ fun _ => (cyes rfl (sreg (sv (xfld fl65_15 rfl) (sv (xld on63 rfl (h1.r.c 15 rfl rfl)) ?_))))))
           refine sc (xcall ca147 rfl) (c147 (lU hU (by omega)) hp (by omega) (by omega)) ?_
           rintro _ w119 ⟨p115, q115, g115, rfl, r115, m120, a115, l115⟩
           have z121 := m120.size
           have hd := hd.keep (lU hU (by omega)) m120 nF
           have hp := hp.keep pair_st (lU hU (by omega)) m120 nF
           have hf := hf.step0 m120
           have h1 := h1.keep m120 id
           have r16 := r16.keep m120 id
           refine sA rfl (send (fg [(2, _)] ⟨rfl, ⟨⟩⟩ fun _ => (wp_ret (rBlock (rThen ?_)))))
           refine rp1 rfl rfl ?_
           exact new_cast r115 (by simp [bodyL, *]) hf (by omega) (by omega)
          ·
           refine sA rfl (send (fg [(1, _), (3, _), (18, _), (111, _)] ⟨rfl, rfl, rfl, rfl, ⟨⟩⟩ fun _ => (cno rfl (wp_seq (sreg ?_)))))
           refine svP (xeql rfl rfl) (fun hc117 => ?_) (fun hc117 => ?_)
           ·
            refine sA rfl (send (fg [(1, _), (3, _), (18, _), (116, _)] ⟨rfl, rfl, rfl, rfl, ⟨⟩⟩ fun _ => (cyes rfl (wp_skip (nThen (fg [(1, _), (3, _), (116, _)] ⟨rfl, rfl, rfl, ⟨⟩⟩ fun _ => (cyes rfl ?_)))))))
            refine sdraw (Fr (fun _ => False) w5.drew) [(0, .rd), (1, .rd), (2, .rd), (4, .rd), (5, .rd), (7, .rd), (8, .rd), (3, .ld), (6, .ld), (9, .ld), (10, .ld), (11, .ld), (12, .rd)] mixed (by kernel_rfl) (fun _ _ _ _ _ h => h) ?_
            have z122 : w5.drew.heap.size = w5.heap.size := rfl
            have hd := hd.keep (lU hU (by omega)) (fd w5) nF
            have hp := hp.keep pair_st (lU hU (by omega)) (fd w5) nF
            have hf := hf.drew
            have h1 := h1.drew
            have r16 := r16.keep (fd w5) id
            have hS123 : Fr (fun _ => False) w5.drew w5.drew := Fr.refl _ _
            refine ggM rfl rfl hS123 (hv rfl (fun _ _ => xidx1 (i := 0) sl262 sz22 rfl rfl rfl (by decide)) hS123 (hv rfl (fun w' hS => xld on22 rfl (Rw.rng (r16.keep hS id) 0 _ rfl)) hS123 (hv rfl (fun _ _ => xfld fl65_7 rfl) hS123 (hv rfl (fun w' hS => xld on9 rfl ((h1.keep hS id).r.c 7 rfl rfl)) hS123 (hv rfl (fun _ _ => xfld fl65_15 rfl) hS123 (hv rfl (fun w' hS => xld on63 rfl ((h1.keep hS id).r.c 15 rfl rfl)) hS123 ?_))))))
            refine hc rfl (xcall ca53 rfl) (c53 (by first | omega | exact u16lt _)) ?_
            rintro _ w124 ⟨p122, q122, g122, rfl, r122, m125, a122, l122⟩
            have z126 := m125.size
            have hd := hd.keep (lU hU (by omega)) m125 nF
            have hp := hp.keep pair_st (lU hU (by omega)) m125 nF
            have hf := hf.step0 m125
            have h1 := h1.keep m125 id
            have r16 := r16.keep m125 id
            have hS127 := hS123.step0 m125
            refine ⟨hS127, ?_⟩
            refine hc rfl (xcall ca98 rfl) (c98 (by omega)) ?_
            rintro _ w128 ⟨p125, q125, g125, rfl, r125, m129, a125, l125⟩
            have z130 := m129.size
            have hd := hd.keep (lU hU (by omega)) m129 nF
            have hp := hp.keep pair_st (lU hU (by omega)) m129 nF
            have hf := hf.step0 m129
            have h1 := h1.keep m129 id
            have r16 := r16.keep m129 id
            have r122 := r122.keep m129 id
            have hS131 := hS127.step0 m129
            refine ⟨hS131, ?_⟩
            refine hc rfl (xcall ca147 rfl) (c147 (lU hU (by omega)) hp (by omega) (by omega)) ?_
            rintro _ w132 ⟨p128, q128, g128, rfl, r128, m133, a128, l128⟩
            have z134 := m133.size
            have hd := hd.keep (lU hU (by omega)) m133 nF
            have hp := hp.keep pair_st (lU hU (by omega)) m133 nF
            have hf := hf.step0 m133
            have h1 := h1.keep m133 id
            have r16 := r16.keep m133 id
            have r122 := r122.keep m133 id
            have r125 := r125.keep m133 id
            have hS135 := hS131.step0 m133
            refine ⟨hS135, ?_⟩
            refine hlK rfl (xslit [_, _, _] sl105 in37 rfl (by decide) rfl rfl rfl rfl (by decide) rfl rfl) ?_
            rintro _ w137 ⟨b129, rfl, m138, h129, e129, s129, r129⟩
            have hd := hd.keep (lU hU (by omega)) m138 nF
            have hp := hp.keep pair_st (lU hU (by omega)) m138 nF
            have hf := hf.step0 m138
            have h1 := h1.keep m138 id
            have r16 := r16.keep m138 id
            have r122 := r122.keep m138 id
            have r125 := r125.keep m138 id
            have r128 := r128.keep m138 id
            have hS139 := hS135.step0 m138
            refine ⟨hS139, ?_⟩
            refine hc rfl (xcall ca21 rfl) (c21 (U := fun k => k = g122 ∨ k = g125 ∨ k = g128) (Rw.rng r129) (by omega) rfl (fun k hk => by have hk : k = g122 ∨ k = g125 ∨ k = g128 := hk; rcases hk with hk | hk | hk <;> first | omega | (have := hU k hk; omega)) (All2.cons (BR.ba r122 (.inl rfl)) (All2.cons (BR.ba r125 (.inr (.inl rfl))) (All2.cons (BR.ba r128 (.inr (.inr rfl))) All2.nil))) (by simp only [List.flatten_cons, List.flatten_nil, List.length_append, be16_length, List.length_nil]; omega) (by decide)) ?_
            rintro _ w140 ⟨p130, q130, g130, rfl, r130, m141, a130, l130⟩
            have z142 := m141.size
            have hd := hd.keep (lU hU (by omega)) m141 nF
            have hp := hp.keep pair_st (lU hU (by omega)) m141 nF
            have hf := hf.step0 m141
            have h1 := h1.keep m141 id
            have r16 := r16.keep m141 id
            have hS143 := hS139.step0 m141
            refine ⟨hS143, ?_⟩
            refine ggA rfl rfl hS143 (hend (fg [(2, _)] ⟨rfl, ⟨⟩⟩ fun _ => (wp_ret (rBlock (rThen ?_)))))
            refine rp1 rfl rfl ?_
            exact new_cast r130 (by simp [bodyL, two16, *]) hf (by omega) (by omega)
           ·
            refine sA rfl (send (fg [(1, _), (3, _), (18, _), (116, _)] ⟨rfl, rfl, rfl, rfl, ⟨⟩⟩ fun _ => (cno rfl (lreg ?_))))
            refine svP (xeql rfl rfl) (fun hc118 => ?_) (fun hc118 => ?_)
            ·
             refine sA rfl (lend (nThen (fg [(1, _), (3, _), (116, _)] ⟨rfl, rfl, rfl, ⟨⟩⟩ fun _ => (cyes rfl ?_))))
             refine sdraw (Fr (fun _ => False) w5.drew) [(0, .rd), (1, .rd), (2, .rd), (4, .rd), (5, .rd), (7, .rd), (8, .rd), (3, .ld), (6, .ld), (9, .ld), (10, .ld), (11, .ld), (12, .rd)] mixed (by kernel_rfl) (fun _ _ _ _ _ h => h) ?_
             have z144 : w5.drew.heap.size = w5.heap.size := rfl
             have hd := hd.keep (lU hU (by omega)) (fd w5) nF
             have hp := hp.keep pair_st (lU hU (by omega)) (fd w5) nF
             have hf := hf.drew
             have h1 := h1.drew
             have r16 := r16.keep (fd w5) id
             have hS145 : Fr (fun _ => False) w5.drew w5.drew := Fr.refl _ _
             refine ggM rfl rfl hS145 (hv rfl (fun _ _ => xidx1 (i := 0) sl262 sz22 rfl rfl rfl (by decide)) hS145 (hv rfl (fun w' hS => xld on22 rfl (Rw.rng (r16.keep hS id) 0 _ rfl)) hS145 (hv rfl (fun _ _ => xfld fl65_7 rfl) hS145 (hv rfl (fun w' hS => xld on9 rfl ((h1.keep hS id).r.c 7 rfl rfl)) hS145 (hv rfl (fun _ _ => xfld fl65_15 rfl) hS145 (hv rfl (fun w' hS => xld on63 rfl ((h1.keep hS id).r.c 15 rfl rfl)) hS145 ?_))))))
             refine hc rfl (xcall ca53 rfl) (c53 (by first | omega | exact u16lt _)) ?_
             rintro _ w146 ⟨p122, q122, g122, rfl, r122, m147, a122, l122⟩
             have z148 := m147.size
             have hd := hd.keep (lU hU (by omega)) m147 nF
             have hp := hp.keep pair_st (lU hU (by omega)) m147 nF
             have hf := hf.step0 m147
             have h1 := h1.keep m147 id
             have hS149 := hS145.step0 m147
             refine ⟨hS149, ?_⟩
             refine hc rfl (xcall ca98 rfl) (c98 (by omega)) ?_
             rintro _ w150 ⟨p125, q125, g125, rfl, r125, m151, a125, l125⟩
             have z152 := m151.size
             have hd := hd.keep (lU hU (by omega)) m151 nF
             have hp := hp.keep pair_st (lU hU (by omega)) m151 nF
             have hf := hf.step0 m151
             have h1 := h1.keep m151 id
             have r122 := r122.keep m151 id
             have hS153 := hS149.step0 m151
             refine ⟨hS153, ?_⟩
             refine hc rfl (xcall ca147 rfl) (c147 (lU hU (by omega)) hp (by omega) (by omega)) ?_
             rintro _ w154 ⟨p128, q128, g128, rfl, r128, m155, a128, l128⟩
             have z156 := m155.size
             have hd := hd.keep (lU hU (by omega)) m155 nF
             have hf := hf.step0 m155
             have h1 := h1.keep m155 id
             have r122 := r122.keep m155 id
             have r125 := r125.keep m155 id
             have hS157 := hS153.step0 m155
             refine ⟨hS157, ?_⟩
             refine hlK rfl (xslit [_, _, _] sl105 in37 rfl (by decide) rfl rfl rfl rfl (by decide) rfl rfl) ?_
             rintro _ w159 ⟨b129, rfl, m160, h129, e129, s129, r129⟩
             have hd := hd.keep (lU hU (by omega)) m160 nF
             have hf := hf.step0 m160
             have h1 := h1.keep m160 id
             have r122 := r122.keep m160 id
             have r125 := r125.keep m160 id
             have r128 := r128.keep m160 id
             have hS161 := hS157.step0 m160
             refine ⟨hS161, ?_⟩
             refine hc rfl (xcall ca21 rfl) (c21 (U := fun k => k = g122 ∨ k = g125 ∨ k = g128) (Rw.rng r129) (by omega) rfl (fun k hk => by have hk : k = g122 ∨ k = g125 ∨ k = g128 := hk; rcases hk with hk | hk | hk <;> first | omega | (have := hU k hk; omega)) (All2.cons (BR.ba r122 (.inl rfl)) (All2.cons (BR.ba r125 (.inr (.inl rfl))) (All2.cons (BR.ba r128 (.inr (.inr rfl))) All2.nil))) (by simp only [List.flatten_cons, List.flatten_nil, List.length_append, be16_length, List.length_nil]; omega) (by decide)) ?_
             rintro _ w162 ⟨p130, q130, g130, rfl, r130, m163, a130, l130⟩
             have z164 := m163.size
             have hd := hd.keep (lU hU (by omega)) m163 nF
             have hf := hf.step0 m163
             have h1 := h1.keep m163 id
             have hS165 := hS161.step0 m163
             refine ⟨hS165, ?_⟩
             refine ggA rfl rfl hS165 (hend (fg [(2, _)] ⟨rfl, ⟨⟩⟩ fun _ => (wp_ret (rBlock (rThen ?_)))))
             refine rp1 rfl rfl ?_
             exact new_cast r130 (by simp [bodyL, two16, *]) hf (by omega) (by omega)
            ·
             refine sA rfl (lend (nThen (fg [(1, _), (3, _), (116, _)] ⟨rfl, rfl, rfl, ⟨⟩⟩ fun _ => (cno rfl (wp_skip (nBlock (nThen (fg [(1, _)] ⟨rfl, ⟨⟩⟩ fun _ => (sreg (sv (xfld fl65_6 rfl) (sv (xld on37 rfl (h1.r.c 6 rfl rfl)) ?_)))))))))))
             refine svK (xslit [_] sl105 in37 rfl (by decide) rfl rfl rfl rfl (by decide) rfl rfl) ?_
             rintro _ w167 ⟨b133, rfl, m168, h133, e133, s133, r133⟩
             have hd := hd.keep (lU hU (by omega)) m168 nF
             have hf := hf.step0 m168
             refine sc (xcall ca21 rfl) (c21 (U := fun k => U k) (Rw.rng r133) (by omega) rfl (fun k hk => by have hk : U k := hk; first | omega | (have := hU k hk; omega)) (All2.cons (BA.mono hd (fun k h => h)) All2.nil) (by simp only [List.flatten_cons, List.flatten_nil, List.length_append, List.length_nil]; omega) (by decide)) ?_
             rintro _ w169 ⟨p134, q134, g134, rfl, r134, m170, a134, l134⟩
             have z171 := m170.size
             have hf := hf.step0 m170
             refine sA rfl (send (fg [(2, _)] ⟨rfl, ⟨⟩⟩ fun _ => (wp_ret ?_)))
             refine rp1 rfl rfl ?_
             exact new_cast r134 (by simp [bodyL, *]) hf (by omega) (by omega)
set_option maxRecDepth 100000 in
theorem c46 {w : World} {U : Nat → Prop} (hU : ∀ k, U k → k < w.heap.size) {r : RecD} {vd vt vp : Value} (hd : BA U w vd r.data) (ht : LA TextEl [1] U w vt r.texts) (hp : LA PairEl lPair U w vp r.pairs) (hr : r.fits) (h0 : 0 ≤ r.kind) (h1 : r.kind ≤ 13) :
  Ret PP 46 [ag (recSegs r vd vt vp)] w (fun u w' => New w (recL r).length (recL r) u w') := by
 have hw1 := wire_le (bt r.name)
 rw [bt_length] at hw1
 have hbl := bodyL_fits hr
 have hr0 := hr
 simp only [RecD.fits] at hr0
 have hf : Fr (fun _ => False) w w := Fr.refl _ _
 refine ret_of Tryz.func46 rfl rfl rfl [(0, _)] rfl ?_
 refine sreg ?_
 refine svK (xboxS (lens := lRec) rfl rfl) ?_
 rintro _ w2 ⟨b1, rfl, m3, h1, e1, s1⟩
 have hd := hd.keep (lU hU (by omega)) m3 nF
 have ht := ht.keep text_st (lU hU (by omega)) m3 nF
 have hp := hp.keep pair_st (lU hU (by omega)) m3 nF
 have hf := hf.step0 m3
 refine sA rfl (send (fg [(1, _)] ⟨rfl, ⟨⟩⟩ fun _ => (sreg (sv (xldS (lens := lRec) ro65 rfl h1.r) ?_))))
 refine sc (xcall ca84 rfl) (c84 (lU hU (by omega)) hd ht hp hr) ?_
 rintro _ w4 ⟨p5, q5, g5, rfl, r5, m5, a5, l5⟩
 have z6 := m5.size
 have hf := hf.step0 m5
 have h1 := h1.keep m5 id
 refine sA rfl (send (fg [(1, _), (3, _)] ⟨rfl, rfl, ⟨⟩⟩ fun _ => ?_))
 refine sdraw (Fr (fun _ => False) w4.drew) [(0, .rd), (1, .rd), (3, .rd), (6, .rd), (7, .rd), (9, .rd), (10, .rd), (12, .rd), (13, .rd), (14, .rd), (16, .rd), (2, .ld), (4, .ld), (5, .ld), (8, .ld), (11, .ld), (15, .ld), (17, .ld), (18, .ld), (19, .rd)] mixed (by kernel_rfl) (fun _ _ _ _ _ h => h) ?_
 have z7 : w4.drew.heap.size = w4.heap.size := rfl
 have hf := hf.drew
 have h1 := h1.drew
 have r5 := r5.keep (fd w4) id
 have hS8 : Fr (fun _ => False) w4.drew w4.drew := Fr.refl _ _
 refine hv rfl (fun _ _ => xfld fl65_0 rfl) hS8 (hv rfl (fun w' hS => xld on9 rfl ((h1.keep hS id).r.c 0 rfl rfl)) hS8 (hv rfl (fun w' hS => xldS (lens := lRec) ro65 rfl (h1.keep hS id).r) hS8 (hv rfl (fun _ _ => xfld fl65_2 rfl) hS8 (hv rfl (fun w' hS => xld on22 rfl ((h1.keep hS id).r.c 2 rfl rfl)) hS8 (hv rfl (fun _ _ => xfld fl65_3 rfl) hS8 (hv rfl (fun w' hS => xld on61 rfl ((h1.keep hS id).r.c 3 rfl rfl)) hS8 (ggM rfl rfl hS8 (hv rfl (fun _ _ => xlen sl37 rfl) hS8 (hv rfl (fun _ _ => xconv hs3 ki22 rfl (wu16n ((bodyL r).length % 65536) (by omega))) hS8 (ggM rfl rfl hS8 ?_))))))))))
 refine hc rfl (xcall ca98 rfl) (c98 (by omega)) ?_
 rintro _ w9 ⟨p8, q8, g8, rfl, r8, m10, a8, l8⟩
 have z11 := m10.size
 have hf := hf.step0 m10
 have r5 := r5.keep m10 id
 have hS12 := hS8.step0 m10
 refine ⟨hS12, ?_⟩
 refine hc rfl (xcall ca86 rfl) (c86 (by omega) (by omega)) ?_
 rintro _ w13 ⟨rfl, m14⟩
 have z15 := m14.size
 have hf := hf.step0 m14
 have r5 := r5.keep m14 id
 have r8 := r8.keep m14 id
 have hS16 := hS12.step0 m14
 refine ⟨hS16, ?_⟩
 refine hc rfl (xcall ca53 rfl) (c53 (by first | omega | exact u16lt _)) ?_
 rintro _ w17 ⟨p11, q11, g11, rfl, r11, m18, a11, l11⟩
 have z19 := m18.size
 have hf := hf.step0 m18
 have r5 := r5.keep m18 id
 have r8 := r8.keep m18 id
 have hS20 := hS16.step0 m18
 refine ⟨hS20, ?_⟩
 refine hc rfl (xcall ca53 rfl) (c53 (by first | omega | exact u16lt _)) ?_
 rintro _ w21 ⟨p14, q14, g14, rfl, r14, m22, a14, l14⟩
 have z23 := m22.size
 have hf := hf.step0 m22
 have r5 := r5.keep m22 id
 have r8 := r8.keep m22 id
 have r11 := r11.keep m22 id
 have hS24 := hS20.step0 m22
 refine ⟨hS24, ?_⟩
 refine hc rfl (xcall ca99 rfl) (c99 (by first | omega | exact u32lt _)) ?_
 rintro _ w25 ⟨p17, q17, g17, rfl, r17, m26, a17, l17⟩
 have z27 := m26.size
 have hf := hf.step0 m26
 have r5 := r5.keep m26 id
 have r8 := r8.keep m26 id
 have r11 := r11.keep m26 id
 have r14 := r14.keep m26 id
 have hS28 := hS24.step0 m26
 refine ⟨hS28, ?_⟩
 refine hc rfl (xcall ca53 rfl) (c53 (by first | omega | exact u16lt _)) ?_
 rintro _ w29 ⟨p21, q21, g21, rfl, r21, m30, a21, l21⟩
 have z31 := m30.size
 have hf := hf.step0 m30
 have r5 := r5.keep m30 id
 have r8 := r8.keep m30 id
 have r11 := r11.keep m30 id
 have r14 := r14.keep m30 id
 have r17 := r17.keep m30 id
 have hS32 := hS28.step0 m30
 refine ⟨hS32, ?_⟩
 refine hlK rfl (xslit [_, _, _, _, _, _] sl105 in37 rfl (by decide) rfl rfl rfl rfl (by decide) rfl rfl) ?_
 rintro _ w34 ⟨b23, rfl, m35, h23, e23, s23, r23⟩
 have hf := hf.step0 m35
 have r5 := r5.keep m35 id
 have r8 := r8.keep m35 id
 have r11 := r11.keep m35 id
 have r14 := r14.keep m35 id
 have r17 := r17.keep m35 id
 have r21 := r21.keep m35 id
 have hS36 := hS32.step0 m35
 refine ⟨hS36, ?_⟩
 refine hc rfl (xcall ca21 rfl) (c21 (U := fun k => k = g8 ∨ k = g11 ∨ k = g14 ∨ k = g17 ∨ k = g21 ∨ k = g5) (Rw.rng r23) (by omega) rfl (fun k hk => by have hk : k = g8 ∨ k = g11 ∨ k = g14 ∨ k = g17 ∨ k = g21 ∨ k = g5 := hk; rcases hk with hk | hk | hk | hk | hk | hk <;> first | omega | (have := hU k hk; omega)) (All2.cons (BR.ba r8 (.inl rfl)) (All2.cons (BR.ba r11 (.inr (.inl rfl))) (All2.cons (BR.ba r14 (.inr (.inr (.inl rfl)))) (All2.cons (BR.ba r17 (.inr (.inr (.inr (.inl rfl))))) (All2.cons (BR.ba r21 (.inr (.inr (.inr (.inr (.inl rfl)))))) (All2.cons (BR.ba r5 (.inr (.inr (.inr (.inr (.inr rfl)))))) All2.nil)))))) (by simp only [List.flatten_cons, List.flatten_nil, List.length_append, be16_length, be32_length, List.length_nil]; omega) (by decide)) ?_
 rintro _ w37 ⟨p24, q24, g24, rfl, r24, m38, a24, l24⟩
 have z39 := m38.size
 have hf := hf.step0 m38
 have hS40 := hS36.step0 m38
 refine ⟨hS40, ?_⟩
 refine ggA rfl rfl hS40 (hend (fg [(2, _)] ⟨rfl, ⟨⟩⟩ fun _ => (wp_ret ?_)))
 refine rp1 rfl rfl ?_
 exact new_cast r24 (by simp [recL, two16]) hf (by omega) (by omega)
set_option maxRecDepth 100000 in
theorem c45 {w : World} {a : AskD} (ha : a.name.size ≤ 1048576) :
  Ret PP 45 [ag (askSegs a)] w (fun u w' => New w (askL a).length (askL a) u w') := by
 have hw1 := wire_le (bt a.name)
 rw [bt_length] at hw1
 have hf : Fr (fun _ => False) w w := Fr.refl _ _
 refine ret_of Tryz.func45 rfl rfl rfl [(0, _)] rfl ?_
 refine sreg ?_
 refine svK (xboxS (lens := [1, 1, 1]) rfl rfl) ?_
 rintro _ w2 ⟨b1, rfl, m3, h1, e1, s1⟩
 have hf := hf.step0 m3
 refine sA rfl (send (fg [(1, _)] ⟨rfl, ⟨⟩⟩ fun _ => ?_))
 refine sdraw (Fr (fun _ => False) w2.drew) [(0, .rd), (1, .rd), (3, .rd), (4, .rd), (6, .rd), (7, .rd), (2, .ld), (5, .ld), (8, .ld), (9, .ld), (10, .ld), (11, .rd)] mixed (by kernel_rfl) (fun _ _ _ _ _ h => h) ?_
 have z4 : w2.drew.heap.size = w2.heap.size := rfl
 have hf := hf.drew
 have h1 := h1.drew
 have hS5 : Fr (fun _ => False) w2.drew w2.drew := Fr.refl _ _
 refine hv rfl (fun _ _ => xfld fl59_0 rfl) hS5 (hv rfl (fun w' hS => xld on9 rfl ((h1.keep hS id).r.c 0 rfl rfl)) hS5 (hv rfl (fun _ _ => xfld fl59_1 rfl) hS5 (hv rfl (fun w' hS => xld on22 rfl ((h1.keep hS id).r.c 1 rfl rfl)) hS5 (hv rfl (fun _ _ => xfld fl59_2 rfl) hS5 (hv rfl (fun w' hS => xld on22 rfl ((h1.keep hS id).r.c 2 rfl rfl)) hS5 ?_)))))
 refine hc rfl (xcall ca98 rfl) (c98 (by omega)) ?_
 rintro _ w6 ⟨p5, q5, g5, rfl, r5, m7, a5, l5⟩
 have z8 := m7.size
 have hf := hf.step0 m7
 have hS9 := hS5.step0 m7
 refine ⟨hS9, ?_⟩
 refine hc rfl (xcall ca53 rfl) (c53 (by first | omega | exact u16lt _)) ?_
 rintro _ w10 ⟨p8, q8, g8, rfl, r8, m11, a8, l8⟩
 have z12 := m11.size
 have hf := hf.step0 m11
 have r5 := r5.keep m11 id
 have hS13 := hS9.step0 m11
 refine ⟨hS13, ?_⟩
 refine hc rfl (xcall ca53 rfl) (c53 (by first | omega | exact u16lt _)) ?_
 rintro _ w14 ⟨p11, q11, g11, rfl, r11, m15, a11, l11⟩
 have z16 := m15.size
 have hf := hf.step0 m15
 have r5 := r5.keep m15 id
 have r8 := r8.keep m15 id
 have hS17 := hS13.step0 m15
 refine ⟨hS17, ?_⟩
 refine hlK rfl (xslit [_, _, _] sl105 in37 rfl (by decide) rfl rfl rfl rfl (by decide) rfl rfl) ?_
 rintro _ w19 ⟨b12, rfl, m20, h12, e12, s12, r12⟩
 have hf := hf.step0 m20
 have r5 := r5.keep m20 id
 have r8 := r8.keep m20 id
 have r11 := r11.keep m20 id
 have hS21 := hS17.step0 m20
 refine ⟨hS21, ?_⟩
 refine hc rfl (xcall ca21 rfl) (c21 (U := fun k => k = g5 ∨ k = g8 ∨ k = g11) (Rw.rng r12) (by omega) rfl (fun k hk => by have hk : k = g5 ∨ k = g8 ∨ k = g11 := hk; rcases hk with hk | hk | hk <;> first | omega | (have := hU k hk; omega)) (All2.cons (BR.ba r5 (.inl rfl)) (All2.cons (BR.ba r8 (.inr (.inl rfl))) (All2.cons (BR.ba r11 (.inr (.inr rfl))) All2.nil))) (by simp only [List.flatten_cons, List.flatten_nil, List.length_append, be16_length, List.length_nil]; omega) (by decide)) ?_
 rintro _ w22 ⟨p13, q13, g13, rfl, r13, m23, a13, l13⟩
 have z24 := m23.size
 have hf := hf.step0 m23
 have hS25 := hS21.step0 m23
 refine ⟨hS25, ?_⟩
 refine ggA rfl rfl hS25 (hend (fg [(2, _)] ⟨rfl, ⟨⟩⟩ fun _ => (wp_ret ?_)))
 refine rp1 rfl rfl ?_
 exact new_cast r13 (by simp [askL]) hf (by omega) (by omega)
end Go.Proofs.YtifnodoffgfpbaaGreatDoor

namespace Go.Proofs.YtifnodoffgfpbaaGreatDoor
open Go

theorem ints_get {cs : List Nat} {k c : Nat} (h : cs[k]? = some c) : (cs.map fun (n : Nat) => Value.int .i64 (n : Int))[k]? = some (.int .i64 (c : Int)) := by simp [h]
theorem asks_snoc {ps : List AskD} {k : Nat} {p : AskD} (h : ps[k]? = some p) : asksL (ps.take (k + 1)) = asksL (ps.take k) ++ askL p := by
  rw [take_snoc h]; simp [asksL]
theorem recs_snoc {ps : List RecD} {k : Nat} {p : RecD} (h : ps[k]? = some p) : recsL (ps.take (k + 1)) = recsL (ps.take k) ++ recL p := by
  rw [take_snoc h]; simp [recsL]
theorem asks_le {ps : List AskD} {k : Nat} {p : AskD} (h : ps[k]? = some p) : (asksL (ps.take k)).length + (askL p).length ≤ (asksL ps).length := by
  have : (ps.map askL)[k]? = some (askL p) := by simp [h]
  have := flat_take_le this
  simpa [asksL, List.map_take] using this
theorem recs_le {ps : List RecD} {k : Nat} {p : RecD} (h : ps[k]? = some p) : (recsL (ps.take k)).length + (recL p).length ≤ (recsL ps).length := by
  have : (ps.map recL)[k]? = some (recL p) := by simp [h]
  have := flat_take_le this
  simpa [recsL, List.map_take] using this
theorem headL_length (h : HeadD) (cs : List Nat) : (headL h cs).length = 4 + 2 * cs.length := by
  simp only [headL, List.length_append, be16_length, counts_length]; omega

set_option maxRecDepth 100000 in
theorem c44 {w : World} {h : HeadD} {counts : List Nat} {b o m c : Nat} (hr : w.rangeAt b o (counts.map fun (n : Nat) => .int .i64 (n : Int))) (hb : b < w.heap.size) (hm : counts.length = m) (hm2 : m < 1000) :
  Ret PP 44 [ag (headSegs h), .slice (some ⟨b, o, none⟩) m c] w (fun u w' => New w (headL h counts).length (headL h counts) u w') := by
 have hf : Fr (fun _ => False) w w := Fr.refl _ _
 refine ret_of Tryz.func44 rfl rfl rfl [(0, _), (1, _)] rfl ?_
 refine sreg ?_
 refine svK (xboxS (lens := [1, 1, 1, 1, 1, 1, 1, 1, 1, 1]) rfl rfl) ?_
 rintro _ w2 ⟨b2, rfl, m3, h2, e1, s1⟩
 have hr := rng_fr hr m3 (by omega) id
 have hf := hf.step0 m3
 refine sA rfl (send (fg [(1, _), (2, _)] ⟨rfl, rfl, ⟨⟩⟩ fun _ => ?_))
 refine sdraw (Fr (fun _ => False) w2.drew) [(0, .rd), (1, .rd), (3, .rd), (4, .rd), (5, .rd), (7, .rd), (8, .rd), (11, .rd), (12, .rd), (15, .rd), (16, .rd), (2, .ld), (6, .rd), (9, .ld), (10, .rd), (13, .ld), (14, .rd), (17, .ld), (18, .rd), (19, .rd)] mixed (by kernel_rfl) (fun _ _ _ _ _ h => h) ?_
 have z4 : w2.drew.heap.size = w2.heap.size := rfl
 have hr := rng_fr hr (fd w2) (by omega) id
 have hf := hf.drew
 have h2 := h2.drew
 have hS5 : Fr (fun _ => False) w2.drew w2.drew := Fr.refl _ _
 refine hv rfl (fun _ _ => xfld fl30_1 rfl) hS5 (hv rfl (fun w' hS => xld on4 rfl ((h2.keep hS id).r.c 1 rfl rfl)) hS5 (hv rfl (fun _ _ => xfld fl30_2 rfl) hS5 (hv rfl (fun w' hS => xld on22 rfl ((h2.keep hS id).r.c 2 rfl rfl)) hS5 (hv rfl (fun _ _ => xshl16 (b := 11) (by decide) rfl rfl) hS5 (hv rfl (fun _ _ => xfld fl30_3 rfl) hS5 (hv rfl (fun w' hS => xld on4 rfl ((h2.keep hS id).r.c 3 rfl rfl)) hS5 (hv rfl (fun _ _ => xfld fl30_4 rfl) hS5 (hv rfl (fun w' hS => xld on4 rfl ((h2.keep hS id).r.c 4 rfl rfl)) hS5 (hv rfl (fun _ _ => xfld fl30_5 rfl) hS5 (hv rfl (fun w' hS => xld on4 rfl ((h2.keep hS id).r.c 5 rfl rfl)) hS5 ?_))))))))))
 refine hc rfl (xcall ca97 rfl) (c97 _ 32768) ?_
 rintro _ w6 ⟨rfl, m7⟩
 have z8 := m7.size
 have hr := rng_fr hr m7 (by omega) id
 have hf := hf.step0 m7
 have h2 := h2.keep m7 id
 have hS9 := hS5.step0 m7
 refine ⟨hS9, ?_⟩
 refine hv rfl (fun _ _ => xor16 rfl rfl) hS9 ?_
 refine hc rfl (xcall ca97 rfl) (c97 _ 1024) ?_
 rintro _ w10 ⟨rfl, m11⟩
 have z12 := m11.size
 have hr := rng_fr hr m11 (by omega) id
 have hf := hf.step0 m11
 have h2 := h2.keep m11 id
 have hS13 := hS9.step0 m11
 refine ⟨hS13, ?_⟩
 refine hv rfl (fun _ _ => xor16 rfl rfl) hS13 ?_
 refine hc rfl (xcall ca97 rfl) (c97 _ 512) ?_
 rintro _ w14 ⟨rfl, m15⟩
 have z16 := m15.size
 have hr := rng_fr hr m15 (by omega) id
 have hf := hf.step0 m15
 have h2 := h2.keep m15 id
 have hS17 := hS13.step0 m15
 refine ⟨hS17, ?_⟩
 refine hv rfl (fun _ _ => xor16 rfl rfl) hS17 ?_
 refine hc rfl (xcall ca97 rfl) (c97 _ 256) ?_
 rintro _ w18 ⟨rfl, m19⟩
 have z20 := m19.size
 have hr := rng_fr hr m19 (by omega) id
 have hf := hf.step0 m19
 have h2 := h2.keep m19 id
 have hS21 := hS17.step0 m19
 refine ⟨hS21, ?_⟩
 refine hv rfl (fun _ _ => xor16 rfl rfl) hS21 (ggA rfl rfl hS21 (hend (fg [(1, _), (2, _), (5, _)] ⟨rfl, rfl, rfl, ⟨⟩⟩ fun _ => ?_)))
 refine sdraw (Fr (fun _ => False) w18.drew) [(0, .rd), (1, .rd), (2, .rd), (4, .rd), (5, .rd), (8, .rd), (9, .rd), (12, .rd), (13, .rd), (3, .ld), (6, .ld), (7, .rd), (10, .ld), (11, .rd), (14, .rd), (15, .rd), (16, .rd)] mixed (by kernel_rfl) (fun _ _ _ _ _ h => h) ?_
 have z22 : w18.drew.heap.size = w18.heap.size := rfl
 have hr := rng_fr hr (fd w18) (by omega) id
 have hf := hf.drew
 have h2 := h2.drew
 have hS23 : Fr (fun _ => False) w18.drew w18.drew := Fr.refl _ _
 refine ggM rfl rfl hS23 (hv rfl (fun _ _ => xfld fl30_6 rfl) hS23 (hv rfl (fun w' hS => xld on4 rfl ((h2.keep hS id).r.c 6 rfl rfl)) hS23 (hv rfl (fun _ _ => xfld fl30_7 rfl) hS23 (hv rfl (fun w' hS => xld on4 rfl ((h2.keep hS id).r.c 7 rfl rfl)) hS23 (hv rfl (fun _ _ => xfld fl30_8 rfl) hS23 (hv rfl (fun w' hS => xld on4 rfl ((h2.keep hS id).r.c 8 rfl rfl)) hS23 (hv rfl (fun _ _ => xfld fl30_9 rfl) hS23 (hv rfl (fun w' hS => xld on22 rfl ((h2.keep hS id).r.c 9 rfl rfl)) hS23 ?_))))))))
 refine hc rfl (xcall ca97 rfl) (c97 _ 128) ?_
 rintro _ w24 ⟨rfl, m25⟩
 have z26 := m25.size
 have hr := rng_fr hr m25 (by omega) id
 have hf := hf.step0 m25
 have h2 := h2.keep m25 id
 have hS27 := hS23.step0 m25
 refine ⟨hS27, ?_⟩
 refine hc rfl (xcall ca97 rfl) (c97 _ 32) ?_
 rintro _ w28 ⟨rfl, m29⟩
 have z30 := m29.size
 have hr := rng_fr hr m29 (by omega) id
 have hf := hf.step0 m29
 have h2 := h2.keep m29 id
 have hS31 := hS27.step0 m29
 refine ⟨hS31, ?_⟩
 refine hv rfl (fun _ _ => xor16 rfl rfl) hS31 ?_
 refine hc rfl (xcall ca97 rfl) (c97 _ 16) ?_
 rintro _ w32 ⟨rfl, m33⟩
 have z34 := m33.size
 have hr := rng_fr hr m33 (by omega) id
 have hf := hf.step0 m33
 have h2 := h2.keep m33 id
 have hS35 := hS31.step0 m33
 refine ⟨hS35, ?_⟩
 refine hv rfl (fun _ _ => xor16 rfl rfl) hS35 (hv rfl (fun _ _ => xor16 rfl rfl) hS35 (hv rfl (fun _ _ => xor16 rfl rfl) hS35 (ggA rfl rfl hS35 (hend (fg [(1, _), (2, _), (5, _)] ⟨rfl, rfl, rfl, ⟨⟩⟩ fun _ => (sreg (sv (xfld fl30_0 rfl) (sv (xld on22 rfl (h2.r.c 0 rfl rfl)) ?_))))))))
 refine sc (xcall ca53 rfl) (c53 (by first | omega | exact u16lt _)) ?_
 rintro _ w36 ⟨p46, q46, g46, rfl, r46, m37, a46, l46⟩
 have z38 := m37.size
 have hr := rng_fr hr m37 (by omega) id
 have hf := hf.step0 m37
 refine sM rfl ?_
 refine sc (xcall ca53 rfl) (c53 (by first | omega | exact u16lt _)) ?_
 rintro _ w39 ⟨p48, q48, g48, rfl, r48, m40, a48, l48⟩
 have z41 := m40.size
 have hr := rng_fr hr m40 (by omega) id
 have hf := hf.step0 m40
 have r46 := r46.keep m40 id
 refine svK (xslit [_, _] sl105 in37 rfl (by decide) rfl rfl rfl rfl (by decide) rfl rfl) ?_
 rintro _ w43 ⟨b49, rfl, m44, h49, e49, s49, r49⟩
 have hr := rng_fr hr m44 (by omega) id
 have hf := hf.step0 m44
 have r46 := r46.keep m44 id
 have r48 := r48.keep m44 id
 refine sc (xcall ca21 rfl) (c21 (U := fun k => k = g46 ∨ k = g48) (Rw.rng r49) (by omega) rfl (fun k hk => by have hk : k = g46 ∨ k = g48 := hk; rcases hk with hk | hk <;> first | omega | (have := hU k hk; omega)) (All2.cons (BR.ba r46 (.inl rfl)) (All2.cons (BR.ba r48 (.inr rfl)) All2.nil)) (by simp only [List.flatten_cons, List.flatten_nil, List.length_append, be16_length, List.length_nil]; omega) (by decide)) ?_
 rintro _ w45 ⟨p50, q50, g50, rfl, r50, m46, a50, l50⟩
 have z47 := m46.size
 have hr := rng_fr hr m46 (by omega) id
 have hf := hf.step0 m46
 refine sA rfl (send (fg [(1, _), (6, _)] ⟨rfl, rfl, ⟨⟩⟩ fun _ => (wp_seq (sreg (sM rfl (sv (xlen sl99 rfl) (sM rfl (send (fg [(6, _), (51, _), (52, _), (53, _)] ⟨rfl, rfl, rfl, rfl, ⟨⟩⟩ fun _ => (wp_block ?_))))))))))
 refine lp [(51, _), (52, _)] (fun (x : Nat × Value × Nat) => match x with | (k, v, g) => [(6, v), (53, .int .i64 (k : Int))]) (fun (x : Nat × Value × Nat) wx => match x with | (k, v, g) => Fr (fun k => k = g50) w45 wx ∧ (k ≤ m) ∧ (BR wx v g (4 + 2 * k) (be16 h.id.toNat ++ (be16 (hbits h).toNat ++ ((counts.take k).map be16).flatten))) ∧ (w.heap.size ≤ g) ∧ (g < wx.heap.size) ∧ (g = g50 ∨ w45.heap.size ≤ g)) (fun (x : Nat × Value × Nat) => match x with | (k, v, g) => m - k) (0, _, g50) ⟨rfl, rfl, rfl, rfl, trivial⟩ ⟨Fr.refl _ _, Nat.zero_le _, br_cast r50 (by simp [hbits]) (by simp [be16_length]), (by omega), (by omega), (.inl rfl)⟩ ?_
 rintro ⟨k, v, g⟩ _ w49 ⟨hL48, hk, hv6, hg, hg2, hg3⟩
 refine fg [(6, _), (51, _), (52, _), (53, _)] ⟨rfl, rfl, rfl, rfl, ⟨⟩⟩ fun _ => ?_
 have z50 := hL48.size
 have hr := rng_fr hr hL48 (by omega) (by show ¬ (b = g50); omega)
 have hf := hf.step hL48 (nB (by omega))
 obtain ⟨a3, c3, rfl, -⟩ := hv6.form
 refine sreg ?_
 refine svP (xlss rfl rfl) (fun hc54 => ?_) (fun hc54 => ?_)
 ·
  refine send (fg [(6, _), (51, _), (52, _), (53, _), (54, _)] ⟨rfl, rfl, rfl, rfl, rfl, ⟨⟩⟩ fun _ => (wp_seq (cyes rfl (wp_skip (nThen (fg [(6, _), (51, _), (52, _), (53, _)] ⟨rfl, rfl, rfl, rfl, ⟨⟩⟩ fun _ => (wp_seq (wp_block (sreg ?_)))))))))
  obtain ⟨cn, hcn⟩ := some_of_lt (by omega : k < counts.length)
  refine sv (xidx1 sl99 sz3 rfl rfl rfl (by omega)) (sv (xld on3 rfl (hr k _ (ints_get hcn))) (sA rfl (send (fg [(6, _), (8, _), (51, _), (52, _), (53, _)] ⟨rfl, rfl, rfl, rfl, rfl, ⟨⟩⟩ fun _ => (lreg (sM rfl (sM rfl (sv (xconv hs3 ki22 rfl (wu16n (cn % 65536) (by omega))) ?_))))))))
  refine sc (xcall ca53 rfl) (c53 (by first | omega | exact u16lt _)) ?_
  rintro _ w51 ⟨p60, q60, g60, rfl, r60, m52, a60, l60⟩
  have z53 := m52.size
  have hf := hf.step0 m52
  have hv6 := hv6.keep m52 id
  have hL48 := hL48.step0 m52
  refine svK (xapp sl37 in5 rfl (by decide) rfl rfl hv6 (r60.src sl37) (by simp only [maxLen]; omega) (by omega)) ?_
  rintro _ w54 ⟨g61, r61, m55, a61, l61⟩
  have z56 := m55.size
  have hf := hf.step m55 (nB (by omega))
  have hL48 := hL48.step m55 (fun k hk hS => by have hS : k = g := hS; show k = g50; omega)
  obtain ⟨p61, q61, rfl, -⟩ := r61.form
  refine sA rfl (lend (nBlock (nThen (fg [(6, _), (51, _), (52, _), (53, _)] ⟨rfl, rfl, rfl, rfl, ⟨⟩⟩ fun _ => (lreg (sv (xadd rfl rfl (w64 (by omega) (by omega))) (sM rfl (lend (nThen ?_)))))))))
  refine ⟨(k + 1, _, g61), _, env_okl ⟨rfl, rfl, rfl, rfl, trivial⟩, ⟨hL48, (by omega), (by rw [counts_snoc hcn]; exact br_cast r61 (by simp [bvs_app, two16]) (by omega)), (by omega), (by omega), (by omega)⟩, ?_⟩
  show m - (k + 1) < m - k; omega
 ·
  refine send (fg [(6, _), (51, _), (52, _), (53, _), (54, _)] ⟨rfl, rfl, rfl, rfl, rfl, ⟨⟩⟩ fun _ => (wp_seq (cno rfl (wp_exit (eThen (eThen (eHit (nThen (fg [(6, _)] ⟨rfl, ⟨⟩⟩ fun _ => (sreg (sM rfl (sA rfl (send (fg [(4, _)] ⟨rfl, ⟨⟩⟩ fun _ => (wp_ret ?_)))))))))))))))
  refine rp1 rfl rfl ?_
  have e : counts.take k = counts := List.take_of_length_le (by omega)
  exact new_cast hv6 (by rw [e]; rfl) hf hg hg2

theorem lists_snoc {ls : List (List RecD)} {k : Nat} {p : List RecD} (h : ls[k]? = some p) : ((ls.take (k + 1)).map recsL).flatten = ((ls.take k).map recsL).flatten ++ recsL p := by
  rw [take_snoc h]; simp

set_option maxRecDepth 100000 in
theorem c20 {w : World} {U : Nat → Prop} (hU : ∀ k, U k → k < w.heap.size) {m : MsgD} {va v1 v2 v3 : Value} (ha : LA AskEl lAsk U w va m.asks) (y1 : LA RecEl lRec U w v1 m.one) (y2 : LA RecEl lRec U w v2 m.two) (y3 : LA RecEl lRec U w v3 m.three) (hfa : ∀ a ∈ m.asks, a.name.size ≤ 1048576) (hfr : ∀ l ∈ [m.one, m.two, m.three], ∀ r ∈ l, r.fits ∧ 0 ≤ r.kind ∧ r.kind ≤ 13) (hna : m.asks.length ≤ 1048576) (hll : ∀ l ∈ [m.one, m.two, m.three], l.length ≤ 1048576) (hlen : (msgL m).length < 1000000000) :
  Ret PP 20 [ag (msgSegs m.head va v1 v2 v3)] w (fun u w' => New w (msgL m).length (msgL m) u w') := by
 have hls : All2 (LA RecEl lRec U w) [v1, v2, v3] [m.one, m.two, m.three] := All2.cons y1 (All2.cons y2 (All2.cons y3 All2.nil))
 obtain ⟨aa, ca, rfl⟩ := ha.form
 obtain ⟨a1, c1, rfl⟩ := y1.form
 obtain ⟨a2, c2, rfl⟩ := y2.form
 obtain ⟨a3, c3, rfl⟩ := y3.form
 have hlen0 := hlen
 simp only [msgL, List.length_append, headL_length, List.length_cons, List.length_nil] at hlen0
 have hf : Fr (fun _ => False) w w := Fr.refl _ _
 refine ret_of Tryz.func20 rfl rfl rfl [(0, _)] rfl ?_
 refine sreg ?_
 refine svK (xboxS (lens := lMsg) rfl rfl) ?_
 rintro _ w2 ⟨b1, rfl, m3, h1, e1, s1⟩
 have ha := ha.keep ask_st (lU hU (by omega)) m3 nF
 have hf := hf.step0 m3
 refine sA rfl (send (fg [(1, _)] ⟨rfl, ⟨⟩⟩ fun _ => (sreg (sv (xfld fl34_0 rfl) (sv (xldS (lens := [1, 1, 1, 1, 1, 1, 1, 1, 1, 1]) ro30 rfl (h1.r.sub 0 10 rfl)) (sv (xfld fl34_1 rfl) (sv (xld on31 rfl (h1.r.c 10 rfl rfl)) (sv (xlen sl31 rfl) (sv (xfld fl34_2 rfl) (sv (xld on32 rfl (h1.r.c 11 rfl rfl)) (sv (xlen sl32 rfl) (sv (xfld fl34_3 rfl) (sv (xld on32 rfl (h1.r.c 12 rfl rfl)) (sv (xlen sl32 rfl) (sv (xfld fl34_4 rfl) (sv (xld on32 rfl (h1.r.c 13 rfl rfl)) (sv (xlen sl32 rfl) ?_)))))))))))))))))
 refine svK (xslit ([.int .i64 (m.asks.length : Int), .int .i64 (m.one.length : Int), .int .i64 (m.two.length : Int), .int .i64 (m.three.length : Int)]) sl99 in3 rfl (by decide) rfl rfl rfl rfl (by decide) rfl rfl) ?_
 rintro _ w5 ⟨b24, rfl, m6, h24, e24, s24, r24⟩
 have ha := ha.keep ask_st (lU hU (by omega)) m6 nF
 have hf := hf.step0 m6
 have h1 := h1.keep m6 id
 refine sc (xcall ca44 rfl) (c44 (h := m.head) (counts := [m.asks.length, m.one.length, m.two.length, m.three.length]) (Rw.rng r24) (by omega) rfl (by simp)) ?_
 rintro _ w7 ⟨p25, q25, g25, rfl, r25, m8, a25, l25⟩
 have z9 := m8.size
 have ha := ha.keep ask_st (lU hU (by omega)) m8 nF
 have hf := hf.step0 m8
 have h1 := h1.keep m8 id
 refine sA rfl (send (fg [(1, _), (3, _)] ⟨rfl, rfl, ⟨⟩⟩ fun _ => (wp_seq (sreg (sv (xfld fl34_1 rfl) (sv (xld on31 rfl (h1.r.c 10 rfl rfl)) (sv (xlen sl31 rfl) (sM rfl (send (fg [(1, _), (3, _), (27, _), (28, _), (29, _)] ⟨rfl, rfl, rfl, rfl, rfl, ⟨⟩⟩ fun _ => (wp_block ?_)))))))))))
 refine lp [(1, _), (27, _), (28, _)] (fun (x : Nat × Value × Nat) => match x with | (k, v, g) => [(3, v), (29, .int .i64 (k : Int))]) (fun (x : Nat × Value × Nat) wx => match x with | (k, v, g) => Fr (fun k => k = g25) w7 wx ∧ (k ≤ m.asks.length) ∧ (BR wx v g (12 + (asksL (m.asks.take k)).length) (headL m.head [m.asks.length, m.one.length, m.two.length, m.three.length] ++ asksL (m.asks.take k))) ∧ (w.heap.size ≤ g) ∧ (g < wx.heap.size) ∧ (g = g25 ∨ w7.heap.size ≤ g)) (fun (x : Nat × Value × Nat) => match x with | (k, v, g) => m.asks.length - k) (0, _, g25) ⟨rfl, rfl, rfl, rfl, rfl, trivial⟩ ⟨Fr.refl _ _, Nat.zero_le _, br_cast r25 (by simp [asksL]) (by simp [asksL, headL_length]), (by omega), (by omega), (.inl rfl)⟩ ?_
 rintro ⟨k, v, g⟩ _ w11 ⟨hL10, hk, hv6, hg, hg2, hg3⟩
 refine fg [(1, _), (3, _), (27, _), (28, _), (29, _)] ⟨rfl, rfl, rfl, rfl, rfl, ⟨⟩⟩ fun _ => ?_
 have z12 := hL10.size
 have ha := ha.keep ask_st (lU hU (by omega)) hL10 (fun k hk hS => by have hk := hU k hk; have hS : k = g25 := hS; omega)
 have hf := hf.step hL10 (nB (by omega))
 have h1 := h1.keep hL10 (by show ¬ (b1 = g25); omega)
 obtain ⟨a4, c4, rfl, -⟩ := hv6.form
 refine sreg ?_
 refine svP (xlss rfl rfl) (fun hc30 => ?_) (fun hc30 => ?_)
 ·
  refine send (fg [(1, _), (3, _), (27, _), (28, _), (29, _), (30, _)] ⟨rfl, rfl, rfl, rfl, rfl, rfl, ⟨⟩⟩ fun _ => (wp_seq (cyes rfl (wp_skip (nThen (fg [(1, _), (3, _), (27, _), (28, _), (29, _)] ⟨rfl, rfl, rfl, rfl, rfl, ⟨⟩⟩ fun _ => (wp_seq (wp_block ?_))))))))
  obtain ⟨a, hak⟩ := some_of_lt (by omega : k < m.asks.length)
  have hal := asks_le hak
  refine sreg ?_
  obtain ⟨bE31, oE31, sgE31, rfl, uE31, hsE31, heE31⟩ := LA.get ha hak
  obtain rfl := heE31
  have zE31 := hU _ uE31
  refine sv (xidx sl31 sz59 rfl rfl rfl (by omega)) (sv (xldS (lens := [1, 1, 1]) ro59 rfl hsE31) ?_)
  refine svK (xallS (lens := [1, 1, 1]) in59 rfl) ?_
  rintro _ w14 ⟨b5, rfl, m15, h5, e13, s13⟩
  have hf := hf.step0 m15
  have h1 := h1.keep m15 id
  have hv6 := hv6.keep m15 id
  have hL10 := hL10.step0 m15
  refine suK (xstW h5 (lens' := [1, 1, 1]) sz59 rfl rfl rfl rfl rfl) ?_
  rintro w17 ⟨m18, h5, s16⟩
  have hf := hf.step m18 (nB (by omega))
  have h1 := h1.keep m18 (by show ¬ (b1 = b5); omega)
  have hv6 := hv6.keep m18 (by show ¬ (g = b5); omega)
  have hL10 := hL10.step m18 (fun k hk hS => by have hS : k = b5 := hS; show k = g25; omega)
  refine send (fg [(1, _), (3, _), (5, _), (27, _), (28, _), (29, _)] ⟨rfl, rfl, rfl, rfl, rfl, rfl, ⟨⟩⟩ fun _ => (lreg (sM rfl (sv (xldS (lens := [1, 1, 1]) ro59 rfl h5.r) ?_))))
  refine sc (xcall ca45 rfl) (c45 (hfa _ (List.mem_of_getElem? hak))) ?_
  rintro _ w19 ⟨p35, q35, g35, rfl, r35, m20, a35, l35⟩
  have z21 := m20.size
  have hf := hf.step0 m20
  have h1 := h1.keep m20 id
  have hv6 := hv6.keep m20 id
  have hL10 := hL10.step0 m20
  refine svK (xapp sl37 in5 rfl (by decide) rfl rfl hv6 (r35.src sl37) (by simp only [maxLen]; omega) (by omega)) ?_
  rintro _ w22 ⟨g36, r36, m23, a36, l36⟩
  have z24 := m23.size
  have hf := hf.step m23 (nB (by omega))
  have h1 := h1.keep m23 (by show ¬ (b1 = g); omega)
  have hL10 := hL10.step m23 (fun k hk hS => by have hS : k = g := hS; show k = g25; omega)
  obtain ⟨p36, q36, rfl, -⟩ := r36.form
  refine sA rfl (lend (nBlock (nThen (fg [(1, _), (3, _), (27, _), (28, _), (29, _)] ⟨rfl, rfl, rfl, rfl, rfl, ⟨⟩⟩ fun _ => (lreg (sv (xadd rfl rfl (w64 (by omega) (by omega))) (sM rfl (lend (nThen ?_)))))))))
  refine ⟨(k + 1, _, g36), _, env_okl ⟨rfl, rfl, rfl, rfl, rfl, trivial⟩, ⟨hL10, (by omega), (by rw [asks_snoc hak, ← List.append_assoc]; exact br_cast r36 (by simp only [bvs_app]) (by simp only [List.length_append]; omega)), (by omega), (by omega), (by omega)⟩, ?_⟩
  show m.asks.length - (k + 1) < m.asks.length - k; omega
 ·
  refine send (fg [(1, _), (3, _), (27, _), (28, _), (29, _), (30, _)] ⟨rfl, rfl, rfl, rfl, rfl, rfl, ⟨⟩⟩ fun _ => (wp_seq (cno rfl (wp_exit (eThen (eThen (eHit (nThen (fg [(1, _), (3, _)] ⟨rfl, rfl, ⟨⟩⟩ fun _ => (wp_seq ?_))))))))))
  have eA : m.asks.take k = m.asks := List.take_of_length_le (by omega)
  obtain ⟨X0, hX0⟩ : ∃ X, X = headL m.head [m.asks.length, m.one.length, m.two.length, m.three.length] ++ asksL m.asks := ⟨_, rfl⟩
  have hX1 : X0.length = 12 + (asksL m.asks).length := by rw [hX0]; simp [headL_length]
  refine sreg (sv (xfld fl34_2 rfl) (sv (xld on32 rfl (h1.r.c 11 rfl rfl)) (sv (xfld fl34_3 rfl) (sv (xld on32 rfl (h1.r.c 12 rfl rfl)) (sv (xfld fl34_4 rfl) (sv (xld on32 rfl (h1.r.c 13 rfl rfl)) ?_))))))
  refine svK (xslit ([.slice a1 m.one.length c1, .slice a2 m.two.length c2, .slice a3 m.three.length c3]) sl60 in32 rfl (by decide) rfl rfl rfl rfl (by decide) rfl rfl) ?_
  rintro _ w26 ⟨b44, rfl, m27, h44, e44, s44, r44⟩
  have hf := hf.step0 m27
  have hv6 := hv6.keep m27 id
  refine sv (xlen sl60 rfl) (sM rfl (send (fg [(3, _), (44, _), (45, _), (46, _)] ⟨rfl, rfl, rfl, rfl, ⟨⟩⟩ fun _ => (wp_block ?_))))
  refine lp [(44, _), (45, _)] (fun (x : Nat × Value × Nat) => match x with | (i, v, gi) => [(3, v), (46, .int .i64 (i : Int))]) (fun (x : Nat × Value × Nat) wx => match x with | (i, v, gi) => Fr (fun k => k = g) w26 wx ∧ (i ≤ 3) ∧ (BR wx v gi (X0 ++ (([m.one, m.two, m.three].take i).map recsL).flatten).length (X0 ++ (([m.one, m.two, m.three].take i).map recsL).flatten)) ∧ (w.heap.size ≤ gi) ∧ (gi < wx.heap.size) ∧ (gi = g ∨ w26.heap.size ≤ gi)) (fun (x : Nat × Value × Nat) => match x with | (i, v, gi) => 3 - i) (0, _, g) ⟨rfl, rfl, rfl, rfl, trivial⟩ ⟨Fr.refl _ _, Nat.zero_le _, br_cast hv6 (by rw [eA]; simp [hX0]) (by rw [eA]; simp [hX0, headL_length]), hg, (by omega), (.inl rfl)⟩ ?_
  rintro ⟨i, v, gi⟩ _ w29 ⟨hL28, hi, hv7, hg4, hg5, hg6⟩
  refine fg [(3, _), (44, _), (45, _), (46, _)] ⟨rfl, rfl, rfl, rfl, ⟨⟩⟩ fun _ => ?_
  have z30 := hL28.size
  have hf := hf.step hL28 (nB (by omega))
  have r44 := r44.keep hL28 (by show ¬ (b44 = g); omega)
  obtain ⟨a5, c5, rfl, -⟩ := hv7.form
  refine sreg ?_
  refine svP (xlss rfl rfl) (fun hc47 => ?_) (fun hc47 => ?_)
  ·
   refine send (fg [(3, _), (44, _), (45, _), (46, _), (47, _)] ⟨rfl, rfl, rfl, rfl, rfl, ⟨⟩⟩ fun _ => (wp_seq (cyes rfl (wp_skip (nThen (fg [(3, _), (44, _), (45, _), (46, _)] ⟨rfl, rfl, rfl, rfl, ⟨⟩⟩ fun _ => (wp_seq (wp_block (sreg ?_)))))))))
   obtain ⟨u, l, hu, hul, hL⟩ := hls.get (k := i) (by simp; omega)
   have hL := hL.keep rec_st hU hf nF
   have hlm : l ∈ [m.one, m.two, m.three] := List.mem_of_getElem? hul
   have hln := hll l hlm
   have hms := flat_take_le (l := [m.one, m.two, m.three].map recsL) (k := i) (a := recsL l) (by rw [List.getElem?_map, hul]; rfl)
   rw [← List.map_take] at hms
   simp only [List.map_cons, List.map_nil, List.flatten_cons, List.flatten_nil, List.length_append, List.length_nil] at hms
   obtain ⟨au, cu, rfl⟩ := hL.form
   refine sv (xidx1 sl60 sz32 rfl rfl rfl (by omega)) (sv (xld on32 rfl (Rw.rng r44 i _ hu)) (sA rfl (send (fg [(3, _), (7, _), (44, _), (45, _), (46, _)] ⟨rfl, rfl, rfl, rfl, rfl, ⟨⟩⟩ fun _ => (sreg (sM rfl (sv (xlen sl32 rfl) (sM rfl (send (fg [(3, _), (44, _), (45, _), (46, _), (50, _), (51, _), (52, _)] ⟨rfl, rfl, rfl, rfl, rfl, rfl, rfl, ⟨⟩⟩ fun _ => (wp_block ?_)))))))))))
   refine lp [(44, _), (45, _), (46, _), (50, _), (51, _)] (fun (x : Nat × Value × Nat) => match x with | (k, v, g7) => [(3, v), (52, .int .i64 (k : Int))]) (fun (x : Nat × Value × Nat) wx => match x with | (k, v, g7) => Fr (fun k => k = gi) w29 wx ∧ (k ≤ l.length) ∧ (BR wx v g7 ((X0 ++ (([m.one, m.two, m.three].take i).map recsL).flatten) ++ recsL (l.take k)).length ((X0 ++ (([m.one, m.two, m.three].take i).map recsL).flatten) ++ recsL (l.take k))) ∧ (w.heap.size ≤ g7) ∧ (g7 < wx.heap.size) ∧ (g7 = gi ∨ w29.heap.size ≤ g7)) (fun (x : Nat × Value × Nat) => match x with | (k, v, g7) => l.length - k) (0, _, gi) ⟨rfl, rfl, rfl, rfl, rfl, rfl, rfl, trivial⟩ ⟨Fr.refl _ _, Nat.zero_le _, br_cast hv7 (by simp [recsL]) (by simp [recsL]), hg4, (by omega), (.inl rfl)⟩ ?_
   rintro ⟨k, v, g7⟩ _ w32 ⟨hL31, hk, hv8, hg7, hg8, hg9⟩
   refine fg [(3, _), (44, _), (45, _), (46, _), (50, _), (51, _), (52, _)] ⟨rfl, rfl, rfl, rfl, rfl, rfl, rfl, ⟨⟩⟩ fun _ => ?_
   have z33 := hL31.size
   have hf := hf.step hL31 (nB (by omega))
   have hL28 := hL28.step hL31 (fun k hk hS => by have hS : k = gi := hS; show k = g; omega)
   have hL := hL.keep rec_st (lU hU (by omega)) hL31 (fun k hk hS => by have hk := hU k hk; have hS : k = gi := hS; omega)
   obtain ⟨a6, c6, rfl, -⟩ := hv8.form
   refine sreg ?_
   refine svP (xlss rfl rfl) (fun hc53 => ?_) (fun hc53 => ?_)
   ·
    refine send (fg [(3, _), (44, _), (45, _), (46, _), (50, _), (51, _), (52, _), (53, _)] ⟨rfl, rfl, rfl, rfl, rfl, rfl, rfl, rfl, ⟨⟩⟩ fun _ => (wp_seq (cyes rfl (wp_skip (nThen (fg [(3, _), (44, _), (45, _), (46, _), (50, _), (51, _), (52, _)] ⟨rfl, rfl, rfl, rfl, rfl, rfl, rfl, ⟨⟩⟩ fun _ => (wp_seq (wp_block ?_))))))))
    obtain ⟨r, hrk⟩ := some_of_lt (by omega : k < l.length)
    have hrl := recs_le hrk
    have hrf := hfr l hlm r (List.mem_of_getElem? hrk)
    refine sreg ?_
    obtain ⟨bE54, oE54, sgE54, rfl, uE54, hsE54, heE54⟩ := LA.get hL hrk
    obtain ⟨vd, vt, vp, rfl, hd, ht, hp⟩ := heE54
    have zE54 := hU _ uE54
    obtain ⟨ad, cd, rfl, -⟩ := id hd
    obtain ⟨at1, ct1, rfl⟩ := ht.form
    obtain ⟨ap1, cp1, rfl⟩ := hp.form
    refine sv (xidx sl32 sz65 rfl rfl rfl (by omega)) (sv (xldS (lens := lRec) ro65 rfl hsE54) ?_)
    refine svK (xallS (lens := lRec) in65 rfl) ?_
    rintro _ w35 ⟨b9, rfl, m36, h9, e34, s34⟩
    have hf := hf.step0 m36
    have hL28 := hL28.step0 m36
    have hv8 := hv8.keep m36 id
    have hL31 := hL31.step0 m36
    have hd := hd.keep (lU hU (by omega)) m36 nF
    have ht := ht.keep text_st (lU hU (by omega)) m36 nF
    have hp := hp.keep pair_st (lU hU (by omega)) m36 nF
    refine suK (xstW h9 (lens' := lRec) sz65 rfl rfl rfl rfl rfl) ?_
    rintro w38 ⟨m39, h9, s37⟩
    have hf := hf.step m39 (nB (by omega))
    have hL28 := hL28.step m39 (fun k hk hS => by have hS : k = b9 := hS; show k = g; omega)
    have hv8 := hv8.keep m39 (by show ¬ (g7 = b9); omega)
    have hL31 := hL31.step m39 (fun k hk hS => by have hS : k = b9 := hS; show k = gi; omega)
    have hd := hd.keep (lU hU (by omega)) m39 (fun k hk hS => by have hk := hU k hk; have hS : k = b9 := hS; omega)
    have ht := ht.keep text_st (lU hU (by omega)) m39 (fun k hk hS => by have hk := hU k hk; have hS : k = b9 := hS; omega)
    have hp := hp.keep pair_st (lU hU (by omega)) m39 (fun k hk hS => by have hk := hU k hk; have hS : k = b9 := hS; omega)
    refine send (fg [(3, _), (9, _), (44, _), (45, _), (46, _), (50, _), (51, _), (52, _)] ⟨rfl, rfl, rfl, rfl, rfl, rfl, rfl, rfl, ⟨⟩⟩ fun _ => (lreg (sM rfl (sv (xldS (lens := lRec) ro65 rfl h9.r) ?_))))
    refine sc (xcall ca46 rfl) (c46 (lU hU (by omega)) hd ht hp hrf.1 hrf.2.1 hrf.2.2) ?_
    rintro _ w40 ⟨p58, q58, g58, rfl, r58, m41, a58, l58⟩
    have z42 := m41.size
    have hf := hf.step0 m41
    have hL28 := hL28.step0 m41
    have hv8 := hv8.keep m41 id
    have hL31 := hL31.step0 m41
    refine svK (xapp sl37 in5 rfl (by decide) rfl rfl hv8 (r58.src sl37) (by simp only [maxLen, List.length_append]; omega) (by simp only [List.length_append]; omega)) ?_
    rintro _ w43 ⟨g59, r59, m44, a59, l59⟩
    have z45 := m44.size
    have hf := hf.step m44 (nB (by omega))
    have hL28 := hL28.step m44 (fun k hk hS => by have hS : k = g7 := hS; show k = g; omega)
    have hL31 := hL31.step m44 (fun k hk hS => by have hS : k = g7 := hS; show k = gi; omega)
    obtain ⟨p59, q59, rfl, -⟩ := r59.form
    refine sA rfl (lend (nBlock (nThen (fg [(3, _), (44, _), (45, _), (46, _), (50, _), (51, _), (52, _)] ⟨rfl, rfl, rfl, rfl, rfl, rfl, rfl, ⟨⟩⟩ fun _ => (lreg (sv (xadd rfl rfl (w64 (by omega) (by omega))) (sM rfl (lend (nThen ?_)))))))))
    refine ⟨(k + 1, _, g59), _, env_okl ⟨rfl, rfl, rfl, rfl, rfl, rfl, rfl, trivial⟩, ⟨hL31, (by omega), (by rw [recs_snoc hrk, ← List.append_assoc]; exact br_cast r59 (by simp only [bvs_app]) (by simp only [List.length_append])), (by omega), (by omega), (by omega)⟩, ?_⟩
    show l.length - (k + 1) < l.length - k; omega
   ·
    refine send (fg [(3, _), (44, _), (45, _), (46, _), (50, _), (51, _), (52, _), (53, _)] ⟨rfl, rfl, rfl, rfl, rfl, rfl, rfl, rfl, ⟨⟩⟩ fun _ => (wp_seq (cno rfl (wp_exit (eThen (eThen (eHit (nBlock (nThen (fg [(3, _), (44, _), (45, _), (46, _)] ⟨rfl, rfl, rfl, rfl, ⟨⟩⟩ fun _ => (lreg (sv (xadd rfl rfl (w64 (by omega) (by omega))) (sM rfl (lend (nThen ?_)))))))))))))))
    have eR : l.take k = l := List.take_of_length_le (by omega)
    refine ⟨(i + 1, _, g7), _, env_okl ⟨rfl, rfl, rfl, rfl, trivial⟩, ⟨hL28, (by omega), (by rw [lists_snoc hul, ← List.append_assoc]; exact br_cast hv8 (by rw [eR]) (by rw [eR])), (by omega), (by omega), (by omega)⟩, ?_⟩
    show 3 - (i + 1) < 3 - i; omega
  ·
   refine send (fg [(3, _), (44, _), (45, _), (46, _), (47, _)] ⟨rfl, rfl, rfl, rfl, rfl, ⟨⟩⟩ fun _ => (wp_seq (cno rfl (wp_exit (eThen (eThen (eHit (nThen (fg [(3, _)] ⟨rfl, ⟨⟩⟩ fun _ => (sreg (sM rfl (sA rfl (send (fg [(2, _)] ⟨rfl, ⟨⟩⟩ fun _ => (wp_ret ?_)))))))))))))))
   refine rp1 rfl rfl ?_
   have e : [m.one, m.two, m.three].take i = [m.one, m.two, m.three] := List.take_of_length_le (by simp; omega)
   exact new_cast hv7 (by rw [e]; simp [hX0, msgL]) hf hg4 hg5
end Go.Proofs.YtifnodoffgfpbaaGreatDoor

namespace Go.Proofs.YtifnodoffgfpbaaGreatDoor
open Go

/-- the blocks that the elements of a growing row may lie in: those of U, and those from n0 to nb, but not the row's own -/
def Uw (U : Nat → Prop) (n0 nb g : Nat) : Nat → Prop := fun k => (U k ∨ (n0 ≤ k ∧ k < nb)) ∧ k ≠ g
/-- the blocks of U, and those made from w to w' -/
def Ub (U : Nat → Prop) (w w' : World) : Nat → Prop := fun k => U k ∨ (w.heap.size ≤ k ∧ k < w'.heap.size)
abbrev RX {α : Type} (El : (Nat → Prop) → World → List (List Value) → α → Prop) (lens : List Nat) (U : Nat → Prop) (n0 nb : Nat) (w : World) (v : Value) (g E n : Nat) (l : List α) : Prop := RA El lens (Uw U n0 nb g) w v g E n l
section
variable {α : Type} {El : (Nat → Prop) → World → List (List Value) → α → Prop} {lens : List Nat} {U : Nat → Prop} {n0 nb : Nat} {w w' : World} {v : Value} {g E n : Nat} {l : List α}
theorem RX.keep {S : Nat → Prop} (h : RX El lens U n0 nb w v g E n l) (hE : Stays El) (hU : ∀ k, U k → k < w.heap.size) (hb : nb ≤ w.heap.size) (m : Fr S w w') (hn : ∀ k, (U k ∨ (n0 ≤ k ∧ k < nb)) → k ≠ g → ¬ S k) (hg : ¬ S g) : RX El lens U n0 nb w' v g E n l :=
  RA.keep h hE (fun k hk => hk.1.elim (hU k) (fun h => Nat.lt_of_lt_of_le h.2 hb)) m (fun k hk => hn k hk.1 hk.2) hg
theorem RX.up {nb' : Nat} (hG : Grows El) (h : RX El lens U n0 nb w v g E n l) (hb : nb ≤ nb') : RX El lens U n0 nb' w v g E n l :=
  RA.mono h hG (fun _ hk => ⟨hk.1.imp_right (fun h => ⟨h.1, Nat.lt_of_lt_of_le h.2 hb⟩), hk.2⟩)
theorem RX.snoc {ss : List (List (List Value))} {segs : List (List Value)} {x : α} {v' : Value} {g' n' : Nat} (nb' : Nat) (hA : All2 (fun segs x => segs.map List.length = lens ∧ El (Uw U n0 nb g) w segs x) ss l)
    (hE : Stays El) (hG : Grows El) (hU : ∀ k, U k → k < w.heap.size) (hb : nb ≤ w.heap.size) (hb' : nb ≤ nb') (m : Fr (fun k => k = g) w w') (hgg : g' = g ∨ w.heap.size ≤ g')
    (hR : Rw w' v' g' E lens.sum n' ((ss.map List.flatten).flatten ++ segs.flatten)) (hl : segs.map List.length = lens) (he : El (Uw U n0 nb' g') w' segs x) : RX El lens U n0 nb' w' v' g' E n' (l ++ [x]) :=
  RA.snoc hA hE hG (fun k hk => hk.1.elim (hU k) (fun h => Nat.lt_of_lt_of_le h.2 hb)) m (fun _ hk => hk.2)
    (fun k hk => ⟨hk.1.imp_right (fun h => ⟨h.1, Nat.lt_of_lt_of_le h.2 hb'⟩), by
      have h2 := hk.2
      have h1 : k < w.heap.size := hk.1.elim (hU k) (fun h => Nat.lt_of_lt_of_le h.2 hb)
      omega⟩) hR hl he
theorem RX.la (h : RX El lens U n0 nb w v g E n l) (hs : 0 < lens.sum) {U' : Nat → Prop} (hG : Grows El) (hU : ∀ k, (U k ∨ (n0 ≤ k ∧ k < nb)) → U' k) (hg : U' g) : LA El lens U' w v l :=
  RA.la h hs hG (fun k hk => hU k hk.1) hg
theorem RX.ofNil {a : Option Addr} {c : Nat} (h : Rw w (.slice a 0 c) g E lens.sum 0 []) : RX El lens U n0 nb w (.slice a 0 c) g E 0 [] := ⟨[], h, All2.nil⟩
theorem RA.form {V : Nat → Prop} (h : RA El lens V w v g E n l) : ∃ a c, v = .slice a n c := by
  obtain ⟨ss, hR, _⟩ := h
  obtain ⟨a, c, h, _⟩ := hR.form
  exact ⟨a, c, h⟩
end
section
variable {P : Program} {ops : Array Oper} {Q : Exit → Act → World → Prop} {n : Nat} {l : List (Nat × Value)} {r : Nat → Value} {w : World}
  {op : Op} {ty : TypeId} {pos : String} {af : Array Edge} {d i : Nat}
theorem yielded_un {j dj : Nat} (hj : (ops[j]?).bind (·.dst) = some dj) (hb : ev n l (.tmp dj) = some undef) : yielded ops (env n l r).tmps j = none := by
  have := getD_ev r hb
  simp only [yielded, hj]
  simp only [Option.bind_some]
  rw [Array.getD_eq_getD_getElem?] at this
  cases h : (env n l r).tmps[dj]? with
  | none => rfl
  | some u => rw [h] at this; simp only [Option.getD_some] at this; subst this; rfl
/-- a guard that did not run itself -/
theorem gnu {rest : List Oper} {j dj : Nat} {want : Bool} (hj : (ops[j]?).bind (·.dst) = some dj) (hb : ev n l (.tmp dj) = some undef)
    (k : WL P ops Q rest (env n ((d, undef) :: l) r) w) : WL P ops Q (⟨some d, op, ty, pos, af, some (j, want)⟩ :: rest) (env n l r) w := by
  constructor
  unfold wpList
  rw [if_neg (by simp only [Region.wanted, yielded_un hj hb]; cases want <;> decide)]
  rw [env_put]
  exact k.out
end
theorem Ub.num {U : Nat → Prop} {wa wb : World} {n k : Nat} (hU : ∀ k, U k → k < n) (h : Ub U wa wb k) : k < n ∨ (wa.heap.size ≤ k ∧ k < wb.heap.size) := h.elim (fun h => .inl (hU k h)) .inr
section
variable {P : Program} {n : Nat} {l : List (Nat × Value)} {w : World} {ty : TypeId} {x y : Operand}
end
/-- an answer yes that tells something -/
def Grd (w : World) (p : Prop) (u : Value) (w' : World) : Prop := ∃ b, u = .bool b ∧ (b = true → p) ∧ Fr0 w w'
theorem lUb {U : Nat → Prop} {wa wb : World} {n c : Nat} (hU : ∀ k, U k → k < n) (h1 : n ≤ c) (h2 : wb.heap.size ≤ c) : ∀ k, Ub U wa wb k → k < c := fun k hk => hk.elim (fun h => Nat.lt_of_lt_of_le (hU k h) h1) (fun h => Nat.lt_of_lt_of_le h.2 h2)
theorem lNo {wa wb : World} {c : Nat} (h2 : wb.heap.size ≤ c) : ∀ k, Ub (fun _ => False) wa wb k → k < c := fun _k hk => hk.elim (fun h => h.elim) (fun h => Nat.lt_of_lt_of_le h.2 h2)
end Go.Proofs.YtifnodoffgfpbaaGreatDoor

namespace Go.Proofs.YtifnodoffgfpbaaGreatDoor
open Go

theorem nameOk_dot {s : ByteArray} (h : s = ⟨#[46]⟩) : nameOk s = true := by subst h; rfl
/-- keys that ascend -/
def asc (ps : List PairD) : Prop := ∀ (i : Nat) (p q : PairD), ps[i]? = some p → ps[i + 1]? = some q → p.key.toNat < q.key.toNat

set_option maxHeartbeats 4000000 in
set_option maxRecDepth 100000 in
theorem c190 {w : World} {U : Nat → Prop} (_hU : ∀ k, U k → k < w.heap.size) {p : PairD} {vd : Value} (hd : BA U w vd p.data) (hn : p.data.length ≤ 1048576) :
  Ret PP 190 [ag (pairSegs p vd)] w (fun u w' => u = .bool true ∧ Fr0 w w') := by
 obtain ⟨ad0, cd0, rfl, -⟩ := id hd
 have hf : Fr (fun _ => False) w w := Fr.refl _ _
 refine ret_of Tryz.func190 rfl rfl rfl [(0, _)] rfl ?_
 refine sreg ?_
 refine svK (xboxS (lens := [1, 1]) rfl rfl) ?_
 rintro _ w2 ⟨b1, rfl, m3, h1, e1, s1⟩
 have hf := hf.step0 m3
 refine sA rfl (send (fg [(1, _)] ⟨rfl, ⟨⟩⟩ fun _ => (wp_seq (sreg (sv (xfld fl145_1 rfl) (sv (xld on37 rfl (h1.r.c 1 rfl rfl)) (sv (xlen sl37 rfl) (sv (exF (xgtr rfl rfl) (by omega)) (send (fg [(6, _)] ⟨rfl, ⟨⟩⟩ fun _ => (cno rfl (wp_skip (nThen (fg [] trivial fun _ => (sreg (sA rfl (send (fg [(2, _)] ⟨rfl, ⟨⟩⟩ fun _ => (wp_ret ?_)))))))))))))))))))
 refine rp1 rfl rfl ?_
 exact ⟨rfl, hf⟩
set_option maxHeartbeats 4000000 in
set_option maxRecDepth 100000 in
theorem c143 {w : World} {U : Nat → Prop} (hU : ∀ k, U k → k < w.heap.size) {v : Value} {ps : List PairD} (hp : LA PairEl lPair U w v ps) (hn : ps.length ≤ 1048576) (hpl : ∀ p ∈ ps, p.data.length ≤ 1048576) :
  Ret PP 143 [v] w (fun u w' => u = .bool true ∧ Fr0 w w') := by
 obtain ⟨a0, c0, rfl⟩ := hp.form
 have hf : Fr (fun _ => False) w w := Fr.refl _ _
 refine ret_of Tryz.func143 rfl rfl rfl [(0, _)] rfl ?_
 refine sreg (sA rfl (send (fg [(0, _)] ⟨rfl, ⟨⟩⟩ fun _ => (wp_seq (sreg (sM rfl (sv (xlen sl110 rfl) (sv (exF (xgtr rfl rfl) (by omega)) (send (fg [(0, _), (7, _)] ⟨rfl, rfl, ⟨⟩⟩ fun _ => (cno rfl (wp_skip (nThen (fg [(0, _)] ⟨rfl, ⟨⟩⟩ fun _ => (wp_seq (sreg (sM rfl (sv (xlen sl110 rfl) (sM rfl (send (fg [(8, _), (9, _), (10, _)] ⟨rfl, rfl, rfl, ⟨⟩⟩ fun _ => (wp_block ?_))))))))))))))))))))))
 refine lp [(8, _), (9, _)] (fun (k : Nat) => [(10, .int .i64 (k : Int))]) (fun (k : Nat) wx => Fr (fun _ => False) w wx ∧ (k ≤ ps.length)) (fun (k : Nat) => ps.length - k) 0 ⟨rfl, rfl, rfl, trivial⟩ ⟨Fr.refl _ _, Nat.zero_le _⟩ ?_
 rintro k _ w2 ⟨hL1, hk⟩
 refine fg [(8, _), (9, _), (10, _)] ⟨rfl, rfl, rfl, ⟨⟩⟩ fun _ => ?_
 have z3 := hL1.size
 have hp := hp.keep pair_st (lU hU (by omega)) hL1 nF
 have hf := hf.step0 hL1
 refine sreg ?_
 refine svP (xlss rfl rfl) (fun hc11 => ?_) (fun hc11 => ?_)
 ·
  refine send (fg [(8, _), (9, _), (10, _), (11, _)] ⟨rfl, rfl, rfl, rfl, ⟨⟩⟩ fun _ => (wp_seq (cyes rfl (wp_skip (nThen (fg [(8, _), (9, _), (10, _)] ⟨rfl, rfl, rfl, ⟨⟩⟩ fun _ => (wp_seq (wp_block ?_))))))))
  obtain ⟨p, hpk⟩ := some_of_lt (by omega : k < ps.length)
  refine sreg ?_
  obtain ⟨bE12, oE12, sgE12, rfl, uE12, hsE12, heE12⟩ := LA.get hp hpk
  obtain ⟨vd, rfl, hd⟩ := heE12
  have zE12 := hU _ uE12
  obtain ⟨ad, cd, rfl, -⟩ := id hd
  refine sv (xidx sl110 sz145 rfl rfl rfl (by omega)) (sv (xldS (lens := [1, 1]) ro145 rfl hsE12) ?_)
  refine svK (xallS (lens := [1, 1]) in145 rfl) ?_
  rintro _ w5 ⟨b4, rfl, m6, h4, e4, s4⟩
  have hf := hf.step0 m6
  have hL1 := hL1.step0 m6
  have hd := hd.keep (lU hU (by omega)) m6 nF
  refine suK (xstW h4 (lens' := [1, 1]) sz145 rfl rfl rfl rfl rfl) ?_
  rintro w8 ⟨m9, h4, s7⟩
  have hf := hf.step m9 (nB (by omega))
  have hL1 := hL1.step m9 (nB (by omega))
  have hd := hd.keep (lU hU (by omega)) m9 (fun k hk hS => by have hk := hU k hk; have hS : k = b4 := hS; omega)
  refine send (fg [(4, _), (8, _), (9, _), (10, _)] ⟨rfl, rfl, rfl, rfl, ⟨⟩⟩ fun _ => (sreg (sv (xldS (lens := [1, 1]) ro145 rfl h4.r) ?_)))
  refine sc (xcall ca190 rfl) (c190 (lU hU (by omega)) hd (hpl _ (List.mem_of_getElem? hpk))) ?_
  rintro _ w10 ⟨rfl, m11⟩
  have z12 := m11.size
  have hf := hf.step0 m11
  have hL1 := hL1.step0 m11
  refine sv (xnot rfl) (send (fg [(8, _), (9, _), (10, _), (16, _)] ⟨rfl, rfl, rfl, rfl, ⟨⟩⟩ fun _ => (cno rfl (wp_skip (nBlock (nThen (fg [(8, _), (9, _), (10, _)] ⟨rfl, rfl, rfl, ⟨⟩⟩ fun _ => (lreg (sv (xadd rfl rfl (w64 (by omega) (by omega))) (sM rfl (lend (nThen ?_))))))))))))
  refine ⟨k + 1, _, env_okl ⟨rfl, rfl, rfl, trivial⟩, ⟨hL1, (by omega)⟩, ?_⟩
  show ps.length - (k + 1) < ps.length - k; omega
 ·
  refine send (fg [(8, _), (9, _), (10, _), (11, _)] ⟨rfl, rfl, rfl, rfl, ⟨⟩⟩ fun _ => (wp_seq (cno rfl (wp_exit (eThen (eThen (eHit (nThen (fg [] trivial fun _ => (sreg (sA rfl (send (fg [(2, _)] ⟨rfl, ⟨⟩⟩ fun _ => (wp_ret ?_))))))))))))))
  refine rp1 rfl rfl ?_
  exact ⟨rfl, hf⟩
set_option maxHeartbeats 4000000 in
set_option maxRecDepth 100000 in
theorem c142 {w : World} {U : Nat → Prop} (hU : ∀ k, U k → k < w.heap.size) {v : Value} {ps : List ByteArray} (ht : LA TextEl [1] U w v ps) (hn : ps.length ≤ 1048576) (hpl : ∀ p ∈ ps, p.size ≤ 1048576) :
  Ret PP 142 [v] w (fun u w' => u = .bool true ∧ Fr0 w w') := by
 obtain ⟨a0, c0, rfl⟩ := ht.form
 have hf : Fr (fun _ => False) w w := Fr.refl _ _
 refine ret_of Tryz.func142 rfl rfl rfl [(0, _)] rfl ?_
 refine sreg (sA rfl (send (fg [(0, _)] ⟨rfl, ⟨⟩⟩ fun _ => (wp_seq (sreg (sM rfl (sv (xlen sl62 rfl) (sv (exF (xgtr rfl rfl) (by omega)) (send (fg [(0, _), (7, _)] ⟨rfl, rfl, ⟨⟩⟩ fun _ => (cno rfl (wp_skip (nThen (fg [(0, _)] ⟨rfl, ⟨⟩⟩ fun _ => (wp_seq (sreg (sM rfl (sv (xlen sl62 rfl) (sM rfl (send (fg [(8, _), (9, _), (10, _)] ⟨rfl, rfl, rfl, ⟨⟩⟩ fun _ => (wp_block ?_))))))))))))))))))))))
 refine lp [(8, _), (9, _)] (fun (k : Nat) => [(10, .int .i64 (k : Int))]) (fun (k : Nat) wx => Fr (fun _ => False) w wx ∧ (k ≤ ps.length)) (fun (k : Nat) => ps.length - k) 0 ⟨rfl, rfl, rfl, trivial⟩ ⟨Fr.refl _ _, Nat.zero_le _⟩ ?_
 rintro k _ w2 ⟨hL1, hk⟩
 refine fg [(8, _), (9, _), (10, _)] ⟨rfl, rfl, rfl, ⟨⟩⟩ fun _ => ?_
 have z3 := hL1.size
 have ht := ht.keep text_st (lU hU (by omega)) hL1 nF
 have hf := hf.step0 hL1
 refine sreg ?_
 refine svP (xlss rfl rfl) (fun hc11 => ?_) (fun hc11 => ?_)
 ·
  refine send (fg [(8, _), (9, _), (10, _), (11, _)] ⟨rfl, rfl, rfl, rfl, ⟨⟩⟩ fun _ => (wp_seq (cyes rfl (wp_skip (nThen (fg [(8, _), (9, _), (10, _)] ⟨rfl, rfl, rfl, ⟨⟩⟩ fun _ => (wp_seq (wp_block ?_))))))))
  obtain ⟨t, htk⟩ := some_of_lt (by omega : k < ps.length)
  have htl := hpl _ (List.mem_of_getElem? htk)
  refine sreg ?_
  obtain ⟨bE12, oE12, sgE12, rfl, uE12, hsE12, heE12⟩ := LA.get ht htk
  obtain rfl := heE12
  have zE12 := hU _ uE12
  refine sv (xidx sl62 sz9 rfl rfl rfl (by omega)) (sv (xld on9 rfl (hsE12.c 0 rfl rfl)) (sA rfl (send (fg [(4, _), (8, _), (9, _), (10, _)] ⟨rfl, rfl, rfl, rfl, ⟨⟩⟩ fun _ => (sreg (sM rfl (sv (xlenS st9 rfl) (sv (exF (xgtr rfl rfl) (by omega)) (send (fg [(8, _), (9, _), (10, _), (16, _)] ⟨rfl, rfl, rfl, rfl, ⟨⟩⟩ fun _ => (cno rfl (wp_skip (nBlock (nThen (fg [(8, _), (9, _), (10, _)] ⟨rfl, rfl, rfl, ⟨⟩⟩ fun _ => (lreg (sv (xadd rfl rfl (w64 (by omega) (by omega))) (sM rfl (lend (nThen ?_))))))))))))))))))))
  refine ⟨k + 1, _, env_okl ⟨rfl, rfl, rfl, trivial⟩, ⟨hL1, (by omega)⟩, ?_⟩
  show ps.length - (k + 1) < ps.length - k; omega
 ·
  refine send (fg [(8, _), (9, _), (10, _), (11, _)] ⟨rfl, rfl, rfl, rfl, ⟨⟩⟩ fun _ => (wp_seq (cno rfl (wp_exit (eThen (eThen (eHit (nThen (fg [] trivial fun _ => (sreg (sA rfl (send (fg [(2, _)] ⟨rfl, ⟨⟩⟩ fun _ => (wp_ret ?_))))))))))))))
  refine rp1 rfl rfl ?_
  exact ⟨rfl, hf⟩
set_option maxHeartbeats 4000000 in
set_option maxRecDepth 100000 in
theorem c81 {w : World} {U : Nat → Prop} (hU : ∀ k, U k → k < w.heap.size) {r : RecD} {vd vt vp : Value} (hd : BA U w vd r.data) (ht : LA TextEl [1] U w vt r.texts) (hp : LA PairEl lPair U w vp r.pairs) (hr : r.fits) :
  Ret PP 81 [ag (recSegs r vd vt vp)] w (fun u w' => u = .bool true ∧ Fr0 w w') := by
 obtain ⟨at0, ct0, rfl⟩ := ht.form
 obtain ⟨ap0, cp0, rfl⟩ := hp.form
 obtain ⟨ad0, cd0, rfl, -⟩ := id hd
 have hr0 := hr
 simp only [RecD.fits] at hr0
 have hf : Fr (fun _ => False) w w := Fr.refl _ _
 refine ret_of Tryz.func81 rfl rfl rfl [(0, _)] rfl ?_
 refine sreg ?_
 refine svK (xboxS (lens := lRec) rfl rfl) ?_
 rintro _ w2 ⟨b1, rfl, m3, h1, e1, s1⟩
 have ht := ht.keep text_st (lU hU (by omega)) m3 nF
 have hp := hp.keep pair_st (lU hU (by omega)) m3 nF
 have hf := hf.step0 m3
 refine sA rfl (send (fg [(1, _)] ⟨rfl, ⟨⟩⟩ fun _ => (wp_seq (sreg (sv (xfld fl112_0 rfl) (sv (xld on9 rfl (h1.r.c 0 rfl rfl)) (sv (xlenS st9 rfl) (sv (exF (xgtr rfl rfl) (by omega)) (send (fg [(1, _), (6, _)] ⟨rfl, rfl, ⟨⟩⟩ fun _ => (cno rfl (wp_skip (nThen (fg [(1, _)] ⟨rfl, ⟨⟩⟩ fun _ => (wp_seq (sreg (sv (xfld fl112_6 rfl) (sv (xld on37 rfl (h1.r.c 6 rfl rfl)) (sv (xlen sl37 rfl) (sv (exF (xgtr rfl rfl) (by omega)) (send (fg [(1, _), (10, _)] ⟨rfl, rfl, ⟨⟩⟩ fun _ => (cno rfl (wp_skip ?_))))))))))))))))))))))))
 refine nThen (fg [(1, _)] ⟨rfl, ⟨⟩⟩ fun _ => (wp_seq (sreg (sv (xfld fl112_7 rfl) (sv (xld on9 rfl (h1.r.c 7 rfl rfl)) (sv (xlenS st9 rfl) (sv (exF (xgtr rfl rfl) (by omega)) (send (fg [(1, _), (14, _)] ⟨rfl, rfl, ⟨⟩⟩ fun _ => (cno rfl (wp_skip (nThen (fg [(1, _)] ⟨rfl, ⟨⟩⟩ fun _ => (wp_seq (sreg (sv (xfld fl112_8 rfl) (sv (xld on9 rfl (h1.r.c 8 rfl rfl)) (sv (xlenS st9 rfl) (sv (exF (xgtr rfl rfl) (by omega)) (send (fg [(1, _), (18, _)] ⟨rfl, rfl, ⟨⟩⟩ fun _ => (cno rfl (wp_skip (nThen ?_))))))))))))))))))))))))
 refine fg [(1, _)] ⟨rfl, ⟨⟩⟩ fun _ => (wp_seq (sreg (sv (xfld fl112_14 rfl) (sv (xld on62 rfl (h1.r.c 14 rfl rfl)) ?_))))
 refine sc (xcall ca142 rfl) (c142 (lU hU (by omega)) ht (by omega) hr.2.2.2.2.2.1) ?_
 rintro _ w4 ⟨rfl, m5⟩
 have z6 := m5.size
 have hp := hp.keep pair_st (lU hU (by omega)) m5 nF
 have hf := hf.step0 m5
 have h1 := h1.keep m5 id
 refine sv (xnot rfl) (send (fg [(1, _), (22, _)] ⟨rfl, rfl, ⟨⟩⟩ fun _ => (cno rfl (wp_skip (nThen (fg [(1, _)] ⟨rfl, ⟨⟩⟩ fun _ => (wp_seq (sreg (sv (xfld fl112_15 rfl) (sv (xld on110 rfl (h1.r.c 15 rfl rfl)) ?_))))))))))
 refine sc (xcall ca143 rfl) (c143 (lU hU (by omega)) hp (by omega) hr.2.2.2.2.2.2.2.2.1) ?_
 rintro _ w7 ⟨rfl, m8⟩
 have z9 := m8.size
 have hf := hf.step0 m8
 refine sv (xnot rfl) (send (fg [(26, _)] ⟨rfl, ⟨⟩⟩ fun _ => (cno rfl (wp_skip (nThen (fg [] trivial fun _ => (sreg (sA rfl (send (fg [(2, _)] ⟨rfl, ⟨⟩⟩ fun _ => (wp_ret ?_)))))))))))
 refine rp1 rfl rfl ?_
 exact ⟨rfl, hf⟩
set_option maxHeartbeats 4000000 in
set_option maxRecDepth 100000 in
theorem c80 {w : World} {a : AskD} (ha : a.name.size ≤ 1048576) :
  Ret PP 80 [ag (askSegs a)] w (fun u w' => u = .bool true ∧ Fr0 w w') := by
 have hf : Fr (fun _ => False) w w := Fr.refl _ _
 refine ret_of Tryz.func80 rfl rfl rfl [(0, _)] rfl ?_
 refine sreg ?_
 refine svK (xboxS (lens := [1, 1, 1]) rfl rfl) ?_
 rintro _ w2 ⟨b1, rfl, m3, h1, e1, s1⟩
 have hf := hf.step0 m3
 refine sA rfl (send (fg [(1, _)] ⟨rfl, ⟨⟩⟩ fun _ => (wp_seq (sreg (sv (xfld fl58_0 rfl) (sv (xld on9 rfl (h1.r.c 0 rfl rfl)) (sv (xlenS st9 rfl) (sv (exF (xgtr rfl rfl) (by omega)) (send (fg [(6, _)] ⟨rfl, ⟨⟩⟩ fun _ => (cno rfl (wp_skip (nThen (fg [] trivial fun _ => (sreg (sA rfl (send (fg [(2, _)] ⟨rfl, ⟨⟩⟩ fun _ => (wp_ret ?_)))))))))))))))))))
 refine rp1 rfl rfl ?_
 exact ⟨rfl, hf⟩
set_option maxHeartbeats 4000000 in
set_option maxRecDepth 100000 in
theorem c31 {w : World} {U : Nat → Prop} (hU : ∀ k, U k → k < w.heap.size) {v : Value} {l : List AskD} (ha : LA AskEl lAsk U w v l) (hn : l.length ≤ 1048576) (hfa : ∀ a ∈ l, a.name.size ≤ 1048576) :
  Ret PP 31 [v] w (fun u w' => u = .bool true ∧ Fr0 w w') := by
 obtain ⟨a0, c0, rfl⟩ := ha.form
 have hf : Fr (fun _ => False) w w := Fr.refl _ _
 refine ret_of Tryz.func31 rfl rfl rfl [(0, _)] rfl ?_
 refine sreg (sA rfl (send (fg [(0, _)] ⟨rfl, ⟨⟩⟩ fun _ => (wp_seq (sreg (sM rfl (sv (xlen sl25 rfl) (sv (exF (xgtr rfl rfl) (by omega)) (send (fg [(0, _), (7, _)] ⟨rfl, rfl, ⟨⟩⟩ fun _ => (cno rfl (wp_skip (nThen (fg [(0, _)] ⟨rfl, ⟨⟩⟩ fun _ => (wp_seq (sreg (sM rfl (sv (xlen sl25 rfl) (sM rfl (send (fg [(8, _), (9, _), (10, _)] ⟨rfl, rfl, rfl, ⟨⟩⟩ fun _ => (wp_block ?_))))))))))))))))))))))
 refine lp [(8, _), (9, _)] (fun (k : Nat) => [(10, .int .i64 (k : Int))]) (fun (k : Nat) wx => Fr (fun _ => False) w wx ∧ (k ≤ l.length)) (fun (k : Nat) => l.length - k) 0 ⟨rfl, rfl, rfl, trivial⟩ ⟨Fr.refl _ _, Nat.zero_le _⟩ ?_
 rintro k _ w2 ⟨hL1, hk⟩
 refine fg [(8, _), (9, _), (10, _)] ⟨rfl, rfl, rfl, ⟨⟩⟩ fun _ => ?_
 have z3 := hL1.size
 have ha := ha.keep ask_st (lU hU (by omega)) hL1 nF
 have hf := hf.step0 hL1
 refine sreg ?_
 refine svP (xlss rfl rfl) (fun hc11 => ?_) (fun hc11 => ?_)
 ·
  refine send (fg [(8, _), (9, _), (10, _), (11, _)] ⟨rfl, rfl, rfl, rfl, ⟨⟩⟩ fun _ => (wp_seq (cyes rfl (wp_skip (nThen (fg [(8, _), (9, _), (10, _)] ⟨rfl, rfl, rfl, ⟨⟩⟩ fun _ => (wp_seq (wp_block ?_))))))))
  obtain ⟨a, hak⟩ := some_of_lt (by omega : k < l.length)
  refine sreg ?_
  obtain ⟨bE12, oE12, sgE12, rfl, uE12, hsE12, heE12⟩ := LA.get ha hak
  obtain rfl := heE12
  have zE12 := hU _ uE12
  refine sv (xidx sl25 sz58 rfl rfl rfl (by omega)) (sv (xldS (lens := [1, 1, 1]) ro58 rfl hsE12) ?_)
  refine svK (xallS (lens := [1, 1, 1]) in58 rfl) ?_
  rintro _ w5 ⟨b4, rfl, m6, h4, e4, s4⟩
  have hf := hf.step0 m6
  have hL1 := hL1.step0 m6
  refine suK (xstW h4 (lens' := [1, 1, 1]) sz58 rfl rfl rfl rfl rfl) ?_
  rintro w8 ⟨m9, h4, s7⟩
  have hf := hf.step m9 (nB (by omega))
  have hL1 := hL1.step m9 (nB (by omega))
  refine send (fg [(4, _), (8, _), (9, _), (10, _)] ⟨rfl, rfl, rfl, rfl, ⟨⟩⟩ fun _ => (sreg (sv (xldS (lens := [1, 1, 1]) ro58 rfl h4.r) ?_)))
  refine sc (xcall ca80 rfl) (c80 (hfa _ (List.mem_of_getElem? hak))) ?_
  rintro _ w10 ⟨rfl, m11⟩
  have z12 := m11.size
  have hf := hf.step0 m11
  have hL1 := hL1.step0 m11
  refine sv (xnot rfl) (send (fg [(8, _), (9, _), (10, _), (16, _)] ⟨rfl, rfl, rfl, rfl, ⟨⟩⟩ fun _ => (cno rfl (wp_skip (nBlock (nThen (fg [(8, _), (9, _), (10, _)] ⟨rfl, rfl, rfl, ⟨⟩⟩ fun _ => (lreg (sv (xadd rfl rfl (w64 (by omega) (by omega))) (sM rfl (lend (nThen ?_))))))))))))
  refine ⟨k + 1, _, env_okl ⟨rfl, rfl, rfl, trivial⟩, ⟨hL1, (by omega)⟩, ?_⟩
  show l.length - (k + 1) < l.length - k; omega
 ·
  refine send (fg [(8, _), (9, _), (10, _), (11, _)] ⟨rfl, rfl, rfl, rfl, ⟨⟩⟩ fun _ => (wp_seq (cno rfl (wp_exit (eThen (eThen (eHit (nThen (fg [] trivial fun _ => (sreg (sA rfl (send (fg [(2, _)] ⟨rfl, ⟨⟩⟩ fun _ => (wp_ret ?_))))))))))))))
  refine rp1 rfl rfl ?_
  exact ⟨rfl, hf⟩
set_option maxHeartbeats 4000000 in
set_option maxRecDepth 100000 in
theorem c32 {w : World} {U : Nat → Prop} (hU : ∀ k, U k → k < w.heap.size) {v : Value} {l : List RecD} (hl : LA RecEl lRec U w v l) (hn : l.length ≤ 1048576) (hfr : ∀ r ∈ l, r.fits) :
  Ret PP 32 [v] w (fun u w' => u = .bool true ∧ Fr0 w w') := by
 obtain ⟨a0, c0, rfl⟩ := hl.form
 have hf : Fr (fun _ => False) w w := Fr.refl _ _
 refine ret_of Tryz.func32 rfl rfl rfl [(0, _)] rfl ?_
 refine sreg (sA rfl (send (fg [(0, _)] ⟨rfl, ⟨⟩⟩ fun _ => (wp_seq (sreg (sM rfl (sv (xlen sl26 rfl) (sv (exF (xgtr rfl rfl) (by omega)) (send (fg [(0, _), (7, _)] ⟨rfl, rfl, ⟨⟩⟩ fun _ => (cno rfl (wp_skip (nThen (fg [(0, _)] ⟨rfl, ⟨⟩⟩ fun _ => (wp_seq (sreg (sM rfl (sv (xlen sl26 rfl) (sM rfl (send (fg [(8, _), (9, _), (10, _)] ⟨rfl, rfl, rfl, ⟨⟩⟩ fun _ => (wp_block ?_))))))))))))))))))))))
 refine lp [(8, _), (9, _)] (fun (k : Nat) => [(10, .int .i64 (k : Int))]) (fun (k : Nat) wx => Fr (fun _ => False) w wx ∧ (k ≤ l.length)) (fun (k : Nat) => l.length - k) 0 ⟨rfl, rfl, rfl, trivial⟩ ⟨Fr.refl _ _, Nat.zero_le _⟩ ?_
 rintro k _ w2 ⟨hL1, hk⟩
 refine fg [(8, _), (9, _), (10, _)] ⟨rfl, rfl, rfl, ⟨⟩⟩ fun _ => ?_
 have z3 := hL1.size
 have hl := hl.keep rec_st (lU hU (by omega)) hL1 nF
 have hf := hf.step0 hL1
 refine sreg ?_
 refine svP (xlss rfl rfl) (fun hc11 => ?_) (fun hc11 => ?_)
 ·
  refine send (fg [(8, _), (9, _), (10, _), (11, _)] ⟨rfl, rfl, rfl, rfl, ⟨⟩⟩ fun _ => (wp_seq (cyes rfl (wp_skip (nThen (fg [(8, _), (9, _), (10, _)] ⟨rfl, rfl, rfl, ⟨⟩⟩ fun _ => (wp_seq (wp_block ?_))))))))
  obtain ⟨r, hrk⟩ := some_of_lt (by omega : k < l.length)
  refine sreg ?_
  obtain ⟨bE12, oE12, sgE12, rfl, uE12, hsE12, heE12⟩ := LA.get hl hrk
  obtain ⟨vd, vt, vp, rfl, hd, ht, hp⟩ := heE12
  have zE12 := hU _ uE12
  obtain ⟨ad, cd, rfl, -⟩ := id hd
  obtain ⟨at1, ct1, rfl⟩ := ht.form
  obtain ⟨ap1, cp1, rfl⟩ := hp.form
  refine sv (xidx sl26 sz112 rfl rfl rfl (by omega)) (sv (xldS (lens := lRec) ro112 rfl hsE12) ?_)
  refine svK (xallS (lens := lRec) in112 rfl) ?_
  rintro _ w5 ⟨b4, rfl, m6, h4, e4, s4⟩
  have hf := hf.step0 m6
  have hL1 := hL1.step0 m6
  have hd := hd.keep (lU hU (by omega)) m6 nF
  have ht := ht.keep text_st (lU hU (by omega)) m6 nF
  have hp := hp.keep pair_st (lU hU (by omega)) m6 nF
  refine suK (xstW h4 (lens' := lRec) sz112 rfl rfl rfl rfl rfl) ?_
  rintro w8 ⟨m9, h4, s7⟩
  have hf := hf.step m9 (nB (by omega))
  have hL1 := hL1.step m9 (nB (by omega))
  have hd := hd.keep (lU hU (by omega)) m9 (fun k hk hS => by have hk := hU k hk; have hS : k = b4 := hS; omega)
  have ht := ht.keep text_st (lU hU (by omega)) m9 (fun k hk hS => by have hk := hU k hk; have hS : k = b4 := hS; omega)
  have hp := hp.keep pair_st (lU hU (by omega)) m9 (fun k hk hS => by have hk := hU k hk; have hS : k = b4 := hS; omega)
  refine send (fg [(4, _), (8, _), (9, _), (10, _)] ⟨rfl, rfl, rfl, rfl, ⟨⟩⟩ fun _ => (sreg (sv (xldS (lens := lRec) ro112 rfl h4.r) ?_)))
  refine sc (xcall ca81 rfl) (c81 (lU hU (by omega)) hd ht hp (hfr _ (List.mem_of_getElem? hrk))) ?_
  rintro _ w10 ⟨rfl, m11⟩
  have z12 := m11.size
  have hf := hf.step0 m11
  have hL1 := hL1.step0 m11
  refine sv (xnot rfl) (send (fg [(8, _), (9, _), (10, _), (16, _)] ⟨rfl, rfl, rfl, rfl, ⟨⟩⟩ fun _ => (cno rfl (wp_skip (nBlock (nThen (fg [(8, _), (9, _), (10, _)] ⟨rfl, rfl, rfl, ⟨⟩⟩ fun _ => (lreg (sv (xadd rfl rfl (w64 (by omega) (by omega))) (sM rfl (lend (nThen ?_))))))))))))
  refine ⟨k + 1, _, env_okl ⟨rfl, rfl, rfl, trivial⟩, ⟨hL1, (by omega)⟩, ?_⟩
  show l.length - (k + 1) < l.length - k; omega
 ·
  refine send (fg [(8, _), (9, _), (10, _), (11, _)] ⟨rfl, rfl, rfl, rfl, ⟨⟩⟩ fun _ => (wp_seq (cno rfl (wp_exit (eThen (eThen (eHit (nThen (fg [] trivial fun _ => (sreg (sA rfl (send (fg [(2, _)] ⟨rfl, ⟨⟩⟩ fun _ => (wp_ret ?_))))))))))))))
  refine rp1 rfl rfl ?_
  exact ⟨rfl, hf⟩
set_option maxHeartbeats 4000000 in
set_option maxRecDepth 100000 in
theorem c12 {w : World} {U : Nat → Prop} (hU : ∀ k, U k → k < w.heap.size) {m : MsgD} {va v1 v2 v3 : Value} (ha : LA AskEl lAsk U w va m.asks) (y1 : LA RecEl lRec U w v1 m.one) (y2 : LA RecEl lRec U w v2 m.two) (y3 : LA RecEl lRec U w v3 m.three) (hm : m.fits) :
  Ret PP 12 [ag (msgSegs m.head va v1 v2 v3)] w (fun u w' => u = .bool true ∧ Fr0 w w') := by
 obtain ⟨aa, ca, rfl⟩ := ha.form
 obtain ⟨a1, c1, rfl⟩ := y1.form
 obtain ⟨a2, c2, rfl⟩ := y2.form
 obtain ⟨a3, c3, rfl⟩ := y3.form
 have hf : Fr (fun _ => False) w w := Fr.refl _ _
 refine ret_of Tryz.func12 rfl rfl rfl [(0, _)] rfl ?_
 refine sreg ?_
 refine svK (xboxS (lens := lMsg) rfl rfl) ?_
 rintro _ w2 ⟨b1, rfl, m3, h1, e1, s1⟩
 have ha := ha.keep ask_st (lU hU (by omega)) m3 nF
 have y1 := y1.keep rec_st (lU hU (by omega)) m3 nF
 have y2 := y2.keep rec_st (lU hU (by omega)) m3 nF
 have y3 := y3.keep rec_st (lU hU (by omega)) m3 nF
 have hf := hf.step0 m3
 refine sA rfl (send (fg [(1, _)] ⟨rfl, ⟨⟩⟩ fun _ => (wp_seq (sreg (sv (xfld fl28_1 rfl) (sv (xld on25 rfl (h1.r.c 10 rfl rfl)) ?_))))))
 refine sc (xcall ca31 rfl) (c31 (lU hU (by omega)) ha hm.1 hm.2.1) ?_
 rintro _ w4 ⟨rfl, m5⟩
 have z6 := m5.size
 have y1 := y1.keep rec_st (lU hU (by omega)) m5 nF
 have y2 := y2.keep rec_st (lU hU (by omega)) m5 nF
 have y3 := y3.keep rec_st (lU hU (by omega)) m5 nF
 have hf := hf.step0 m5
 have h1 := h1.keep m5 id
 refine sv (xnot rfl) (send (fg [(1, _), (6, _)] ⟨rfl, rfl, ⟨⟩⟩ fun _ => (cno rfl (wp_skip (nThen (fg [(1, _)] ⟨rfl, ⟨⟩⟩ fun _ => (wp_seq (sreg (sv (xfld fl28_2 rfl) (sv (xld on26 rfl (h1.r.c 11 rfl rfl)) ?_))))))))))
 refine sc (xcall ca32 rfl) (c32 (lU hU (by omega)) y1 hm.2.2.1 hm.2.2.2.2.2.1) ?_
 rintro _ w7 ⟨rfl, m8⟩
 have z9 := m8.size
 have y2 := y2.keep rec_st (lU hU (by omega)) m8 nF
 have y3 := y3.keep rec_st (lU hU (by omega)) m8 nF
 have hf := hf.step0 m8
 have h1 := h1.keep m8 id
 refine sv (xnot rfl) (send (fg [(1, _), (10, _)] ⟨rfl, rfl, ⟨⟩⟩ fun _ => (cno rfl (wp_skip (nThen (fg [(1, _)] ⟨rfl, ⟨⟩⟩ fun _ => (wp_seq (sreg (sv (xfld fl28_3 rfl) (sv (xld on26 rfl (h1.r.c 12 rfl rfl)) ?_))))))))))
 refine sc (xcall ca32 rfl) (c32 (lU hU (by omega)) y2 hm.2.2.2.1 hm.2.2.2.2.2.2.1) ?_
 rintro _ w10 ⟨rfl, m11⟩
 have z12 := m11.size
 have y3 := y3.keep rec_st (lU hU (by omega)) m11 nF
 have hf := hf.step0 m11
 have h1 := h1.keep m11 id
 refine sv (xnot rfl) (send (fg [(1, _), (14, _)] ⟨rfl, rfl, ⟨⟩⟩ fun _ => (cno rfl (wp_skip (nThen (fg [(1, _)] ⟨rfl, ⟨⟩⟩ fun _ => (wp_seq (sreg (sv (xfld fl28_4 rfl) (sv (xld on26 rfl (h1.r.c 13 rfl rfl)) ?_))))))))))
 refine sc (xcall ca32 rfl) (c32 (lU hU (by omega)) y3 hm.2.2.2.2.1 hm.2.2.2.2.2.2.2) ?_
 rintro _ w13 ⟨rfl, m14⟩
 have z15 := m14.size
 have hf := hf.step0 m14
 refine sv (xnot rfl) (send (fg [(18, _)] ⟨rfl, ⟨⟩⟩ fun _ => (cno rfl (wp_skip (nThen (fg [] trivial fun _ => (sreg (sA rfl (send (fg [(2, _)] ⟨rfl, ⟨⟩⟩ fun _ => (wp_ret ?_)))))))))))
 refine rp1 rfl rfl ?_
 exact ⟨rfl, hf⟩
set_option maxHeartbeats 4000000 in
set_option maxRecDepth 100000 in
theorem c82 {w : World} {s : ByteArray} (hs : s.size ≤ 1048576) :
  Ret PP 82 [.string s] w (Grd w (nameOk s = true)) := by
 have hf : Fr (fun _ => False) w w := Fr.refl _ _
 refine ret_of Tryz.func82 rfl rfl rfl [(0, _)] rfl ?_
 refine sreg (sA rfl (send (fg [(0, _)] ⟨rfl, ⟨⟩⟩ fun _ => (wp_seq (sreg (sM rfl ?_))))))
 refine svP (xeqs rfl rfl) (fun hc6 => ?_) (fun hc6 => ?_)
 ·
  refine send (fg [(0, _), (6, _)] ⟨rfl, rfl, ⟨⟩⟩ fun _ => (cyes rfl (sreg (sA rfl (send (fg [(2, _)] ⟨rfl, ⟨⟩⟩ fun _ => (wp_ret (rThen ?_))))))))
  refine rp1 rfl rfl ?_
  exact ⟨_, rfl, (fun _ => nameOk_dot hc6), hf⟩
 ·
  refine send (fg [(0, _), (6, _)] ⟨rfl, rfl, ⟨⟩⟩ fun _ => (cno rfl (wp_skip (nThen (fg [(0, _)] ⟨rfl, ⟨⟩⟩ fun _ => (sreg (sA rfl (send (fg [(0, _), (3, _)] ⟨rfl, rfl, ⟨⟩⟩ fun _ => (wp_seq (sreg (sM rfl (sv (xlenS st9 rfl) (sM rfl (send (fg [(0, _), (3, _), (8, _), (9, _)] ⟨rfl, rfl, rfl, rfl, ⟨⟩⟩ fun _ => (wp_block ?_)))))))))))))))))
  refine lp [(0, _), (8, _)] (fun (x : Nat × Nat) => match x with | (k, n) => [(3, .int .i64 (n : Int)), (9, .int .i64 (k : Int))]) (fun (x : Nat × Nat) wx => match x with | (k, n) => Fr (fun _ => False) w wx ∧ (k ≤ s.size) ∧ (nameGo n ((bt s).drop k) = nameGo 0 (bt s)) ∧ (n ≤ k)) (fun (x : Nat × Nat) => match x with | (k, n) => s.size - k) (0, 0) ⟨rfl, rfl, rfl, rfl, trivial⟩ ⟨Fr.refl _ _, Nat.zero_le _, rfl, Nat.le_refl _⟩ ?_
  rintro ⟨k, n⟩ _ w2 ⟨hL1, hk, hG, hn⟩
  refine fg [(0, _), (3, _), (8, _), (9, _)] ⟨rfl, rfl, rfl, rfl, ⟨⟩⟩ fun _ => ?_
  have z3 := hL1.size
  have hf := hf.step0 hL1
  refine sreg ?_
  refine svP (xlss rfl rfl) (fun hc10 => ?_) (fun hc10 => ?_)
  ·
   refine send (fg [(0, _), (3, _), (8, _), (9, _), (10, _)] ⟨rfl, rfl, rfl, rfl, rfl, ⟨⟩⟩ fun _ => (wp_seq (cyes rfl (wp_skip (nThen (fg [(0, _), (3, _), (8, _), (9, _)] ⟨rfl, rfl, rfl, rfl, ⟨⟩⟩ fun _ => (wp_seq (wp_block (sreg (sM rfl (sA rfl (send (fg [(0, _), (3, _), (4, _), (8, _), (9, _)] ⟨rfl, rfl, rfl, rfl, rfl, ⟨⟩⟩ fun _ => (wp_seq (sreg (sM rfl (sM rfl (sv (xidxS st9 rfl rfl rfl (by omega)) ?_))))))))))))))))))
   refine svP (xneq rfl rfl) (fun hc15 => ?_) (fun hc15 => ?_)
   ·
    refine send (fg [(0, _), (3, _), (8, _), (9, _), (15, _)] ⟨rfl, rfl, rfl, rfl, rfl, ⟨⟩⟩ fun _ => (cyes rfl (sreg (sM rfl (sv (xadd rfl rfl (w64 (by omega) (by omega))) (sA rfl (send (fg [(0, _), (3, _), (8, _), (9, _)] ⟨rfl, rfl, rfl, rfl, ⟨⟩⟩ fun _ => (wp_exit (eThen (eHit (nThen (fg [(0, _), (3, _), (8, _), (9, _)] ⟨rfl, rfl, rfl, rfl, ⟨⟩⟩ fun _ => (lreg (sv (xadd rfl rfl (w64 (by omega) (by omega))) (sM rfl (lend (nThen ?_))))))))))))))))))
    have e := hG
    rw [wire_one (by omega)] at e
    simp only [nameGo, u8_ne hc15, if_false] at e
    refine ⟨(k + 1, n + 1), _, env_okl ⟨rfl, rfl, rfl, rfl, trivial⟩, ⟨hL1, (by omega), (e), (by omega)⟩, ?_⟩
    show s.size - (k + 1) < s.size - k; omega
   ·
    refine send (fg [(0, _), (3, _), (8, _), (9, _), (15, _)] ⟨rfl, rfl, rfl, rfl, rfl, ⟨⟩⟩ fun _ => (cno rfl (wp_skip (nThen (fg [(0, _), (3, _), (8, _), (9, _)] ⟨rfl, rfl, rfl, rfl, ⟨⟩⟩ fun _ => (wp_seq (sreg (sM rfl ?_))))))))
    refine svP (xeql rfl rfl) (fun hc19 => ?_) (fun hc19 => ?_)
    ·
     refine sM rfl (gno rfl rfl rfl (gno rfl rfl rfl (sv (xpickT rfl rfl) (send (fg [(0, _), (8, _), (9, _), (23, _)] ⟨rfl, rfl, rfl, rfl, ⟨⟩⟩ fun _ => (cyes rfl (sreg (sA rfl (send (fg [(2, _)] ⟨rfl, ⟨⟩⟩ fun _ => (wp_ret (rThen (rBlock (rThen (rThen (rBlock (rThen ?_)))))))))))))))))
     refine rp1 rfl rfl ?_
     exact ⟨_, rfl, (fun h => by cases h), hf⟩
    ·
     refine sM rfl (gyes rfl rfl rfl (sM rfl (gyes rfl rfl rfl ?_)))
     refine svP (xgtr rfl rfl) (fun hc22 => ?_) (fun hc22 => ?_)
     ·
      refine sv (xpickF rfl rfl) (send (fg [(0, _), (8, _), (9, _), (23, _)] ⟨rfl, rfl, rfl, rfl, ⟨⟩⟩ fun _ => (cyes rfl (sreg (sA rfl (send (fg [(2, _)] ⟨rfl, ⟨⟩⟩ fun _ => (wp_ret (rThen (rBlock (rThen (rThen (rBlock (rThen ?_))))))))))))))
      refine rp1 rfl rfl ?_
      exact ⟨_, rfl, (fun h => by cases h), hf⟩
     ·
      refine sv (xpickF rfl rfl) (send (fg [(0, _), (8, _), (9, _), (23, _)] ⟨rfl, rfl, rfl, rfl, ⟨⟩⟩ fun _ => (cno rfl (wp_skip (nThen (fg [(0, _), (8, _), (9, _)] ⟨rfl, rfl, rfl, ⟨⟩⟩ fun _ => (lreg (sA rfl (lend (nBlock (nThen (fg [(0, _), (3, _), (8, _), (9, _)] ⟨rfl, rfl, rfl, rfl, ⟨⟩⟩ fun _ => (lreg (sv (xadd rfl rfl (w64 (by omega) (by omega))) (sM rfl (lend (nThen ?_)))))))))))))))))
      have e := hG
      rw [wire_one (by omega)] at e
      rw [nameGo, if_pos (u8_eq hc15), if_neg (by omega)] at e
      refine ⟨(k + 1, 0), _, env_okl ⟨rfl, rfl, rfl, rfl, trivial⟩, ⟨hL1, (by omega), (e), (by omega)⟩, ?_⟩
      show s.size - (k + 1) < s.size - k; omega
  ·
   refine send (fg [(0, _), (3, _), (8, _), (9, _), (10, _)] ⟨rfl, rfl, rfl, rfl, rfl, ⟨⟩⟩ fun _ => (wp_seq (cno rfl (wp_exit (eThen (eThen (eHit (nThen (fg [(0, _), (3, _)] ⟨rfl, rfl, ⟨⟩⟩ fun _ => (sreg (sM rfl ?_)))))))))))
   refine svP (xeql rfl rfl) (fun hc26 => ?_) (fun hc26 => ?_)
   ·
    refine sM rfl (gyes rfl rfl rfl (sM rfl (gyes rfl rfl rfl (sv (xlenS st9 rfl) (gyes rfl rfl rfl ?_)))))
    refine svP (xgtr rfl rfl) (fun hc30 => ?_) (fun hc30 => ?_)
    ·
     refine sv (xpickT rfl rfl) (sM rfl (gyes rfl rfl rfl (sM rfl (gyes rfl rfl rfl (sv (xlenS st9 rfl) (gyes rfl rfl rfl ?_))))))
     refine svP (xleq rfl rfl) (fun hc35 => ?_) (fun hc35 => ?_)
     ·
      refine sv (xpickT rfl rfl) (sA rfl (send (fg [(2, _)] ⟨rfl, ⟨⟩⟩ fun _ => (wp_ret ?_))))
      refine rp1 rfl rfl ?_
      refine ⟨_, rfl, (fun _ => ?_), hf⟩
      have e : (bt s).drop k = [] := List.drop_eq_nil_of_le (by rw [bt_length]; omega)
      rw [e] at hG
      have e2 : nameGo 0 (bt s) = true := by rw [← hG]; simp [nameGo]; omega
      have e3 : decide (1 < s.size) = true := by simp; omega
      have e4 : decide (s.size ≤ 254) = true := by simp; omega
      simp only [nameOk, e2, e3, e4]; simp
     ·
      refine sv (xpickT rfl rfl) (sA rfl (send (fg [(2, _)] ⟨rfl, ⟨⟩⟩ fun _ => (wp_ret ?_))))
      refine rp1 rfl rfl ?_
      exact ⟨_, rfl, (fun h => by cases h), hf⟩
    ·
     refine sv (xpickT rfl rfl) (sM rfl (gno rfl rfl rfl (gno rfl rfl rfl (gno rfl rfl rfl (sv (xpickF rfl rfl) (sA rfl (send (fg [(2, _)] ⟨rfl, ⟨⟩⟩ fun _ => (wp_ret ?_)))))))))
     refine rp1 rfl rfl ?_
     exact ⟨_, rfl, (fun h => by cases h), hf⟩
   ·
    refine sM rfl (gno rfl rfl rfl (gno rfl rfl rfl (gno rfl rfl rfl (sv (xpickF rfl rfl) (sM rfl (gno rfl rfl rfl (gno rfl rfl rfl (gno rfl rfl rfl (sv (xpickF rfl rfl) (sA rfl (send (fg [(2, _)] ⟨rfl, ⟨⟩⟩ fun _ => (wp_ret ?_)))))))))))))
    refine rp1 rfl rfl ?_
    exact ⟨_, rfl, (fun h => by cases h), hf⟩
end Go.Proofs.YtifnodoffgfpbaaGreatDoor

namespace Go.Proofs.YtifnodoffgfpbaaGreatDoor
open Go

def hostOk (r : RecD) : Prop := (r.kind = 2 ∨ r.kind = 3 ∨ r.kind = 5 ∨ r.kind = 6 ∨ r.kind = 9 ∨ r.kind = 11 ∨ r.kind = 12 ∨ r.kind = 4 → nameOk r.host = true) ∧ (r.kind = 4 → nameOk r.box = true)
def bodyOk (r : RecD) : Prop := (r.kind = 7 → r.texts ≠ [] ∧ ∀ s ∈ r.texts, s.size ≤ 255) ∧ (r.kind = 11 ∨ r.kind = 12 → asc r.pairs) ∧ hostOk r
def goodR (r : RecD) : Prop := nameOk r.name = true ∧ bodyOk r
def sizeR (r : RecD) : Nat := r.data.length + r.texts.length + (r.texts.map (·.size)).sum + (r.pairs.map (fun p => p.data.length + 4)).sum
def smallR (r : RecD) : Prop := 1 ≤ r.kind ∧ r.kind ≤ 13 ∧ sizeR r ≤ 2000
def okM (m : MsgD) : Prop := (∀ a ∈ m.asks, nameOk a.name = true) ∧ (∀ l ∈ [m.one, m.two, m.three], ∀ r ∈ l, goodR r) ∧ m.head.ok
theorem asc_one (ps : List PairD) : ∀ (i : Nat) (p q : PairD), i + 1 < 1 → ps[i]? = some p → ps[i + 1]? = some q → p.key.toNat < q.key.toNat := fun i p q h => by omega
theorem asc_step {ps : List PairD} {k : Nat} (h : ∀ (i : Nat) (p q : PairD), i + 1 < k → ps[i]? = some p → ps[i + 1]? = some q → p.key.toNat < q.key.toNat) (hk : 1 ≤ k) {a b : PairD} (ha : ps[k - 1]? = some a) (hb : ps[k]? = some b) (hl : a.key.toNat < b.key.toNat) :
    ∀ (i : Nat) (p q : PairD), i + 1 < k + 1 → ps[i]? = some p → ps[i + 1]? = some q → p.key.toNat < q.key.toNat := by
  intro i p q hi hp hq
  by_cases h1 : i + 1 < k
  · exact h i p q h1 hp hq
  · obtain rfl : k = i + 1 := by omega
    simp only [Nat.add_sub_cancel] at ha
    rw [hp] at ha; rw [hq] at hb
    simp only [Option.some.injEq] at ha hb
    subst ha hb; exact hl
theorem upto_step {α : Type} {l : List α} {p : α → Prop} {k : Nat} {a : α} (h : ∀ i x, i < k → l[i]? = some x → p x) (ha : l[k]? = some a) (hp : p a) : ∀ i x, i < k + 1 → l[i]? = some x → p x := by
  intro i x hi hx
  by_cases h1 : i < k
  · exact h i x h1 hx
  · obtain rfl : i = k := by omega
    rw [ha] at hx
    simp only [Option.some.injEq] at hx
    subst hx; exact hp
theorem upto_all {α : Type} {l : List α} {p : α → Prop} {k : Nat} (h : ∀ i x, i < k → l[i]? = some x → p x) (hk : l.length ≤ k) : ∀ x ∈ l, p x := by
  intro x hx
  obtain ⟨i, hi, rfl⟩ := List.mem_iff_getElem.1 hx
  exact h i _ (by omega) (List.getElem?_eq_getElem hi)
theorem upto_zero {α : Type} {l : List α} {p : α → Prop} : ∀ i x, i < 0 → l[i]? = some x → p x := fun i x h => by omega
theorem sum_take_add {α : Type} {f : α → Nat} {l : List α} {k : Nat} {a : α} (h : l[k]? = some a) : ((l.take (k + 1)).map f).sum = ((l.take k).map f).sum + f a := by
  rw [take_snoc h]; simp
theorem sum_add4 (ps : List PairD) : (ps.map (fun p => p.data.length + 4)).sum = (ps.map (·.data.length)).sum + 4 * ps.length := by
  induction ps with
  | nil => rfl
  | cons p ps ih => simp only [List.map_cons, List.sum_cons, List.length_cons, ih]; omega

set_option maxHeartbeats 4000000 in
set_option maxRecDepth 100000 in
theorem c144 {w : World} {U : Nat → Prop} (hU : ∀ k, U k → k < w.heap.size) {v : Value} {ps : List PairD} (hp : LA PairEl lPair U w v ps) (hn : ps.length ≤ 1048576) :
  Ret PP 144 [v] w (Grd w (asc ps)) := by
 obtain ⟨a0, c0, rfl⟩ := hp.form
 have hf : Fr (fun _ => False) w w := Fr.refl _ _
 refine ret_of Tryz.func144 rfl rfl rfl [(0, _)] rfl ?_
 refine sreg (sA rfl (send (fg [(0, _)] ⟨rfl, ⟨⟩⟩ fun _ => (wp_seq (sreg (sA rfl (send (fg [(0, _), (3, _)] ⟨rfl, rfl, ⟨⟩⟩ fun _ => (wp_block ?_)))))))))
 refine lp [(0, _)] (fun (k : Nat) => [(3, .int .i64 (k : Int))]) (fun (k : Nat) wx => Fr (fun _ => False) w wx ∧ (1 ≤ k) ∧ (k ≤ ps.length ∨ k = 1) ∧ (∀ (i : Nat) (p q : PairD), i + 1 < k → ps[i]? = some p → ps[i + 1]? = some q → p.key.toNat < q.key.toNat)) (fun (k : Nat) => ps.length - k) 1 ⟨rfl, rfl, trivial⟩ ⟨Fr.refl _ _, Nat.le_refl _, .inr rfl, asc_one ps⟩ ?_
 rintro k _ w2 ⟨hL1, hk1, hk, hA⟩
 refine fg [(0, _), (3, _)] ⟨rfl, rfl, ⟨⟩⟩ fun _ => ?_
 have z3 := hL1.size
 have hp := hp.keep pair_st (lU hU (by omega)) hL1 nF
 have hf := hf.step0 hL1
 refine wp_seq (sreg (sM rfl (sM rfl (sv (xlen sl63 rfl) ?_))))
 refine svP (xlss rfl rfl) (fun hc7 => ?_) (fun hc7 => ?_)
 ·
  refine send (fg [(0, _), (3, _), (7, _)] ⟨rfl, rfl, rfl, ⟨⟩⟩ fun _ => (cyes rfl (wp_skip (nThen (fg [(0, _), (3, _)] ⟨rfl, rfl, ⟨⟩⟩ fun _ => (wp_seq (wp_block ?_)))))))
  obtain ⟨p, hpk⟩ := some_of_lt (by omega : k - 1 < ps.length)
  obtain ⟨q, hqk⟩ := some_of_lt (by omega : k < ps.length)
  refine sdraw (Fr (fun _ => False) w2.drew) [(0, .rd), (1, .rd), (2, .rd), (3, .rd), (4, .rd), (5, .rd), (6, .rd), (7, .rd), (8, .rd), (9, .rd), (10, .rd), (11, .rd)] mixed (by kernel_rfl) (fun _ _ _ _ _ h => h) ?_
  have z4 : w2.drew.heap.size = w2.heap.size := rfl
  have hp := hp.keep pair_st (lU hU (by omega)) (fd w2) nF
  have hf := hf.drew
  have hL1 := hL1.drew
  have hS5 : Fr (fun _ => False) w2.drew w2.drew := Fr.refl _ _
  refine ggM rfl rfl hS5 (ggM rfl rfl hS5 (hv rfl (fun _ _ => xsub rfl rfl (w64 (by omega) (by omega))) hS5 ?_))
  obtain ⟨bE13, oE13, sgE13, rfl, uE13, hsE13, heE13⟩ := LA.get hp hpk
  obtain ⟨vd, rfl, hd⟩ := heE13
  have zE13 := hU _ uE13
  refine hv rfl (fun _ _ => xidx sl63 sz67 (i := k - 1) rfl rfl (by omega) (by omega)) hS5 (hv rfl (fun _ _ => xfld fl67_0 rfl) hS5 (hv rfl (fun w' hS => xld on22 rfl ((hsE13.keep hS (by omega) id).c 0 rfl rfl)) hS5 (ggM rfl rfl hS5 (ggM rfl rfl hS5 ?_))))
  obtain ⟨bE18, oE18, sgE18, hbo, uE18, hsE18, heE18⟩ := LA.get hp hqk
  simp only [Option.some.injEq, Addr.mk.injEq, and_true] at hbo
  obtain ⟨rfl, rfl⟩ := hbo
  obtain ⟨vd2, rfl, hd2⟩ := heE18
  have zE18 := hU _ uE18
  refine hv rfl (fun _ _ => xidx sl63 sz67 rfl rfl rfl (by omega)) hS5 (hv rfl (fun _ _ => xfld fl67_0 rfl) hS5 (hv rfl (fun w' hS => xld on22 rfl ((hsE18.keep hS (by omega) id).c 0 rfl rfl)) hS5 ?_))
  refine hvP rfl (fun _ _ => xgeq rfl rfl) hS5 (fun hc21 => ?_) (fun hc21 => ?_)
  ·
   refine hend (fg [(0, _), (3, _), (21, _)] ⟨rfl, rfl, rfl, ⟨⟩⟩ fun _ => (cyes rfl (sreg (sA rfl (send (fg [(2, _)] ⟨rfl, ⟨⟩⟩ fun _ => (wp_ret (rBlock (rThen (rThen (rBlock (rThen ?_))))))))))))
   refine rp1 rfl rfl ?_
   exact ⟨_, rfl, (fun h => by cases h), hf⟩
  ·
   refine hend (fg [(0, _), (3, _), (21, _)] ⟨rfl, rfl, rfl, ⟨⟩⟩ fun _ => (cno rfl (wp_skip (nBlock (nThen (fg [(0, _), (3, _)] ⟨rfl, rfl, ⟨⟩⟩ fun _ => (lreg (sM rfl (sv (xadd rfl rfl (w64 (by omega) (by omega))) (sA rfl (lend (nThen ?_))))))))))))
   refine ⟨k + 1, _, env_okl ⟨rfl, rfl, trivial⟩, ⟨hL1, (by omega), (by omega), (asc_step hA hk1 hpk hqk (by omega))⟩, ?_⟩
   show ps.length - (k + 1) < ps.length - k; omega
 ·
  refine send (fg [(0, _), (3, _), (7, _)] ⟨rfl, rfl, rfl, ⟨⟩⟩ fun _ => (cno rfl (wp_exit (eThen (eThen (eHit (nThen (fg [] trivial fun _ => (sreg (sA rfl (send (fg [(2, _)] ⟨rfl, ⟨⟩⟩ fun _ => (wp_ret ?_)))))))))))))
  refine rp1 rfl rfl ?_
  refine ⟨_, rfl, (fun _ i p q hp hq => hA i p q ?_ hp hq), hf⟩
  have := (List.getElem?_eq_some_iff.1 hq).1
  omega
set_option maxHeartbeats 4000000 in
set_option maxRecDepth 100000 in
theorem c145 {w : World} {r : RecD} {vd vt vp : Value} (hr : r.fits) :
  Ret PP 145 [ag (recSegs r vd vt vp)] w (Grd w (hostOk r)) := by
 have hr0 := hr
 simp only [RecD.fits] at hr0
 have hf : Fr (fun _ => False) w w := Fr.refl _ _
 refine ret_of Tryz.func145 rfl rfl rfl [(0, _)] rfl ?_
 refine sreg ?_
 refine svK (xboxS (lens := lRec) rfl rfl) ?_
 rintro _ w2 ⟨b1, rfl, m3, h1, e1, s1⟩
 have hf := hf.step0 m3
 refine sA rfl (send (fg [(1, _)] ⟨rfl, ⟨⟩⟩ fun _ => (wp_seq (sreg (sv (xfld fl65_5 rfl) (sv (xld on3 rfl (h1.r.c 5 rfl rfl)) (send (fg [(1, _), (4, _)] ⟨rfl, rfl, ⟨⟩⟩ fun _ => (wp_block (wp_seq (sreg ?_)))))))))))
 refine svP (xeql rfl rfl) (fun hc6 => ?_) (fun hc6 => ?_)
 ·
  refine sA rfl (send (fg [(1, _), (4, _), (5, _)] ⟨rfl, rfl, rfl, ⟨⟩⟩ fun _ => (cyes rfl (wp_skip (nThen (fg [(1, _), (4, _), (5, _)] ⟨rfl, rfl, rfl, ⟨⟩⟩ fun _ => (cyes rfl (sreg (sv (xfld fl65_7 rfl) (sv (xld on9 rfl (h1.r.c 7 rfl rfl)) ?_))))))))))
  refine sc (xcall ca82 rfl) (c82 (by omega)) ?_
  rintro _ w4 ⟨gb15, rfl, gp15, m5⟩
  have z6 := m5.size
  have hf := hf.step0 m5
  have h1 := h1.keep m5 id
  rcases Bool.eq_false_or_eq_true gb15 with rfl | rfl
  ·
   refine sA rfl (send (fg [(2, _)] ⟨rfl, ⟨⟩⟩ fun _ => (wp_ret (rBlock (rThen ?_)))))
   refine rp1 rfl rfl ?_
   exact ⟨_, rfl, (fun _ => ⟨fun _ => by first | exact gp15 rfl | exact gp20 rfl | omega, fun _ => by first | exact gp24 rfl | omega⟩), hf⟩
  ·
   refine sA rfl (send (fg [(2, _)] ⟨rfl, ⟨⟩⟩ fun _ => (wp_ret (rBlock (rThen ?_)))))
   refine rp1 rfl rfl ?_
   exact ⟨_, rfl, (fun h => by cases h), hf⟩
 ·
  refine sA rfl (send (fg [(1, _), (4, _), (5, _)] ⟨rfl, rfl, rfl, ⟨⟩⟩ fun _ => (cno rfl (sreg ?_))))
  refine svP (xeql rfl rfl) (fun hc7 => ?_) (fun hc7 => ?_)
  ·
   refine sA rfl (send (fg [(1, _), (4, _), (5, _)] ⟨rfl, rfl, rfl, ⟨⟩⟩ fun _ => (cyes rfl (wp_skip (nThen (fg [(1, _), (4, _), (5, _)] ⟨rfl, rfl, rfl, ⟨⟩⟩ fun _ => (cyes rfl (sreg (sv (xfld fl65_7 rfl) (sv (xld on9 rfl (h1.r.c 7 rfl rfl)) ?_))))))))))
   refine sc (xcall ca82 rfl) (c82 (by omega)) ?_
   rintro _ w7 ⟨gb15, rfl, gp15, m8⟩
   have z9 := m8.size
   have hf := hf.step0 m8
   have h1 := h1.keep m8 id
   rcases Bool.eq_false_or_eq_true gb15 with rfl | rfl
   ·
    refine sA rfl (send (fg [(2, _)] ⟨rfl, ⟨⟩⟩ fun _ => (wp_ret (rBlock (rThen ?_)))))
    refine rp1 rfl rfl ?_
    exact ⟨_, rfl, (fun _ => ⟨fun _ => by first | exact gp15 rfl | exact gp20 rfl | omega, fun _ => by first | exact gp24 rfl | omega⟩), hf⟩
   ·
    refine sA rfl (send (fg [(2, _)] ⟨rfl, ⟨⟩⟩ fun _ => (wp_ret (rBlock (rThen ?_)))))
    refine rp1 rfl rfl ?_
    exact ⟨_, rfl, (fun h => by cases h), hf⟩
  ·
   refine sA rfl (send (fg [(1, _), (4, _), (5, _)] ⟨rfl, rfl, rfl, ⟨⟩⟩ fun _ => (cno rfl (sreg ?_))))
   refine svP (xeql rfl rfl) (fun hc8 => ?_) (fun hc8 => ?_)
   ·
    refine sA rfl (send (fg [(1, _), (4, _), (5, _)] ⟨rfl, rfl, rfl, ⟨⟩⟩ fun _ => (cyes rfl (wp_skip (nThen (fg [(1, _), (4, _), (5, _)] ⟨rfl, rfl, rfl, ⟨⟩⟩ fun _ => (cyes rfl (sreg (sv (xfld fl65_7 rfl) (sv (xld on9 rfl (h1.r.c 7 rfl rfl)) ?_))))))))))
    refine sc (xcall ca82 rfl) (c82 (by omega)) ?_
    rintro _ w10 ⟨gb15, rfl, gp15, m11⟩
    have z12 := m11.size
    have hf := hf.step0 m11
    have h1 := h1.keep m11 id
    rcases Bool.eq_false_or_eq_true gb15 with rfl | rfl
    ·
     refine sA rfl (send (fg [(2, _)] ⟨rfl, ⟨⟩⟩ fun _ => (wp_ret (rBlock (rThen ?_)))))
     refine rp1 rfl rfl ?_
     exact ⟨_, rfl, (fun _ => ⟨fun _ => by first | exact gp15 rfl | exact gp20 rfl | omega, fun _ => by first | exact gp24 rfl | omega⟩), hf⟩
    ·
     refine sA rfl (send (fg [(2, _)] ⟨rfl, ⟨⟩⟩ fun _ => (wp_ret (rBlock (rThen ?_)))))
     refine rp1 rfl rfl ?_
     exact ⟨_, rfl, (fun h => by cases h), hf⟩
   ·
    refine sA rfl (send (fg [(1, _), (4, _), (5, _)] ⟨rfl, rfl, rfl, ⟨⟩⟩ fun _ => (cno rfl (sreg ?_))))
    refine svP (xeql rfl rfl) (fun hc9 => ?_) (fun hc9 => ?_)
    ·
     refine sA rfl (send (fg [(1, _), (4, _), (5, _)] ⟨rfl, rfl, rfl, ⟨⟩⟩ fun _ => (cyes rfl (wp_skip (nThen (fg [(1, _), (4, _), (5, _)] ⟨rfl, rfl, rfl, ⟨⟩⟩ fun _ => (cyes rfl (sreg (sv (xfld fl65_7 rfl) (sv (xld on9 rfl (h1.r.c 7 rfl rfl)) ?_))))))))))
     refine sc (xcall ca82 rfl) (c82 (by omega)) ?_
     rintro _ w13 ⟨gb15, rfl, gp15, m14⟩
     have z15 := m14.size
     have hf := hf.step0 m14
     have h1 := h1.keep m14 id
     rcases Bool.eq_false_or_eq_true gb15 with rfl | rfl
     ·
      refine sA rfl (send (fg [(2, _)] ⟨rfl, ⟨⟩⟩ fun _ => (wp_ret (rBlock (rThen ?_)))))
      refine rp1 rfl rfl ?_
      exact ⟨_, rfl, (fun _ => ⟨fun _ => by first | exact gp15 rfl | exact gp20 rfl | omega, fun _ => by first | exact gp24 rfl | omega⟩), hf⟩
     ·
      refine sA rfl (send (fg [(2, _)] ⟨rfl, ⟨⟩⟩ fun _ => (wp_ret (rBlock (rThen ?_)))))
      refine rp1 rfl rfl ?_
      exact ⟨_, rfl, (fun h => by cases h), hf⟩
    ·
     refine sA rfl (send (fg [(1, _), (4, _), (5, _)] ⟨rfl, rfl, rfl, ⟨⟩⟩ fun _ => (cno rfl (sreg ?_))))
     refine svP (xeql rfl rfl) (fun hc10 => ?_) (fun hc10 => ?_)
     ·
      refine sA rfl (send (fg [(1, _), (4, _), (5, _)] ⟨rfl, rfl, rfl, ⟨⟩⟩ fun _ => (cyes rfl (wp_skip (nThen (fg [(1, _), (4, _), (5, _)] ⟨rfl, rfl, rfl, ⟨⟩⟩ fun _ => (cyes rfl (sreg (sv (xfld fl65_7 rfl) (sv (xld on9 rfl (h1.r.c 7 rfl rfl)) ?_))))))))))
      refine sc (xcall ca82 rfl) (c82 (by omega)) ?_
      rintro _ w16 ⟨gb15, rfl, gp15, m17⟩
      have z18 := m17.size
      have hf := hf.step0 m17
      have h1 := h1.keep m17 id
      rcases Bool.eq_false_or_eq_true gb15 with rfl | rfl
      ·
       refine sA rfl (send (fg [(2, _)] ⟨rfl, ⟨⟩⟩ fun _ => (wp_ret (rBlock (rThen ?_)))))
       refine rp1 rfl rfl ?_
       exact ⟨_, rfl, (fun _ => ⟨fun _ => by first | exact gp15 rfl | exact gp20 rfl | omega, fun _ => by first | exact gp24 rfl | omega⟩), hf⟩
      ·
       refine sA rfl (send (fg [(2, _)] ⟨rfl, ⟨⟩⟩ fun _ => (wp_ret (rBlock (rThen ?_)))))
       refine rp1 rfl rfl ?_
       exact ⟨_, rfl, (fun h => by cases h), hf⟩
     ·
      refine sA rfl (send (fg [(1, _), (4, _), (5, _)] ⟨rfl, rfl, rfl, ⟨⟩⟩ fun _ => (cno rfl (sreg ?_))))
      refine svP (xeql rfl rfl) (fun hc11 => ?_) (fun hc11 => ?_)
      ·
       refine sA rfl (send (fg [(1, _), (4, _), (5, _)] ⟨rfl, rfl, rfl, ⟨⟩⟩ fun _ => (cyes rfl (wp_skip (nThen (fg [(1, _), (4, _), (5, _)] ⟨rfl, rfl, rfl, ⟨⟩⟩ fun _ => (cyes rfl (sreg (sv (xfld fl65_7 rfl) (sv (xld on9 rfl (h1.r.c 7 rfl rfl)) ?_))))))))))
       refine sc (xcall ca82 rfl) (c82 (by omega)) ?_
       rintro _ w19 ⟨gb15, rfl, gp15, m20⟩
       have z21 := m20.size
       have hf := hf.step0 m20
       have h1 := h1.keep m20 id
       rcases Bool.eq_false_or_eq_true gb15 with rfl | rfl
       ·
        refine sA rfl (send (fg [(2, _)] ⟨rfl, ⟨⟩⟩ fun _ => (wp_ret (rBlock (rThen ?_)))))
        refine rp1 rfl rfl ?_
        exact ⟨_, rfl, (fun _ => ⟨fun _ => by first | exact gp15 rfl | exact gp20 rfl | omega, fun _ => by first | exact gp24 rfl | omega⟩), hf⟩
       ·
        refine sA rfl (send (fg [(2, _)] ⟨rfl, ⟨⟩⟩ fun _ => (wp_ret (rBlock (rThen ?_)))))
        refine rp1 rfl rfl ?_
        exact ⟨_, rfl, (fun h => by cases h), hf⟩
      ·
       refine sA rfl (send (fg [(1, _), (4, _), (5, _)] ⟨rfl, rfl, rfl, ⟨⟩⟩ fun _ => (cno rfl (lreg ?_))))
       refine svP (xeql rfl rfl) (fun hc12 => ?_) (fun hc12 => ?_)
       ·
        refine sA rfl (lend (nThen (fg [(1, _), (4, _), (5, _)] ⟨rfl, rfl, rfl, ⟨⟩⟩ fun _ => (cyes rfl (sreg (sv (xfld fl65_7 rfl) (sv (xld on9 rfl (h1.r.c 7 rfl rfl)) ?_)))))))
        refine sc (xcall ca82 rfl) (c82 (by omega)) ?_
        rintro _ w22 ⟨gb15, rfl, gp15, m23⟩
        have z24 := m23.size
        have hf := hf.step0 m23
        have h1 := h1.keep m23 id
        rcases Bool.eq_false_or_eq_true gb15 with rfl | rfl
        ·
         refine sA rfl (send (fg [(2, _)] ⟨rfl, ⟨⟩⟩ fun _ => (wp_ret (rBlock (rThen ?_)))))
         refine rp1 rfl rfl ?_
         exact ⟨_, rfl, (fun _ => ⟨fun _ => by first | exact gp15 rfl | exact gp20 rfl | omega, fun _ => by first | exact gp24 rfl | omega⟩), hf⟩
        ·
         refine sA rfl (send (fg [(2, _)] ⟨rfl, ⟨⟩⟩ fun _ => (wp_ret (rBlock (rThen ?_)))))
         refine rp1 rfl rfl ?_
         exact ⟨_, rfl, (fun h => by cases h), hf⟩
       ·
        refine sA rfl (lend (nThen (fg [(1, _), (4, _), (5, _)] ⟨rfl, rfl, rfl, ⟨⟩⟩ fun _ => (cno rfl (sreg ?_)))))
        refine svP (xeql rfl rfl) (fun hc17 => ?_) (fun hc17 => ?_)
        ·
         refine sA rfl (send (fg [(1, _), (16, _)] ⟨rfl, rfl, ⟨⟩⟩ fun _ => (cyes rfl (sreg (sv (xfld fl65_7 rfl) (sv (xld on9 rfl (h1.r.c 7 rfl rfl)) ?_))))))
         refine sc (xcall ca82 rfl) (c82 (by omega)) ?_
         rintro _ w25 ⟨gb20, rfl, gp20, m26⟩
         have z27 := m26.size
         have hf := hf.step0 m26
         have h1 := h1.keep m26 id
         rcases Bool.eq_false_or_eq_true gb20 with rfl | rfl
         ·
          refine sM rfl (gyes rfl rfl rfl (sv (xfld fl65_8 rfl) (gyes rfl rfl rfl (sv (xld on9 rfl (h1.r.c 8 rfl rfl)) (gyes rfl rfl rfl ?_)))))
          refine sc (xcall ca82 rfl) (c82 (by omega)) ?_
          rintro _ w28 ⟨gb24, rfl, gp24, m29⟩
          have z30 := m29.size
          have hf := hf.step0 m29
          rcases Bool.eq_false_or_eq_true gb24 with rfl | rfl
          ·
           refine sv (xpickT rfl rfl) (sA rfl (send (fg [(2, _)] ⟨rfl, ⟨⟩⟩ fun _ => (wp_ret (rBlock (rThen ?_))))))
           refine rp1 rfl rfl ?_
           exact ⟨_, rfl, (fun _ => ⟨fun _ => by first | exact gp15 rfl | exact gp20 rfl | omega, fun _ => by first | exact gp24 rfl | omega⟩), hf⟩
          ·
           refine sv (xpickT rfl rfl) (sA rfl (send (fg [(2, _)] ⟨rfl, ⟨⟩⟩ fun _ => (wp_ret (rBlock (rThen ?_))))))
           refine rp1 rfl rfl ?_
           exact ⟨_, rfl, (fun h => by cases h), hf⟩
         ·
          refine sM rfl (gno rfl rfl rfl (gno rfl rfl rfl (gno rfl rfl rfl (sv (xpickF rfl rfl) (sA rfl (send (fg [(2, _)] ⟨rfl, ⟨⟩⟩ fun _ => (wp_ret (rBlock (rThen ?_))))))))))
          refine rp1 rfl rfl ?_
          exact ⟨_, rfl, (fun h => by cases h), hf⟩
        ·
         refine sA rfl (send (fg [(1, _), (16, _)] ⟨rfl, rfl, ⟨⟩⟩ fun _ => (cno rfl (wp_skip (nBlock (nThen (fg [] trivial fun _ => (sreg (sA rfl (send (fg [(2, _)] ⟨rfl, ⟨⟩⟩ fun _ => (wp_ret ?_))))))))))))
         refine rp1 rfl rfl ?_
         exact ⟨_, rfl, (fun _ => ⟨fun _ => by first | exact gp15 rfl | exact gp20 rfl | omega, fun _ => by first | exact gp24 rfl | omega⟩), hf⟩
set_option maxHeartbeats 4000000 in
set_option maxRecDepth 100000 in
theorem c85 {w : World} {h : HeadD} :
  Ret PP 85 [ag (headSegs h)] w (Grd w h.ok) := by
 have hf : Fr (fun _ => False) w w := Fr.refl _ _
 refine ret_of Tryz.func85 rfl rfl rfl [(0, _)] rfl ?_
 refine sreg ?_
 refine svK (xboxS (lens := [1, 1, 1, 1, 1, 1, 1, 1, 1, 1]) rfl rfl) ?_
 rintro _ w2 ⟨b1, rfl, m3, h1, e1, s1⟩
 have hf := hf.step0 m3
 refine sA rfl (send (fg [(1, _)] ⟨rfl, ⟨⟩⟩ fun _ => (sreg (sv (xfld fl30_2 rfl) (sv (xld on22 rfl (h1.r.c 2 rfl rfl)) ?_)))))
 refine svP (xlss rfl rfl) (fun hc5 => ?_) (fun hc5 => ?_)
 ·
  refine sM rfl (gyes rfl rfl rfl (sv (xfld fl30_9 rfl) (gyes rfl rfl rfl (sv (xld on22 rfl (h1.r.c 9 rfl rfl)) (gyes rfl rfl rfl ?_)))))
  refine svP (xlss rfl rfl) (fun hc9 => ?_) (fun hc9 => ?_)
  ·
   refine sv (xpickT rfl rfl) (sA rfl (send (fg [(2, _)] ⟨rfl, ⟨⟩⟩ fun _ => (wp_ret ?_))))
   refine rp1 rfl rfl ?_
   exact ⟨_, rfl, (fun _ => ⟨by omega, by omega⟩), hf⟩
  ·
   refine sv (xpickT rfl rfl) (sA rfl (send (fg [(2, _)] ⟨rfl, ⟨⟩⟩ fun _ => (wp_ret ?_))))
   refine rp1 rfl rfl ?_
   exact ⟨_, rfl, (fun h => by cases h), hf⟩
 ·
  refine sM rfl (gno rfl rfl rfl (gno rfl rfl rfl (gno rfl rfl rfl (sv (xpickF rfl rfl) (sA rfl (send (fg [(2, _)] ⟨rfl, ⟨⟩⟩ fun _ => (wp_ret ?_))))))))
  refine rp1 rfl rfl ?_
  exact ⟨_, rfl, (fun h => by cases h), hf⟩
set_option maxHeartbeats 4000000 in
set_option maxRecDepth 100000 in
theorem c83 {w : World} {U : Nat → Prop} (hU : ∀ k, U k → k < w.heap.size) {r : RecD} {vd vt vp : Value} (hd : BA U w vd r.data) (ht : LA TextEl [1] U w vt r.texts) (hp : LA PairEl lPair U w vp r.pairs) (hr : r.fits) :
  Ret PP 83 [ag (recSegs r vd vt vp)] w (Grd w (bodyOk r)) := by
 obtain ⟨at0, ct0, rfl⟩ := ht.form
 obtain ⟨ap0, cp0, rfl⟩ := hp.form
 obtain ⟨ad0, cd0, rfl, -⟩ := id hd
 have hr0 := hr
 have hrf := hr
 simp only [RecD.fits] at hr0
 have hbl := bodyL_fits hr
 have hf : Fr (fun _ => False) w w := Fr.refl _ _
 refine ret_of Tryz.func83 rfl rfl rfl [(0, _)] rfl ?_
 refine sreg ?_
 refine svK (xboxS (lens := lRec) rfl rfl) ?_
 rintro _ w2 ⟨b1, rfl, m3, h1, e1, s1⟩
 have hd := hd.keep (lU hU (by omega)) m3 nF
 have ht := ht.keep text_st (lU hU (by omega)) m3 nF
 have hp := hp.keep pair_st (lU hU (by omega)) m3 nF
 have hf := hf.step0 m3
 refine sA rfl (send (fg [(1, _)] ⟨rfl, ⟨⟩⟩ fun _ => (wp_seq (sreg (sv (xfld fl65_14 rfl) (sv (xld on62 rfl (h1.r.c 14 rfl rfl)) (sv (xlen sl62 rfl) (sM rfl (send (fg [(1, _), (6, _), (7, _), (8, _)] ⟨rfl, rfl, rfl, rfl, ⟨⟩⟩ fun _ => (wp_block ?_)))))))))))
 refine lp [(1, _), (6, _), (7, _)] (fun (k : Nat) => [(8, .int .i64 (k : Int))]) (fun (k : Nat) wx => Fr (fun _ => False) w2 wx ∧ (k ≤ r.texts.length) ∧ (r.kind = 7 → ∀ i (s : ByteArray), i < k → r.texts[i]? = some s → s.size ≤ 255)) (fun (k : Nat) => r.texts.length - k) 0 ⟨rfl, rfl, rfl, rfl, trivial⟩ ⟨Fr.refl _ _, Nat.zero_le _, fun _ => upto_zero⟩ ?_
 rintro k _ w5 ⟨hL4, hk, hT⟩
 refine fg [(1, _), (6, _), (7, _), (8, _)] ⟨rfl, rfl, rfl, rfl, ⟨⟩⟩ fun _ => ?_
 have z6 := hL4.size
 have hd := hd.keep (lU hU (by omega)) hL4 nF
 have ht := ht.keep text_st (lU hU (by omega)) hL4 nF
 have hp := hp.keep pair_st (lU hU (by omega)) hL4 nF
 have hf := hf.step0 hL4
 have h1 := h1.keep hL4 id
 refine sreg ?_
 refine svP (xlss rfl rfl) (fun hc9 => ?_) (fun hc9 => ?_)
 ·
  refine send (fg [(1, _), (6, _), (7, _), (8, _), (9, _)] ⟨rfl, rfl, rfl, rfl, rfl, ⟨⟩⟩ fun _ => (wp_seq (cyes rfl (wp_skip (nThen (fg [(1, _), (6, _), (7, _), (8, _)] ⟨rfl, rfl, rfl, rfl, ⟨⟩⟩ fun _ => (wp_seq (wp_block ?_))))))))
  obtain ⟨t, htk⟩ := some_of_lt (by omega : k < r.texts.length)
  have htl := hr.2.2.2.2.2.1 _ (List.mem_of_getElem? htk)
  refine sreg ?_
  obtain ⟨bE10, oE10, sgE10, rfl, uE10, hsE10, heE10⟩ := LA.get ht htk
  obtain rfl := heE10
  have zE10 := hU _ uE10
  refine sv (xidx sl62 sz9 rfl rfl rfl (by omega)) (sv (xld on9 rfl (hsE10.c 0 rfl rfl)) (sA rfl (send (fg [(1, _), (4, _), (6, _), (7, _), (8, _)] ⟨rfl, rfl, rfl, rfl, rfl, ⟨⟩⟩ fun _ => (sreg (sv (xfld fl65_5 rfl) (sv (xld on3 rfl (h1.r.c 5 rfl rfl)) ?_)))))))
  refine svP (xeql rfl rfl) (fun hc14 => ?_) (fun hc14 => ?_)
  ·
   refine sM rfl (gyes rfl rfl rfl (sM rfl (gyes rfl rfl rfl (sv (xlenS st9 rfl) (gyes rfl rfl rfl ?_)))))
   refine svP (xgtr rfl rfl) (fun hc18 => ?_) (fun hc18 => ?_)
   ·
    refine sv (xpickT rfl rfl) (send (fg [(1, _), (6, _), (7, _), (8, _), (19, _)] ⟨rfl, rfl, rfl, rfl, rfl, ⟨⟩⟩ fun _ => (cyes rfl (sreg (sA rfl (send (fg [(2, _)] ⟨rfl, ⟨⟩⟩ fun _ => (wp_ret (rBlock (rThen (rThen (rBlock (rThen ?_)))))))))))))
    refine rp1 rfl rfl ?_
    exact ⟨_, rfl, (fun h => by cases h), hf⟩
   ·
    refine sv (xpickT rfl rfl) (send (fg [(1, _), (6, _), (7, _), (8, _), (19, _)] ⟨rfl, rfl, rfl, rfl, rfl, ⟨⟩⟩ fun _ => (cno rfl (wp_skip (nBlock (nThen (fg [(1, _), (6, _), (7, _), (8, _)] ⟨rfl, rfl, rfl, rfl, ⟨⟩⟩ fun _ => (lreg (sv (xadd rfl rfl (w64 (by omega) (by omega))) (sM rfl (lend (nThen ?_))))))))))))
    refine ⟨k + 1, _, env_okl ⟨rfl, rfl, rfl, rfl, trivial⟩, ⟨hL4, (by omega), (fun h7 => upto_step (hT h7) htk (by omega))⟩, ?_⟩
    show r.texts.length - (k + 1) < r.texts.length - k; omega
  ·
   refine sM rfl (gno rfl rfl rfl (gno rfl rfl rfl (gno rfl rfl rfl (sv (xpickF rfl rfl) (send (fg [(1, _), (6, _), (7, _), (8, _), (19, _)] ⟨rfl, rfl, rfl, rfl, rfl, ⟨⟩⟩ fun _ => (cno rfl (wp_skip (nBlock (nThen (fg [(1, _), (6, _), (7, _), (8, _)] ⟨rfl, rfl, rfl, rfl, ⟨⟩⟩ fun _ => (lreg (sv (xadd rfl rfl (w64 (by omega) (by omega))) (sM rfl (lend (nThen ?_))))))))))))))))
   refine ⟨k + 1, _, env_okl ⟨rfl, rfl, rfl, rfl, trivial⟩, ⟨hL4, (by omega), (fun h7 => upto_step (hT h7) htk (by omega))⟩, ?_⟩
   show r.texts.length - (k + 1) < r.texts.length - k; omega
 ·
  refine send (fg [(1, _), (6, _), (7, _), (8, _), (9, _)] ⟨rfl, rfl, rfl, rfl, rfl, ⟨⟩⟩ fun _ => (wp_seq (cno rfl (wp_exit (eThen (eThen (eHit (nThen (fg [(1, _)] ⟨rfl, ⟨⟩⟩ fun _ => (wp_seq (sreg (sv (xfld fl65_5 rfl) (sv (xld on3 rfl (h1.r.c 5 rfl rfl)) ?_)))))))))))))
  refine svP (xeql rfl rfl) (fun hc23 => ?_) (fun hc23 => ?_)
  ·
   refine sM rfl (gyes rfl rfl rfl (sv (xfld fl65_14 rfl) (gyes rfl rfl rfl (sv (xld on62 rfl (h1.r.c 14 rfl rfl)) (gyes rfl rfl rfl (sv (xlen sl62 rfl) (gyes rfl rfl rfl ?_)))))))
   refine svP (xeql rfl rfl) (fun hc28 => ?_) (fun hc28 => ?_)
   ·
    refine sv (xpickT rfl rfl) (sM rfl (gno rfl rfl rfl (gno rfl rfl rfl (gno rfl rfl rfl (gno rfl rfl rfl (gnu rfl rfl (gnu rfl rfl (gnu rfl rfl (gno rfl rfl rfl (gno rfl rfl rfl (gnu rfl rfl (gnu rfl rfl (gnu rfl rfl (gnu rfl rfl (gno rfl rfl rfl (sv (xpickT rfl rfl) (send (fg [(1, _), (45, _)] ⟨rfl, rfl, ⟨⟩⟩ fun _ => (cyes rfl (sreg (sA rfl (send (fg [(2, _)] ⟨rfl, ⟨⟩⟩ fun _ => (wp_ret ?_))))))))))))))))))))))))
    refine rThen ?_
    refine rp1 rfl rfl ?_
    exact ⟨_, rfl, (fun h => by cases h), hf⟩
   ·
    refine sv (xpickT rfl rfl) (sM rfl (gyes rfl rfl rfl (sv (xfld fl65_5 rfl) (gyes rfl rfl rfl (sv (xld on3 rfl (h1.r.c 5 rfl rfl)) (gyes rfl rfl rfl ?_))))))
    refine svP (xeql rfl rfl) (fun hc33 => ?_) (fun hc33 => ?_)
    ·
     refine gyes rfl rfl rfl (sM rfl (gno rfl rfl rfl (gno rfl rfl rfl (gno rfl rfl rfl (gyes rfl rfl rfl (sv (xpickT rfl rfl) (gyes rfl rfl rfl (sM rfl (gyes rfl rfl rfl (sv (xfld fl65_15 rfl) (gyes rfl rfl rfl (sv (xld on63 rfl (h1.r.c 15 rfl rfl)) (gyes rfl rfl rfl ?_)))))))))))))
     refine sc (xcall ca144 rfl) (c144 (lU hU (by omega)) hp (by omega)) ?_
     rintro _ w7 ⟨gb42, rfl, gp42, m8⟩
     have z9 := m8.size
     have hd := hd.keep (lU hU (by omega)) m8 nF
     have ht := ht.keep text_st (lU hU (by omega)) m8 nF
     have hp := hp.keep pair_st (lU hU (by omega)) m8 nF
     have hf := hf.step0 m8
     have h1 := h1.keep m8 id
     rcases Bool.eq_false_or_eq_true gb42 with rfl | rfl
     ·
      refine gyes rfl rfl rfl (sv (xnot rfl) (gyes rfl rfl rfl (sv (xpickT rfl rfl) (sv (xpickF rfl rfl) (send (fg [(1, _), (45, _)] ⟨rfl, rfl, ⟨⟩⟩ fun _ => (cno rfl (wp_skip (nThen (fg [(1, _)] ⟨rfl, ⟨⟩⟩ fun _ => (sreg (sv (xldS (lens := lRec) ro65 rfl h1.r) ?_))))))))))))
      refine sc (xcall ca145 rfl) (c145 hr) ?_
      rintro _ w10 ⟨gb47, rfl, gp47, m11⟩
      have z12 := m11.size
      have hd := hd.keep (lU hU (by omega)) m11 nF
      have ht := ht.keep text_st (lU hU (by omega)) m11 nF
      have hp := hp.keep pair_st (lU hU (by omega)) m11 nF
      have hf := hf.step0 m11
      have h1 := h1.keep m11 id
      rcases Bool.eq_false_or_eq_true gb47 with rfl | rfl
      ·
       refine sM rfl (gyes rfl rfl rfl (sv (xldS (lens := lRec) ro65 rfl h1.r) (gyes rfl rfl rfl ?_)))
       refine sc (xcall ca84 rfl) (c84 (lU hU (by omega)) hd ht hp hrf) ?_
       rintro _ w13 ⟨p50, q50, g50, rfl, r50, m14, a50, l50⟩
       have z15 := m14.size
       have hd := hd.keep (lU hU (by omega)) m14 nF
       have ht := ht.keep text_st (lU hU (by omega)) m14 nF
       have hp := hp.keep pair_st (lU hU (by omega)) m14 nF
       have hf := hf.step0 m14
       have h1 := h1.keep m14 id
       refine gyes rfl rfl rfl (sv (xlen sl37 rfl) (gyes rfl rfl rfl ?_))
       refine svP (xlss rfl rfl) (fun hc52 => ?_) (fun hc52 => ?_)
       ·
        refine sv (xpickT rfl rfl) (sA rfl (send (fg [(2, _)] ⟨rfl, ⟨⟩⟩ fun _ => (wp_ret ?_))))
        refine rp1 rfl rfl ?_
        refine ⟨_, rfl, (fun _ => ⟨fun h7 => ⟨fun h0 => ?_, upto_all (hT h7) (by omega)⟩, fun h11 => by first | exact gp42 rfl | omega, gp47 rfl⟩), hf⟩
        have h00 : r.texts.length = 0 := by rw [h0]; rfl
        omega
       ·
        refine sv (xpickT rfl rfl) (sA rfl (send (fg [(2, _)] ⟨rfl, ⟨⟩⟩ fun _ => (wp_ret ?_))))
        refine rp1 rfl rfl ?_
        exact ⟨_, rfl, (fun h => by cases h), hf⟩
      ·
       refine sM rfl (gno rfl rfl rfl (gno rfl rfl rfl (gno rfl rfl rfl (gno rfl rfl rfl (sv (xpickF rfl rfl) (sA rfl (send (fg [(2, _)] ⟨rfl, ⟨⟩⟩ fun _ => (wp_ret ?_)))))))))
       refine rp1 rfl rfl ?_
       exact ⟨_, rfl, (fun h => by cases h), hf⟩
     ·
      refine gyes rfl rfl rfl (sv (xnot rfl) (gyes rfl rfl rfl (sv (xpickT rfl rfl) (sv (xpickF rfl rfl) (send (fg [(1, _), (45, _)] ⟨rfl, rfl, ⟨⟩⟩ fun _ => (cyes rfl (sreg (sA rfl (send (fg [(2, _)] ⟨rfl, ⟨⟩⟩ fun _ => (wp_ret (rThen ?_)))))))))))))
      refine rp1 rfl rfl ?_
      exact ⟨_, rfl, (fun h => by cases h), hf⟩
    ·
     refine gyes rfl rfl rfl (sM rfl (gyes rfl rfl rfl (sv (xfld fl65_5 rfl) (gyes rfl rfl rfl (sv (xld on3 rfl (h1.r.c 5 rfl rfl)) (gyes rfl rfl rfl ?_))))))
     refine svP (xeql rfl rfl) (fun hc37 => ?_) (fun hc37 => ?_)
     ·
      refine gyes rfl rfl rfl (sv (xpickF rfl rfl) (gyes rfl rfl rfl (sM rfl (gyes rfl rfl rfl (sv (xfld fl65_15 rfl) (gyes rfl rfl rfl (sv (xld on63 rfl (h1.r.c 15 rfl rfl)) (gyes rfl rfl rfl ?_))))))))
      refine sc (xcall ca144 rfl) (c144 (lU hU (by omega)) hp (by omega)) ?_
      rintro _ w16 ⟨gb42, rfl, gp42, m17⟩
      have z18 := m17.size
      have hd := hd.keep (lU hU (by omega)) m17 nF
      have ht := ht.keep text_st (lU hU (by omega)) m17 nF
      have hp := hp.keep pair_st (lU hU (by omega)) m17 nF
      have hf := hf.step0 m17
      have h1 := h1.keep m17 id
      rcases Bool.eq_false_or_eq_true gb42 with rfl | rfl
      ·
       refine gyes rfl rfl rfl (sv (xnot rfl) (gyes rfl rfl rfl (sv (xpickT rfl rfl) (sv (xpickF rfl rfl) (send (fg [(1, _), (45, _)] ⟨rfl, rfl, ⟨⟩⟩ fun _ => (cno rfl (wp_skip (nThen (fg [(1, _)] ⟨rfl, ⟨⟩⟩ fun _ => (sreg (sv (xldS (lens := lRec) ro65 rfl h1.r) ?_))))))))))))
       refine sc (xcall ca145 rfl) (c145 hr) ?_
       rintro _ w19 ⟨gb47, rfl, gp47, m20⟩
       have z21 := m20.size
       have hd := hd.keep (lU hU (by omega)) m20 nF
       have ht := ht.keep text_st (lU hU (by omega)) m20 nF
       have hp := hp.keep pair_st (lU hU (by omega)) m20 nF
       have hf := hf.step0 m20
       have h1 := h1.keep m20 id
       rcases Bool.eq_false_or_eq_true gb47 with rfl | rfl
       ·
        refine sM rfl (gyes rfl rfl rfl (sv (xldS (lens := lRec) ro65 rfl h1.r) (gyes rfl rfl rfl ?_)))
        refine sc (xcall ca84 rfl) (c84 (lU hU (by omega)) hd ht hp hrf) ?_
        rintro _ w22 ⟨p50, q50, g50, rfl, r50, m23, a50, l50⟩
        have z24 := m23.size
        have hd := hd.keep (lU hU (by omega)) m23 nF
        have ht := ht.keep text_st (lU hU (by omega)) m23 nF
        have hp := hp.keep pair_st (lU hU (by omega)) m23 nF
        have hf := hf.step0 m23
        have h1 := h1.keep m23 id
        refine gyes rfl rfl rfl (sv (xlen sl37 rfl) (gyes rfl rfl rfl ?_))
        refine svP (xlss rfl rfl) (fun hc52 => ?_) (fun hc52 => ?_)
        ·
         refine sv (xpickT rfl rfl) (sA rfl (send (fg [(2, _)] ⟨rfl, ⟨⟩⟩ fun _ => (wp_ret ?_))))
         refine rp1 rfl rfl ?_
         refine ⟨_, rfl, (fun _ => ⟨fun h7 => ⟨fun h0 => ?_, upto_all (hT h7) (by omega)⟩, fun h11 => by first | exact gp42 rfl | omega, gp47 rfl⟩), hf⟩
         have h00 : r.texts.length = 0 := by rw [h0]; rfl
         omega
        ·
         refine sv (xpickT rfl rfl) (sA rfl (send (fg [(2, _)] ⟨rfl, ⟨⟩⟩ fun _ => (wp_ret ?_))))
         refine rp1 rfl rfl ?_
         exact ⟨_, rfl, (fun h => by cases h), hf⟩
       ·
        refine sM rfl (gno rfl rfl rfl (gno rfl rfl rfl (gno rfl rfl rfl (gno rfl rfl rfl (sv (xpickF rfl rfl) (sA rfl (send (fg [(2, _)] ⟨rfl, ⟨⟩⟩ fun _ => (wp_ret ?_)))))))))
        refine rp1 rfl rfl ?_
        exact ⟨_, rfl, (fun h => by cases h), hf⟩
      ·
       refine gyes rfl rfl rfl (sv (xnot rfl) (gyes rfl rfl rfl (sv (xpickT rfl rfl) (sv (xpickF rfl rfl) (send (fg [(1, _), (45, _)] ⟨rfl, rfl, ⟨⟩⟩ fun _ => (cyes rfl (sreg (sA rfl (send (fg [(2, _)] ⟨rfl, ⟨⟩⟩ fun _ => (wp_ret (rThen ?_)))))))))))))
       refine rp1 rfl rfl ?_
       exact ⟨_, rfl, (fun h => by cases h), hf⟩
     ·
      refine gyes rfl rfl rfl (sv (xpickF rfl rfl) (gyes rfl rfl rfl (sM rfl (gno rfl rfl rfl (gno rfl rfl rfl (gno rfl rfl rfl (gno rfl rfl rfl (gyes rfl rfl rfl (sv (xpickF rfl rfl) (sv (xpickF rfl rfl) (send (fg [(1, _), (45, _)] ⟨rfl, rfl, ⟨⟩⟩ fun _ => (cno rfl (wp_skip (nThen (fg [(1, _)] ⟨rfl, ⟨⟩⟩ fun _ => (sreg (sv (xldS (lens := lRec) ro65 rfl h1.r) ?_))))))))))))))))))
      refine sc (xcall ca145 rfl) (c145 hr) ?_
      rintro _ w25 ⟨gb47, rfl, gp47, m26⟩
      have z27 := m26.size
      have hd := hd.keep (lU hU (by omega)) m26 nF
      have ht := ht.keep text_st (lU hU (by omega)) m26 nF
      have hp := hp.keep pair_st (lU hU (by omega)) m26 nF
      have hf := hf.step0 m26
      have h1 := h1.keep m26 id
      rcases Bool.eq_false_or_eq_true gb47 with rfl | rfl
      ·
       refine sM rfl (gyes rfl rfl rfl (sv (xldS (lens := lRec) ro65 rfl h1.r) (gyes rfl rfl rfl ?_)))
       refine sc (xcall ca84 rfl) (c84 (lU hU (by omega)) hd ht hp hrf) ?_
       rintro _ w28 ⟨p50, q50, g50, rfl, r50, m29, a50, l50⟩
       have z30 := m29.size
       have hd := hd.keep (lU hU (by omega)) m29 nF
       have ht := ht.keep text_st (lU hU (by omega)) m29 nF
       have hp := hp.keep pair_st (lU hU (by omega)) m29 nF
       have hf := hf.step0 m29
       have h1 := h1.keep m29 id
       refine gyes rfl rfl rfl (sv (xlen sl37 rfl) (gyes rfl rfl rfl ?_))
       refine svP (xlss rfl rfl) (fun hc52 => ?_) (fun hc52 => ?_)
       ·
        refine sv (xpickT rfl rfl) (sA rfl (send (fg [(2, _)] ⟨rfl, ⟨⟩⟩ fun _ => (wp_ret ?_))))
        refine rp1 rfl rfl ?_
        refine ⟨_, rfl, (fun _ => ⟨fun h7 => ⟨fun h0 => ?_, upto_all (hT h7) (by omega)⟩, fun h11 => by first | exact gp42 rfl | omega, gp47 rfl⟩), hf⟩
        have h00 : r.texts.length = 0 := by rw [h0]; rfl
        omega
       ·
        refine sv (xpickT rfl rfl) (sA rfl (send (fg [(2, _)] ⟨rfl, ⟨⟩⟩ fun _ => (wp_ret ?_))))
        refine rp1 rfl rfl ?_
        exact ⟨_, rfl, (fun h => by cases h), hf⟩
      ·
       refine sM rfl (gno rfl rfl rfl (gno rfl rfl rfl (gno rfl rfl rfl (gno rfl rfl rfl (sv (xpickF rfl rfl) (sA rfl (send (fg [(2, _)] ⟨rfl, ⟨⟩⟩ fun _ => (wp_ret ?_)))))))))
       refine rp1 rfl rfl ?_
       exact ⟨_, rfl, (fun h => by cases h), hf⟩
  ·
   refine sM rfl (gno rfl rfl rfl (gno rfl rfl rfl (gno rfl rfl rfl (gno rfl rfl rfl (sv (xpickF rfl rfl) (sM rfl (gyes rfl rfl rfl (sv (xfld fl65_5 rfl) (gyes rfl rfl rfl (sv (xld on3 rfl (h1.r.c 5 rfl rfl)) (gyes rfl rfl rfl ?_)))))))))))
   refine svP (xeql rfl rfl) (fun hc33 => ?_) (fun hc33 => ?_)
   ·
    refine gyes rfl rfl rfl (sM rfl (gno rfl rfl rfl (gno rfl rfl rfl (gno rfl rfl rfl (gyes rfl rfl rfl (sv (xpickT rfl rfl) (gyes rfl rfl rfl (sM rfl (gyes rfl rfl rfl (sv (xfld fl65_15 rfl) (gyes rfl rfl rfl (sv (xld on63 rfl (h1.r.c 15 rfl rfl)) (gyes rfl rfl rfl ?_)))))))))))))
    refine sc (xcall ca144 rfl) (c144 (lU hU (by omega)) hp (by omega)) ?_
    rintro _ w31 ⟨gb42, rfl, gp42, m32⟩
    have z33 := m32.size
    have hd := hd.keep (lU hU (by omega)) m32 nF
    have ht := ht.keep text_st (lU hU (by omega)) m32 nF
    have hp := hp.keep pair_st (lU hU (by omega)) m32 nF
    have hf := hf.step0 m32
    have h1 := h1.keep m32 id
    rcases Bool.eq_false_or_eq_true gb42 with rfl | rfl
    ·
     refine gyes rfl rfl rfl (sv (xnot rfl) (gyes rfl rfl rfl (sv (xpickT rfl rfl) (sv (xpickF rfl rfl) (send (fg [(1, _), (45, _)] ⟨rfl, rfl, ⟨⟩⟩ fun _ => (cno rfl (wp_skip (nThen (fg [(1, _)] ⟨rfl, ⟨⟩⟩ fun _ => (sreg (sv (xldS (lens := lRec) ro65 rfl h1.r) ?_))))))))))))
     refine sc (xcall ca145 rfl) (c145 hr) ?_
     rintro _ w34 ⟨gb47, rfl, gp47, m35⟩
     have z36 := m35.size
     have hd := hd.keep (lU hU (by omega)) m35 nF
     have ht := ht.keep text_st (lU hU (by omega)) m35 nF
     have hp := hp.keep pair_st (lU hU (by omega)) m35 nF
     have hf := hf.step0 m35
     have h1 := h1.keep m35 id
     rcases Bool.eq_false_or_eq_true gb47 with rfl | rfl
     ·
      refine sM rfl (gyes rfl rfl rfl (sv (xldS (lens := lRec) ro65 rfl h1.r) (gyes rfl rfl rfl ?_)))
      refine sc (xcall ca84 rfl) (c84 (lU hU (by omega)) hd ht hp hrf) ?_
      rintro _ w37 ⟨p50, q50, g50, rfl, r50, m38, a50, l50⟩
      have z39 := m38.size
      have hd := hd.keep (lU hU (by omega)) m38 nF
      have ht := ht.keep text_st (lU hU (by omega)) m38 nF
      have hp := hp.keep pair_st (lU hU (by omega)) m38 nF
      have hf := hf.step0 m38
      have h1 := h1.keep m38 id
      refine gyes rfl rfl rfl (sv (xlen sl37 rfl) (gyes rfl rfl rfl ?_))
      refine svP (xlss rfl rfl) (fun hc52 => ?_) (fun hc52 => ?_)
      ·
       refine sv (xpickT rfl rfl) (sA rfl (send (fg [(2, _)] ⟨rfl, ⟨⟩⟩ fun _ => (wp_ret ?_))))
       refine rp1 rfl rfl ?_
       refine ⟨_, rfl, (fun _ => ⟨fun h7 => ⟨fun h0 => ?_, upto_all (hT h7) (by omega)⟩, fun h11 => by first | exact gp42 rfl | omega, gp47 rfl⟩), hf⟩
       have h00 : r.texts.length = 0 := by rw [h0]; rfl
       omega
      ·
       refine sv (xpickT rfl rfl) (sA rfl (send (fg [(2, _)] ⟨rfl, ⟨⟩⟩ fun _ => (wp_ret ?_))))
       refine rp1 rfl rfl ?_
       exact ⟨_, rfl, (fun h => by cases h), hf⟩
     ·
      refine sM rfl (gno rfl rfl rfl (gno rfl rfl rfl (gno rfl rfl rfl (gno rfl rfl rfl (sv (xpickF rfl rfl) (sA rfl (send (fg [(2, _)] ⟨rfl, ⟨⟩⟩ fun _ => (wp_ret ?_)))))))))
      refine rp1 rfl rfl ?_
      exact ⟨_, rfl, (fun h => by cases h), hf⟩
    ·
     refine gyes rfl rfl rfl (sv (xnot rfl) (gyes rfl rfl rfl (sv (xpickT rfl rfl) (sv (xpickF rfl rfl) (send (fg [(1, _), (45, _)] ⟨rfl, rfl, ⟨⟩⟩ fun _ => (cyes rfl (sreg (sA rfl (send (fg [(2, _)] ⟨rfl, ⟨⟩⟩ fun _ => (wp_ret (rThen ?_)))))))))))))
     refine rp1 rfl rfl ?_
     exact ⟨_, rfl, (fun h => by cases h), hf⟩
   ·
    refine gyes rfl rfl rfl (sM rfl (gyes rfl rfl rfl (sv (xfld fl65_5 rfl) (gyes rfl rfl rfl (sv (xld on3 rfl (h1.r.c 5 rfl rfl)) (gyes rfl rfl rfl ?_))))))
    refine svP (xeql rfl rfl) (fun hc37 => ?_) (fun hc37 => ?_)
    ·
     refine gyes rfl rfl rfl (sv (xpickF rfl rfl) (gyes rfl rfl rfl (sM rfl (gyes rfl rfl rfl (sv (xfld fl65_15 rfl) (gyes rfl rfl rfl (sv (xld on63 rfl (h1.r.c 15 rfl rfl)) (gyes rfl rfl rfl ?_))))))))
     refine sc (xcall ca144 rfl) (c144 (lU hU (by omega)) hp (by omega)) ?_
     rintro _ w40 ⟨gb42, rfl, gp42, m41⟩
     have z42 := m41.size
     have hd := hd.keep (lU hU (by omega)) m41 nF
     have ht := ht.keep text_st (lU hU (by omega)) m41 nF
     have hp := hp.keep pair_st (lU hU (by omega)) m41 nF
     have hf := hf.step0 m41
     have h1 := h1.keep m41 id
     rcases Bool.eq_false_or_eq_true gb42 with rfl | rfl
     ·
      refine gyes rfl rfl rfl (sv (xnot rfl) (gyes rfl rfl rfl (sv (xpickT rfl rfl) (sv (xpickF rfl rfl) (send (fg [(1, _), (45, _)] ⟨rfl, rfl, ⟨⟩⟩ fun _ => (cno rfl (wp_skip (nThen (fg [(1, _)] ⟨rfl, ⟨⟩⟩ fun _ => (sreg (sv (xldS (lens := lRec) ro65 rfl h1.r) ?_))))))))))))
      refine sc (xcall ca145 rfl) (c145 hr) ?_
      rintro _ w43 ⟨gb47, rfl, gp47, m44⟩
      have z45 := m44.size
      have hd := hd.keep (lU hU (by omega)) m44 nF
      have ht := ht.keep text_st (lU hU (by omega)) m44 nF
      have hp := hp.keep pair_st (lU hU (by omega)) m44 nF
      have hf := hf.step0 m44
      have h1 := h1.keep m44 id
      rcases Bool.eq_false_or_eq_true gb47 with rfl | rfl
      ·
       refine sM rfl (gyes rfl rfl rfl (sv (xldS (lens := lRec) ro65 rfl h1.r) (gyes rfl rfl rfl ?_)))
       refine sc (xcall ca84 rfl) (c84 (lU hU (by omega)) hd ht hp hrf) ?_
       rintro _ w46 ⟨p50, q50, g50, rfl, r50, m47, a50, l50⟩
       have z48 := m47.size
       have hd := hd.keep (lU hU (by omega)) m47 nF
       have ht := ht.keep text_st (lU hU (by omega)) m47 nF
       have hp := hp.keep pair_st (lU hU (by omega)) m47 nF
       have hf := hf.step0 m47
       have h1 := h1.keep m47 id
       refine gyes rfl rfl rfl (sv (xlen sl37 rfl) (gyes rfl rfl rfl ?_))
       refine svP (xlss rfl rfl) (fun hc52 => ?_) (fun hc52 => ?_)
       ·
        refine sv (xpickT rfl rfl) (sA rfl (send (fg [(2, _)] ⟨rfl, ⟨⟩⟩ fun _ => (wp_ret ?_))))
        refine rp1 rfl rfl ?_
        refine ⟨_, rfl, (fun _ => ⟨fun h7 => ⟨fun h0 => ?_, upto_all (hT h7) (by omega)⟩, fun h11 => by first | exact gp42 rfl | omega, gp47 rfl⟩), hf⟩
        have h00 : r.texts.length = 0 := by rw [h0]; rfl
        omega
       ·
        refine sv (xpickT rfl rfl) (sA rfl (send (fg [(2, _)] ⟨rfl, ⟨⟩⟩ fun _ => (wp_ret ?_))))
        refine rp1 rfl rfl ?_
        exact ⟨_, rfl, (fun h => by cases h), hf⟩
      ·
       refine sM rfl (gno rfl rfl rfl (gno rfl rfl rfl (gno rfl rfl rfl (gno rfl rfl rfl (sv (xpickF rfl rfl) (sA rfl (send (fg [(2, _)] ⟨rfl, ⟨⟩⟩ fun _ => (wp_ret ?_)))))))))
       refine rp1 rfl rfl ?_
       exact ⟨_, rfl, (fun h => by cases h), hf⟩
     ·
      refine gyes rfl rfl rfl (sv (xnot rfl) (gyes rfl rfl rfl (sv (xpickT rfl rfl) (sv (xpickF rfl rfl) (send (fg [(1, _), (45, _)] ⟨rfl, rfl, ⟨⟩⟩ fun _ => (cyes rfl (sreg (sA rfl (send (fg [(2, _)] ⟨rfl, ⟨⟩⟩ fun _ => (wp_ret (rThen ?_)))))))))))))
      refine rp1 rfl rfl ?_
      exact ⟨_, rfl, (fun h => by cases h), hf⟩
    ·
     refine gyes rfl rfl rfl (sv (xpickF rfl rfl) (gyes rfl rfl rfl (sM rfl (gno rfl rfl rfl (gno rfl rfl rfl (gno rfl rfl rfl (gno rfl rfl rfl (gyes rfl rfl rfl (sv (xpickF rfl rfl) (sv (xpickF rfl rfl) (send (fg [(1, _), (45, _)] ⟨rfl, rfl, ⟨⟩⟩ fun _ => (cno rfl (wp_skip (nThen (fg [(1, _)] ⟨rfl, ⟨⟩⟩ fun _ => (sreg (sv (xldS (lens := lRec) ro65 rfl h1.r) ?_))))))))))))))))))
     refine sc (xcall ca145 rfl) (c145 hr) ?_
     rintro _ w49 ⟨gb47, rfl, gp47, m50⟩
     have z51 := m50.size
     have hd := hd.keep (lU hU (by omega)) m50 nF
     have ht := ht.keep text_st (lU hU (by omega)) m50 nF
     have hp := hp.keep pair_st (lU hU (by omega)) m50 nF
     have hf := hf.step0 m50
     have h1 := h1.keep m50 id
     rcases Bool.eq_false_or_eq_true gb47 with rfl | rfl
     ·
      refine sM rfl (gyes rfl rfl rfl (sv (xldS (lens := lRec) ro65 rfl h1.r) (gyes rfl rfl rfl ?_)))
      refine sc (xcall ca84 rfl) (c84 (lU hU (by omega)) hd ht hp hrf) ?_
      rintro _ w52 ⟨p50, q50, g50, rfl, r50, m53, a50, l50⟩
      have z54 := m53.size
      have hf := hf.step0 m53
      refine gyes rfl rfl rfl (sv (xlen sl37 rfl) (gyes rfl rfl rfl ?_))
      refine svP (xlss rfl rfl) (fun hc52 => ?_) (fun hc52 => ?_)
      ·
       refine sv (xpickT rfl rfl) (sA rfl (send (fg [(2, _)] ⟨rfl, ⟨⟩⟩ fun _ => (wp_ret ?_))))
       refine rp1 rfl rfl ?_
       refine ⟨_, rfl, (fun _ => ⟨fun h7 => ⟨fun h0 => ?_, upto_all (hT h7) (by omega)⟩, fun h11 => by first | exact gp42 rfl | omega, gp47 rfl⟩), hf⟩
       have h00 : r.texts.length = 0 := by rw [h0]; rfl
       omega
      ·
       refine sv (xpickT rfl rfl) (sA rfl (send (fg [(2, _)] ⟨rfl, ⟨⟩⟩ fun _ => (wp_ret ?_))))
       refine rp1 rfl rfl ?_
       exact ⟨_, rfl, (fun h => by cases h), hf⟩
     ·
      refine sM rfl (gno rfl rfl rfl (gno rfl rfl rfl (gno rfl rfl rfl (gno rfl rfl rfl (sv (xpickF rfl rfl) (sA rfl (send (fg [(2, _)] ⟨rfl, ⟨⟩⟩ fun _ => (wp_ret ?_)))))))))
      refine rp1 rfl rfl ?_
      exact ⟨_, rfl, (fun h => by cases h), hf⟩
end Go.Proofs.YtifnodoffgfpbaaGreatDoor

namespace Go.Proofs.YtifnodoffgfpbaaGreatDoor
open Go
set_option maxHeartbeats 4000000 in
set_option maxRecDepth 100000 in
theorem c33 {w : World} {U : Nat → Prop} (hU : ∀ k, U k → k < w.heap.size) {m : MsgD} {va v1 v2 v3 : Value} (ha : LA AskEl lAsk U w va m.asks) (y1 : LA RecEl lRec U w v1 m.one) (y2 : LA RecEl lRec U w v2 m.two) (y3 : LA RecEl lRec U w v3 m.three) (hfa : ∀ a ∈ m.asks, a.name.size ≤ 1048576) (hfr : ∀ l ∈ [m.one, m.two, m.three], ∀ r ∈ l, r.fits) (hct : m.asks.length + m.one.length + m.two.length + m.three.length ≤ 40) :
  Ret PP 33 [ag (msgSegs m.head va v1 v2 v3)] w (Grd w (okM m)) := by
 have hls : All2 (LA RecEl lRec U w) [v1, v2, v3] [m.one, m.two, m.three] := All2.cons y1 (All2.cons y2 (All2.cons y3 All2.nil))
 obtain ⟨aa, ca, rfl⟩ := ha.form
 obtain ⟨a1, c1, rfl⟩ := y1.form
 obtain ⟨a2, c2, rfl⟩ := y2.form
 obtain ⟨a3, c3, rfl⟩ := y3.form
 have hf : Fr (fun _ => False) w w := Fr.refl _ _
 refine ret_of Tryz.func33 rfl rfl rfl [(0, _)] rfl ?_
 refine sreg ?_
 refine svK (xboxS (lens := lMsg) rfl rfl) ?_
 rintro _ w2 ⟨b1, rfl, m3, h1, e1, s1⟩
 have ha := ha.keep ask_st (lU hU (by omega)) m3 nF
 have hf := hf.step0 m3
 refine sA rfl (send (fg [(1, _)] ⟨rfl, ⟨⟩⟩ fun _ => (sreg (sA rfl (send (fg [(1, _), (3, _)] ⟨rfl, rfl, ⟨⟩⟩ fun _ => (wp_seq (sreg (sv (xfld fl34_1 rfl) (sv (xld on31 rfl (h1.r.c 10 rfl rfl)) (sv (xlen sl31 rfl) (sM rfl (send (fg [(1, _), (3, _), (11, _), (12, _), (13, _)] ⟨rfl, rfl, rfl, rfl, rfl, ⟨⟩⟩ fun _ => (wp_block ?_)))))))))))))))
 refine lp [(1, _), (3, _), (11, _), (12, _)] (fun (k : Nat) => [(13, .int .i64 (k : Int))]) (fun (k : Nat) wx => Fr (fun _ => False) w2 wx ∧ (k ≤ m.asks.length) ∧ (∀ i (a : AskD), i < k → m.asks[i]? = some a → nameOk a.name = true)) (fun (k : Nat) => m.asks.length - k) 0 ⟨rfl, rfl, rfl, rfl, rfl, trivial⟩ ⟨Fr.refl _ _, Nat.zero_le _, upto_zero⟩ ?_
 rintro k _ w5 ⟨hL4, hk, hT⟩
 refine fg [(1, _), (3, _), (11, _), (12, _), (13, _)] ⟨rfl, rfl, rfl, rfl, rfl, ⟨⟩⟩ fun _ => ?_
 have z6 := hL4.size
 have ha := ha.keep ask_st (lU hU (by omega)) hL4 nF
 have hf := hf.step0 hL4
 have h1 := h1.keep hL4 id
 refine sreg ?_
 refine svP (xlss rfl rfl) (fun hc14 => ?_) (fun hc14 => ?_)
 ·
  refine send (fg [(1, _), (3, _), (11, _), (12, _), (13, _), (14, _)] ⟨rfl, rfl, rfl, rfl, rfl, rfl, ⟨⟩⟩ fun _ => (wp_seq (cyes rfl (wp_skip (nThen (fg [(1, _), (3, _), (11, _), (12, _), (13, _)] ⟨rfl, rfl, rfl, rfl, rfl, ⟨⟩⟩ fun _ => (wp_seq (wp_block ?_))))))))
  obtain ⟨a, hak⟩ := some_of_lt (by omega : k < m.asks.length)
  have hal := hfa _ (List.mem_of_getElem? hak)
  refine sreg ?_
  obtain ⟨bE15, oE15, sgE15, rfl, uE15, hsE15, heE15⟩ := LA.get ha hak
  obtain rfl := heE15
  have zE15 := hU _ uE15
  refine sv (xidx sl31 sz59 rfl rfl rfl (by omega)) (sv (xldS (lens := [1, 1, 1]) ro59 rfl hsE15) ?_)
  refine svK (xallS (lens := [1, 1, 1]) in59 rfl) ?_
  rintro _ w8 ⟨b5, rfl, m9, h5, e7, s7⟩
  have hf := hf.step0 m9
  have h1 := h1.keep m9 id
  have hL4 := hL4.step0 m9
  refine suK (xstW h5 (lens' := [1, 1, 1]) sz59 rfl rfl rfl rfl rfl) ?_
  rintro w11 ⟨m12, h5, s10⟩
  have hf := hf.step m12 (nB (by omega))
  have h1 := h1.keep m12 (by show ¬ (b1 = b5); omega)
  have hL4 := hL4.step m12 (nB (by omega))
  refine send (fg [(1, _), (3, _), (5, _), (11, _), (12, _), (13, _)] ⟨rfl, rfl, rfl, rfl, rfl, rfl, ⟨⟩⟩ fun _ => (sreg (sv (xfld fl59_0 rfl) (sv (xld on9 rfl (h5.r.c 0 rfl rfl)) ?_))))
  refine sc (xcall ca82 rfl) (c82 (by omega)) ?_
  rintro _ w13 ⟨gb19, rfl, gp19, m14⟩
  have z15 := m14.size
  have hf := hf.step0 m14
  have h1 := h1.keep m14 id
  have hL4 := hL4.step0 m14
  rcases Bool.eq_false_or_eq_true gb19 with rfl | rfl
  ·
   refine sv (xnot rfl) (send (fg [(1, _), (3, _), (11, _), (12, _), (13, _), (20, _)] ⟨rfl, rfl, rfl, rfl, rfl, rfl, ⟨⟩⟩ fun _ => (cno rfl (wp_skip (nBlock (nThen (fg [(1, _), (3, _), (11, _), (12, _), (13, _)] ⟨rfl, rfl, rfl, rfl, rfl, ⟨⟩⟩ fun _ => (lreg (sv (xadd rfl rfl (w64 (by omega) (by omega))) (sM rfl (lend (nThen ?_))))))))))))
   refine ⟨k + 1, _, env_okl ⟨rfl, rfl, rfl, rfl, rfl, trivial⟩, ⟨hL4, (by omega), (upto_step hT hak (gp19 rfl))⟩, ?_⟩
   show m.asks.length - (k + 1) < m.asks.length - k; omega
  ·
   refine sv (xnot rfl) (send (fg [(1, _), (3, _), (11, _), (12, _), (13, _), (20, _)] ⟨rfl, rfl, rfl, rfl, rfl, rfl, ⟨⟩⟩ fun _ => (cyes rfl (sreg (sA rfl (send (fg [(2, _)] ⟨rfl, ⟨⟩⟩ fun _ => (wp_ret (rBlock (rThen (rThen (rBlock (rThen ?_)))))))))))))
   refine rp1 rfl rfl ?_
   exact ⟨_, rfl, (fun h => by cases h), hf⟩
 ·
  refine send (fg [(1, _), (3, _), (11, _), (12, _), (13, _), (14, _)] ⟨rfl, rfl, rfl, rfl, rfl, rfl, ⟨⟩⟩ fun _ => (wp_seq (cno rfl (wp_exit (eThen (eThen (eHit (nThen (fg [(1, _), (3, _)] ⟨rfl, rfl, ⟨⟩⟩ fun _ => (wp_seq (sreg (sv (xfld fl34_2 rfl) (sv (xld on32 rfl (h1.r.c 11 rfl rfl)) (sv (xfld fl34_3 rfl) (sv (xld on32 rfl (h1.r.c 12 rfl rfl)) (sv (xfld fl34_4 rfl) (sv (xld on32 rfl (h1.r.c 13 rfl rfl)) ?_)))))))))))))))))
  refine svK (xslit ([.slice a1 m.one.length c1, .slice a2 m.two.length c2, .slice a3 m.three.length c3]) sl60 in32 rfl (by decide) rfl rfl rfl rfl (by decide) rfl rfl) ?_
  rintro _ w17 ⟨b28, rfl, m18, h28, e28, s28, r28⟩
  have hf := hf.step0 m18
  have h1 := h1.keep m18 id
  refine sv (xlen sl60 rfl) (sM rfl (send (fg [(1, _), (3, _), (28, _), (29, _), (30, _)] ⟨rfl, rfl, rfl, rfl, rfl, ⟨⟩⟩ fun _ => (wp_block ?_))))
  refine lp [(1, _), (28, _), (29, _)] (fun (x : Nat × Nat) => match x with | (i, s) => [(3, .int .i64 (s : Int)), (30, .int .i64 (i : Int))]) (fun (x : Nat × Nat) wx => match x with | (i, s) => Fr (fun _ => False) w17 wx ∧ (i ≤ 3) ∧ (∀ j (l : List RecD), j < i → [m.one, m.two, m.three][j]? = some l → ∀ r ∈ l, goodR r) ∧ (s ≤ 10000000 * (([m.one, m.two, m.three].take i).map List.length).sum)) (fun (x : Nat × Nat) => match x with | (i, s) => 3 - i) (0, 0) ⟨rfl, rfl, rfl, rfl, rfl, trivial⟩ ⟨Fr.refl _ _, Nat.zero_le _, upto_zero, Nat.zero_le _⟩ ?_
  rintro ⟨i, s⟩ _ w20 ⟨hL19, hi, hO, hs⟩
  refine fg [(1, _), (3, _), (28, _), (29, _), (30, _)] ⟨rfl, rfl, rfl, rfl, rfl, ⟨⟩⟩ fun _ => ?_
  have z21 := hL19.size
  have hf := hf.step0 hL19
  have h1 := h1.keep hL19 id
  have r28 := r28.keep hL19 id
  refine sreg ?_
  refine svP (xlss rfl rfl) (fun hc31 => ?_) (fun hc31 => ?_)
  ·
   refine send (fg [(1, _), (3, _), (28, _), (29, _), (30, _), (31, _)] ⟨rfl, rfl, rfl, rfl, rfl, rfl, ⟨⟩⟩ fun _ => (wp_seq (cyes rfl (wp_skip (nThen (fg [(1, _), (3, _), (28, _), (29, _), (30, _)] ⟨rfl, rfl, rfl, rfl, rfl, ⟨⟩⟩ fun _ => (wp_seq (wp_block (sreg ?_)))))))))
   obtain ⟨u, l, hu, hul, hL⟩ := hls.get (k := i) (by simp; omega)
   have hL := hL.keep rec_st hU hf nF
   have hlm : l ∈ [m.one, m.two, m.three] := List.mem_of_getElem? hul
   have hcs := sum_take_le (f := List.length) hul
   simp only [List.map_cons, List.map_nil, List.sum_cons, List.sum_nil] at hcs
   obtain ⟨au, cu, rfl⟩ := hL.form
   refine sv (xidx1 sl60 sz32 rfl rfl rfl (by omega)) (sv (xld on32 rfl (Rw.rng r28 i _ hu)) (sA rfl (send (fg [(1, _), (3, _), (7, _), (28, _), (29, _), (30, _)] ⟨rfl, rfl, rfl, rfl, rfl, rfl, ⟨⟩⟩ fun _ => (sreg (sM rfl (sv (xlen sl32 rfl) (sM rfl (send (fg [(1, _), (3, _), (28, _), (29, _), (30, _), (34, _), (35, _), (36, _)] ⟨rfl, rfl, rfl, rfl, rfl, rfl, rfl, rfl, ⟨⟩⟩ fun _ => (wp_block ?_)))))))))))
   refine lp [(1, _), (28, _), (29, _), (30, _), (34, _), (35, _)] (fun (x : Nat × Nat) => match x with | (k, s2) => [(3, .int .i64 (s2 : Int)), (36, .int .i64 (k : Int))]) (fun (x : Nat × Nat) wx => match x with | (k, s2) => Fr (fun _ => False) w20 wx ∧ (k ≤ l.length) ∧ (∀ j (r : RecD), j < k → l[j]? = some r → goodR r) ∧ (s2 ≤ 10000000 * ((([m.one, m.two, m.three].take i).map List.length).sum + k))) (fun (x : Nat × Nat) => match x with | (k, s2) => l.length - k) (0, s) ⟨rfl, rfl, rfl, rfl, rfl, rfl, rfl, rfl, trivial⟩ ⟨Fr.refl _ _, Nat.zero_le _, upto_zero, hs⟩ ?_
   rintro ⟨k, s2⟩ _ w23 ⟨hL22, hk, hI, hs2⟩
   refine fg [(1, _), (3, _), (28, _), (29, _), (30, _), (34, _), (35, _), (36, _)] ⟨rfl, rfl, rfl, rfl, rfl, rfl, rfl, rfl, ⟨⟩⟩ fun _ => ?_
   have z24 := hL22.size
   have hf := hf.step0 hL22
   have h1 := h1.keep hL22 id
   have hL19 := hL19.step0 hL22
   have hL := hL.keep rec_st (lU hU (by omega)) hL22 nF
   refine sreg ?_
   refine svP (xlss rfl rfl) (fun hc37 => ?_) (fun hc37 => ?_)
   ·
    refine send (fg [(1, _), (3, _), (28, _), (29, _), (30, _), (34, _), (35, _), (36, _), (37, _)] ⟨rfl, rfl, rfl, rfl, rfl, rfl, rfl, rfl, rfl, ⟨⟩⟩ fun _ => (wp_seq (cyes rfl (wp_skip (nThen (fg [(1, _), (3, _), (28, _), (29, _), (30, _), (34, _), (35, _), (36, _)] ⟨rfl, rfl, rfl, rfl, rfl, rfl, rfl, rfl, ⟨⟩⟩ fun _ => (wp_seq (wp_block ?_))))))))
    obtain ⟨r, hrk⟩ := some_of_lt (by omega : k < l.length)
    have hrf := hfr l hlm r (List.mem_of_getElem? hrk)
    have hrf0 := hrf
    simp only [RecD.fits] at hrf0
    have hbl := bodyL_fits hrf
    refine sreg ?_
    obtain ⟨bE38, oE38, sgE38, rfl, uE38, hsE38, heE38⟩ := LA.get hL hrk
    obtain ⟨vd, vt, vp, rfl, hd, ht, hp⟩ := heE38
    have zE38 := hU _ uE38
    obtain ⟨ad, cd, rfl, -⟩ := id hd
    obtain ⟨at1, ct1, rfl⟩ := ht.form
    obtain ⟨ap1, cp1, rfl⟩ := hp.form
    refine sv (xidx sl32 sz65 rfl rfl rfl (by omega)) (sv (xldS (lens := lRec) ro65 rfl hsE38) ?_)
    refine svK (xallS (lens := lRec) in65 rfl) ?_
    rintro _ w26 ⟨b9, rfl, m27, h9, e25, s25⟩
    have hf := hf.step0 m27
    have h1 := h1.keep m27 id
    have hL19 := hL19.step0 m27
    have hL22 := hL22.step0 m27
    have hd := hd.keep (lU hU (by omega)) m27 nF
    have ht := ht.keep text_st (lU hU (by omega)) m27 nF
    have hp := hp.keep pair_st (lU hU (by omega)) m27 nF
    refine suK (xstW h9 (lens' := lRec) sz65 rfl rfl rfl rfl rfl) ?_
    rintro w29 ⟨m30, h9, s28⟩
    have hf := hf.step m30 (nB (by omega))
    have h1 := h1.keep m30 (by show ¬ (b1 = b9); omega)
    have hL19 := hL19.step m30 (nB (by omega))
    have hL22 := hL22.step m30 (nB (by omega))
    have hd := hd.keep (lU hU (by omega)) m30 (fun k hk hS => by have hk := hU k hk; have hS : k = b9 := hS; omega)
    have ht := ht.keep text_st (lU hU (by omega)) m30 (fun k hk hS => by have hk := hU k hk; have hS : k = b9 := hS; omega)
    have hp := hp.keep pair_st (lU hU (by omega)) m30 (fun k hk hS => by have hk := hU k hk; have hS : k = b9 := hS; omega)
    refine send (fg [(1, _), (3, _), (9, _), (28, _), (29, _), (30, _), (34, _), (35, _), (36, _)] ⟨rfl, rfl, rfl, rfl, rfl, rfl, rfl, rfl, rfl, ⟨⟩⟩ fun _ => (wp_seq (sreg (sv (xfld fl65_0 rfl) (sv (xld on9 rfl (h9.r.c 0 rfl rfl)) ?_)))))
    refine sc (xcall ca82 rfl) (c82 (by omega)) ?_
    rintro _ w31 ⟨gb42, rfl, gp42, m32⟩
    have z33 := m32.size
    have hf := hf.step0 m32
    have h1 := h1.keep m32 id
    have hL19 := hL19.step0 m32
    have hL22 := hL22.step0 m32
    have hd := hd.keep (lU hU (by omega)) m32 nF
    have ht := ht.keep text_st (lU hU (by omega)) m32 nF
    have hp := hp.keep pair_st (lU hU (by omega)) m32 nF
    have h9 := h9.keep m32 id
    rcases Bool.eq_false_or_eq_true gb42 with rfl | rfl
    ·
     refine sv (xnot rfl) (sM rfl (gyes rfl rfl rfl (sv (xldS (lens := lRec) ro65 rfl h9.r) (gyes rfl rfl rfl ?_))))
     refine sc (xcall ca83 rfl) (c83 (lU hU (by omega)) hd ht hp hrf) ?_
     rintro _ w34 ⟨gb46, rfl, gp46, m35⟩
     have z36 := m35.size
     have hf := hf.step0 m35
     have h1 := h1.keep m35 id
     have hL19 := hL19.step0 m35
     have hL22 := hL22.step0 m35
     have hd := hd.keep (lU hU (by omega)) m35 nF
     have ht := ht.keep text_st (lU hU (by omega)) m35 nF
     have hp := hp.keep pair_st (lU hU (by omega)) m35 nF
     have h9 := h9.keep m35 id
     rcases Bool.eq_false_or_eq_true gb46 with rfl | rfl
     ·
      refine gyes rfl rfl rfl (sv (xnot rfl) (sv (xpickF rfl rfl) (send (fg [(1, _), (3, _), (9, _), (28, _), (29, _), (30, _), (34, _), (35, _), (36, _), (48, _)] ⟨rfl, rfl, rfl, rfl, rfl, rfl, rfl, rfl, rfl, rfl, ⟨⟩⟩ fun _ => (cno rfl (wp_skip (nThen (fg [(1, _), (3, _), (9, _), (28, _), (29, _), (30, _), (34, _), (35, _), (36, _)] ⟨rfl, rfl, rfl, rfl, rfl, rfl, rfl, rfl, rfl, ⟨⟩⟩ fun _ => (lreg (sM rfl (sv (xldS (lens := lRec) ro65 rfl h9.r) ?_)))))))))))
      refine sc (xcall ca84 rfl) (c84 (lU hU (by omega)) hd ht hp hrf) ?_
      rintro _ w37 ⟨p51, q51, g51, rfl, r51, m38, a51, l51⟩
      have z39 := m38.size
      have hf := hf.step0 m38
      have h1 := h1.keep m38 id
      have hL19 := hL19.step0 m38
      have hL22 := hL22.step0 m38
      refine sv (xlen sl37 rfl) (sv (xadd rfl rfl (w64 (by omega) (by omega))) (sA rfl (lend (nBlock (nThen (fg [(1, _), (3, _), (28, _), (29, _), (30, _), (34, _), (35, _), (36, _)] ⟨rfl, rfl, rfl, rfl, rfl, rfl, rfl, rfl, ⟨⟩⟩ fun _ => (lreg (sv (xadd rfl rfl (w64 (by omega) (by omega))) (sM rfl (lend (nThen ?_)))))))))))
      refine ⟨(k + 1, s2 + (bodyL r).length), _, env_okl ⟨rfl, rfl, rfl, rfl, rfl, rfl, rfl, rfl, trivial⟩, ⟨hL22, (by omega), (upto_step hI hrk ⟨gp42 rfl, gp46 rfl⟩), (by omega)⟩, ?_⟩
      show l.length - (k + 1) < l.length - k; omega
     ·
      refine gyes rfl rfl rfl (sv (xnot rfl) (sv (xpickF rfl rfl) (send (fg [(1, _), (3, _), (9, _), (28, _), (29, _), (30, _), (34, _), (35, _), (36, _), (48, _)] ⟨rfl, rfl, rfl, rfl, rfl, rfl, rfl, rfl, rfl, rfl, ⟨⟩⟩ fun _ => (cyes rfl (sreg (sA rfl (send (fg [(2, _)] ⟨rfl, ⟨⟩⟩ fun _ => (wp_ret (rThen (rBlock (rThen (rThen (rBlock (rBlock (rThen (rThen (rBlock (rThen ?_))))))))))))))))))))
      refine rp1 rfl rfl ?_
      exact ⟨_, rfl, (fun h => by cases h), hf⟩
    ·
     refine sv (xnot rfl) (sM rfl (gno rfl rfl rfl (gno rfl rfl rfl (gno rfl rfl rfl (sv (xpickT rfl rfl) (send (fg [(1, _), (3, _), (9, _), (28, _), (29, _), (30, _), (34, _), (35, _), (36, _), (48, _)] ⟨rfl, rfl, rfl, rfl, rfl, rfl, rfl, rfl, rfl, rfl, ⟨⟩⟩ fun _ => (cyes rfl (sreg (sA rfl (send (fg [(2, _)] ⟨rfl, ⟨⟩⟩ fun _ => (wp_ret (rThen (rBlock (rThen (rThen (rBlock (rBlock (rThen (rThen (rBlock (rThen ?_)))))))))))))))))))))))
     refine rp1 rfl rfl ?_
     exact ⟨_, rfl, (fun h => by cases h), hf⟩
   ·
    refine send (fg [(1, _), (3, _), (28, _), (29, _), (30, _), (34, _), (35, _), (36, _), (37, _)] ⟨rfl, rfl, rfl, rfl, rfl, rfl, rfl, rfl, rfl, ⟨⟩⟩ fun _ => (wp_seq (cno rfl (wp_exit (eThen (eThen (eHit (nBlock (nThen (fg [(1, _), (3, _), (28, _), (29, _), (30, _)] ⟨rfl, rfl, rfl, rfl, rfl, ⟨⟩⟩ fun _ => (lreg (sv (xadd rfl rfl (w64 (by omega) (by omega))) (sM rfl (lend (nThen ?_)))))))))))))))
    refine ⟨(i + 1, s2), _, env_okl ⟨rfl, rfl, rfl, rfl, rfl, trivial⟩, ⟨hL19, (by omega), (upto_step hO hul (upto_all hI (by omega))), (by rw [sum_take_add hul]; omega)⟩, ?_⟩
    show 3 - (i + 1) < 3 - i; omega
  ·
   refine send (fg [(1, _), (3, _), (28, _), (29, _), (30, _), (31, _)] ⟨rfl, rfl, rfl, rfl, rfl, rfl, ⟨⟩⟩ fun _ => (wp_seq (cno rfl (wp_exit (eThen (eThen (eHit (nThen (fg [(1, _), (3, _)] ⟨rfl, rfl, ⟨⟩⟩ fun _ => (sreg (sv (xfld fl34_0 rfl) (sv (xldS (lens := [1, 1, 1, 1, 1, 1, 1, 1, 1, 1]) ro30 rfl (h1.r.sub 0 10 rfl)) ?_))))))))))))
   refine sc (xcall ca85 rfl) (c85 (h := m.head)) ?_
   rintro _ w40 ⟨gb58, rfl, gp58, m41⟩
   have z42 := m41.size
   have hf := hf.step0 m41
   have h1 := h1.keep m41 id
   rcases Bool.eq_false_or_eq_true gb58 with rfl | rfl
   ·
    refine sM rfl (gyes rfl rfl rfl (sv (xfld fl34_1 rfl) (gyes rfl rfl rfl (sv (xld on31 rfl (h1.r.c 10 rfl rfl)) (gyes rfl rfl rfl (sv (xlen sl31 rfl) (gyes rfl rfl rfl ?_)))))))
    refine svP (xlss rfl rfl) (fun hc63 => ?_) (fun hc63 => ?_)
    ·
     refine sv (xpickT rfl rfl) (sM rfl (gyes rfl rfl rfl (sv (xfld fl34_2 rfl) (gyes rfl rfl rfl (sv (xld on32 rfl (h1.r.c 11 rfl rfl)) (gyes rfl rfl rfl (sv (xlen sl32 rfl) (gyes rfl rfl rfl ?_))))))))
     refine svP (xlss rfl rfl) (fun hc69 => ?_) (fun hc69 => ?_)
     ·
      refine sv (xpickT rfl rfl) (sM rfl (gyes rfl rfl rfl (sv (xfld fl34_3 rfl) (gyes rfl rfl rfl (sv (xld on32 rfl (h1.r.c 12 rfl rfl)) (gyes rfl rfl rfl (sv (xlen sl32 rfl) (gyes rfl rfl rfl ?_))))))))
      refine svP (xlss rfl rfl) (fun hc75 => ?_) (fun hc75 => ?_)
      ·
       refine sv (xpickT rfl rfl) (sM rfl (gyes rfl rfl rfl (sv (xfld fl34_4 rfl) (gyes rfl rfl rfl (sv (xld on32 rfl (h1.r.c 13 rfl rfl)) (gyes rfl rfl rfl (sv (xlen sl32 rfl) (gyes rfl rfl rfl ?_))))))))
       refine svP (xlss rfl rfl) (fun hc81 => ?_) (fun hc81 => ?_)
       ·
        refine sv (xpickT rfl rfl) (sM rfl (gyes rfl rfl rfl (sM rfl (gyes rfl rfl rfl ?_))))
        refine svP (xlss rfl rfl) (fun hc85 => ?_) (fun hc85 => ?_)
        ·
         refine sv (xpickT rfl rfl) (sA rfl (send (fg [(2, _)] ⟨rfl, ⟨⟩⟩ fun _ => (wp_ret ?_))))
         refine rp1 rfl rfl ?_
         exact ⟨_, rfl, (fun _ => ⟨upto_all hT (by omega), upto_all hO (by simp; omega), gp58 rfl⟩), hf⟩
        ·
         refine sv (xpickT rfl rfl) (sA rfl (send (fg [(2, _)] ⟨rfl, ⟨⟩⟩ fun _ => (wp_ret ?_))))
         refine rp1 rfl rfl ?_
         exact ⟨_, rfl, (fun h => by cases h), hf⟩
       ·
        refine sv (xpickT rfl rfl) (sM rfl (gno rfl rfl rfl (gno rfl rfl rfl (sv (xpickF rfl rfl) (sA rfl (send (fg [(2, _)] ⟨rfl, ⟨⟩⟩ fun _ => (wp_ret ?_))))))))
        refine rp1 rfl rfl ?_
        exact ⟨_, rfl, (fun h => by cases h), hf⟩
      ·
       refine sv (xpickT rfl rfl) (sM rfl (gno rfl rfl rfl (gno rfl rfl rfl (gno rfl rfl rfl (gno rfl rfl rfl (sv (xpickF rfl rfl) (sM rfl (gno rfl rfl rfl (gno rfl rfl rfl (sv (xpickF rfl rfl) (sA rfl (send (fg [(2, _)] ⟨rfl, ⟨⟩⟩ fun _ => (wp_ret ?_))))))))))))))
       refine rp1 rfl rfl ?_
       exact ⟨_, rfl, (fun h => by cases h), hf⟩
     ·
      refine sv (xpickT rfl rfl) (sM rfl (gno rfl rfl rfl (gno rfl rfl rfl (gno rfl rfl rfl (gno rfl rfl rfl (sv (xpickF rfl rfl) (sM rfl (gno rfl rfl rfl (gno rfl rfl rfl (gno rfl rfl rfl (gno rfl rfl rfl (sv (xpickF rfl rfl) (sM rfl (gno rfl rfl rfl (gno rfl rfl rfl (sv (xpickF rfl rfl) (sA rfl (send (fg [(2, _)] ⟨rfl, ⟨⟩⟩ fun _ => (wp_ret ?_))))))))))))))))))))
      refine rp1 rfl rfl ?_
      exact ⟨_, rfl, (fun h => by cases h), hf⟩
    ·
     refine sv (xpickT rfl rfl) (sM rfl (gno rfl rfl rfl (gno rfl rfl rfl (gno rfl rfl rfl (gno rfl rfl rfl (sv (xpickF rfl rfl) (sM rfl (gno rfl rfl rfl (gno rfl rfl rfl (gno rfl rfl rfl (gno rfl rfl rfl (sv (xpickF rfl rfl) (sM rfl (gno rfl rfl rfl (gno rfl rfl rfl (gno rfl rfl rfl (gno rfl rfl rfl (sv (xpickF rfl rfl) (sM rfl (gno rfl rfl rfl (gno rfl rfl rfl (sv (xpickF rfl rfl) (sA rfl (send ?_))))))))))))))))))))))))
     refine fg [(2, _)] ⟨rfl, ⟨⟩⟩ fun _ => (wp_ret ?_)
     refine rp1 rfl rfl ?_
     exact ⟨_, rfl, (fun h => by cases h), hf⟩
   ·
    refine sM rfl (gno rfl rfl rfl (gno rfl rfl rfl (gno rfl rfl rfl (gno rfl rfl rfl (sv (xpickF rfl rfl) (sM rfl (gno rfl rfl rfl (gno rfl rfl rfl (gno rfl rfl rfl (gno rfl rfl rfl (sv (xpickF rfl rfl) (sM rfl (gno rfl rfl rfl (gno rfl rfl rfl (gno rfl rfl rfl (gno rfl rfl rfl (sv (xpickF rfl rfl) (sM rfl (gno rfl rfl rfl (gno rfl rfl rfl (gno rfl rfl rfl (gno rfl rfl rfl (sv (xpickF rfl rfl) (sM rfl ?_))))))))))))))))))))))))
    refine gno rfl rfl rfl (gno rfl rfl rfl (sv (xpickF rfl rfl) (sA rfl (send (fg [(2, _)] ⟨rfl, ⟨⟩⟩ fun _ => (wp_ret ?_))))))
    refine rp1 rfl rfl ?_
    exact ⟨_, rfl, (fun h => by cases h), hf⟩
end Go.Proofs.YtifnodoffgfpbaaGreatDoor

namespace Go.Proofs.YtifnodoffgfpbaaGreatDoor
open Go

def fewM (m : MsgD) : Prop := m.asks.length + m.one.length + m.two.length + m.three.length ≤ 40 ∧ (∀ l ∈ [m.one, m.two, m.three], ∀ r ∈ l, smallR r) ∧ okM m

set_option maxHeartbeats 4000000 in
set_option maxRecDepth 100000 in
theorem c14 {w : World} {U : Nat → Prop} (hU : ∀ k, U k → k < w.heap.size) {m : MsgD} {va v1 v2 v3 : Value} (ha : LA AskEl lAsk U w va m.asks) (y1 : LA RecEl lRec U w v1 m.one) (y2 : LA RecEl lRec U w v2 m.two) (y3 : LA RecEl lRec U w v3 m.three) (hfa : ∀ a ∈ m.asks, a.name.size ≤ 1048576) (hfr : ∀ l ∈ [m.one, m.two, m.three], ∀ r ∈ l, r.fits) (hll : ∀ l ∈ [m.one, m.two, m.three], l.length ≤ 1048576) (hna : m.asks.length ≤ 1048576) :
  Ret PP 14 [ag (msgSegs m.head va v1 v2 v3)] w (Grd w (fewM m)) := by
 have hls : All2 (LA RecEl lRec U w) [v1, v2, v3] [m.one, m.two, m.three] := All2.cons y1 (All2.cons y2 (All2.cons y3 All2.nil))
 obtain ⟨aa, ca, rfl⟩ := ha.form
 obtain ⟨a1, c1, rfl⟩ := y1.form
 obtain ⟨a2, c2, rfl⟩ := y2.form
 obtain ⟨a3, c3, rfl⟩ := y3.form
 have hl1 := hll m.one (by simp)
 have hl2 := hll m.two (by simp)
 have hl3 := hll m.three (by simp)
 have hf : Fr (fun _ => False) w w := Fr.refl _ _
 refine ret_of Tryz.func14 rfl rfl rfl [(0, _)] rfl ?_
 refine sreg ?_
 refine svK (xboxS (lens := lMsg) rfl rfl) ?_
 rintro _ w2 ⟨b1, rfl, m3, h1, e1, s1⟩
 have ha := ha.keep ask_st (lU hU (by omega)) m3 nF
 have y1 := y1.keep rec_st (lU hU (by omega)) m3 nF
 have y2 := y2.keep rec_st (lU hU (by omega)) m3 nF
 have y3 := y3.keep rec_st (lU hU (by omega)) m3 nF
 have hf := hf.step0 m3
 refine sA rfl (send (fg [(1, _)] ⟨rfl, ⟨⟩⟩ fun _ => (sreg (sv (xfld fl34_1 rfl) (sv (xld on31 rfl (h1.r.c 10 rfl rfl)) (sv (xlen sl31 rfl) (sv (xfld fl34_2 rfl) (sv (xld on32 rfl (h1.r.c 11 rfl rfl)) (sv (xlen sl32 rfl) (sv (xadd rfl rfl (w64 (by omega) (by omega))) (sv (xfld fl34_3 rfl) (sv (xld on32 rfl (h1.r.c 12 rfl rfl)) (sv (xlen sl32 rfl) (sv (xadd rfl rfl (w64 (by omega) (by omega))) (sv (xfld fl34_4 rfl) (sv (xld on32 rfl (h1.r.c 13 rfl rfl)) (sv (xlen sl32 rfl) (sv (xadd rfl rfl (w64 (by omega) (by omega))) (sA rfl (send (fg [(1, _), (3, _)] ⟨rfl, rfl, ⟨⟩⟩ fun _ => (wp_seq (sreg (sM rfl ?_))))))))))))))))))))))))
 refine svP (xgtr rfl rfl) (fun hc29 => ?_) (fun hc29 => ?_)
 ·
  refine send (fg [(1, _), (29, _)] ⟨rfl, rfl, ⟨⟩⟩ fun _ => (cyes rfl (sreg (sA rfl (send (fg [(2, _)] ⟨rfl, ⟨⟩⟩ fun _ => (wp_ret (rThen ?_))))))))
  refine rp1 rfl rfl ?_
  exact ⟨_, rfl, (fun h => by cases h), hf⟩
 ·
  refine send (fg [(1, _), (29, _)] ⟨rfl, rfl, ⟨⟩⟩ fun _ => (cno rfl (wp_skip (nThen (fg [(1, _)] ⟨rfl, ⟨⟩⟩ fun _ => (wp_seq (sreg (sv (xfld fl34_2 rfl) (sv (xld on32 rfl (h1.r.c 11 rfl rfl)) (sv (xfld fl34_3 rfl) (sv (xld on32 rfl (h1.r.c 12 rfl rfl)) (sv (xfld fl34_4 rfl) (sv (xld on32 rfl (h1.r.c 13 rfl rfl)) ?_)))))))))))))
  refine svK (xslit ([.slice a1 m.one.length c1, .slice a2 m.two.length c2, .slice a3 m.three.length c3]) sl60 in32 rfl (by decide) rfl rfl rfl rfl (by decide) rfl rfl) ?_
  rintro _ w5 ⟨b36, rfl, m6, h36, e36, s36, r36⟩
  have ha := ha.keep ask_st (lU hU (by omega)) m6 nF
  have y1 := y1.keep rec_st (lU hU (by omega)) m6 nF
  have y2 := y2.keep rec_st (lU hU (by omega)) m6 nF
  have y3 := y3.keep rec_st (lU hU (by omega)) m6 nF
  have hf := hf.step0 m6
  have h1 := h1.keep m6 id
  refine sv (xlen sl60 rfl) (sM rfl (send (fg [(1, _), (36, _), (37, _), (38, _)] ⟨rfl, rfl, rfl, rfl, ⟨⟩⟩ fun _ => (wp_block ?_))))
  refine lp [(1, _), (36, _), (37, _)] (fun (i : Nat) => [(38, .int .i64 (i : Int))]) (fun (i : Nat) wx => Fr (fun _ => False) w5 wx ∧ (i ≤ 3) ∧ (∀ j (l : List RecD), j < i → [m.one, m.two, m.three][j]? = some l → ∀ r ∈ l, smallR r)) (fun (i : Nat) => 3 - i) 0 ⟨rfl, rfl, rfl, rfl, trivial⟩ ⟨Fr.refl _ _, Nat.zero_le _, upto_zero⟩ ?_
  rintro i _ w8 ⟨hL7, hi, hO⟩
  refine fg [(1, _), (36, _), (37, _), (38, _)] ⟨rfl, rfl, rfl, rfl, ⟨⟩⟩ fun _ => ?_
  have z9 := hL7.size
  have ha := ha.keep ask_st (lU hU (by omega)) hL7 nF
  have y1 := y1.keep rec_st (lU hU (by omega)) hL7 nF
  have y2 := y2.keep rec_st (lU hU (by omega)) hL7 nF
  have y3 := y3.keep rec_st (lU hU (by omega)) hL7 nF
  have hf := hf.step0 hL7
  have h1 := h1.keep hL7 id
  have r36 := r36.keep hL7 id
  refine sreg ?_
  refine svP (xlss rfl rfl) (fun hc39 => ?_) (fun hc39 => ?_)
  ·
   refine send (fg [(1, _), (36, _), (37, _), (38, _), (39, _)] ⟨rfl, rfl, rfl, rfl, rfl, ⟨⟩⟩ fun _ => (wp_seq (cyes rfl (wp_skip (nThen (fg [(1, _), (36, _), (37, _), (38, _)] ⟨rfl, rfl, rfl, rfl, ⟨⟩⟩ fun _ => (wp_seq (wp_block (sreg ?_)))))))))
   obtain ⟨u, l, hu, hul, hL⟩ := hls.get (k := i) (by simp; omega)
   have hL := hL.keep rec_st hU hf nF
   have hlm : l ∈ [m.one, m.two, m.three] := List.mem_of_getElem? hul
   have hln := hll l hlm
   obtain ⟨au, cu, rfl⟩ := hL.form
   refine sv (xidx1 sl60 sz32 rfl rfl rfl (by omega)) (sv (xld on32 rfl (Rw.rng r36 i _ hu)) (sA rfl (send (fg [(1, _), (5, _), (36, _), (37, _), (38, _)] ⟨rfl, rfl, rfl, rfl, rfl, ⟨⟩⟩ fun _ => (sreg (sM rfl (sv (xlen sl32 rfl) (sM rfl (send (fg [(1, _), (36, _), (37, _), (38, _), (42, _), (43, _), (44, _)] ⟨rfl, rfl, rfl, rfl, rfl, rfl, rfl, ⟨⟩⟩ fun _ => (wp_block ?_)))))))))))
   refine lp [(1, _), (36, _), (37, _), (38, _), (42, _), (43, _)] (fun (k : Nat) => [(44, .int .i64 (k : Int))]) (fun (k : Nat) wx => Fr (fun _ => False) w8 wx ∧ (k ≤ l.length) ∧ (∀ j (r : RecD), j < k → l[j]? = some r → smallR r)) (fun (k : Nat) => l.length - k) 0 ⟨rfl, rfl, rfl, rfl, rfl, rfl, rfl, trivial⟩ ⟨Fr.refl _ _, Nat.zero_le _, upto_zero⟩ ?_
   rintro k _ w11 ⟨hL10, hk, hI⟩
   refine fg [(1, _), (36, _), (37, _), (38, _), (42, _), (43, _), (44, _)] ⟨rfl, rfl, rfl, rfl, rfl, rfl, rfl, ⟨⟩⟩ fun _ => ?_
   have z12 := hL10.size
   have ha := ha.keep ask_st (lU hU (by omega)) hL10 nF
   have y1 := y1.keep rec_st (lU hU (by omega)) hL10 nF
   have y2 := y2.keep rec_st (lU hU (by omega)) hL10 nF
   have y3 := y3.keep rec_st (lU hU (by omega)) hL10 nF
   have hf := hf.step0 hL10
   have h1 := h1.keep hL10 id
   have hL7 := hL7.step0 hL10
   have hL := hL.keep rec_st (lU hU (by omega)) hL10 nF
   refine sreg ?_
   refine svP (xlss rfl rfl) (fun hc45 => ?_) (fun hc45 => ?_)
   ·
    refine send (fg [(1, _), (36, _), (37, _), (38, _), (42, _), (43, _), (44, _), (45, _)] ⟨rfl, rfl, rfl, rfl, rfl, rfl, rfl, rfl, ⟨⟩⟩ fun _ => (wp_seq (cyes rfl (wp_skip (nThen (fg [(1, _), (36, _), (37, _), (38, _), (42, _), (43, _), (44, _)] ⟨rfl, rfl, rfl, rfl, rfl, rfl, rfl, ⟨⟩⟩ fun _ => (wp_seq (wp_block ?_))))))))
    obtain ⟨r, hrk⟩ := some_of_lt (by omega : k < l.length)
    have hrf := hfr l hlm r (List.mem_of_getElem? hrk)
    have hrf0 := hrf
    simp only [RecD.fits] at hrf0
    have hsp := sum_add4 r.pairs
    refine sreg ?_
    obtain ⟨bE46, oE46, sgE46, rfl, uE46, hsE46, heE46⟩ := LA.get hL hrk
    obtain ⟨vd, vt, vp, rfl, hd, ht, hp⟩ := heE46
    have zE46 := hU _ uE46
    obtain ⟨ad, cd, rfl, -⟩ := id hd
    obtain ⟨at1, ct1, rfl⟩ := ht.form
    obtain ⟨ap1, cp1, rfl⟩ := hp.form
    refine sv (xidx sl32 sz65 rfl rfl rfl (by omega)) (sv (xldS (lens := lRec) ro65 rfl hsE46) ?_)
    refine svK (xallS (lens := lRec) in65 rfl) ?_
    rintro _ w14 ⟨b7, rfl, m15, h7, e13, s13⟩
    have ha := ha.keep ask_st (lU hU (by omega)) m15 nF
    have y1 := y1.keep rec_st (lU hU (by omega)) m15 nF
    have y2 := y2.keep rec_st (lU hU (by omega)) m15 nF
    have y3 := y3.keep rec_st (lU hU (by omega)) m15 nF
    have hf := hf.step0 m15
    have h1 := h1.keep m15 id
    have hL7 := hL7.step0 m15
    have hL10 := hL10.step0 m15
    have ht := ht.keep text_st (lU hU (by omega)) m15 nF
    have hp := hp.keep pair_st (lU hU (by omega)) m15 nF
    refine suK (xstW h7 (lens' := lRec) sz65 rfl rfl rfl rfl rfl) ?_
    rintro w17 ⟨m18, h7, s16⟩
    have ha := ha.keep ask_st (lU hU (by omega)) m18 (fun k hk hS => by have hk := hU k hk; have hS : k = b7 := hS; omega)
    have y1 := y1.keep rec_st (lU hU (by omega)) m18 (fun k hk hS => by have hk := hU k hk; have hS : k = b7 := hS; omega)
    have y2 := y2.keep rec_st (lU hU (by omega)) m18 (fun k hk hS => by have hk := hU k hk; have hS : k = b7 := hS; omega)
    have y3 := y3.keep rec_st (lU hU (by omega)) m18 (fun k hk hS => by have hk := hU k hk; have hS : k = b7 := hS; omega)
    have hf := hf.step m18 (nB (by omega))
    have h1 := h1.keep m18 (by show ¬ (b1 = b7); omega)
    have hL7 := hL7.step m18 (nB (by omega))
    have hL10 := hL10.step m18 (nB (by omega))
    have ht := ht.keep text_st (lU hU (by omega)) m18 (fun k hk hS => by have hk := hU k hk; have hS : k = b7 := hS; omega)
    have hp := hp.keep pair_st (lU hU (by omega)) m18 (fun k hk hS => by have hk := hU k hk; have hS : k = b7 := hS; omega)
    refine send (fg [(1, _), (7, _), (36, _), (37, _), (38, _), (42, _), (43, _), (44, _)] ⟨rfl, rfl, rfl, rfl, rfl, rfl, rfl, rfl, ⟨⟩⟩ fun _ => (sreg (sv (xfld fl65_6 rfl) (sv (xld on37 rfl (h7.r.c 6 rfl rfl)) (sv (xlen sl37 rfl) (sv (xfld fl65_14 rfl) (sv (xld on62 rfl (h7.r.c 14 rfl rfl)) (sv (xlen sl62 rfl) (sv (xadd rfl rfl (w64 (by omega) (by omega))) (sA rfl (send (fg [(1, _), (7, _), (8, _), (36, _), (37, _), (38, _), (42, _), (43, _), (44, _)] ⟨rfl, rfl, rfl, rfl, rfl, rfl, rfl, rfl, rfl, ⟨⟩⟩ fun _ => (wp_seq (sreg (sv (xfld fl65_14 rfl) (sv (xld on62 rfl (h7.r.c 14 rfl rfl)) (sv (xlen sl62 rfl) (sM rfl (send (fg [(1, _), (7, _), (8, _), (36, _), (37, _), (38, _), (42, _), (43, _), (44, _), (56, _), (57, _), (58, _)] ⟨rfl, rfl, rfl, rfl, rfl, rfl, rfl, rfl, rfl, rfl, rfl, rfl, ⟨⟩⟩ fun _ => (wp_block ?_)))))))))))))))))))))
    refine lp [(1, _), (7, _), (36, _), (37, _), (38, _), (42, _), (43, _), (44, _), (56, _), (57, _)] (fun (x : Nat × Nat) => match x with | (j, s) => [(8, .int .i64 (s : Int)), (58, .int .i64 (j : Int))]) (fun (x : Nat × Nat) wx => match x with | (j, s) => Fr (fun _ => False) w17 wx ∧ (j ≤ r.texts.length) ∧ (s = r.data.length + r.texts.length + ((r.texts.take j).map (fun s : ByteArray => s.size)).sum)) (fun (x : Nat × Nat) => match x with | (j, s) => r.texts.length - j) (0, r.data.length + r.texts.length) ⟨rfl, rfl, rfl, rfl, rfl, rfl, rfl, rfl, rfl, rfl, rfl, rfl, trivial⟩ ⟨Fr.refl _ _, Nat.zero_le _, rfl⟩ ?_
    rintro ⟨j, s⟩ _ w20 ⟨hL19, hj, hs⟩
    refine fg [(1, _), (7, _), (8, _), (36, _), (37, _), (38, _), (42, _), (43, _), (44, _), (56, _), (57, _), (58, _)] ⟨rfl, rfl, rfl, rfl, rfl, rfl, rfl, rfl, rfl, rfl, rfl, rfl, ⟨⟩⟩ fun _ => ?_
    have z21 := hL19.size
    have ha := ha.keep ask_st (lU hU (by omega)) hL19 nF
    have y1 := y1.keep rec_st (lU hU (by omega)) hL19 nF
    have y2 := y2.keep rec_st (lU hU (by omega)) hL19 nF
    have y3 := y3.keep rec_st (lU hU (by omega)) hL19 nF
    have hf := hf.step0 hL19
    have h1 := h1.keep hL19 id
    have hL7 := hL7.step0 hL19
    have hL10 := hL10.step0 hL19
    have ht := ht.keep text_st (lU hU (by omega)) hL19 nF
    have hp := hp.keep pair_st (lU hU (by omega)) hL19 nF
    have h7 := h7.keep hL19 id
    refine sreg ?_
    refine svP (xlss rfl rfl) (fun hc59 => ?_) (fun hc59 => ?_)
    ·
     refine send (fg [(1, _), (7, _), (8, _), (36, _), (37, _), (38, _), (42, _), (43, _), (44, _), (56, _), (57, _), (58, _), (59, _)] ⟨rfl, rfl, rfl, rfl, rfl, rfl, rfl, rfl, rfl, rfl, rfl, rfl, rfl, ⟨⟩⟩ fun _ => (wp_seq (cyes rfl (wp_skip (nThen (fg [(1, _), (7, _), (8, _), (36, _), (37, _), (38, _), (42, _), (43, _), (44, _), (56, _), (57, _), (58, _)] ⟨rfl, rfl, rfl, rfl, rfl, rfl, rfl, rfl, rfl, rfl, rfl, rfl, ⟨⟩⟩ fun _ => (wp_seq (wp_block ?_))))))))
     obtain ⟨t, htj⟩ := some_of_lt (by omega : j < r.texts.length)
     have hts := sum_take_le (f := fun s : ByteArray => s.size) htj
     have hta := sum_take_add (f := fun s : ByteArray => s.size) htj
     refine sreg ?_
     obtain ⟨bE60, oE60, sgE60, rfl, uE60, hsE60, heE60⟩ := LA.get ht htj
     obtain rfl := heE60
     have zE60 := hU _ uE60
     refine sv (xidx sl62 sz9 rfl rfl rfl (by omega)) (sv (xld on9 rfl (hsE60.c 0 rfl rfl)) (sA rfl (send (fg [(1, _), (7, _), (8, _), (10, _), (36, _), (37, _), (38, _), (42, _), (43, _), (44, _), (56, _), (57, _), (58, _)] ⟨rfl, rfl, rfl, rfl, rfl, rfl, rfl, rfl, rfl, rfl, rfl, rfl, rfl, ⟨⟩⟩ fun _ => (lreg (sM rfl (sM rfl (sv (xlenS st9 rfl) (sv (xadd rfl rfl (w64 (by omega) (by omega))) (sA rfl (lend (nBlock (nThen (fg [(1, _), (7, _), (8, _), (36, _), (37, _), (38, _), (42, _), (43, _), (44, _), (56, _), (57, _), (58, _)] ⟨rfl, rfl, rfl, rfl, rfl, rfl, rfl, rfl, rfl, rfl, rfl, rfl, ⟨⟩⟩ fun _ => (lreg (sv (xadd rfl rfl (w64 (by omega) (by omega))) (sM rfl (lend (nThen ?_)))))))))))))))))))
     refine ⟨(j + 1, s + t.size), _, env_okl ⟨rfl, rfl, rfl, rfl, rfl, rfl, rfl, rfl, rfl, rfl, rfl, rfl, trivial⟩, ⟨hL19, (by omega), (by omega)⟩, ?_⟩
     show r.texts.length - (j + 1) < r.texts.length - j; omega
    ·
     refine send (fg [(1, _), (7, _), (8, _), (36, _), (37, _), (38, _), (42, _), (43, _), (44, _), (56, _), (57, _), (58, _), (59, _)] ⟨rfl, rfl, rfl, rfl, rfl, rfl, rfl, rfl, rfl, rfl, rfl, rfl, rfl, ⟨⟩⟩ fun _ => (wp_seq (cno rfl (wp_exit (eThen (eThen (eHit (nThen (fg [(1, _), (7, _), (8, _), (36, _), (37, _), (38, _), (42, _), (43, _), (44, _)] ⟨rfl, rfl, rfl, rfl, rfl, rfl, rfl, rfl, rfl, ⟨⟩⟩ fun _ => (wp_seq ?_))))))))))
     have eT : r.texts.take j = r.texts := List.take_of_length_le (by omega)
     rw [eT] at hs
     refine sreg (sv (xfld fl65_15 rfl) (sv (xld on63 rfl (h7.r.c 15 rfl rfl)) (sv (xlen sl63 rfl) (sM rfl (send (fg [(1, _), (7, _), (8, _), (36, _), (37, _), (38, _), (42, _), (43, _), (44, _), (68, _), (69, _), (70, _)] ⟨rfl, rfl, rfl, rfl, rfl, rfl, rfl, rfl, rfl, rfl, rfl, rfl, ⟨⟩⟩ fun _ => (wp_block ?_)))))))
     refine lp [(1, _), (7, _), (36, _), (37, _), (38, _), (42, _), (43, _), (44, _), (68, _), (69, _)] (fun (x : Nat × Nat) => match x with | (j, s2) => [(8, .int .i64 (s2 : Int)), (70, .int .i64 (j : Int))]) (fun (x : Nat × Nat) wx => match x with | (j, s2) => Fr (fun _ => False) w20 wx ∧ (j ≤ r.pairs.length) ∧ (s2 = s + ((r.pairs.take j).map (fun p : PairD => p.data.length + 4)).sum)) (fun (x : Nat × Nat) => match x with | (j, s2) => r.pairs.length - j) (0, s) ⟨rfl, rfl, rfl, rfl, rfl, rfl, rfl, rfl, rfl, rfl, rfl, rfl, trivial⟩ ⟨Fr.refl _ _, Nat.zero_le _, rfl⟩ ?_
     rintro ⟨j, s2⟩ _ w23 ⟨hL22, hj, hs2⟩
     refine fg [(1, _), (7, _), (8, _), (36, _), (37, _), (38, _), (42, _), (43, _), (44, _), (68, _), (69, _), (70, _)] ⟨rfl, rfl, rfl, rfl, rfl, rfl, rfl, rfl, rfl, rfl, rfl, rfl, ⟨⟩⟩ fun _ => ?_
     have z24 := hL22.size
     have ha := ha.keep ask_st (lU hU (by omega)) hL22 nF
     have y1 := y1.keep rec_st (lU hU (by omega)) hL22 nF
     have y2 := y2.keep rec_st (lU hU (by omega)) hL22 nF
     have y3 := y3.keep rec_st (lU hU (by omega)) hL22 nF
     have hf := hf.step0 hL22
     have h1 := h1.keep hL22 id
     have hL7 := hL7.step0 hL22
     have hL10 := hL10.step0 hL22
     have hp := hp.keep pair_st (lU hU (by omega)) hL22 nF
     have h7 := h7.keep hL22 id
     refine sreg ?_
     refine svP (xlss rfl rfl) (fun hc71 => ?_) (fun hc71 => ?_)
     ·
      refine send (fg [(1, _), (7, _), (8, _), (36, _), (37, _), (38, _), (42, _), (43, _), (44, _), (68, _), (69, _), (70, _), (71, _)] ⟨rfl, rfl, rfl, rfl, rfl, rfl, rfl, rfl, rfl, rfl, rfl, rfl, rfl, ⟨⟩⟩ fun _ => (wp_seq (cyes rfl (wp_skip (nThen (fg [(1, _), (7, _), (8, _), (36, _), (37, _), (38, _), (42, _), (43, _), (44, _), (68, _), (69, _), (70, _)] ⟨rfl, rfl, rfl, rfl, rfl, rfl, rfl, rfl, rfl, rfl, rfl, rfl, ⟨⟩⟩ fun _ => (wp_seq (wp_block ?_))))))))
      obtain ⟨p, hpj⟩ := some_of_lt (by omega : j < r.pairs.length)
      have hps := sum_take_le (f := fun p : PairD => p.data.length + 4) hpj
      have hpa := sum_take_add (f := fun p : PairD => p.data.length + 4) hpj
      refine sreg ?_
      obtain ⟨bE72, oE72, sgE72, rfl, uE72, hsE72, heE72⟩ := LA.get hp hpj
      obtain ⟨vdp, rfl, hdp⟩ := heE72
      have zE72 := hU _ uE72
      obtain ⟨adp, cdp, rfl, -⟩ := id hdp
      refine sv (xidx sl63 sz67 rfl rfl rfl (by omega)) (sv (xldS (lens := [1, 1]) ro67 rfl hsE72) ?_)
      refine svK (xallS (lens := [1, 1]) in67 rfl) ?_
      rintro _ w26 ⟨b12, rfl, m27, h12, e25, s25⟩
      have ha := ha.keep ask_st (lU hU (by omega)) m27 nF
      have y1 := y1.keep rec_st (lU hU (by omega)) m27 nF
      have y2 := y2.keep rec_st (lU hU (by omega)) m27 nF
      have y3 := y3.keep rec_st (lU hU (by omega)) m27 nF
      have hf := hf.step0 m27
      have h1 := h1.keep m27 id
      have hL7 := hL7.step0 m27
      have hL10 := hL10.step0 m27
      have h7 := h7.keep m27 id
      have hL22 := hL22.step0 m27
      refine suK (xstW h12 (lens' := [1, 1]) sz67 rfl rfl rfl rfl rfl) ?_
      rintro w29 ⟨m30, h12, s28⟩
      have ha := ha.keep ask_st (lU hU (by omega)) m30 (fun k hk hS => by have hk := hU k hk; have hS : k = b12 := hS; omega)
      have y1 := y1.keep rec_st (lU hU (by omega)) m30 (fun k hk hS => by have hk := hU k hk; have hS : k = b12 := hS; omega)
      have y2 := y2.keep rec_st (lU hU (by omega)) m30 (fun k hk hS => by have hk := hU k hk; have hS : k = b12 := hS; omega)
      have y3 := y3.keep rec_st (lU hU (by omega)) m30 (fun k hk hS => by have hk := hU k hk; have hS : k = b12 := hS; omega)
      have hf := hf.step m30 (nB (by omega))
      have h1 := h1.keep m30 (by show ¬ (b1 = b12); omega)
      have hL7 := hL7.step m30 (nB (by omega))
      have hL10 := hL10.step m30 (nB (by omega))
      have h7 := h7.keep m30 (by show ¬ (b7 = b12); omega)
      have hL22 := hL22.step m30 (nB (by omega))
      refine send (fg [(1, _), (7, _), (8, _), (12, _), (36, _), (37, _), (38, _), (42, _), (43, _), (44, _), (68, _), (69, _), (70, _)] ⟨rfl, rfl, rfl, rfl, rfl, rfl, rfl, rfl, rfl, rfl, rfl, rfl, rfl, ⟨⟩⟩ fun _ => (lreg (sM rfl (sv (xfld fl67_1 rfl) (sv (xld on37 rfl (h12.r.c 1 rfl rfl)) (sv (xlen sl37 rfl) (sv (xadd rfl rfl (w64 (by omega) (by omega))) (sv (xadd rfl rfl (w64 (by omega) (by omega))) (sA rfl (lend (nBlock (nThen (fg [(1, _), (7, _), (8, _), (36, _), (37, _), (38, _), (42, _), (43, _), (44, _), (68, _), (69, _), (70, _)] ⟨rfl, rfl, rfl, rfl, rfl, rfl, rfl, rfl, rfl, rfl, rfl, rfl, ⟨⟩⟩ fun _ => (lreg (sv (xadd rfl rfl (w64 (by omega) (by omega))) (sM rfl (lend (nThen ?_))))))))))))))))))
      refine ⟨(j + 1, s2 + (p.data.length + 4)), _, env_okl ⟨rfl, rfl, rfl, rfl, rfl, rfl, rfl, rfl, rfl, rfl, rfl, rfl, trivial⟩, ⟨hL22, (by omega), (by omega)⟩, ?_⟩
      show r.pairs.length - (j + 1) < r.pairs.length - j; omega
     ·
      refine send (fg [(1, _), (7, _), (8, _), (36, _), (37, _), (38, _), (42, _), (43, _), (44, _), (68, _), (69, _), (70, _), (71, _)] ⟨rfl, rfl, rfl, rfl, rfl, rfl, rfl, rfl, rfl, rfl, rfl, rfl, rfl, ⟨⟩⟩ fun _ => (wp_seq (cno rfl (wp_exit (eThen (eThen (eHit (nThen (fg [(1, _), (7, _), (8, _), (36, _), (37, _), (38, _), (42, _), (43, _), (44, _)] ⟨rfl, rfl, rfl, rfl, rfl, rfl, rfl, rfl, rfl, ⟨⟩⟩ fun _ => ?_)))))))))
      have eP : r.pairs.take j = r.pairs := List.take_of_length_le (by omega)
      rw [eP] at hs2
      refine sreg (sv (xfld fl65_5 rfl) (sv (xld on3 rfl (h7.r.c 5 rfl rfl)) ?_))
      refine svP (xlss rfl rfl) (fun hc83 => ?_) (fun hc83 => ?_)
      ·
       refine sM rfl (gno rfl rfl rfl (gno rfl rfl rfl (gno rfl rfl rfl (sv (xpickT rfl rfl) (sM rfl (gno rfl rfl rfl (gno rfl rfl rfl (sv (xpickT rfl rfl) (send (fg [(1, _), (36, _), (37, _), (38, _), (42, _), (43, _), (44, _), (92, _)] ⟨rfl, rfl, rfl, rfl, rfl, rfl, rfl, rfl, ⟨⟩⟩ fun _ => (cyes rfl (sreg (sA rfl (send (fg [(2, _)] ⟨rfl, ⟨⟩⟩ fun _ => (wp_ret (rBlock (rThen (rThen (rBlock (rBlock (rThen (rThen (rBlock ?_))))))))))))))))))))))))
       refine rThen ?_
       refine rp1 rfl rfl ?_
       exact ⟨_, rfl, (fun h => by cases h), hf⟩
      ·
       refine sM rfl (gyes rfl rfl rfl (sv (xfld fl65_5 rfl) (gyes rfl rfl rfl (sv (xld on3 rfl (h7.r.c 5 rfl rfl)) (gyes rfl rfl rfl ?_)))))
       refine svP (xgtr rfl rfl) (fun hc87 => ?_) (fun hc87 => ?_)
       ·
        refine sv (xpickF rfl rfl) (sM rfl (gno rfl rfl rfl (gno rfl rfl rfl (sv (xpickT rfl rfl) (send (fg [(1, _), (36, _), (37, _), (38, _), (42, _), (43, _), (44, _), (92, _)] ⟨rfl, rfl, rfl, rfl, rfl, rfl, rfl, rfl, ⟨⟩⟩ fun _ => (cyes rfl (sreg (sA rfl (send (fg [(2, _)] ⟨rfl, ⟨⟩⟩ fun _ => (wp_ret (rBlock (rThen (rThen (rBlock (rBlock (rThen (rThen (rBlock (rThen ?_)))))))))))))))))))))
        refine rp1 rfl rfl ?_
        exact ⟨_, rfl, (fun h => by cases h), hf⟩
       ·
        refine sv (xpickF rfl rfl) (sM rfl (gyes rfl rfl rfl (sM rfl (gyes rfl rfl rfl ?_))))
        refine svP (xgtr rfl rfl) (fun hc91 => ?_) (fun hc91 => ?_)
        ·
         refine sv (xpickF rfl rfl) (send (fg [(1, _), (36, _), (37, _), (38, _), (42, _), (43, _), (44, _), (92, _)] ⟨rfl, rfl, rfl, rfl, rfl, rfl, rfl, rfl, ⟨⟩⟩ fun _ => (cyes rfl (sreg (sA rfl (send (fg [(2, _)] ⟨rfl, ⟨⟩⟩ fun _ => (wp_ret (rBlock (rThen (rThen (rBlock (rBlock (rThen (rThen (rBlock (rThen ?_)))))))))))))))))
         refine rp1 rfl rfl ?_
         exact ⟨_, rfl, (fun h => by cases h), hf⟩
        ·
         refine sv (xpickF rfl rfl) (send (fg [(1, _), (36, _), (37, _), (38, _), (42, _), (43, _), (44, _), (92, _)] ⟨rfl, rfl, rfl, rfl, rfl, rfl, rfl, rfl, ⟨⟩⟩ fun _ => (cno rfl (wp_skip (nBlock (nThen (fg [(1, _), (36, _), (37, _), (38, _), (42, _), (43, _), (44, _)] ⟨rfl, rfl, rfl, rfl, rfl, rfl, rfl, ⟨⟩⟩ fun _ => (lreg (sv (xadd rfl rfl (w64 (by omega) (by omega))) (sM rfl (lend (nThen ?_))))))))))))
         refine ⟨k + 1, _, env_okl ⟨rfl, rfl, rfl, rfl, rfl, rfl, rfl, trivial⟩, ⟨hL10, (by omega), (upto_step hI hrk ⟨by omega, by omega, by simp only [sizeR]; omega⟩)⟩, ?_⟩
         show l.length - (k + 1) < l.length - k; omega
   ·
    refine send (fg [(1, _), (36, _), (37, _), (38, _), (42, _), (43, _), (44, _), (45, _)] ⟨rfl, rfl, rfl, rfl, rfl, rfl, rfl, rfl, ⟨⟩⟩ fun _ => (wp_seq (cno rfl (wp_exit (eThen (eThen (eHit (nBlock (nThen (fg [(1, _), (36, _), (37, _), (38, _)] ⟨rfl, rfl, rfl, rfl, ⟨⟩⟩ fun _ => (lreg (sv (xadd rfl rfl (w64 (by omega) (by omega))) (sM rfl (lend (nThen ?_)))))))))))))))
    refine ⟨i + 1, _, env_okl ⟨rfl, rfl, rfl, rfl, trivial⟩, ⟨hL7, (by omega), (upto_step hO hul (upto_all hI (by omega)))⟩, ?_⟩
    show 3 - (i + 1) < 3 - i; omega
  ·
   refine send (fg [(1, _), (36, _), (37, _), (38, _), (39, _)] ⟨rfl, rfl, rfl, rfl, rfl, ⟨⟩⟩ fun _ => (wp_seq (cno rfl (wp_exit (eThen (eThen (eHit (nThen (fg [(1, _)] ⟨rfl, ⟨⟩⟩ fun _ => (sreg (sv (xldS (lens := lMsg) ro34 rfl h1.r) ?_)))))))))))
   refine sc (xcall ca33 rfl) (c33 (lU hU (by omega)) ha y1 y2 y3 hfa hfr (by omega)) ?_
   rintro _ w31 ⟨gb96, rfl, gp96, m32⟩
   have z33 := m32.size
   have hf := hf.step0 m32
   rcases Bool.eq_false_or_eq_true gb96 with rfl | rfl
   ·
    refine sA rfl (send (fg [(2, _)] ⟨rfl, ⟨⟩⟩ fun _ => (wp_ret ?_)))
    refine rp1 rfl rfl ?_
    exact ⟨_, rfl, (fun _ => ⟨by omega, upto_all hO (by simp; omega), gp96 rfl⟩), hf⟩
   ·
    refine sA rfl (send (fg [(2, _)] ⟨rfl, ⟨⟩⟩ fun _ => (wp_ret ?_)))
    refine rp1 rfl rfl ?_
    exact ⟨_, rfl, (fun h => by cases h), hf⟩
end Go.Proofs.YtifnodoffgfpbaaGreatDoor
