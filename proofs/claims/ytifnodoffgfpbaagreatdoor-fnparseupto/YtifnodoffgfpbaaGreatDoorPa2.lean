/- Part 2 of the texts for a law of this seat: walks, and plain laws about messages; conditions: none. -/
import Derived.Test.YtifnodoffgfpbaaGreatDoorPa1
set_option maxHeartbeats 4000000
set_option maxRecDepth 100000
namespace Go.Proofs.YtifnodoffgfpbaaGreatDoor
open Go

theorem pairs_snoc {ps : List PairD} {k : Nat} {p : PairD} (h : ps[k]? = some p) : pairsL (ps.take (k + 1)) = pairsL (ps.take k) ++ pairL p := by
  rw [take_snoc h]; simp [pairsL]
theorem sum_take_le {α : Type} {f : α → Nat} {l : List α} {k : Nat} {a : α} (h : l[k]? = some a) : ((l.take k).map f).sum + f a ≤ (l.map f).sum := by
  have e : l = l.take (k + 1) ++ l.drop (k + 1) := (List.take_append_drop _ _).symm
  conv => rhs; rw [e]
  rw [take_snoc h]
  simp only [List.map_append, List.sum_append, List.map_cons, List.map_nil, List.sum_cons, List.sum_nil]
  omega
theorem pairsL_length (ps : List PairD) : (pairsL ps).length = 4 * ps.length + (ps.map (·.data.length)).sum := by
  induction ps with
  | nil => rfl
  | cons p ps ih =>
    simp only [pairsL, List.map_cons, List.flatten_cons, List.length_append, pairL, be16_length, List.length_cons, List.sum_cons] at ih ⊢
    omega
theorem textsL_length (ss : List ByteArray) : (textsL ss).length = ss.length + (ss.map (·.size)).sum := by
  induction ss with
  | nil => rfl
  | cons p ps ih =>
    simp only [textsL, List.map_cons, List.flatten_cons, List.length_append, textL, List.length_cons, List.sum_cons, bt_length] at ih ⊢
    omega
theorem texts_snoc {ps : List ByteArray} {k : Nat} {p : ByteArray} (h : ps[k]? = some p) : textsL (ps.take (k + 1)) = textsL (ps.take k) ++ textL p := by
  rw [take_snoc h]; simp [textsL]
theorem some_of_lt {α : Type} {l : List α} {k : Nat} (h : k < l.length) : ∃ x, l[k]? = some x := ⟨_, List.getElem?_eq_getElem h⟩
theorem counts_snoc {cs : List Nat} {k : Nat} {c : Nat} (h : cs[k]? = some c) : ((cs.take (k + 1)).map be16).flatten = ((cs.take k).map be16).flatten ++ be16 c := by
  rw [take_snoc h]; simp
theorem counts_length (cs : List Nat) : ((cs.map be16).flatten).length = 2 * cs.length := by
  induction cs with
  | nil => rfl
  | cons c cs ih => simp only [List.map_cons, List.flatten_cons, List.length_append, be16_length, List.length_cons, ih]; omega

theorem c146 {w : World} {U : Nat → Prop} (hU : ∀ k, U k → k < w.heap.size) {v : Value} {bs : List UInt8} (hd : BA U w v bs) {n : Nat} (hn : n ≤ 100) (h0 : 0 < n) :
  Ret PP 146 [v, .int .i64 (n : Int)] w (New w n (fixedL bs n)) := by
 have hf : Fr (fun _ => False) w w := Fr.refl _ _
 refine ret_of Tryz.func146 rfl rfl rfl [(0, _), (1, _)] rfl ?_
 refine sreg (sA rfl (send (fcg 0 1 rfl fun _ => sreg (sM rfl (svK (xmake sl37 in5 rfl (by decide) rfl rfl rfl rfl (by omega) (by omega) (by simp only [maxLen]; omega) rfl) ?_)))))
 rintro _ w1 ⟨b7, rfl, m2, h7, e7, s7, r7⟩
 rw [rep_zero] at h7 r7
 have hd := hd.keep (lU hU (by omega)) m2 nF
 refine sA rfl (send (fcg 0 5 rfl fun _ => sreg (sM rfl (sM rfl (svK (xcopyR sl37 sz5 rfl rfl (cpy_ba hd) r7 h7) ?_)))))
 rintro _ w3 ⟨m4, r7, s10⟩
 have hf := (hf.s m2).t m4 (by omega)
 refine send ((sreg (sM rfl (sA rfl (send (fbg 4 rfl fun _ => wp_ret (rp1 rfl rfl ?_)))))))
 exact ⟨_, _, _, rfl, r7, hf, by omega, by omega⟩
theorem c147 {w : World} {U : Nat → Prop} (hU : ∀ k, U k → k < w.heap.size) {v : Value} {ps : List PairD} (hp : LA PairEl lPair U w v ps) (hn : ps.length ≤ 1048576) (hs : (ps.map (·.data.length)).sum ≤ 1048576) :
  Ret PP 147 [v] w (fun u w' => New w (pairsL ps).length (pairsL ps) u w') := by
 obtain ⟨a0, c0, rfl⟩ := hp.form
 have hf : Fr (fun _ => False) w w := Fr.refl _ _
 refine ret_of Tryz.func147 rfl rfl rfl [(0, _)] rfl ?_
 refine sreg (sA rfl (send (fbg 0 rfl fun _ => sreg (svK (xslit (bvs []) sl37 in5 rfl (by decide) rfl rfl rfl rfl (by decide) rfl (bvs_one _)) ?_))))
 rintro _ w2 ⟨b6, rfl, m3, h6, e6, s6, r6⟩
 refine sA rfl (send ((wp_seq (sreg (sM rfl (sv (xlen sl63 rfl) (sM rfl (send (feg 3 7 8 9 rfl fun _ => wp_block (lp [(7, _), (8, _)] (fun (x : Nat × Value × Nat) => match x with | (k, v, g) => [(3, v), (9, .int .i64 (k : Int))]) (fun (x : Nat × Value × Nat) wx => match x with | (k, v, g) => Fr (fun k => k = b6) w2 wx ∧ (k ≤ ps.length) ∧ (BR wx v g (pairsL (ps.take k)).length (pairsL (ps.take k))) ∧ (w.heap.size ≤ g) ∧ (g < wx.heap.size)) (fun (x : Nat × Value × Nat) => match x with | (k, v, g) => ps.length - k) (0, _, b6) ⟨rfl, rfl, rfl, rfl, trivial⟩ ⟨Fr.refl _ _, Nat.zero_le _, r6, (by omega), (by omega)⟩ ?_))))))))))
 rintro ⟨k, v, g⟩ _ w5 ⟨hL4, hk, hv3, hg, hg2⟩
 refine feg 3 7 8 9 rfl fun _ => ?_
 have z6 := hL4.size
 obtain ⟨a3, c3, rfl, -⟩ := hv3.form
 have hf := (hf.s m3).t hL4 (by omega)
 refine sreg (svP (xlss rfl rfl) (fun hc10 => ?_) (fun hc10 => ?_))
 rotate_left
 ·
  refine send ((wp_seq (cno rfl (wp_exit (eThen (eThen (eHit (nThen ((sreg (sM rfl (sA rfl (send (fbg 2 rfl fun _ => wp_ret (rp1 rfl rfl ?_)))))))))))))))
  have e : ps.take k = ps := List.take_of_length_le (by omega)
  exact new_cast hv3 (by rw [e]) hf hg hg2
 refine send ((wp_seq (cyes rfl (wp_skip (nThen (feg 3 7 8 9 rfl fun _ => wp_seq (wp_block ?_)))))))
 obtain ⟨p, hpk⟩ := some_of_lt (by omega : k < ps.length)
 have hsk := sum_take_le (f := fun p : PairD => p.data.length) hpk
 have hp := (hp.keep pair_st (lU hU (by omega)) m3 nF).keep pair_st (lU hU (by omega)) hL4 (nU hU (by omega))
 refine sreg ?_
 obtain ⟨bE11, oE11, sgE11, rfl, uE11, hsE11, heE11⟩ := LA.get hp hpk
 obtain ⟨vd, rfl, hd⟩ := heE11
 have zE11 := hU _ uE11
 obtain ⟨ad, cd, rfl, -⟩ := id hd
 refine sv (xidx sl63 sz67 rfl rfl rfl (by omega)) (sv (xldS (lens := [1, 1]) ro67 rfl hsE11) (svK (xallS (lens := [1, 1]) in67 rfl) ?_))
 rintro _ w8 ⟨b5, rfl, m9, h5, e7, s7⟩
 refine suK (xstW h5 (lens' := [1, 1]) sz67 rfl rfl rfl rfl rfl) ?_
 rintro w11 ⟨m12, h5, s10⟩
 refine send (ffg 3 5 7 8 9 rfl fun _ => ?_)
 have hol : (pairsL (ps.take k)).length ≤ 6000000 := by rw [pairsL_length, List.length_take]; omega
 refine ldraw (Fr (fun _ => False) w11.drew) [rd0, rd1, rd2, rd4, rd5, rd6, rd7, rd9, rd10, ld3, ld8, ld11, ld12, rd13] mixed (by kernel_rfl) (fun _ _ _ _ _ h => h) ?_
 have z13 : w11.drew.heap.size = w11.heap.size := rfl
 have hS14 : Fr (fun _ => False) w11.drew w11.drew := Fr.refl _ _
 have h5 := h5.drew
 refine ggM rfl rfl hS14 (hv rfl (fun _ _ => xfld fl67_0 rfl) hS14 (hv rfl (fun w' hS => xld on22 rfl ((h5.k hS).r.c 0 rfl rfl)) hS14 (hv rfl (fun _ _ => xfld fl67_1 rfl) hS14 (hv rfl (fun w' hS => xld on37 rfl ((h5.k hS).r.c 1 rfl rfl)) hS14 (hv rfl (fun _ _ => xlen sl37 rfl) hS14 (hv rfl (fun _ _ => xconv hs3 ki22 rfl (wu16n (p.data.length % 65536) (by omega))) hS14 (hv rfl (fun _ _ => xfld fl67_1 rfl) hS14 (hv rfl (fun w' hS => xld on37 rfl ((h5.k hS).r.c 1 rfl rfl)) hS14 (hc rfl (xcall ca53 rfl) (c53 (by first | omega | exact u16lt _)) ?_)))))))))
 rintro _ w15 ⟨p16, q16, g16, rfl, r16, m16, a16, l16⟩
 have z17 := m16.size
 have hS18 := hS14.s m16
 refine ⟨hS18, ?_⟩
 refine hc rfl (xcall ca53 rfl) (c53 (by first | omega | exact u16lt _)) ?_
 rintro _ w19 ⟨p21, q21, g21, rfl, r21, m20, a21, l21⟩
 have z21 := m20.size
 have hS22 := hS18.s m20
 refine ⟨hS22, ?_⟩
 refine hlK rfl (xslit [_, _, _, _] sl105 in37 rfl (by decide) rfl rfl rfl rfl (by decide) rfl rfl) ?_
 rintro _ w24 ⟨b24, rfl, m25, h24, e24, s24, r24⟩
 have hS26 := hS22.s m25
 have hv3 := (((((hv3.k m9).keep m12 (nE (by omega))).k (fd w11)).k m16).k m20).k m25
 have hd := (((((hd.keep (lU hU (by omega)) m9 nF).keep (lU hU (by omega)) m12 (nU hU (by omega))).keep (lU hU (by omega)) (fd w11) nF).keep (lU hU (by omega)) m16 nF).keep (lU hU (by omega)) m20 nF).keep (lU hU (by omega)) m25 nF
 have r16 := (r16.k m20).k m25
 have r21 := r21.k m25
 refine ⟨hS26, ?_⟩
 refine hc rfl (xcall ca21 rfl) (c21 (U := fun k => k = g ∨ k = g16 ∨ k = g21 ∨ U k) (Rw.rng r24) (by omega) rfl (fun k hk => by have hk : k = g ∨ k = g16 ∨ k = g21 ∨ U k := hk; rcases hk with hk | hk | hk | hk <;> first | omega | (have := hU k hk; omega)) (All2.cons (BR.ba hv3 (.inl rfl)) (All2.cons (BR.ba r16 (.inr (.inl rfl))) (All2.cons (BR.ba r21 (.inr (.inr (.inl rfl)))) (All2.cons (BA.mono hd (fun k h => (.inr (.inr (.inr h))))) All2.nil)))) (by simp only [fC, fN, List.length_append, be16_length, List.length_nil]; omega) (by decide)) ?_
 rintro _ w27 ⟨p25, q25, g25, rfl, r25, m28, a25, l25⟩
 have z29 := m28.size
 have hS30 := hS26.s m28
 have hL4 := ((((((hL4.s m9).step m12 (fun k hk hS => by have hS : k = b5 := hS; show k = b6; omega)).drew).s m16).s m20).s m25).s m28
 refine ⟨hS30, ?_⟩
 refine ggA rfl rfl hS30 (lhend (nBlock (nThen (feg 3 7 8 9 rfl fun _ => lreg (sv (xadd rfl rfl (w64 (by omega) (by omega))) (sM rfl (lend (nThen ?_))))))))
 refine ⟨(k + 1, _, g25), _, env_okl ⟨rfl, rfl, rfl, rfl, trivial⟩, ⟨hL4, (by omega), (by rw [pairs_snoc hpk]; exact br_cast r25 (by simp [pairL, be16_mod]) (by simp [pairL, be16_length])), (by omega), (by omega)⟩, ?_⟩
 show ps.length - (k + 1) < ps.length - k; omega
end Go.Proofs.YtifnodoffgfpbaaGreatDoor

namespace Go.Proofs.YtifnodoffgfpbaaGreatDoor
open Go

theorem typ_get (r : RecD) (h0 : 0 ≤ r.kind) (h1 : r.kind < 13) : ([[Value.int .u16 0], [.int .u16 1], [.int .u16 2], [.int .u16 5], [.int .u16 6], [.int .u16 12], [.int .u16 15], [.int .u16 16], [.int .u16 28], [.int .u16 33], [.int .u16 41], [.int .u16 64], [.int .u16 65], [.int .u16 0]] : List (List Value)).flatten[r.kind.toNat]? = some (.int .u16 ((typeN r).toNat : Int)) := by
  obtain ⟨n, hn⟩ := Int.eq_ofNat_of_zero_le h0
  have hlt : n < 13 := by omega
  simp only [typeN, hn]
  match n, hlt with
  | 0, _ | 1, _ | 2, _ | 3, _ | 4, _ | 5, _ | 6, _ | 7, _ | 8, _ | 9, _ | 10, _ | 11, _ | 12, _ => rfl
theorem RecD.fits.texts {r : RecD} (h : r.fits) : (textsL r.texts).length ≤ 3000000 := by
  rw [textsL_length]; simp only [RecD.fits] at h; omega
theorem RecD.fits.pairs {r : RecD} (h : r.fits) : (pairsL r.pairs).length ≤ 6000000 := by
  rw [pairsL_length]; simp only [RecD.fits] at h; omega
theorem bodyL_fits {r : RecD} (h : r.fits) : (bodyL r).length ≤ 10000000 := by
  have h1 := h.texts
  have h2 := h.pairs
  have h3 := wire_le (bt r.host)
  have h4 := wire_le (bt r.box)
  rw [bt_length] at h3 h4
  simp only [RecD.fits] at h
  simp only [bodyL]
  repeat' split
  all_goals try simp only [List.length_append, be16_length, be32_length, fixedL_length]
  all_goals omega
theorem two16 (n : Nat) : be16 (n % 65536) = be16 n := be16_mod n
theorem c86 {w : World} {r : RecD} {vd vt vp : Value} (h0 : 0 ≤ r.kind) (h1 : r.kind ≤ 13) :
  Ret PP 86 [ag (recSegs r vd vt vp)] w (fun u w' => u = .int .u16 ((typeN r).toNat : Int) ∧ Fr0 w w') := by
 have hf : Fr (fun _ => False) w w := Fr.refl _ _
 refine ret_of Tryz.func86 rfl rfl rfl [(0, _)] rfl ?_
 refine sreg (svK (xboxS (lens := lRec) rfl rfl) ?_)
 rintro _ w2 ⟨b1, rfl, m3, h1, e1, s1⟩
 refine sA rfl (send (fbg 1 rfl fun _ => sreg (sv (xbuildA [[.int .u16 0], [.int .u16 1], [.int .u16 2], [.int .u16 5], [.int .u16 6], [.int .u16 12], [.int .u16 15], [.int .u16 16], [.int .u16 28], [.int .u16 33], [.int .u16 41], [.int .u16 64], [.int .u16 65], [.int .u16 0]] in265 ar265 sz22 rfl rfl (by simp [fitAll, Value.cells]) rfl) (svK (xallS (lens := lMsg) in265 (by decide)) ?_))))
 rintro _ w5 ⟨b3, rfl, m6, h3, e4, s4⟩
 refine suK (xstW h3 (lens' := lMsg) sz265 (by decide) rfl rfl rfl rfl) ?_
 rintro w8 ⟨m9, h3, s7⟩
 have h1 := (h1.k m6).keep m9 (nE (by omega))
 have hf := ((hf.s m3).s m6).t m9 (by omega)
 refine send (fcg 1 3 rfl fun _ => wp_seq (sreg (sv (xfld fl65_5 rfl) (sv (xld on3 rfl (h1.r.c 5 rfl rfl)) (svP (xeql rfl rfl) (fun hc7 => ?_) (fun hc7 => ?_))))))
 ·
  refine send ((cyes rfl (sreg (sv (xfld fl65_1 rfl) (sv (xld on22 rfl (h1.r.c 1 rfl rfl)) (sA rfl (send (fbg 2 rfl fun _ => wp_ret (rThen (rp1 rfl rfl ?_))))))))))
  exact ⟨by simp [typeN, hc7], hf⟩
 refine send ((cno rfl (wp_skip (nThen ((sreg (sv (xfld fl65_5 rfl) (sv (xld on3 rfl (h1.r.c 5 rfl rfl)) (sv (xidxA1 (i := r.kind.toNat) ar265 sz22 rfl rfl (by omega) (by omega)) (sv (xld on22 rfl (h3.1.cell (by rw [Nat.zero_add]; exact typ_get r h0 (by omega)))) (sA rfl (send (fbg 2 rfl fun _ => wp_ret (rp1 rfl rfl ?_))))))))))))))
 exact ⟨rfl, hf⟩
theorem c84 {w : World} {U : Nat → Prop} (hU : ∀ k, U k → k < w.heap.size) {r : RecD} {vd vt vp : Value} (hd : BA U w vd r.data) (ht : LA TextEl [1] U w vt r.texts) (hp : LA PairEl lPair U w vp r.pairs) (hr : r.fits) :
  Ret PP 84 [ag (recSegs r vd vt vp)] w (fun u w' => New w (bodyL r).length (bodyL r) u w') := by
 obtain ⟨at0, ct0, rfl⟩ := ht.form
 obtain ⟨ap0, cp0, rfl⟩ := hp.form
 obtain ⟨ad0, cd0, rfl, -⟩ := id hd
 have hft := hr.texts
 have hfp := hr.pairs
 have hw1 := wire_le (bt r.host)
 have hw2 := wire_le (bt r.box)
 rw [bt_length] at hw1 hw2
 have hr0 := hr
 simp only [RecD.fits] at hr0
 have hf : Fr (fun _ => False) w w := Fr.refl _ _
 refine ret_of Tryz.func84 rfl rfl rfl [(0, _)] rfl ?_
 refine sreg (svK (xboxS (lens := lRec) rfl rfl) ?_)
 rintro _ w2 ⟨b1, rfl, m3, h1, e1, s1⟩
 refine sA rfl (send (fbg 1 rfl fun _ => sreg (sv (xfld fl65_9 rfl) (sv (xld on61 rfl (h1.r.c 9 rfl rfl)) (sv (xconv hs61 ki22 rfl (wu16n (r.n1.toNat % 65536) (by omega))) (sv (xfld fl65_10 rfl) (sv (xld on61 rfl (h1.r.c 10 rfl rfl)) (sv (xconv hs61 ki22 rfl (wu16n (r.n2.toNat % 65536) (by omega))) (sv (xfld fl65_11 rfl) (sv (xld on61 rfl (h1.r.c 11 rfl rfl)) (sv (xconv hs61 ki22 rfl (wu16n (r.n3.toNat % 65536) (by omega))) (svK (xslit ([Value.int .u16 ((r.n1.toNat % 65536 : Nat) : Int), .int .u16 ((r.n2.toNat % 65536 : Nat) : Int), .int .u16 ((r.n3.toNat % 65536 : Nat) : Int)]) sl262 in22 rfl (by decide) rfl rfl rfl rfl (by decide) rfl rfl) ?_))))))))))))
 rintro _ w5 ⟨b16, rfl, m6, h16, e16, s16, r16⟩
 have h1 := h1.k m6
 have hd := (hd.keep (lU hU (by omega)) m3 nF).keep (lU hU (by omega)) m6 nF
 have ht := (ht.keep text_st (lU hU (by omega)) m3 nF).keep text_st (lU hU (by omega)) m6 nF
 have hp := (hp.keep pair_st (lU hU (by omega)) m3 nF).keep pair_st (lU hU (by omega)) m6 nF
 have hf := (hf.s m3).s m6
 refine sA rfl (send ((wp_seq (sreg (sv (xfld fl65_5 rfl) (sv (xld on3 rfl (h1.r.c 5 rfl rfl)) (send (fdg 1 3 18 rfl fun _ => wp_block (sreg (svP (xeql rfl rfl) (fun hc20 => ?_) (fun hc20 => ?_)))))))))))
 ·
  refine sA rfl (send (feg 1 3 18 19 rfl fun _ => cyes rfl (sreg (sv (xfld fl65_6 rfl) (sv (xld on37 rfl (h1.r.c 6 rfl rfl)) (sc (xcall ca146 rfl) (c146 (n := 4) (lU hU (by omega)) hd (by decide) (by decide)) ?_))))))
  rintro _ w7 ⟨p23, q23, g23, rfl, r23, m8, a23, l23⟩
  have z9 := m8.size
  have hf := hf.s m8
  refine sA rfl (send (fbg 2 rfl fun _ => wp_ret (rBlock (rThen (rp1 rfl rfl ?_)))))
  exact new_cast r23 (by simp [bodyL, *]) hf (by omega) (by omega)
 refine sA rfl (send (feg 1 3 18 19 rfl fun _ => cno rfl (sreg (svP (xeql rfl rfl) (fun hc25 => ?_) (fun hc25 => ?_)))))
 ·
  refine sA rfl (send (feg 1 3 18 24 rfl fun _ => cyes rfl (sreg (sv (xfld fl65_6 rfl) (sv (xld on37 rfl (h1.r.c 6 rfl rfl)) (sc (xcall ca146 rfl) (c146 (n := 16) (lU hU (by omega)) hd (by decide) (by decide)) ?_))))))
  rintro _ w10 ⟨p28, q28, g28, rfl, r28, m11, a28, l28⟩
  have z12 := m11.size
  have hf := hf.s m11
  refine sA rfl (send (fbg 2 rfl fun _ => wp_ret (rBlock (rThen (rp1 rfl rfl ?_)))))
  exact new_cast r28 (by simp [bodyL, *]) hf (by omega) (by omega)
 refine sA rfl (send (feg 1 3 18 24 rfl fun _ => cno rfl (wp_seq (sreg (svP (xeql rfl rfl) (fun hc30 => ?_) (fun hc30 => ?_))))))
 ·
  refine sA rfl (send ((cyes rfl (wp_skip (nThen (feg 1 3 18 29 rfl fun _ => cyes rfl (sreg (sv (xfld fl65_7 rfl) (sv (xld on9 rfl (h1.r.c 7 rfl rfl)) (sc (xcall ca98 rfl) (c98 (by omega)) ?_))))))))))
  rintro _ w13 ⟨p35, q35, g35, rfl, r35, m14, a35, l35⟩
  have z15 := m14.size
  have hf := hf.s m14
  refine sA rfl (send (fbg 2 rfl fun _ => wp_ret (rBlock (rThen (rp1 rfl rfl ?_)))))
  exact new_cast r35 (by simp [bodyL, *]) hf (by omega) (by omega)
 refine sA rfl (send (feg 1 3 18 29 rfl fun _ => cno rfl (sreg (svP (xeql rfl rfl) (fun hc31 => ?_) (fun hc31 => ?_)))))
 ·
  refine sA rfl (send ((cyes rfl (wp_skip (nThen (feg 1 3 18 29 rfl fun _ => cyes rfl (sreg (sv (xfld fl65_7 rfl) (sv (xld on9 rfl (h1.r.c 7 rfl rfl)) (sc (xcall ca98 rfl) (c98 (by omega)) ?_))))))))))
  rintro _ w16 ⟨p35, q35, g35, rfl, r35, m17, a35, l35⟩
  have z18 := m17.size
  have hf := hf.s m17
  refine sA rfl (send (fbg 2 rfl fun _ => wp_ret (rBlock (rThen (rp1 rfl rfl ?_)))))
  exact new_cast r35 (by simp [bodyL, *]) hf (by omega) (by omega)
 refine sA rfl (send (feg 1 3 18 29 rfl fun _ => cno rfl (lreg (svP (xeql rfl rfl) (fun hc32 => ?_) (fun hc32 => ?_)))))
 ·
  refine sA rfl (lend (nThen (feg 1 3 18 29 rfl fun _ => cyes rfl (sreg (sv (xfld fl65_7 rfl) (sv (xld on9 rfl (h1.r.c 7 rfl rfl)) (sc (xcall ca98 rfl) (c98 (by omega)) ?_)))))))
  rintro _ w19 ⟨p35, q35, g35, rfl, r35, m20, a35, l35⟩
  have z21 := m20.size
  have hf := hf.s m20
  refine sA rfl (send (fbg 2 rfl fun _ => wp_ret (rBlock (rThen (rp1 rfl rfl ?_)))))
  exact new_cast r35 (by simp [bodyL, *]) hf (by omega) (by omega)
 refine sA rfl (lend (nThen (feg 1 3 18 29 rfl fun _ => cno rfl (sreg (svP (xeql rfl rfl) (fun hc37 => ?_) (fun hc37 => ?_))))))
 ·
  refine sA rfl (send (feg 1 3 18 36 rfl fun _ => cyes rfl ?_))
  refine sdraw (Fr (fun _ => False) w5.drew) [rd0, rd1, rd2, rd4, rd5, ld3, ld6, ld7, ld8, rd9] mixed (by kernel_rfl) (fun _ _ _ _ _ h => h) ?_
  have z22 : w5.drew.heap.size = w5.heap.size := rfl
  have hS23 : Fr (fun _ => False) w5.drew w5.drew := Fr.refl _ _
  have h1 := h1.drew
  have r16 := r16.k (fd w5)
  refine ggM rfl rfl hS23 (hv rfl (fun _ _ => xidx1 (i := 0) sl262 sz22 rfl rfl rfl (by decide)) hS23 (hv rfl (fun w' hS => xld on22 rfl (Rw.rng (r16.k hS) 0 _ rfl)) hS23 (hv rfl (fun _ _ => xfld fl65_7 rfl) hS23 (hv rfl (fun w' hS => xld on9 rfl ((h1.k hS).r.c 7 rfl rfl)) hS23 (hc rfl (xcall ca53 rfl) (c53 (by first | omega | exact u16lt _)) ?_)))))
  rintro _ w24 ⟨p41, q41, g41, rfl, r41, m25, a41, l41⟩
  have z26 := m25.size
  have hS27 := hS23.s m25
  refine ⟨hS27, ?_⟩
  refine hc rfl (xcall ca98 rfl) (c98 (by omega)) ?_
  rintro _ w28 ⟨p44, q44, g44, rfl, r44, m29, a44, l44⟩
  have z30 := m29.size
  have hS31 := hS27.s m29
  refine ⟨hS31, ?_⟩
  refine hlK rfl (xslit [_, _] sl105 in37 rfl (by decide) rfl rfl rfl rfl (by decide) rfl rfl) ?_
  rintro _ w33 ⟨b45, rfl, m34, h45, e45, s45, r45⟩
  have hS35 := hS31.s m34
  have r41 := (r41.k m29).k m34
  have r44 := r44.k m34
  refine ⟨hS35, ?_⟩
  refine hc rfl (xcall ca21 rfl) (c21 (U := fun k => k = g41 ∨ k = g44) (Rw.rng r45) (by omega) rfl (fun k hk => by have hk : k = g41 ∨ k = g44 := hk; rcases hk with hk | hk <;> first | omega | (have := hU k hk; omega)) (All2.cons (BR.ba r41 (.inl rfl)) (All2.cons (BR.ba r44 (.inr rfl)) All2.nil)) (by simp only [fC, fN, List.length_append, be16_length, List.length_nil]; omega) (by decide)) ?_
  rintro _ w36 ⟨p46, q46, g46, rfl, r46, m37, a46, l46⟩
  have z38 := m37.size
  have hS39 := hS35.s m37
  have hf := ((((hf.drew).s m25).s m29).s m34).s m37
  refine ⟨hS39, ?_⟩
  refine ggA rfl rfl hS39 (hend (fbg 2 rfl fun _ => wp_ret (rBlock (rThen (rp1 rfl rfl ?_)))))
  exact new_cast r46 (by simp [bodyL, two16, *]) hf (by omega) (by omega)
 refine sA rfl (send (feg 1 3 18 36 rfl fun _ => cno rfl (sreg (svP (xeql rfl rfl) (fun hc48 => ?_) (fun hc48 => ?_)))))
 ·
  refine sA rfl (send (feg 1 3 18 47 rfl fun _ => cyes rfl ?_))
  refine sdraw (Fr (fun _ => False) w5.drew) [rd0, rd1, rd3, rd4, rd6, rd7, rd9, rd10, rd12, rd13, rd15, rd16, rd18, rd19, ld2, ld5, ld8, ld11, ld14, (17, .ld), (20, .ld), (21, .ld), (22, .ld), rd23] mixed (by kernel_rfl) (fun _ _ _ _ _ h => h) ?_
  have z40 : w5.drew.heap.size = w5.heap.size := rfl
  have hS41 : Fr (fun _ => False) w5.drew w5.drew := Fr.refl _ _
  have h1 := h1.drew
  refine hv rfl (fun _ _ => xfld fl65_7 rfl) hS41 (hv rfl (fun w' hS => xld on9 rfl ((h1.k hS).r.c 7 rfl rfl)) hS41 (hv rfl (fun _ _ => xfld fl65_8 rfl) hS41 (hv rfl (fun w' hS => xld on9 rfl ((h1.k hS).r.c 8 rfl rfl)) hS41 (hv rfl (fun _ _ => xfld fl65_9 rfl) hS41 (hv rfl (fun w' hS => xld on61 rfl ((h1.k hS).r.c 9 rfl rfl)) hS41 (hv rfl (fun _ _ => xfld fl65_10 rfl) hS41 (hv rfl (fun w' hS => xld on61 rfl ((h1.k hS).r.c 10 rfl rfl)) hS41 (hv rfl (fun _ _ => xfld fl65_11 rfl) hS41 (hv rfl (fun w' hS => xld on61 rfl ((h1.k hS).r.c 11 rfl rfl)) hS41 (hv rfl (fun _ _ => xfld fl65_12 rfl) hS41 (hv rfl (fun w' hS => xld on61 rfl ((h1.k hS).r.c 12 rfl rfl)) hS41 (hv rfl (fun _ _ => xfld fl65_13 rfl) hS41 (hv rfl (fun w' hS => xld on61 rfl ((h1.k hS).r.c 13 rfl rfl)) hS41 (hc rfl (xcall ca98 rfl) (c98 (by omega)) ?_))))))))))))))
  rintro _ w42 ⟨p51, q51, g51, rfl, r51, m43, a51, l51⟩
  have z44 := m43.size
  have hS45 := hS41.s m43
  refine ⟨hS45, ?_⟩
  refine hc rfl (xcall ca98 rfl) (c98 (by omega)) ?_
  rintro _ w46 ⟨p54, q54, g54, rfl, r54, m47, a54, l54⟩
  have z48 := m47.size
  have hS49 := hS45.s m47
  refine ⟨hS49, ?_⟩
  refine hc rfl (xcall ca99 rfl) (c99 (by first | omega | exact u32lt _)) ?_
  rintro _ w50 ⟨p57, q57, g57, rfl, r57, m51, a57, l57⟩
  have z52 := m51.size
  have hS53 := hS49.s m51
  refine ⟨hS53, ?_⟩
  refine hc rfl (xcall ca99 rfl) (c99 (by first | omega | exact u32lt _)) ?_
  rintro _ w54 ⟨p60, q60, g60, rfl, r60, m55, a60, l60⟩
  have z56 := m55.size
  have hS57 := hS53.s m55
  refine ⟨hS57, ?_⟩
  refine hc rfl (xcall ca99 rfl) (c99 (by first | omega | exact u32lt _)) ?_
  rintro _ w58 ⟨p63, q63, g63, rfl, r63, m59, a63, l63⟩
  have z60 := m59.size
  have hS61 := hS57.s m59
  refine ⟨hS61, ?_⟩
  refine hc rfl (xcall ca99 rfl) (c99 (by first | omega | exact u32lt _)) ?_
  rintro _ w62 ⟨p66, q66, g66, rfl, r66, m63, a66, l66⟩
  have z64 := m63.size
  have hS65 := hS61.s m63
  refine ⟨hS65, ?_⟩
  refine hc rfl (xcall ca99 rfl) (c99 (by first | omega | exact u32lt _)) ?_
  rintro _ w66 ⟨p69, q69, g69, rfl, r69, m67, a69, l69⟩
  have z68 := m67.size
  have hS69 := hS65.s m67
  refine ⟨hS69, ?_⟩
  refine hlK rfl (xslit [_, _, _, _, _, _, _] sl105 in37 rfl (by decide) rfl rfl rfl rfl (by decide) rfl rfl) ?_
  rintro _ w71 ⟨b70, rfl, m72, h70, e70, s70, r70⟩
  have hS73 := hS69.s m72
  have r51 := ((((((r51.k m47).k m51).k m55).k m59).k m63).k m67).k m72
  have r54 := (((((r54.k m51).k m55).k m59).k m63).k m67).k m72
  have r57 := ((((r57.k m55).k m59).k m63).k m67).k m72
  have r60 := (((r60.k m59).k m63).k m67).k m72
  have r63 := ((r63.k m63).k m67).k m72
  have r66 := (r66.k m67).k m72
  have r69 := r69.k m72
  refine ⟨hS73, ?_⟩
  refine hc rfl (xcall ca21 rfl) (c21 (U := fun k => k = g51 ∨ k = g54 ∨ k = g57 ∨ k = g60 ∨ k = g63 ∨ k = g66 ∨ k = g69) (Rw.rng r70) (by omega) rfl (fun k hk => by have hk : k = g51 ∨ k = g54 ∨ k = g57 ∨ k = g60 ∨ k = g63 ∨ k = g66 ∨ k = g69 := hk; rcases hk with hk | hk | hk | hk | hk | hk | hk <;> first | omega | (have := hU k hk; omega)) (All2.cons (BR.ba r51 (.inl rfl)) (All2.cons (BR.ba r54 (.inr (.inl rfl))) (All2.cons (BR.ba r57 (.inr (.inr (.inl rfl)))) (All2.cons (BR.ba r60 (.inr (.inr (.inr (.inl rfl))))) (All2.cons (BR.ba r63 (.inr (.inr (.inr (.inr (.inl rfl)))))) (All2.cons (BR.ba r66 (.inr (.inr (.inr (.inr (.inr (.inl rfl))))))) (All2.cons (BR.ba r69 (.inr (.inr (.inr (.inr (.inr (.inr rfl))))))) All2.nil))))))) (by simp only [fC, fN, List.length_append, be32_length, List.length_nil]; omega) (by decide)) ?_
  rintro _ w74 ⟨p71, q71, g71, rfl, r71, m75, a71, l71⟩
  have z76 := m75.size
  have hS77 := hS73.s m75
  have hf := (((((((((hf.drew).s m43).s m47).s m51).s m55).s m59).s m63).s m67).s m72).s m75
  refine ⟨hS77, ?_⟩
  refine ggA rfl rfl hS77 (hend (fbg 2 rfl fun _ => wp_ret (rBlock (rThen (rp1 rfl rfl ?_)))))
  exact new_cast r71 (by simp [bodyL, *]) hf (by omega) (by omega)
 refine sA rfl (send (feg 1 3 18 47 rfl fun _ => cno rfl (sreg (svP (xeql rfl rfl) (fun hc73 => ?_) (fun hc73 => ?_)))))
 ·
  refine sA rfl (send (feg 1 3 18 72 rfl fun _ => cyes rfl (sreg (svK (xslit (bvs []) sl37 in5 rfl (by decide) rfl rfl rfl rfl (by decide) rfl (bvs_one _)) ?_))))
  rintro _ w79 ⟨b74, rfl, m80, h74, e74, s74, r74⟩
  have h1 := h1.k m80
  refine sA rfl (send ((wp_seq (sreg (sv (xfld fl65_14 rfl) (sv (xld on62 rfl (h1.r.c 14 rfl rfl)) (sv (xlen sl62 rfl) (sM rfl (send (feg 4 76 77 78 rfl fun _ => wp_block (lp [(76, _), (77, _)] (fun (x : Nat × Value × Nat) => match x with | (k, v, g) => [(4, v), (78, .int .i64 (k : Int))]) (fun (x : Nat × Value × Nat) wx => match x with | (k, v, g) => Fr (fun k => k = b74) w79 wx ∧ (k ≤ r.texts.length) ∧ (BR wx v g (textsL (r.texts.take k)).length (textsL (r.texts.take k))) ∧ (w.heap.size ≤ g) ∧ (g < wx.heap.size) ∧ (g = b74 ∨ w79.heap.size ≤ g)) (fun (x : Nat × Value × Nat) => match x with | (k, v, g) => r.texts.length - k) (0, _, b74) ⟨rfl, rfl, rfl, rfl, trivial⟩ ⟨Fr.refl _ _, Nat.zero_le _, r74, (by omega), (by omega), (.inl rfl)⟩ ?_)))))))))))
  rintro ⟨k, v, g⟩ _ w82 ⟨hL81, hk, hv4, hg, hg2, hg3⟩
  refine feg 4 76 77 78 rfl fun _ => ?_
  have z83 := hL81.size
  obtain ⟨a3, c3, rfl, -⟩ := hv4.form
  have hf := (hf.s m80).t hL81 (by omega)
  refine sreg (svP (xlss rfl rfl) (fun hc79 => ?_) (fun hc79 => ?_))
  rotate_left
  ·
   refine send ((wp_seq (cno rfl (wp_exit (eThen (eThen (eHit (nThen ((sreg (sM rfl (sA rfl (send (fbg 2 rfl fun _ => wp_ret (rBlock (rThen (rp1 rfl rfl ?_)))))))))))))))))
   have e : r.texts.take k = r.texts := List.take_of_length_le (by omega)
   exact new_cast hv4 (by rw [e]; simp [bodyL, *]) hf hg hg2
  refine send ((wp_seq (cyes rfl (wp_skip (nThen (feg 4 76 77 78 rfl fun _ => wp_seq (wp_block ?_)))))))
  obtain ⟨t, htk⟩ := some_of_lt (by omega : k < r.texts.length)
  have hsk := sum_take_le (f := fun s : ByteArray => s.size) htk
  have hol : (textsL (r.texts.take k)).length ≤ 3000000 := by rw [textsL_length, List.length_take]; omega
  have ht := (ht.keep text_st (lU hU (by omega)) m80 nF).keep text_st (lU hU (by omega)) hL81 (nU hU (by omega))
  refine sreg ?_
  obtain ⟨bE80, oE80, sgE80, rfl, uE80, hsE80, heE80⟩ := LA.get ht htk
  obtain rfl := heE80
  have zE80 := hU _ uE80
  refine sv (xidx sl62 sz9 rfl rfl rfl (by omega)) (sv (xld on9 rfl (hsE80.c 0 rfl rfl)) (sA rfl (send (ffg 4 6 76 77 78 rfl fun _ => lreg (sM rfl (sM rfl (sv (xlenS st9 rfl) (sv (xconv hs3 ki5 rfl (wu8m _)) (svK (xslit (bvs [UInt8.ofNat t.size]) sl37 in5 rfl (by decide) rfl rfl rfl rfl (by decide) (by simp [bvs, bv, Value.cells]) (bvs_one _)) ?_)))))))))
  rintro _ w85 ⟨b86, rfl, m86, h86, e86, s86, r86⟩
  have hv4 := hv4.k m86
  refine svK (xapp sl37 in5 rfl (by decide) rfl rfl hv4 (r86.src sl37) (by simp only [maxLen]; omega) (by omega)) ?_
  rintro _ w87 ⟨g87, r87, m88, a87, l87⟩
  have z89 := m88.size
  obtain ⟨p87, q87, rfl, -⟩ := r87.form
  refine sM rfl (svK (xapp sl37 in5 rfl (by decide) rfl rfl r87 (src_str st9 t) (by simp only [maxLen]; omega) (by omega)) ?_)
  rintro _ w90 ⟨g89, r89, m91, a89, l89⟩
  have z92 := m91.size
  obtain ⟨p89, q89, rfl, -⟩ := r89.form
  have hd := ((((hd.keep (lU hU (by omega)) m80 nF).keep (lU hU (by omega)) hL81 (nU hU (by omega))).keep (lU hU (by omega)) m86 nF).keep (lU hU (by omega)) m88 (nU hU (by omega))).keep (lU hU (by omega)) m91 (nU hU (by omega))
  have hp := ((((hp.keep pair_st (lU hU (by omega)) m80 nF).keep pair_st (lU hU (by omega)) hL81 (nU hU (by omega))).keep pair_st (lU hU (by omega)) m86 nF).keep pair_st (lU hU (by omega)) m88 (nU hU (by omega))).keep pair_st (lU hU (by omega)) m91 (nU hU (by omega))
  have r16 := ((((r16.k m80).keep hL81 (nE (by omega))).k m86).keep m88 (nE (by omega))).keep m91 (nE (by omega))
  have h1 := (((h1.keep hL81 (nE (by omega))).k m86).keep m88 (nE (by omega))).keep m91 (nE (by omega))
  have hL81 := ((hL81.s m86).step m88 (fun k hk hS => by have hS : k = g := hS; show k = b74; omega)).step m91 (fun k hk hS => by have hS : k = g87 := hS; show k = b74; omega)
  refine sA rfl (lend (nBlock (nThen (feg 4 76 77 78 rfl fun _ => lreg (sv (xadd rfl rfl (w64 (by omega) (by omega))) (sM rfl (lend (nThen ?_))))))))
  refine ⟨(k + 1, _, g89), _, env_okl ⟨rfl, rfl, rfl, rfl, trivial⟩, ⟨hL81, (by omega), (by rw [texts_snoc htk]; exact br_cast r89 (by simp [textL, bvs, bv]) (by simp [textL]; omega)), (by omega), (by omega), (by omega)⟩, ?_⟩
  show r.texts.length - (k + 1) < r.texts.length - k; omega
 refine sA rfl (send (feg 1 3 18 72 rfl fun _ => cno rfl (sreg (svP (xeql rfl rfl) (fun hc93 => ?_) (fun hc93 => ?_)))))
 ·
  refine sA rfl (send (feg 1 3 18 92 rfl fun _ => cyes rfl ?_))
  refine sdraw (Fr (fun _ => False) w5.drew) [rd0, rd1, rd2, rd4, rd5, rd6, rd8, rd9, rd10, rd12, rd13, ld3, ld7, ld11, ld14, ld15, (16, .ld), rd17] mixed (by kernel_rfl) (fun _ _ _ _ _ h => h) ?_
  have z93 : w5.drew.heap.size = w5.heap.size := rfl
  have hS94 : Fr (fun _ => False) w5.drew w5.drew := Fr.refl _ _
  have h1 := h1.drew
  have r16 := r16.k (fd w5)
  refine ggM rfl rfl hS94 (hv rfl (fun _ _ => xidx1 (i := 0) sl262 sz22 rfl rfl rfl (by decide)) hS94 (hv rfl (fun w' hS => xld on22 rfl (Rw.rng (r16.k hS) 0 _ rfl)) hS94 (ggM rfl rfl hS94 (hv rfl (fun _ _ => xidx1 (i := 1) sl262 sz22 rfl rfl rfl (by decide)) hS94 (hv rfl (fun w' hS => xld on22 rfl (Rw.rng (r16.k hS) 1 _ rfl)) hS94 (ggM rfl rfl hS94 (hv rfl (fun _ _ => xidx1 (i := 2) sl262 sz22 rfl rfl rfl (by decide)) hS94 (hv rfl (fun w' hS => xld on22 rfl (Rw.rng (r16.k hS) 2 _ rfl)) hS94 (hv rfl (fun _ _ => xfld fl65_7 rfl) hS94 (hv rfl (fun w' hS => xld on9 rfl ((h1.k hS).r.c 7 rfl rfl)) hS94 (hc rfl (xcall ca53 rfl) (c53 (by first | omega | exact u16lt _)) ?_)))))))))))
  rintro _ w95 ⟨p97, q97, g97, rfl, r97, m96, a97, l97⟩
  have z97 := m96.size
  have hS98 := hS94.s m96
  refine ⟨hS98, ?_⟩
  refine hc rfl (xcall ca53 rfl) (c53 (by first | omega | exact u16lt _)) ?_
  rintro _ w99 ⟨p101, q101, g101, rfl, r101, m100, a101, l101⟩
  have z101 := m100.size
  have hS102 := hS98.s m100
  refine ⟨hS102, ?_⟩
  refine hc rfl (xcall ca53 rfl) (c53 (by first | omega | exact u16lt _)) ?_
  rintro _ w103 ⟨p105, q105, g105, rfl, r105, m104, a105, l105⟩
  have z105 := m104.size
  have hS106 := hS102.s m104
  refine ⟨hS106, ?_⟩
  refine hc rfl (xcall ca98 rfl) (c98 (by omega)) ?_
  rintro _ w107 ⟨p108, q108, g108, rfl, r108, m108, a108, l108⟩
  have z109 := m108.size
  have hS110 := hS106.s m108
  refine ⟨hS110, ?_⟩
  refine hlK rfl (xslit [_, _, _, _] sl105 in37 rfl (by decide) rfl rfl rfl rfl (by decide) rfl rfl) ?_
  rintro _ w112 ⟨b109, rfl, m113, h109, e109, s109, r109⟩
  have hS114 := hS110.s m113
  have r97 := (((r97.k m100).k m104).k m108).k m113
  have r101 := ((r101.k m104).k m108).k m113
  have r105 := (r105.k m108).k m113
  have r108 := r108.k m113
  refine ⟨hS114, ?_⟩
  refine hc rfl (xcall ca21 rfl) (c21 (U := fun k => k = g97 ∨ k = g101 ∨ k = g105 ∨ k = g108) (Rw.rng r109) (by omega) rfl (fun k hk => by have hk : k = g97 ∨ k = g101 ∨ k = g105 ∨ k = g108 := hk; rcases hk with hk | hk | hk | hk <;> first | omega | (have := hU k hk; omega)) (All2.cons (BR.ba r97 (.inl rfl)) (All2.cons (BR.ba r101 (.inr (.inl rfl))) (All2.cons (BR.ba r105 (.inr (.inr (.inl rfl)))) (All2.cons (BR.ba r108 (.inr (.inr (.inr rfl)))) All2.nil)))) (by simp only [fC, fN, List.length_append, be16_length, List.length_nil]; omega) (by decide)) ?_
  rintro _ w115 ⟨p110, q110, g110, rfl, r110, m116, a110, l110⟩
  have z117 := m116.size
  have hS118 := hS114.s m116
  have hf := ((((((hf.drew).s m96).s m100).s m104).s m108).s m113).s m116
  refine ⟨hS118, ?_⟩
  refine ggA rfl rfl hS118 (hend (fbg 2 rfl fun _ => wp_ret (rBlock (rThen (rp1 rfl rfl ?_)))))
  exact new_cast r110 (by simp [bodyL, two16, *]) hf (by omega) (by omega)
 refine sA rfl (send (feg 1 3 18 92 rfl fun _ => cno rfl (sreg (svP (xeql rfl rfl) (fun hc112 => ?_) (fun hc112 => ?_)))))
 ·
  refine sA rfl (send (feg 1 3 18 111 rfl fun _ => cyes rfl (sreg (sv (xfld fl65_15 rfl) (sv (xld on63 rfl (h1.r.c 15 rfl rfl)) (sc (xcall ca147 rfl) (c147 (lU hU (by omega)) hp (by omega) (by omega)) ?_))))))
  rintro _ w119 ⟨p115, q115, g115, rfl, r115, m120, a115, l115⟩
  have z121 := m120.size
  have hf := hf.s m120
  refine sA rfl (send (fbg 2 rfl fun _ => wp_ret (rBlock (rThen (rp1 rfl rfl ?_)))))
  exact new_cast r115 (by simp [bodyL, *]) hf (by omega) (by omega)
 refine sA rfl (send (feg 1 3 18 111 rfl fun _ => cno rfl (wp_seq (sreg (svP (xeql rfl rfl) (fun hc117 => ?_) (fun hc117 => ?_))))))
 ·
  refine sA rfl (send ((cyes rfl (wp_skip (nThen (fdg 1 3 116 rfl fun _ => cyes rfl ?_))))))
  refine sdraw (Fr (fun _ => False) w5.drew) [rd0, rd1, rd2, rd4, rd5, rd7, rd8, ld3, ld6, ld9, ld10, ld11, rd12] mixed (by kernel_rfl) (fun _ _ _ _ _ h => h) ?_
  have z122 : w5.drew.heap.size = w5.heap.size := rfl
  have hS123 : Fr (fun _ => False) w5.drew w5.drew := Fr.refl _ _
  have h1 := h1.drew
  have r16 := r16.k (fd w5)
  refine ggM rfl rfl hS123 (hv rfl (fun _ _ => xidx1 (i := 0) sl262 sz22 rfl rfl rfl (by decide)) hS123 (hv rfl (fun w' hS => xld on22 rfl (Rw.rng (r16.k hS) 0 _ rfl)) hS123 (hv rfl (fun _ _ => xfld fl65_7 rfl) hS123 (hv rfl (fun w' hS => xld on9 rfl ((h1.k hS).r.c 7 rfl rfl)) hS123 (hv rfl (fun _ _ => xfld fl65_15 rfl) hS123 (hv rfl (fun w' hS => xld on63 rfl ((h1.k hS).r.c 15 rfl rfl)) hS123 (hc rfl (xcall ca53 rfl) (c53 (by first | omega | exact u16lt _)) ?_)))))))
  rintro _ w124 ⟨p122, q122, g122, rfl, r122, m125, a122, l122⟩
  have z126 := m125.size
  have hS127 := hS123.s m125
  refine ⟨hS127, ?_⟩
  refine hc rfl (xcall ca98 rfl) (c98 (by omega)) ?_
  rintro _ w128 ⟨p125, q125, g125, rfl, r125, m129, a125, l125⟩
  have z130 := m129.size
  have hS131 := hS127.s m129
  have hp := ((hp.keep pair_st (lU hU (by omega)) (fd w5) nF).keep pair_st (lU hU (by omega)) m125 nF).keep pair_st (lU hU (by omega)) m129 nF
  refine ⟨hS131, ?_⟩
  refine hc rfl (xcall ca147 rfl) (c147 (lU hU (by omega)) hp (by omega) (by omega)) ?_
  rintro _ w132 ⟨p128, q128, g128, rfl, r128, m133, a128, l128⟩
  have z134 := m133.size
  have hS135 := hS131.s m133
  refine ⟨hS135, ?_⟩
  refine hlK rfl (xslit [_, _, _] sl105 in37 rfl (by decide) rfl rfl rfl rfl (by decide) rfl rfl) ?_
  rintro _ w137 ⟨b129, rfl, m138, h129, e129, s129, r129⟩
  have hS139 := hS135.s m138
  have r122 := ((r122.k m129).k m133).k m138
  have r125 := (r125.k m133).k m138
  have r128 := r128.k m138
  refine ⟨hS139, ?_⟩
  refine hc rfl (xcall ca21 rfl) (c21 (U := fun k => k = g122 ∨ k = g125 ∨ k = g128) (Rw.rng r129) (by omega) rfl (fun k hk => by have hk : k = g122 ∨ k = g125 ∨ k = g128 := hk; rcases hk with hk | hk | hk <;> first | omega | (have := hU k hk; omega)) (All2.cons (BR.ba r122 (.inl rfl)) (All2.cons (BR.ba r125 (.inr (.inl rfl))) (All2.cons (BR.ba r128 (.inr (.inr rfl))) All2.nil))) (by simp only [fC, fN, List.length_append, be16_length, List.length_nil]; omega) (by decide)) ?_
  rintro _ w140 ⟨p130, q130, g130, rfl, r130, m141, a130, l130⟩
  have z142 := m141.size
  have hS143 := hS139.s m141
  have hf := (((((hf.drew).s m125).s m129).s m133).s m138).s m141
  refine ⟨hS143, ?_⟩
  refine ggA rfl rfl hS143 (hend (fbg 2 rfl fun _ => wp_ret (rBlock (rThen (rp1 rfl rfl ?_)))))
  exact new_cast r130 (by simp [bodyL, two16, *]) hf (by omega) (by omega)
 refine sA rfl (send (feg 1 3 18 116 rfl fun _ => cno rfl (lreg (svP (xeql rfl rfl) (fun hc118 => ?_) (fun hc118 => ?_)))))
 rotate_left
 ·
  refine sA rfl (lend (nThen ((cno rfl (wp_skip (nBlock (nThen (fbg 1 rfl fun _ => sreg (sv (xfld fl65_6 rfl) (sv (xld on37 rfl (h1.r.c 6 rfl rfl)) (svK (xslit [_] sl105 in37 rfl (by decide) rfl rfl rfl rfl (by decide) rfl rfl) ?_)))))))))))
  rintro _ w167 ⟨b133, rfl, m168, h133, e133, s133, r133⟩
  have hd := hd.keep (lU hU (by omega)) m168 nF
  refine sc (xcall ca21 rfl) (c21 (U := fun k => U k) (Rw.rng r133) (by omega) rfl (fun k hk => by have hk : U k := hk; first | omega | (have := hU k hk; omega)) (All2.cons (BA.mono hd (fun k h => h)) All2.nil) (by simp only [fC, fN, List.length_append, List.length_nil]; omega) (by decide)) ?_
  rintro _ w169 ⟨p134, q134, g134, rfl, r134, m170, a134, l134⟩
  have z171 := m170.size
  have hf := (hf.s m168).s m170
  refine sA rfl (send (fbg 2 rfl fun _ => wp_ret (rp1 rfl rfl ?_)))
  exact new_cast r134 (by simp [bodyL, *]) hf (by omega) (by omega)
 refine sA rfl (lend (nThen (fdg 1 3 116 rfl fun _ => cyes rfl ?_)))
 refine sdraw (Fr (fun _ => False) w5.drew) [rd0, rd1, rd2, rd4, rd5, rd7, rd8, ld3, ld6, ld9, ld10, ld11, rd12] mixed (by kernel_rfl) (fun _ _ _ _ _ h => h) ?_
 have z144 : w5.drew.heap.size = w5.heap.size := rfl
 have hS145 : Fr (fun _ => False) w5.drew w5.drew := Fr.refl _ _
 have h1 := h1.drew
 have r16 := r16.k (fd w5)
 refine ggM rfl rfl hS145 (hv rfl (fun _ _ => xidx1 (i := 0) sl262 sz22 rfl rfl rfl (by decide)) hS145 (hv rfl (fun w' hS => xld on22 rfl (Rw.rng (r16.k hS) 0 _ rfl)) hS145 (hv rfl (fun _ _ => xfld fl65_7 rfl) hS145 (hv rfl (fun w' hS => xld on9 rfl ((h1.k hS).r.c 7 rfl rfl)) hS145 (hv rfl (fun _ _ => xfld fl65_15 rfl) hS145 (hv rfl (fun w' hS => xld on63 rfl ((h1.k hS).r.c 15 rfl rfl)) hS145 (hc rfl (xcall ca53 rfl) (c53 (by first | omega | exact u16lt _)) ?_)))))))
 rintro _ w146 ⟨p122, q122, g122, rfl, r122, m147, a122, l122⟩
 have z148 := m147.size
 have hS149 := hS145.s m147
 refine ⟨hS149, ?_⟩
 refine hc rfl (xcall ca98 rfl) (c98 (by omega)) ?_
 rintro _ w150 ⟨p125, q125, g125, rfl, r125, m151, a125, l125⟩
 have z152 := m151.size
 have hS153 := hS149.s m151
 have hp := ((hp.keep pair_st (lU hU (by omega)) (fd w5) nF).keep pair_st (lU hU (by omega)) m147 nF).keep pair_st (lU hU (by omega)) m151 nF
 refine ⟨hS153, ?_⟩
 refine hc rfl (xcall ca147 rfl) (c147 (lU hU (by omega)) hp (by omega) (by omega)) ?_
 rintro _ w154 ⟨p128, q128, g128, rfl, r128, m155, a128, l128⟩
 have z156 := m155.size
 have hS157 := hS153.s m155
 refine ⟨hS157, ?_⟩
 refine hlK rfl (xslit [_, _, _] sl105 in37 rfl (by decide) rfl rfl rfl rfl (by decide) rfl rfl) ?_
 rintro _ w159 ⟨b129, rfl, m160, h129, e129, s129, r129⟩
 have hS161 := hS157.s m160
 have r122 := ((r122.k m151).k m155).k m160
 have r125 := (r125.k m155).k m160
 have r128 := r128.k m160
 refine ⟨hS161, ?_⟩
 refine hc rfl (xcall ca21 rfl) (c21 (U := fun k => k = g122 ∨ k = g125 ∨ k = g128) (Rw.rng r129) (by omega) rfl (fun k hk => by have hk : k = g122 ∨ k = g125 ∨ k = g128 := hk; rcases hk with hk | hk | hk <;> first | omega | (have := hU k hk; omega)) (All2.cons (BR.ba r122 (.inl rfl)) (All2.cons (BR.ba r125 (.inr (.inl rfl))) (All2.cons (BR.ba r128 (.inr (.inr rfl))) All2.nil))) (by simp only [fC, fN, List.length_append, be16_length, List.length_nil]; omega) (by decide)) ?_
 rintro _ w162 ⟨p130, q130, g130, rfl, r130, m163, a130, l130⟩
 have z164 := m163.size
 have hS165 := hS161.s m163
 have hf := (((((hf.drew).s m147).s m151).s m155).s m160).s m163
 refine ⟨hS165, ?_⟩
 refine ggA rfl rfl hS165 (hend (fbg 2 rfl fun _ => wp_ret (rBlock (rThen (rp1 rfl rfl ?_)))))
 exact new_cast r130 (by simp [bodyL, two16, *]) hf (by omega) (by omega)
theorem c46 {w : World} {U : Nat → Prop} (hU : ∀ k, U k → k < w.heap.size) {r : RecD} {vd vt vp : Value} (hd : BA U w vd r.data) (ht : LA TextEl [1] U w vt r.texts) (hp : LA PairEl lPair U w vp r.pairs) (hr : r.fits) (h0 : 0 ≤ r.kind) (h1 : r.kind ≤ 13) :
  Ret PP 46 [ag (recSegs r vd vt vp)] w (fun u w' => New w (recL r).length (recL r) u w') := by
 have hw1 := wire_le (bt r.name)
 rw [bt_length] at hw1
 have hbl := bodyL_fits hr
 have hr0 := hr
 simp only [RecD.fits] at hr0
 have hf : Fr (fun _ => False) w w := Fr.refl _ _
 refine ret_of Tryz.func46 rfl rfl rfl [(0, _)] rfl ?_
 refine sreg (svK (xboxS (lens := lRec) rfl rfl) ?_)
 rintro _ w2 ⟨b1, rfl, m3, h1, e1, s1⟩
 have hd := hd.keep (lU hU (by omega)) m3 nF
 have ht := ht.keep text_st (lU hU (by omega)) m3 nF
 have hp := hp.keep pair_st (lU hU (by omega)) m3 nF
 refine sA rfl (send (fbg 1 rfl fun _ => sreg (sv (xldS (lens := lRec) ro65 rfl h1.r) (sc (xcall ca84 rfl) (c84 (lU hU (by omega)) hd ht hp hr) ?_))))
 rintro _ w4 ⟨p5, q5, g5, rfl, r5, m5, a5, l5⟩
 have z6 := m5.size
 refine sA rfl (send (fcg 1 3 rfl fun _ => ?_))
 refine sdraw (Fr (fun _ => False) w4.drew) [rd0, rd1, rd3, rd6, rd7, rd9, rd10, rd12, rd13, rd14, rd16, ld2, ld4, ld5, ld8, ld11, ld15, (17, .ld), (18, .ld), rd19] mixed (by kernel_rfl) (fun _ _ _ _ _ h => h) ?_
 have z7 : w4.drew.heap.size = w4.heap.size := rfl
 have hS8 : Fr (fun _ => False) w4.drew w4.drew := Fr.refl _ _
 have h1 := (h1.k m5).drew
 refine hv rfl (fun _ _ => xfld fl65_0 rfl) hS8 (hv rfl (fun w' hS => xld on9 rfl ((h1.k hS).r.c 0 rfl rfl)) hS8 (hv rfl (fun w' hS => xldS (lens := lRec) ro65 rfl (h1.k hS).r) hS8 (hv rfl (fun _ _ => xfld fl65_2 rfl) hS8 (hv rfl (fun w' hS => xld on22 rfl ((h1.k hS).r.c 2 rfl rfl)) hS8 (hv rfl (fun _ _ => xfld fl65_3 rfl) hS8 (hv rfl (fun w' hS => xld on61 rfl ((h1.k hS).r.c 3 rfl rfl)) hS8 (ggM rfl rfl hS8 (hv rfl (fun _ _ => xlen sl37 rfl) hS8 (hv rfl (fun _ _ => xconv hs3 ki22 rfl (wu16n ((bodyL r).length % 65536) (by omega))) hS8 (ggM rfl rfl hS8 (hc rfl (xcall ca98 rfl) (c98 (by omega)) ?_)))))))))))
 rintro _ w9 ⟨p8, q8, g8, rfl, r8, m10, a8, l8⟩
 have z11 := m10.size
 have hS12 := hS8.s m10
 refine ⟨hS12, ?_⟩
 refine hc rfl (xcall ca86 rfl) (c86 (by omega) (by omega)) ?_
 rintro _ w13 ⟨rfl, m14⟩
 have z15 := m14.size
 have hS16 := hS12.s m14
 refine ⟨hS16, ?_⟩
 refine hc rfl (xcall ca53 rfl) (c53 (by first | omega | exact u16lt _)) ?_
 rintro _ w17 ⟨p11, q11, g11, rfl, r11, m18, a11, l11⟩
 have z19 := m18.size
 have hS20 := hS16.s m18
 refine ⟨hS20, ?_⟩
 refine hc rfl (xcall ca53 rfl) (c53 (by first | omega | exact u16lt _)) ?_
 rintro _ w21 ⟨p14, q14, g14, rfl, r14, m22, a14, l14⟩
 have z23 := m22.size
 have hS24 := hS20.s m22
 refine ⟨hS24, ?_⟩
 refine hc rfl (xcall ca99 rfl) (c99 (by first | omega | exact u32lt _)) ?_
 rintro _ w25 ⟨p17, q17, g17, rfl, r17, m26, a17, l17⟩
 have z27 := m26.size
 have hS28 := hS24.s m26
 refine ⟨hS28, ?_⟩
 refine hc rfl (xcall ca53 rfl) (c53 (by first | omega | exact u16lt _)) ?_
 rintro _ w29 ⟨p21, q21, g21, rfl, r21, m30, a21, l21⟩
 have z31 := m30.size
 have hS32 := hS28.s m30
 refine ⟨hS32, ?_⟩
 refine hlK rfl (xslit [_, _, _, _, _, _] sl105 in37 rfl (by decide) rfl rfl rfl rfl (by decide) rfl rfl) ?_
 rintro _ w34 ⟨b23, rfl, m35, h23, e23, s23, r23⟩
 have hS36 := hS32.s m35
 have r5 := (((((((r5.k (fd w4)).k m10).k m14).k m18).k m22).k m26).k m30).k m35
 have r8 := (((((r8.k m14).k m18).k m22).k m26).k m30).k m35
 have r11 := (((r11.k m22).k m26).k m30).k m35
 have r14 := ((r14.k m26).k m30).k m35
 have r17 := (r17.k m30).k m35
 have r21 := r21.k m35
 refine ⟨hS36, ?_⟩
 refine hc rfl (xcall ca21 rfl) (c21 (U := fun k => k = g8 ∨ k = g11 ∨ k = g14 ∨ k = g17 ∨ k = g21 ∨ k = g5) (Rw.rng r23) (by omega) rfl (fun k hk => by have hk : k = g8 ∨ k = g11 ∨ k = g14 ∨ k = g17 ∨ k = g21 ∨ k = g5 := hk; rcases hk with hk | hk | hk | hk | hk | hk <;> first | omega | (have := hU k hk; omega)) (All2.cons (BR.ba r8 (.inl rfl)) (All2.cons (BR.ba r11 (.inr (.inl rfl))) (All2.cons (BR.ba r14 (.inr (.inr (.inl rfl)))) (All2.cons (BR.ba r17 (.inr (.inr (.inr (.inl rfl))))) (All2.cons (BR.ba r21 (.inr (.inr (.inr (.inr (.inl rfl)))))) (All2.cons (BR.ba r5 (.inr (.inr (.inr (.inr (.inr rfl)))))) All2.nil)))))) (by simp only [fC, fN, List.length_append, be16_length, be32_length, List.length_nil]; omega) (by decide)) ?_
 rintro _ w37 ⟨p24, q24, g24, rfl, r24, m38, a24, l24⟩
 have z39 := m38.size
 have hS40 := hS36.s m38
 have hf := ((((((((((hf.s m3).s m5).drew).s m10).s m14).s m18).s m22).s m26).s m30).s m35).s m38
 refine ⟨hS40, ?_⟩
 refine ggA rfl rfl hS40 (hend (fbg 2 rfl fun _ => wp_ret (rp1 rfl rfl ?_)))
 exact new_cast r24 (by simp [recL, two16]) hf (by omega) (by omega)
theorem c45 {w : World} {a : AskD} (ha : a.name.size ≤ 1048576) :
  Ret PP 45 [ag (askSegs a)] w (fun u w' => New w (askL a).length (askL a) u w') := by
 have hw1 := wire_le (bt a.name)
 rw [bt_length] at hw1
 have hf : Fr (fun _ => False) w w := Fr.refl _ _
 refine ret_of Tryz.func45 rfl rfl rfl [(0, _)] rfl ?_
 refine sreg (svK (xboxS (lens := [1, 1, 1]) rfl rfl) ?_)
 rintro _ w2 ⟨b1, rfl, m3, h1, e1, s1⟩
 refine sA rfl (send (fbg 1 rfl fun _ => ?_))
 refine sdraw (Fr (fun _ => False) w2.drew) [rd0, rd1, rd3, rd4, rd6, rd7, ld2, ld5, ld8, ld9, ld10, rd11] mixed (by kernel_rfl) (fun _ _ _ _ _ h => h) ?_
 have z4 : w2.drew.heap.size = w2.heap.size := rfl
 have hS5 : Fr (fun _ => False) w2.drew w2.drew := Fr.refl _ _
 have h1 := h1.drew
 refine hv rfl (fun _ _ => xfld fl59_0 rfl) hS5 (hv rfl (fun w' hS => xld on9 rfl ((h1.k hS).r.c 0 rfl rfl)) hS5 (hv rfl (fun _ _ => xfld fl59_1 rfl) hS5 (hv rfl (fun w' hS => xld on22 rfl ((h1.k hS).r.c 1 rfl rfl)) hS5 (hv rfl (fun _ _ => xfld fl59_2 rfl) hS5 (hv rfl (fun w' hS => xld on22 rfl ((h1.k hS).r.c 2 rfl rfl)) hS5 (hc rfl (xcall ca98 rfl) (c98 (by omega)) ?_))))))
 rintro _ w6 ⟨p5, q5, g5, rfl, r5, m7, a5, l5⟩
 have z8 := m7.size
 have hS9 := hS5.s m7
 refine ⟨hS9, ?_⟩
 refine hc rfl (xcall ca53 rfl) (c53 (by first | omega | exact u16lt _)) ?_
 rintro _ w10 ⟨p8, q8, g8, rfl, r8, m11, a8, l8⟩
 have z12 := m11.size
 have hS13 := hS9.s m11
 refine ⟨hS13, ?_⟩
 refine hc rfl (xcall ca53 rfl) (c53 (by first | omega | exact u16lt _)) ?_
 rintro _ w14 ⟨p11, q11, g11, rfl, r11, m15, a11, l11⟩
 have z16 := m15.size
 have hS17 := hS13.s m15
 refine ⟨hS17, ?_⟩
 refine hlK rfl (xslit [_, _, _] sl105 in37 rfl (by decide) rfl rfl rfl rfl (by decide) rfl rfl) ?_
 rintro _ w19 ⟨b12, rfl, m20, h12, e12, s12, r12⟩
 have hS21 := hS17.s m20
 have r5 := ((r5.k m11).k m15).k m20
 have r8 := (r8.k m15).k m20
 have r11 := r11.k m20
 refine ⟨hS21, ?_⟩
 refine hc rfl (xcall ca21 rfl) (c21 (U := fun k => k = g5 ∨ k = g8 ∨ k = g11) (Rw.rng r12) (by omega) rfl (fun k hk => by have hk : k = g5 ∨ k = g8 ∨ k = g11 := hk; rcases hk with hk | hk | hk <;> first | omega | (have := hU k hk; omega)) (All2.cons (BR.ba r5 (.inl rfl)) (All2.cons (BR.ba r8 (.inr (.inl rfl))) (All2.cons (BR.ba r11 (.inr (.inr rfl))) All2.nil))) (by simp only [fC, fN, List.length_append, be16_length, List.length_nil]; omega) (by decide)) ?_
 rintro _ w22 ⟨p13, q13, g13, rfl, r13, m23, a13, l13⟩
 have z24 := m23.size
 have hS25 := hS21.s m23
 have hf := ((((((hf.s m3).drew).s m7).s m11).s m15).s m20).s m23
 refine ⟨hS25, ?_⟩
 refine ggA rfl rfl hS25 (hend (fbg 2 rfl fun _ => wp_ret (rp1 rfl rfl ?_)))
 exact new_cast r13 (by simp [askL]) hf (by omega) (by omega)
end Go.Proofs.YtifnodoffgfpbaaGreatDoor

namespace Go.Proofs.YtifnodoffgfpbaaGreatDoor
open Go

theorem ints_get {cs : List Nat} {k c : Nat} (h : cs[k]? = some c) : (cs.map fun (n : Nat) => Value.int .i64 (n : Int))[k]? = some (.int .i64 (c : Int)) := by simp [h]
theorem asks_snoc {ps : List AskD} {k : Nat} {p : AskD} (h : ps[k]? = some p) : asksL (ps.take (k + 1)) = asksL (ps.take k) ++ askL p := by
  rw [take_snoc h]; simp [asksL]
theorem recs_snoc {ps : List RecD} {k : Nat} {p : RecD} (h : ps[k]? = some p) : recsL (ps.take (k + 1)) = recsL (ps.take k) ++ recL p := by
  rw [take_snoc h]; simp [recsL]
theorem asks_le {ps : List AskD} {k : Nat} {p : AskD} (h : ps[k]? = some p) : (asksL (ps.take k)).length + (askL p).length ≤ (asksL ps).length := by
  have : (ps.map askL)[k]? = some (askL p) := by simp [h]
  have := flat_take_le this
  simpa [asksL, List.map_take] using this
theorem recs_le {ps : List RecD} {k : Nat} {p : RecD} (h : ps[k]? = some p) : (recsL (ps.take k)).length + (recL p).length ≤ (recsL ps).length := by
  have : (ps.map recL)[k]? = some (recL p) := by simp [h]
  have := flat_take_le this
  simpa [recsL, List.map_take] using this
theorem headL_length (h : HeadD) (cs : List Nat) : (headL h cs).length = 4 + 2 * cs.length := by
  simp only [headL, List.length_append, be16_length, counts_length]; omega

theorem c44 {w : World} {h : HeadD} {counts : List Nat} {b o m c : Nat} (hr : w.rangeAt b o (counts.map fun (n : Nat) => .int .i64 (n : Int))) (hb : b < w.heap.size) (hm : counts.length = m) (hm2 : m < 1000) :
  Ret PP 44 [ag (headSegs h), .slice (some ⟨b, o, none⟩) m c] w (fun u w' => New w (headL h counts).length (headL h counts) u w') := by
 have hf : Fr (fun _ => False) w w := Fr.refl _ _
 refine ret_of Tryz.func44 rfl rfl rfl [(0, _), (1, _)] rfl ?_
 refine sreg (svK (xboxS (lens := [1, 1, 1, 1, 1, 1, 1, 1, 1, 1]) rfl rfl) ?_)
 rintro _ w2 ⟨b2, rfl, m3, h2, e1, s1⟩
 refine sA rfl (send (fcg 1 2 rfl fun _ => ?_))
 refine sdraw (Fr (fun _ => False) w2.drew) [rd0, rd1, rd3, rd4, rd5, rd7, rd8, rd11, rd12, rd15, rd16, ld2, rd6, ld9, rd10, ld13, rd14, (17, .ld), rd18, rd19] mixed (by kernel_rfl) (fun _ _ _ _ _ h => h) ?_
 have z4 : w2.drew.heap.size = w2.heap.size := rfl
 have hS5 : Fr (fun _ => False) w2.drew w2.drew := Fr.refl _ _
 have h2 := h2.drew
 refine hv rfl (fun _ _ => xfld fl30_1 rfl) hS5 (hv rfl (fun w' hS => xld on4 rfl ((h2.k hS).r.c 1 rfl rfl)) hS5 (hv rfl (fun _ _ => xfld fl30_2 rfl) hS5 (hv rfl (fun w' hS => xld on22 rfl ((h2.k hS).r.c 2 rfl rfl)) hS5 (hv rfl (fun _ _ => xshl16 (b := 11) (by decide) rfl rfl) hS5 (hv rfl (fun _ _ => xfld fl30_3 rfl) hS5 (hv rfl (fun w' hS => xld on4 rfl ((h2.k hS).r.c 3 rfl rfl)) hS5 (hv rfl (fun _ _ => xfld fl30_4 rfl) hS5 (hv rfl (fun w' hS => xld on4 rfl ((h2.k hS).r.c 4 rfl rfl)) hS5 (hv rfl (fun _ _ => xfld fl30_5 rfl) hS5 (hv rfl (fun w' hS => xld on4 rfl ((h2.k hS).r.c 5 rfl rfl)) hS5 (hc rfl (xcall ca97 rfl) (c97 _ 32768) ?_)))))))))))
 rintro _ w6 ⟨rfl, m7⟩
 have z8 := m7.size
 have hS9 := hS5.s m7
 refine ⟨hS9, ?_⟩
 refine hv rfl (fun _ _ => xor16 rfl rfl) hS9 (hc rfl (xcall ca97 rfl) (c97 _ 1024) ?_)
 rintro _ w10 ⟨rfl, m11⟩
 have z12 := m11.size
 have hS13 := hS9.s m11
 refine ⟨hS13, ?_⟩
 refine hv rfl (fun _ _ => xor16 rfl rfl) hS13 (hc rfl (xcall ca97 rfl) (c97 _ 512) ?_)
 rintro _ w14 ⟨rfl, m15⟩
 have z16 := m15.size
 have hS17 := hS13.s m15
 refine ⟨hS17, ?_⟩
 refine hv rfl (fun _ _ => xor16 rfl rfl) hS17 (hc rfl (xcall ca97 rfl) (c97 _ 256) ?_)
 rintro _ w18 ⟨rfl, m19⟩
 have z20 := m19.size
 have hS21 := hS17.s m19
 refine ⟨hS21, ?_⟩
 refine hv rfl (fun _ _ => xor16 rfl rfl) hS21 (ggA rfl rfl hS21 (hend (fdg 1 2 5 rfl fun _ => ?_)))
 refine sdraw (Fr (fun _ => False) w18.drew) [rd0, rd1, rd2, rd4, rd5, rd8, rd9, rd12, rd13, ld3, ld6, rd7, ld10, rd11, rd14, rd15, rd16] mixed (by kernel_rfl) (fun _ _ _ _ _ h => h) ?_
 have z22 : w18.drew.heap.size = w18.heap.size := rfl
 have hS23 : Fr (fun _ => False) w18.drew w18.drew := Fr.refl _ _
 have h2 := ((((h2.k m7).k m11).k m15).k m19).drew
 refine ggM rfl rfl hS23 (hv rfl (fun _ _ => xfld fl30_6 rfl) hS23 (hv rfl (fun w' hS => xld on4 rfl ((h2.k hS).r.c 6 rfl rfl)) hS23 (hv rfl (fun _ _ => xfld fl30_7 rfl) hS23 (hv rfl (fun w' hS => xld on4 rfl ((h2.k hS).r.c 7 rfl rfl)) hS23 (hv rfl (fun _ _ => xfld fl30_8 rfl) hS23 (hv rfl (fun w' hS => xld on4 rfl ((h2.k hS).r.c 8 rfl rfl)) hS23 (hv rfl (fun _ _ => xfld fl30_9 rfl) hS23 (hv rfl (fun w' hS => xld on22 rfl ((h2.k hS).r.c 9 rfl rfl)) hS23 (hc rfl (xcall ca97 rfl) (c97 _ 128) ?_)))))))))
 rintro _ w24 ⟨rfl, m25⟩
 have z26 := m25.size
 have hS27 := hS23.s m25
 refine ⟨hS27, ?_⟩
 refine hc rfl (xcall ca97 rfl) (c97 _ 32) ?_
 rintro _ w28 ⟨rfl, m29⟩
 have z30 := m29.size
 have hS31 := hS27.s m29
 refine ⟨hS31, ?_⟩
 refine hv rfl (fun _ _ => xor16 rfl rfl) hS31 (hc rfl (xcall ca97 rfl) (c97 _ 16) ?_)
 rintro _ w32 ⟨rfl, m33⟩
 have z34 := m33.size
 have hS35 := hS31.s m33
 have h2 := ((h2.k m25).k m29).k m33
 refine ⟨hS35, ?_⟩
 refine hv rfl (fun _ _ => xor16 rfl rfl) hS35 (hv rfl (fun _ _ => xor16 rfl rfl) hS35 (hv rfl (fun _ _ => xor16 rfl rfl) hS35 (ggA rfl rfl hS35 (hend (fdg 1 2 5 rfl fun _ => sreg (sv (xfld fl30_0 rfl) (sv (xld on22 rfl (h2.r.c 0 rfl rfl)) (sc (xcall ca53 rfl) (c53 (by first | omega | exact u16lt _)) ?_))))))))
 rintro _ w36 ⟨p46, q46, g46, rfl, r46, m37, a46, l46⟩
 have z38 := m37.size
 refine sM rfl (sc (xcall ca53 rfl) (c53 (by first | omega | exact u16lt _)) ?_)
 rintro _ w39 ⟨p48, q48, g48, rfl, r48, m40, a48, l48⟩
 have z41 := m40.size
 refine svK (xslit [_, _] sl105 in37 rfl (by decide) rfl rfl rfl rfl (by decide) rfl rfl) ?_
 rintro _ w43 ⟨b49, rfl, m44, h49, e49, s49, r49⟩
 have r46 := (r46.k m40).k m44
 have r48 := r48.k m44
 refine sc (xcall ca21 rfl) (c21 (U := fun k => k = g46 ∨ k = g48) (Rw.rng r49) (by omega) rfl (fun k hk => by have hk : k = g46 ∨ k = g48 := hk; rcases hk with hk | hk <;> first | omega | (have := hU k hk; omega)) (All2.cons (BR.ba r46 (.inl rfl)) (All2.cons (BR.ba r48 (.inr rfl)) All2.nil)) (by simp only [fC, fN, List.length_append, be16_length, List.length_nil]; omega) (by decide)) ?_
 rintro _ w45 ⟨p50, q50, g50, rfl, r50, m46, a50, l50⟩
 have z47 := m46.size
 refine sA rfl (send ((wp_seq (sreg (sM rfl (sv (xlen sl99 rfl) (sM rfl (send (feg 6 51 52 53 rfl fun _ => wp_block (lp [(51, _), (52, _)] (fun (x : Nat × Value × Nat) => match x with | (k, v, g) => [(6, v), (53, .int .i64 (k : Int))]) (fun (x : Nat × Value × Nat) wx => match x with | (k, v, g) => Fr (fun k => k = g50) w45 wx ∧ (k ≤ m) ∧ (BR wx v g (4 + 2 * k) (be16 h.id.toNat ++ (be16 (hbits h).toNat ++ ((counts.take k).map be16).flatten))) ∧ (w.heap.size ≤ g) ∧ (g < wx.heap.size) ∧ (g = g50 ∨ w45.heap.size ≤ g)) (fun (x : Nat × Value × Nat) => match x with | (k, v, g) => m - k) (0, _, g50) ⟨rfl, rfl, rfl, rfl, trivial⟩ ⟨Fr.refl _ _, Nat.zero_le _, br_cast r50 (by simp [hbits]) (by simp [be16_length]), (by omega), (by omega), (.inl rfl)⟩ ?_))))))))))
 rintro ⟨k, v, g⟩ _ w49 ⟨hL48, hk, hv6, hg, hg2, hg3⟩
 refine feg 6 51 52 53 rfl fun _ => ?_
 have z50 := hL48.size
 obtain ⟨a3, c3, rfl, -⟩ := hv6.form
 have hf := ((((((((((((((hf.s m3).drew).s m7).s m11).s m15).s m19).drew).s m25).s m29).s m33).s m37).s m40).s m44).s m46).t hL48 (by omega)
 refine sreg (svP (xlss rfl rfl) (fun hc54 => ?_) (fun hc54 => ?_))
 ·
  refine send ((wp_seq (cyes rfl (wp_skip (nThen (feg 6 51 52 53 rfl fun _ => wp_seq (wp_block (sreg ?_))))))))
  obtain ⟨cn, hcn⟩ := some_of_lt (by omega : k < counts.length)
  have hr := rng_fr (rng_fr (rng_fr (rng_fr (rng_fr (rng_fr (rng_fr (rng_fr (rng_fr (rng_fr (rng_fr (rng_fr (rng_fr (rng_fr (rng_fr hr m3 (by omega) id) (fd w2) (by omega) id) m7 (by omega) id) m11 (by omega) id) m15 (by omega) id) m19 (by omega) id) (fd w18) (by omega) id) m25 (by omega) id) m29 (by omega) id) m33 (by omega) id) m37 (by omega) id) m40 (by omega) id) m44 (by omega) id) m46 (by omega) id) hL48 (by omega) (nE (by omega))
  refine sv (xidx1 sl99 sz3 rfl rfl rfl (by omega)) (sv (xld on3 rfl (hr k _ (ints_get hcn))) (sA rfl (send (ffg 6 8 51 52 53 rfl fun _ => lreg (sM rfl (sM rfl (sv (xconv hs3 ki22 rfl (wu16n (cn % 65536) (by omega))) (sc (xcall ca53 rfl) (c53 (by first | omega | exact u16lt _)) ?_))))))))
  rintro _ w51 ⟨p60, q60, g60, rfl, r60, m52, a60, l60⟩
  have z53 := m52.size
  have hv6 := hv6.k m52
  refine svK (xapp sl37 in5 rfl (by decide) rfl rfl hv6 (r60.src sl37) (by simp only [maxLen]; omega) (by omega)) ?_
  rintro _ w54 ⟨g61, r61, m55, a61, l61⟩
  have z56 := m55.size
  obtain ⟨p61, q61, rfl, -⟩ := r61.form
  have hL48 := (hL48.s m52).step m55 (fun k hk hS => by have hS : k = g := hS; show k = g50; omega)
  refine sA rfl (lend (nBlock (nThen (feg 6 51 52 53 rfl fun _ => lreg (sv (xadd rfl rfl (w64 (by omega) (by omega))) (sM rfl (lend (nThen ?_))))))))
  refine ⟨(k + 1, _, g61), _, env_okl ⟨rfl, rfl, rfl, rfl, trivial⟩, ⟨hL48, (by omega), (by rw [counts_snoc hcn]; exact br_cast r61 (by simp [bvs_app, two16]) (by omega)), (by omega), (by omega), (by omega)⟩, ?_⟩
  show m - (k + 1) < m - k; omega
 refine send ((wp_seq (cno rfl (wp_exit (eThen (eThen (eHit (nThen ((sreg (sM rfl (sA rfl (send (fbg 4 rfl fun _ => wp_ret (rp1 rfl rfl ?_)))))))))))))))
 have e : counts.take k = counts := List.take_of_length_le (by omega)
 exact new_cast hv6 (by rw [e]; rfl) hf hg hg2
theorem lists_snoc {ls : List (List RecD)} {k : Nat} {p : List RecD} (h : ls[k]? = some p) : ((ls.take (k + 1)).map recsL).flatten = ((ls.take k).map recsL).flatten ++ recsL p := by
  rw [take_snoc h]; simp

theorem c20 {w : World} {U : Nat → Prop} (hU : ∀ k, U k → k < w.heap.size) {m : MsgD} {va v1 v2 v3 : Value} (ha : LA AskEl lAsk U w va m.asks) (y1 : LA RecEl lRec U w v1 m.one) (y2 : LA RecEl lRec U w v2 m.two) (y3 : LA RecEl lRec U w v3 m.three) (hfa : ∀ a ∈ m.asks, a.name.size ≤ 1048576) (hfr : ∀ l ∈ [m.one, m.two, m.three], ∀ r ∈ l, r.fits ∧ 0 ≤ r.kind ∧ r.kind ≤ 13) (hna : m.asks.length ≤ 1048576) (hll : ∀ l ∈ [m.one, m.two, m.three], l.length ≤ 1048576) (hlen : (msgL m).length < 1000000000) :
  Ret PP 20 [ag (msgSegs m.head va v1 v2 v3)] w (fun u w' => New w (msgL m).length (msgL m) u w') := by
 have hls : All2 (LA RecEl lRec U w) [v1, v2, v3] [m.one, m.two, m.three] := All2.cons y1 (All2.cons y2 (All2.cons y3 All2.nil))
 obtain ⟨aa, ca, rfl⟩ := ha.form
 obtain ⟨a1, c1, rfl⟩ := y1.form
 obtain ⟨a2, c2, rfl⟩ := y2.form
 obtain ⟨a3, c3, rfl⟩ := y3.form
 have hlen0 := hlen
 simp only [msgL, List.length_append, headL_length, List.length_cons, List.length_nil] at hlen0
 have hf : Fr (fun _ => False) w w := Fr.refl _ _
 refine ret_of Tryz.func20 rfl rfl rfl [(0, _)] rfl ?_
 refine sreg (svK (xboxS (lens := lMsg) rfl rfl) ?_)
 rintro _ w2 ⟨b1, rfl, m3, h1, e1, s1⟩
 refine sA rfl (send (fbg 1 rfl fun _ => sreg (sv (xfld fl34_0 rfl) (sv (xldS (lens := [1, 1, 1, 1, 1, 1, 1, 1, 1, 1]) ro30 rfl (h1.r.sub 0 10 rfl)) (sv (xfld fl34_1 rfl) (sv (xld on31 rfl (h1.r.c 10 rfl rfl)) (sv (xlen sl31 rfl) (sv (xfld fl34_2 rfl) (sv (xld on32 rfl (h1.r.c 11 rfl rfl)) (sv (xlen sl32 rfl) (sv (xfld fl34_3 rfl) (sv (xld on32 rfl (h1.r.c 12 rfl rfl)) (sv (xlen sl32 rfl) (sv (xfld fl34_4 rfl) (sv (xld on32 rfl (h1.r.c 13 rfl rfl)) (sv (xlen sl32 rfl) (svK (xslit ([.int .i64 (m.asks.length : Int), .int .i64 (m.one.length : Int), .int .i64 (m.two.length : Int), .int .i64 (m.three.length : Int)]) sl99 in3 rfl (by decide) rfl rfl rfl rfl (by decide) rfl rfl) ?_)))))))))))))))))
 rintro _ w5 ⟨b24, rfl, m6, h24, e24, s24, r24⟩
 refine sc (xcall ca44 rfl) (c44 (h := m.head) (counts := [m.asks.length, m.one.length, m.two.length, m.three.length]) (Rw.rng r24) (by omega) rfl (by simp)) ?_
 rintro _ w7 ⟨p25, q25, g25, rfl, r25, m8, a25, l25⟩
 have z9 := m8.size
 have h1 := (h1.k m6).k m8
 refine sA rfl (send ((wp_seq (sreg (sv (xfld fl34_1 rfl) (sv (xld on31 rfl (h1.r.c 10 rfl rfl)) (sv (xlen sl31 rfl) (sM rfl (send (ffg 1 3 27 28 29 rfl fun _ => wp_block (lp [(1, _), (27, _), (28, _)] (fun (x : Nat × Value × Nat) => match x with | (k, v, g) => [(3, v), (29, .int .i64 (k : Int))]) (fun (x : Nat × Value × Nat) wx => match x with | (k, v, g) => Fr (fun k => k = g25) w7 wx ∧ (k ≤ m.asks.length) ∧ (BR wx v g (12 + (asksL (m.asks.take k)).length) (headL m.head [m.asks.length, m.one.length, m.two.length, m.three.length] ++ asksL (m.asks.take k))) ∧ (w.heap.size ≤ g) ∧ (g < wx.heap.size) ∧ (g = g25 ∨ w7.heap.size ≤ g)) (fun (x : Nat × Value × Nat) => match x with | (k, v, g) => m.asks.length - k) (0, _, g25) ⟨rfl, rfl, rfl, rfl, rfl, trivial⟩ ⟨Fr.refl _ _, Nat.zero_le _, br_cast r25 (by simp [asksL]) (by simp [asksL, headL_length]), (by omega), (by omega), (.inl rfl)⟩ ?_)))))))))))
 rintro ⟨k, v, g⟩ _ w11 ⟨hL10, hk, hv6, hg, hg2, hg3⟩
 refine ffg 1 3 27 28 29 rfl fun _ => ?_
 have z12 := hL10.size
 obtain ⟨a4, c4, rfl, -⟩ := hv6.form
 have hf := (((hf.s m3).s m6).s m8).t hL10 (by omega)
 have h1 := h1.keep hL10 (nE (by omega))
 refine sreg (svP (xlss rfl rfl) (fun hc30 => ?_) (fun hc30 => ?_))
 ·
  refine send ((wp_seq (cyes rfl (wp_skip (nThen (ffg 1 3 27 28 29 rfl fun _ => wp_seq (wp_block ?_)))))))
  obtain ⟨a, hak⟩ := some_of_lt (by omega : k < m.asks.length)
  have hal := asks_le hak
  have ha := (((ha.keep ask_st (lU hU (by omega)) m3 nF).keep ask_st (lU hU (by omega)) m6 nF).keep ask_st (lU hU (by omega)) m8 nF).keep ask_st (lU hU (by omega)) hL10 (nU hU (by omega))
  refine sreg ?_
  obtain ⟨bE31, oE31, sgE31, rfl, uE31, hsE31, heE31⟩ := LA.get ha hak
  obtain rfl := heE31
  have zE31 := hU _ uE31
  refine sv (xidx sl31 sz59 rfl rfl rfl (by omega)) (sv (xldS (lens := [1, 1, 1]) ro59 rfl hsE31) (svK (xallS (lens := [1, 1, 1]) in59 rfl) ?_))
  rintro _ w14 ⟨b5, rfl, m15, h5, e13, s13⟩
  refine suK (xstW h5 (lens' := [1, 1, 1]) sz59 rfl rfl rfl rfl rfl) ?_
  rintro w17 ⟨m18, h5, s16⟩
  refine send (fgg 1 3 5 27 28 29 rfl fun _ => lreg (sM rfl (sv (xldS (lens := [1, 1, 1]) ro59 rfl h5.r) (sc (xcall ca45 rfl) (c45 (hfa _ (List.mem_of_getElem? hak))) ?_))))
  rintro _ w19 ⟨p35, q35, g35, rfl, r35, m20, a35, l35⟩
  have z21 := m20.size
  have hv6 := ((hv6.k m15).keep m18 (nE (by omega))).k m20
  refine svK (xapp sl37 in5 rfl (by decide) rfl rfl hv6 (r35.src sl37) (by simp only [maxLen]; omega) (by omega)) ?_
  rintro _ w22 ⟨g36, r36, m23, a36, l36⟩
  have z24 := m23.size
  obtain ⟨p36, q36, rfl, -⟩ := r36.form
  have hL10 := (((hL10.s m15).step m18 (fun k hk hS => by have hS : k = b5 := hS; show k = g25; omega)).s m20).step m23 (fun k hk hS => by have hS : k = g := hS; show k = g25; omega)
  refine sA rfl (lend (nBlock (nThen (ffg 1 3 27 28 29 rfl fun _ => lreg (sv (xadd rfl rfl (w64 (by omega) (by omega))) (sM rfl (lend (nThen ?_))))))))
  refine ⟨(k + 1, _, g36), _, env_okl ⟨rfl, rfl, rfl, rfl, rfl, trivial⟩, ⟨hL10, (by omega), (by rw [asks_snoc hak, ← List.append_assoc]; exact br_cast r36 (by simp only [bvs_app]) (by simp only [List.length_append]; omega)), (by omega), (by omega), (by omega)⟩, ?_⟩
  show m.asks.length - (k + 1) < m.asks.length - k; omega
 refine send ((wp_seq (cno rfl (wp_exit (eThen (eThen (eHit (nThen (fcg 1 3 rfl fun _ => wp_seq ?_)))))))))
 have eA : m.asks.take k = m.asks := List.take_of_length_le (by omega)
 obtain ⟨X0, hX0⟩ : ∃ X, X = headL m.head [m.asks.length, m.one.length, m.two.length, m.three.length] ++ asksL m.asks := ⟨_, rfl⟩
 have hX1 : X0.length = 12 + (asksL m.asks).length := by rw [hX0]; simp [headL_length]
 refine sreg (sv (xfld fl34_2 rfl) (sv (xld on32 rfl (h1.r.c 11 rfl rfl)) (sv (xfld fl34_3 rfl) (sv (xld on32 rfl (h1.r.c 12 rfl rfl)) (sv (xfld fl34_4 rfl) (sv (xld on32 rfl (h1.r.c 13 rfl rfl)) (svK (xslit ([.slice a1 m.one.length c1, .slice a2 m.two.length c2, .slice a3 m.three.length c3]) sl60 in32 rfl (by decide) rfl rfl rfl rfl (by decide) rfl rfl) ?_)))))))
 rintro _ w26 ⟨b44, rfl, m27, h44, e44, s44, r44⟩
 have hv6 := hv6.k m27
 refine sv (xlen sl60 rfl) (sM rfl (send (feg 3 44 45 46 rfl fun _ => wp_block (lp [(44, _), (45, _)] (fun (x : Nat × Value × Nat) => match x with | (i, v, gi) => [(3, v), (46, .int .i64 (i : Int))]) (fun (x : Nat × Value × Nat) wx => match x with | (i, v, gi) => Fr (fun k => k = g) w26 wx ∧ (i ≤ 3) ∧ (BR wx v gi (X0 ++ (([m.one, m.two, m.three].take i).map recsL).flatten).length (X0 ++ (([m.one, m.two, m.three].take i).map recsL).flatten)) ∧ (w.heap.size ≤ gi) ∧ (gi < wx.heap.size) ∧ (gi = g ∨ w26.heap.size ≤ gi)) (fun (x : Nat × Value × Nat) => match x with | (i, v, gi) => 3 - i) (0, _, g) ⟨rfl, rfl, rfl, rfl, trivial⟩ ⟨Fr.refl _ _, Nat.zero_le _, br_cast hv6 (by rw [eA]; simp [hX0]) (by rw [eA]; simp [hX0, headL_length]), hg, (by omega), (.inl rfl)⟩ ?_))))
 rintro ⟨i, v, gi⟩ _ w29 ⟨hL28, hi, hv7, hg4, hg5, hg6⟩
 refine feg 3 44 45 46 rfl fun _ => ?_
 have z30 := hL28.size
 obtain ⟨a5, c5, rfl, -⟩ := hv7.form
 have hf := (hf.s m27).t hL28 (by omega)
 refine sreg (svP (xlss rfl rfl) (fun hc47 => ?_) (fun hc47 => ?_))
 rotate_left
 ·
  refine send ((wp_seq (cno rfl (wp_exit (eThen (eThen (eHit (nThen ((sreg (sM rfl (sA rfl (send (fbg 2 rfl fun _ => wp_ret (rp1 rfl rfl ?_)))))))))))))))
  have e : [m.one, m.two, m.three].take i = [m.one, m.two, m.three] := List.take_of_length_le (by simp; omega)
  exact new_cast hv7 (by rw [e]; simp [hX0, msgL]) hf hg4 hg5
 refine send ((wp_seq (cyes rfl (wp_skip (nThen (feg 3 44 45 46 rfl fun _ => wp_seq (wp_block (sreg ?_))))))))
 obtain ⟨u, l, hu, hul, hL⟩ := hls.get (k := i) (by simp; omega)
 have hlm : l ∈ [m.one, m.two, m.three] := List.mem_of_getElem? hul
 have hln := hll l hlm
 have hms := flat_take_le (l := [m.one, m.two, m.three].map recsL) (k := i) (a := recsL l) (by rw [List.getElem?_map, hul]; rfl)
 rw [← List.map_take] at hms
 simp only [List.map_cons, List.map_nil, fC, fN, List.length_append, List.length_nil] at hms
 have hL := hL.keep rec_st hU hf nF
 obtain ⟨au, cu, rfl⟩ := hL.form
 have r44 := r44.keep hL28 (nE (by omega))
 refine sv (xidx1 sl60 sz32 rfl rfl rfl (by omega)) (sv (xld on32 rfl (Rw.rng r44 i _ hu)) (sA rfl (send ((sreg (sM rfl (sv (xlen sl32 rfl) (sM rfl (send (fhg 3 44 45 46 50 51 52 rfl fun _ => wp_block (lp [(44, _), (45, _), (46, _), (50, _), (51, _)] (fun (x : Nat × Value × Nat) => match x with | (k, v, g7) => [(3, v), (52, .int .i64 (k : Int))]) (fun (x : Nat × Value × Nat) wx => match x with | (k, v, g7) => Fr (fun k => k = gi) w29 wx ∧ (k ≤ l.length) ∧ (BR wx v g7 ((X0 ++ (([m.one, m.two, m.three].take i).map recsL).flatten) ++ recsL (l.take k)).length ((X0 ++ (([m.one, m.two, m.three].take i).map recsL).flatten) ++ recsL (l.take k))) ∧ (w.heap.size ≤ g7) ∧ (g7 < wx.heap.size) ∧ (g7 = gi ∨ w29.heap.size ≤ g7)) (fun (x : Nat × Value × Nat) => match x with | (k, v, g7) => l.length - k) (0, _, gi) ⟨rfl, rfl, rfl, rfl, rfl, rfl, rfl, trivial⟩ ⟨Fr.refl _ _, Nat.zero_le _, br_cast hv7 (by simp [recsL]) (by simp [recsL]), hg4, (by omega), (.inl rfl)⟩ ?_)))))))))))
 rintro ⟨k, v, g7⟩ _ w32 ⟨hL31, hk, hv8, hg7, hg8, hg9⟩
 refine fhg 3 44 45 46 50 51 52 rfl fun _ => ?_
 have z33 := hL31.size
 obtain ⟨a6, c6, rfl, -⟩ := hv8.form
 have hL28 := hL28.step hL31 (fun k hk hS => by have hS : k = gi := hS; show k = g; omega)
 refine sreg (svP (xlss rfl rfl) (fun hc53 => ?_) (fun hc53 => ?_))
 rotate_left
 ·
  refine send ((wp_seq (cno rfl (wp_exit (eThen (eThen (eHit (nBlock (nThen (feg 3 44 45 46 rfl fun _ => lreg (sv (xadd rfl rfl (w64 (by omega) (by omega))) (sM rfl (lend (nThen ?_))))))))))))))
  have eR : l.take k = l := List.take_of_length_le (by omega)
  refine ⟨(i + 1, _, g7), _, env_okl ⟨rfl, rfl, rfl, rfl, trivial⟩, ⟨hL28, (by omega), (by rw [lists_snoc hul, ← List.append_assoc]; exact br_cast hv8 (by rw [eR]) (by rw [eR])), (by omega), (by omega), (by omega)⟩, ?_⟩
  show 3 - (i + 1) < 3 - i; omega
 refine send ((wp_seq (cyes rfl (wp_skip (nThen (fhg 3 44 45 46 50 51 52 rfl fun _ => wp_seq (wp_block ?_)))))))
 obtain ⟨r, hrk⟩ := some_of_lt (by omega : k < l.length)
 have hrl := recs_le hrk
 have hrf := hfr l hlm r (List.mem_of_getElem? hrk)
 have hL := hL.keep rec_st (lU hU (by omega)) hL31 (nU hU (by omega))
 refine sreg ?_
 obtain ⟨bE54, oE54, sgE54, rfl, uE54, hsE54, heE54⟩ := LA.get hL hrk
 obtain ⟨vd, vt, vp, rfl, hd, ht, hp⟩ := heE54
 have zE54 := hU _ uE54
 obtain ⟨ad, cd, rfl, -⟩ := id hd
 obtain ⟨at1, ct1, rfl⟩ := ht.form
 obtain ⟨ap1, cp1, rfl⟩ := hp.form
 refine sv (xidx sl32 sz65 rfl rfl rfl (by omega)) (sv (xldS (lens := lRec) ro65 rfl hsE54) (svK (xallS (lens := lRec) in65 rfl) ?_))
 rintro _ w35 ⟨b9, rfl, m36, h9, e34, s34⟩
 refine suK (xstW h9 (lens' := lRec) sz65 rfl rfl rfl rfl rfl) ?_
 rintro w38 ⟨m39, h9, s37⟩
 have hd := (hd.keep (lU hU (by omega)) m36 nF).keep (lU hU (by omega)) m39 (nU hU (by omega))
 have ht := (ht.keep text_st (lU hU (by omega)) m36 nF).keep text_st (lU hU (by omega)) m39 (nU hU (by omega))
 have hp := (hp.keep pair_st (lU hU (by omega)) m36 nF).keep pair_st (lU hU (by omega)) m39 (nU hU (by omega))
 refine send (fig 3 9 44 45 46 50 51 52 rfl fun _ => lreg (sM rfl (sv (xldS (lens := lRec) ro65 rfl h9.r) (sc (xcall ca46 rfl) (c46 (lU hU (by omega)) hd ht hp hrf.1 hrf.2.1 hrf.2.2) ?_))))
 rintro _ w40 ⟨p58, q58, g58, rfl, r58, m41, a58, l58⟩
 have z42 := m41.size
 have hv8 := ((hv8.k m36).keep m39 (nE (by omega))).k m41
 refine svK (xapp sl37 in5 rfl (by decide) rfl rfl hv8 (r58.src sl37) (by simp only [maxLen, List.length_append]; omega) (by simp only [List.length_append]; omega)) ?_
 rintro _ w43 ⟨g59, r59, m44, a59, l59⟩
 have z45 := m44.size
 obtain ⟨p59, q59, rfl, -⟩ := r59.form
 have hf := ((((hf.t hL31 (by omega)).s m36).t m39 (by omega)).s m41).t m44 (by omega)
 have hL31 := (((hL31.s m36).step m39 (fun k hk hS => by have hS : k = b9 := hS; show k = gi; omega)).s m41).step m44 (fun k hk hS => by have hS : k = g7 := hS; show k = gi; omega)
 refine sA rfl (lend (nBlock (nThen (fhg 3 44 45 46 50 51 52 rfl fun _ => lreg (sv (xadd rfl rfl (w64 (by omega) (by omega))) (sM rfl (lend (nThen ?_))))))))
 refine ⟨(k + 1, _, g59), _, env_okl ⟨rfl, rfl, rfl, rfl, rfl, rfl, rfl, trivial⟩, ⟨hL31, (by omega), (by rw [recs_snoc hrk, ← List.append_assoc]; exact br_cast r59 (by simp only [bvs_app]) (by simp only [List.length_append])), (by omega), (by omega), (by omega)⟩, ?_⟩
 show l.length - (k + 1) < l.length - k; omega
end Go.Proofs.YtifnodoffgfpbaaGreatDoor

namespace Go.Proofs.YtifnodoffgfpbaaGreatDoor
open Go

def Uw (U : Nat → Prop) (n0 nb g : Nat) : Nat → Prop := fun k => (U k ∨ (n0 ≤ k ∧ k < nb)) ∧ k ≠ g
def Ub (U : Nat → Prop) (w w' : World) : Nat → Prop := fun k => U k ∨ (w.heap.size ≤ k ∧ k < w'.heap.size)
abbrev RX {α : Type} (El : (Nat → Prop) → World → List (List Value) → α → Prop) (lens : List Nat) (U : Nat → Prop) (n0 nb : Nat) (w : World) (v : Value) (g E n : Nat) (l : List α) : Prop := RA El lens (Uw U n0 nb g) w v g E n l
section
variable {α : Type} {El : (Nat → Prop) → World → List (List Value) → α → Prop} {lens : List Nat} {U : Nat → Prop} {n0 nb : Nat} {w w' : World} {v : Value} {g E n : Nat} {l : List α}
theorem RX.keep {S : Nat → Prop} (h : RX El lens U n0 nb w v g E n l) (hE : Stays El) (hU : ∀ k, U k → k < w.heap.size) (hb : nb ≤ w.heap.size) (m : Fr S w w') (hn : ∀ k, (U k ∨ (n0 ≤ k ∧ k < nb)) → k ≠ g → ¬ S k) (hg : ¬ S g) : RX El lens U n0 nb w' v g E n l :=
  RA.keep h hE (fun k hk => hk.1.elim (hU k) (fun h => Nat.lt_of_lt_of_le h.2 hb)) m (fun k hk => hn k hk.1 hk.2) hg
theorem RX.up {nb' : Nat} (hG : Grows El) (h : RX El lens U n0 nb w v g E n l) (hb : nb ≤ nb') : RX El lens U n0 nb' w v g E n l :=
  RA.mono h hG (fun _ hk => ⟨hk.1.imp_right (fun h => ⟨h.1, Nat.lt_of_lt_of_le h.2 hb⟩), hk.2⟩)
theorem RX.snoc {ss : List (List (List Value))} {segs : List (List Value)} {x : α} {v' : Value} {g' n' : Nat} (nb' : Nat) (hA : All2 (fun segs x => segs.map List.length = lens ∧ El (Uw U n0 nb g) w segs x) ss l)
    (hE : Stays El) (hG : Grows El) (hU : ∀ k, U k → k < w.heap.size) (hb : nb ≤ w.heap.size) (hb' : nb ≤ nb') (m : Fr (fun k => k = g) w w') (hgg : g' = g ∨ w.heap.size ≤ g')
    (hR : Rw w' v' g' E lens.sum n' ((ss.map List.flatten).flatten ++ segs.flatten)) (hl : segs.map List.length = lens) (he : El (Uw U n0 nb' g') w' segs x) : RX El lens U n0 nb' w' v' g' E n' (l ++ [x]) :=
  RA.snoc hA hE hG (fun k hk => hk.1.elim (hU k) (fun h => Nat.lt_of_lt_of_le h.2 hb)) m (fun _ hk => hk.2)
    (fun k hk => ⟨hk.1.imp_right (fun h => ⟨h.1, Nat.lt_of_lt_of_le h.2 hb'⟩), by
      have h2 := hk.2
      have h1 : k < w.heap.size := hk.1.elim (hU k) (fun h => Nat.lt_of_lt_of_le h.2 hb)
      omega⟩) hR hl he
theorem RX.la (h : RX El lens U n0 nb w v g E n l) (hs : 0 < lens.sum) {U' : Nat → Prop} (hG : Grows El) (hU : ∀ k, (U k ∨ (n0 ≤ k ∧ k < nb)) → U' k) (hg : U' g) : LA El lens U' w v l :=
  RA.la h hs hG (fun k hk => hU k hk.1) hg
theorem RX.ofNil {a : Option Addr} {c : Nat} (h : Rw w (.slice a 0 c) g E lens.sum 0 []) : RX El lens U n0 nb w (.slice a 0 c) g E 0 [] := ⟨[], h, All2.nil⟩
theorem RA.form {V : Nat → Prop} (h : RA El lens V w v g E n l) : ∃ a c, v = .slice a n c := by
  obtain ⟨ss, hR, _⟩ := h
  obtain ⟨a, c, h, _⟩ := hR.form
  exact ⟨a, c, h⟩
end
section
variable {P : Program} {ops : Array Oper} {Q : Exit → Act → World → Prop} {n : Nat} {l : List (Nat × Value)} {r : Nat → Value} {w : World}
  {op : Op} {ty : TypeId} {pos : String} {af : Array Edge} {d i : Nat}
theorem yielded_un {j dj : Nat} (hj : (ops[j]?).bind (·.dst) = some dj) (hb : ev n l (.tmp dj) = some undef) : yielded ops (env n l r).tmps j = none := by
  have := getD_ev r hb
  simp only [yielded, hj]
  simp only [Option.bind_some]
  rw [Array.getD_eq_getD_getElem?] at this
  cases h : (env n l r).tmps[dj]? with
  | none => rfl
  | some u => rw [h] at this; simp only [Option.getD_some] at this; subst this; rfl
theorem gnu {rest : List Oper} {j dj : Nat} {want : Bool} (hj : (ops[j]?).bind (·.dst) = some dj) (hb : ev n l (.tmp dj) = some undef)
    (k : WL P ops Q rest (env n ((d, undef) :: l) r) w) : WL P ops Q (⟨some d, op, ty, pos, af, some (j, want)⟩ :: rest) (env n l r) w := by
  constructor
  unfold wpList
  rw [if_neg (by simp only [Region.wanted, yielded_un hj hb]; cases want <;> decide)]
  rw [env_put]
  exact k.out
end
theorem Ub.num {U : Nat → Prop} {wa wb : World} {n k : Nat} (hU : ∀ k, U k → k < n) (h : Ub U wa wb k) : k < n ∨ (wa.heap.size ≤ k ∧ k < wb.heap.size) := h.elim (fun h => .inl (hU k h)) .inr
section
variable {P : Program} {n : Nat} {l : List (Nat × Value)} {w : World} {ty : TypeId} {x y : Operand}
theorem xb2sB {S D E : TypeId} {U : Nat → Prop} {v : Value} {bs : List UInt8} (hS : slcB P S E = true) (hE : intB P E .u8 = true) (hD : strB P D = true) (h : BA U w v bs) (hx : ev n l x = some v) : Ex P n l (.convert S D x) ty w (.string ⟨bs.toArray⟩) w := by
  obtain ⟨a, c, rfl, h⟩ := h
  by_cases hb : bs = []
  · subst hb
    cases a with
    | none => exact xb2s0 hS hE hD hx
    | some a =>
      obtain ⟨b, o, g⟩ := a
      cases g with
      | none => exact xb2s hS hE hD hx rfl (fun j v h => by simp [bvs] at h)
      | some g =>
        intro r d pos af gd
        simp only [execOp, ev_eval r hx]
        have h1 := run_convert_bytes_string w S D E (some ⟨b, o, some g⟩) 0 c (slcB_spec hS) (intB_spec hE) (strB_spec hD)
        have h2 : (loadCells ⟨b, o, some g⟩ 0).run P w = .ok ((([] : List Int)).map (Value.int .u8)).toArray w := run_loadCells_list (P := P) (w := w) ⟨b, o, some g⟩ [] (fun j v h => by simp at h)
        have h3 := run_bytesToString w ⟨b, o, some g⟩ 0 c [] h2
        have h4 := h1.trans h3
        simp only [List.foldl_nil] at h4
        simp [h4]
        rfl
  · obtain ⟨b, o, rfl, _, hr⟩ := h hb
    exact xb2s hS hE hD hx rfl hr
end
theorem ba_str_eq {a b : List UInt8} : ((⟨a.toArray⟩ : ByteArray) = ⟨b.toArray⟩) ↔ a = b := by
  constructor
  · intro h
    have := congrArg (fun s : ByteArray => s.data.toList) h
    simpa using this
  · intro h; rw [h]
def Grd (w : World) (p : Prop) (u : Value) (w' : World) : Prop := ∃ b, u = .bool b ∧ (b = true → p) ∧ Fr0 w w'
theorem lUb {U : Nat → Prop} {wa wb : World} {n c : Nat} (hU : ∀ k, U k → k < n) (h1 : n ≤ c) (h2 : wb.heap.size ≤ c) : ∀ k, Ub U wa wb k → k < c := fun k hk => hk.elim (fun h => Nat.lt_of_lt_of_le (hU k h) h1) (fun h => Nat.lt_of_lt_of_le h.2 h2)
theorem lNo {wa wb : World} {c : Nat} (h2 : wb.heap.size ≤ c) : ∀ k, Ub (fun _ => False) wa wb k → k < c := fun _k hk => hk.elim (fun h => h.elim) (fun h => Nat.lt_of_lt_of_le h.2 h2)
theorem lN1 {wa wb : World} {b : Nat} (h : b < wa.heap.size ∨ wb.heap.size ≤ b) : ∀ k, Ub (fun _ => False) wa wb k → ¬ (fun k => k = b) k := fun k hk e => by
 have e : k = b := e
 rcases hk with hk | hk
 · exact hk
 · omega
theorem lB2 {wa wb wc wd : World} {c : Nat} (h1 : wb.heap.size ≤ c) (h2 : wd.heap.size ≤ c) : ∀ k, Ub (Ub (fun _ => False) wa wb) wc wd k → k < c := fun _k hk => hk.elim (fun h => h.elim (fun h => h.elim) fun h => Nat.lt_of_lt_of_le h.2 h1) fun h => Nat.lt_of_lt_of_le h.2 h2
theorem nUb {U : Nat → Prop} {wa wb : World} {n b : Nat} (hU : ∀ k, U k → k < n) (h1 : n ≤ b) (h2 : b < wa.heap.size ∨ wb.heap.size ≤ b) : ∀ k, Ub U wa wb k → ¬ (fun k => k = b) k := fun k hk e => by
 have e : k = b := e
 have := Ub.num hU hk; omega
end Go.Proofs.YtifnodoffgfpbaaGreatDoor

namespace Go.Proofs.YtifnodoffgfpbaaGreatDoor
open Go

theorem nameOk_dot {s : ByteArray} (h : s = ⟨#[46]⟩) : nameOk s = true := by subst h; rfl
def asc (ps : List PairD) : Prop := ∀ (i : Nat) (p q : PairD), ps[i]? = some p → ps[i + 1]? = some q → p.key.toNat < q.key.toNat

theorem c190 {w : World} {U : Nat → Prop} (_hU : ∀ k, U k → k < w.heap.size) {p : PairD} {vd : Value} (hd : BA U w vd p.data) (hn : p.data.length ≤ 1048576) :
  Ret PP 190 [ag (pairSegs p vd)] w (fun u w' => u = .bool true ∧ Fr0 w w') := by
 obtain ⟨ad0, cd0, rfl, -⟩ := id hd
 have hf : Fr (fun _ => False) w w := Fr.refl _ _
 refine ret_of Tryz.func190 rfl rfl rfl [(0, _)] rfl ?_
 refine sreg (svK (xboxS (lens := [1, 1]) rfl rfl) ?_)
 rintro _ w2 ⟨b1, rfl, m3, h1, e1, s1⟩
 have hf := hf.s m3
 refine sA rfl (send ((wp_seq (sreg (sv (xfld fl145_1 rfl) (sv (xld on37 rfl (h1.r.c 1 rfl rfl)) (sv (xlen sl37 rfl) (sv (exF (xgtr rfl rfl) (by omega)) (send ((cno rfl (wp_skip (nThen (fg [] trivial fun _ => sreg (sA rfl (send (fbg 2 rfl fun _ => wp_ret (rp1 rfl rfl ?_))))))))))))))))))
 exact ⟨rfl, hf⟩
theorem c143 {w : World} {U : Nat → Prop} (hU : ∀ k, U k → k < w.heap.size) {v : Value} {ps : List PairD} (hp : LA PairEl lPair U w v ps) (hn : ps.length ≤ 1048576) (hpl : ∀ p ∈ ps, p.data.length ≤ 1048576) :
  Ret PP 143 [v] w (fun u w' => u = .bool true ∧ Fr0 w w') := by
 obtain ⟨a0, c0, rfl⟩ := hp.form
 have hf : Fr (fun _ => False) w w := Fr.refl _ _
 refine ret_of Tryz.func143 rfl rfl rfl [(0, _)] rfl ?_
 refine sreg (sA rfl (send ((wp_seq (sreg (sM rfl (sv (xlen sl110 rfl) (sv (exF (xgtr rfl rfl) (by omega)) (send ((cno rfl (wp_skip (nThen ((wp_seq (sreg (sM rfl (sv (xlen sl110 rfl) (sM rfl (send (fdg 8 9 10 rfl fun _ => wp_block (lp [(8, _), (9, _)] (fun (k : Nat) => [(10, .int .i64 (k : Int))]) (fun (k : Nat) wx => Fr (fun _ => False) w wx ∧ (k ≤ ps.length)) (fun (k : Nat) => ps.length - k) 0 ⟨rfl, rfl, rfl, trivial⟩ ⟨Fr.refl _ _, Nat.zero_le _⟩ ?_))))))))))))))))))))))
 rintro k _ w2 ⟨hL1, hk⟩
 refine fdg 8 9 10 rfl fun _ => ?_
 have z3 := hL1.size
 have hf := hf.s hL1
 refine sreg (svP (xlss rfl rfl) (fun hc11 => ?_) (fun hc11 => ?_))
 rotate_left
 ·
  refine send ((wp_seq (cno rfl (wp_exit (eThen (eThen (eHit (nThen (fg [] trivial fun _ => sreg (sA rfl (send (fbg 2 rfl fun _ => wp_ret (rp1 rfl rfl ?_)))))))))))))
  exact ⟨rfl, hf⟩
 refine send ((wp_seq (cyes rfl (wp_skip (nThen (fdg 8 9 10 rfl fun _ => wp_seq (wp_block ?_)))))))
 obtain ⟨p, hpk⟩ := some_of_lt (by omega : k < ps.length)
 have hp := hp.keep pair_st (lU hU (by omega)) hL1 nF
 refine sreg ?_
 obtain ⟨bE12, oE12, sgE12, rfl, uE12, hsE12, heE12⟩ := LA.get hp hpk
 obtain ⟨vd, rfl, hd⟩ := heE12
 have zE12 := hU _ uE12
 obtain ⟨ad, cd, rfl, -⟩ := id hd
 refine sv (xidx sl110 sz145 rfl rfl rfl (by omega)) (sv (xldS (lens := [1, 1]) ro145 rfl hsE12) (svK (xallS (lens := [1, 1]) in145 rfl) ?_))
 rintro _ w5 ⟨b4, rfl, m6, h4, e4, s4⟩
 refine suK (xstW h4 (lens' := [1, 1]) sz145 rfl rfl rfl rfl rfl) ?_
 rintro w8 ⟨m9, h4, s7⟩
 have hd := (hd.keep (lU hU (by omega)) m6 nF).keep (lU hU (by omega)) m9 (nU hU (by omega))
 refine send (feg 4 8 9 10 rfl fun _ => sreg (sv (xldS (lens := [1, 1]) ro145 rfl h4.r) (sc (xcall ca190 rfl) (c190 (lU hU (by omega)) hd (hpl _ (List.mem_of_getElem? hpk))) ?_)))
 rintro _ w10 ⟨rfl, m11⟩
 have z12 := m11.size
 have hL1 := ((hL1.s m6).t m9 (by omega)).s m11
 refine sv (xnot rfl) (send ((cno rfl (wp_skip (nBlock (nThen (fdg 8 9 10 rfl fun _ => lreg (sv (xadd rfl rfl (w64 (by omega) (by omega))) (sM rfl (lend (nThen ?_)))))))))))
 refine ⟨k + 1, _, env_okl ⟨rfl, rfl, rfl, trivial⟩, ⟨hL1, (by omega)⟩, ?_⟩
 show ps.length - (k + 1) < ps.length - k; omega
theorem c142 {w : World} {U : Nat → Prop} (hU : ∀ k, U k → k < w.heap.size) {v : Value} {ps : List ByteArray} (ht : LA TextEl [1] U w v ps) (hn : ps.length ≤ 1048576) (hpl : ∀ p ∈ ps, p.size ≤ 1048576) :
  Ret PP 142 [v] w (fun u w' => u = .bool true ∧ Fr0 w w') := by
 obtain ⟨a0, c0, rfl⟩ := ht.form
 have hf : Fr (fun _ => False) w w := Fr.refl _ _
 refine ret_of Tryz.func142 rfl rfl rfl [(0, _)] rfl ?_
 refine sreg (sA rfl (send ((wp_seq (sreg (sM rfl (sv (xlen sl62 rfl) (sv (exF (xgtr rfl rfl) (by omega)) (send ((cno rfl (wp_skip (nThen ((wp_seq (sreg (sM rfl (sv (xlen sl62 rfl) (sM rfl (send (fdg 8 9 10 rfl fun _ => wp_block (lp [(8, _), (9, _)] (fun (k : Nat) => [(10, .int .i64 (k : Int))]) (fun (k : Nat) wx => Fr (fun _ => False) w wx ∧ (k ≤ ps.length)) (fun (k : Nat) => ps.length - k) 0 ⟨rfl, rfl, rfl, trivial⟩ ⟨Fr.refl _ _, Nat.zero_le _⟩ ?_))))))))))))))))))))))
 rintro k _ w2 ⟨hL1, hk⟩
 refine fdg 8 9 10 rfl fun _ => ?_
 have z3 := hL1.size
 refine sreg (svP (xlss rfl rfl) (fun hc11 => ?_) (fun hc11 => ?_))
 ·
  refine send ((wp_seq (cyes rfl (wp_skip (nThen (fdg 8 9 10 rfl fun _ => wp_seq (wp_block ?_)))))))
  obtain ⟨t, htk⟩ := some_of_lt (by omega : k < ps.length)
  have htl := hpl _ (List.mem_of_getElem? htk)
  have ht := ht.keep text_st (lU hU (by omega)) hL1 nF
  refine sreg ?_
  obtain ⟨bE12, oE12, sgE12, rfl, uE12, hsE12, heE12⟩ := LA.get ht htk
  obtain rfl := heE12
  have zE12 := hU _ uE12
  refine sv (xidx sl62 sz9 rfl rfl rfl (by omega)) (sv (xld on9 rfl (hsE12.c 0 rfl rfl)) (sA rfl (send ((sreg (sM rfl (sv (xlenS st9 rfl) (sv (exF (xgtr rfl rfl) (by omega)) (send ((cno rfl (wp_skip (nBlock (nThen (fdg 8 9 10 rfl fun _ => lreg (sv (xadd rfl rfl (w64 (by omega) (by omega))) (sM rfl (lend (nThen ?_)))))))))))))))))))
  refine ⟨k + 1, _, env_okl ⟨rfl, rfl, rfl, trivial⟩, ⟨hL1, (by omega)⟩, ?_⟩
  show ps.length - (k + 1) < ps.length - k; omega
 have hf := hf.s hL1
 refine send ((wp_seq (cno rfl (wp_exit (eThen (eThen (eHit (nThen (fg [] trivial fun _ => sreg (sA rfl (send (fbg 2 rfl fun _ => wp_ret (rp1 rfl rfl ?_)))))))))))))
 exact ⟨rfl, hf⟩
theorem c81 {w : World} {U : Nat → Prop} (hU : ∀ k, U k → k < w.heap.size) {r : RecD} {vd vt vp : Value} (hd : BA U w vd r.data) (ht : LA TextEl [1] U w vt r.texts) (hp : LA PairEl lPair U w vp r.pairs) (hr : r.fits) :
  Ret PP 81 [ag (recSegs r vd vt vp)] w (fun u w' => u = .bool true ∧ Fr0 w w') := by
 obtain ⟨at0, ct0, rfl⟩ := ht.form
 obtain ⟨ap0, cp0, rfl⟩ := hp.form
 obtain ⟨ad0, cd0, rfl, -⟩ := id hd
 have hr0 := hr
 simp only [RecD.fits] at hr0
 have hf : Fr (fun _ => False) w w := Fr.refl _ _
 refine ret_of Tryz.func81 rfl rfl rfl [(0, _)] rfl ?_
 refine sreg (svK (xboxS (lens := lRec) rfl rfl) ?_)
 rintro _ w2 ⟨b1, rfl, m3, h1, e1, s1⟩
 have ht := ht.keep text_st (lU hU (by omega)) m3 nF
 refine sA rfl (send ((wp_seq (sreg (sv (xfld fl112_0 rfl) (sv (xld on9 rfl (h1.r.c 0 rfl rfl)) (sv (xlenS st9 rfl) (sv (exF (xgtr rfl rfl) (by omega)) (send ((cno rfl (wp_skip (nThen ((wp_seq (sreg (sv (xfld fl112_6 rfl) (sv (xld on37 rfl (h1.r.c 6 rfl rfl)) (sv (xlen sl37 rfl) (sv (exF (xgtr rfl rfl) (by omega)) (send (fcg 1 10 rfl fun _ => cno rfl (wp_skip (nThen ((wp_seq (sreg (sv (xfld fl112_7 rfl) (sv (xld on9 rfl (h1.r.c 7 rfl rfl)) (sv (xlenS st9 rfl) (sv (exF (xgtr rfl rfl) (by omega)) (send ((cno rfl (wp_skip (nThen ((wp_seq (sreg (sv (xfld fl112_8 rfl) (sv (xld on9 rfl (h1.r.c 8 rfl rfl)) (sv (xlenS st9 rfl) (sv (exF (xgtr rfl rfl) (by omega)) (send (fcg 1 18 rfl fun _ => cno rfl (wp_skip (nThen (fbg 1 rfl fun _ => wp_seq (sreg (sv (xfld fl112_14 rfl) (sv (xld on62 rfl (h1.r.c 14 rfl rfl)) ?_)))))))))))))))))))))))))))))))))))))))))))))))))))
 refine sc (xcall ca142 rfl) (c142 (lU hU (by omega)) ht (by omega) hr.2.2.2.2.2.1) ?_
 rintro _ w4 ⟨rfl, m5⟩
 have z6 := m5.size
 have h1 := h1.k m5
 have hp := (hp.keep pair_st (lU hU (by omega)) m3 nF).keep pair_st (lU hU (by omega)) m5 nF
 refine sv (xnot rfl) (send ((cno rfl (wp_skip (nThen (fbg 1 rfl fun _ => wp_seq (sreg (sv (xfld fl112_15 rfl) (sv (xld on110 rfl (h1.r.c 15 rfl rfl)) (sc (xcall ca143 rfl) (c143 (lU hU (by omega)) hp (by omega) hr.2.2.2.2.2.2.2.2.1) ?_))))))))))
 rintro _ w7 ⟨rfl, m8⟩
 have z9 := m8.size
 have hf := ((hf.s m3).s m5).s m8
 refine sv (xnot rfl) (send ((cno rfl (wp_skip (nThen (fg [] trivial fun _ => sreg (sA rfl (send (fbg 2 rfl fun _ => wp_ret (rp1 rfl rfl ?_))))))))))
 exact ⟨rfl, hf⟩
theorem c80 {w : World} {a : AskD} (ha : a.name.size ≤ 1048576) :
  Ret PP 80 [ag (askSegs a)] w (fun u w' => u = .bool true ∧ Fr0 w w') := by
 have hf : Fr (fun _ => False) w w := Fr.refl _ _
 refine ret_of Tryz.func80 rfl rfl rfl [(0, _)] rfl ?_
 refine sreg (svK (xboxS (lens := [1, 1, 1]) rfl rfl) ?_)
 rintro _ w2 ⟨b1, rfl, m3, h1, e1, s1⟩
 have hf := hf.s m3
 refine sA rfl (send ((wp_seq (sreg (sv (xfld fl58_0 rfl) (sv (xld on9 rfl (h1.r.c 0 rfl rfl)) (sv (xlenS st9 rfl) (sv (exF (xgtr rfl rfl) (by omega)) (send ((cno rfl (wp_skip (nThen (fg [] trivial fun _ => sreg (sA rfl (send (fbg 2 rfl fun _ => wp_ret (rp1 rfl rfl ?_))))))))))))))))))
 exact ⟨rfl, hf⟩
theorem c31 {w : World} {U : Nat → Prop} (hU : ∀ k, U k → k < w.heap.size) {v : Value} {l : List AskD} (ha : LA AskEl lAsk U w v l) (hn : l.length ≤ 1048576) (hfa : ∀ a ∈ l, a.name.size ≤ 1048576) :
  Ret PP 31 [v] w (fun u w' => u = .bool true ∧ Fr0 w w') := by
 obtain ⟨a0, c0, rfl⟩ := ha.form
 have hf : Fr (fun _ => False) w w := Fr.refl _ _
 refine ret_of Tryz.func31 rfl rfl rfl [(0, _)] rfl ?_
 refine sreg (sA rfl (send ((wp_seq (sreg (sM rfl (sv (xlen sl25 rfl) (sv (exF (xgtr rfl rfl) (by omega)) (send ((cno rfl (wp_skip (nThen ((wp_seq (sreg (sM rfl (sv (xlen sl25 rfl) (sM rfl (send (fdg 8 9 10 rfl fun _ => wp_block (lp [(8, _), (9, _)] (fun (k : Nat) => [(10, .int .i64 (k : Int))]) (fun (k : Nat) wx => Fr (fun _ => False) w wx ∧ (k ≤ l.length)) (fun (k : Nat) => l.length - k) 0 ⟨rfl, rfl, rfl, trivial⟩ ⟨Fr.refl _ _, Nat.zero_le _⟩ ?_))))))))))))))))))))))
 rintro k _ w2 ⟨hL1, hk⟩
 refine fdg 8 9 10 rfl fun _ => ?_
 have z3 := hL1.size
 have hf := hf.s hL1
 refine sreg (svP (xlss rfl rfl) (fun hc11 => ?_) (fun hc11 => ?_))
 rotate_left
 ·
  refine send ((wp_seq (cno rfl (wp_exit (eThen (eThen (eHit (nThen (fg [] trivial fun _ => sreg (sA rfl (send (fbg 2 rfl fun _ => wp_ret (rp1 rfl rfl ?_)))))))))))))
  exact ⟨rfl, hf⟩
 refine send ((wp_seq (cyes rfl (wp_skip (nThen (fdg 8 9 10 rfl fun _ => wp_seq (wp_block ?_)))))))
 obtain ⟨a, hak⟩ := some_of_lt (by omega : k < l.length)
 have ha := ha.keep ask_st (lU hU (by omega)) hL1 nF
 refine sreg ?_
 obtain ⟨bE12, oE12, sgE12, rfl, uE12, hsE12, heE12⟩ := LA.get ha hak
 obtain rfl := heE12
 have zE12 := hU _ uE12
 refine sv (xidx sl25 sz58 rfl rfl rfl (by omega)) (sv (xldS (lens := [1, 1, 1]) ro58 rfl hsE12) (svK (xallS (lens := [1, 1, 1]) in58 rfl) ?_))
 rintro _ w5 ⟨b4, rfl, m6, h4, e4, s4⟩
 refine suK (xstW h4 (lens' := [1, 1, 1]) sz58 rfl rfl rfl rfl rfl) ?_
 rintro w8 ⟨m9, h4, s7⟩
 refine send (feg 4 8 9 10 rfl fun _ => sreg (sv (xldS (lens := [1, 1, 1]) ro58 rfl h4.r) (sc (xcall ca80 rfl) (c80 (hfa _ (List.mem_of_getElem? hak))) ?_)))
 rintro _ w10 ⟨rfl, m11⟩
 have z12 := m11.size
 have hL1 := ((hL1.s m6).t m9 (by omega)).s m11
 refine sv (xnot rfl) (send ((cno rfl (wp_skip (nBlock (nThen (fdg 8 9 10 rfl fun _ => lreg (sv (xadd rfl rfl (w64 (by omega) (by omega))) (sM rfl (lend (nThen ?_)))))))))))
 refine ⟨k + 1, _, env_okl ⟨rfl, rfl, rfl, trivial⟩, ⟨hL1, (by omega)⟩, ?_⟩
 show l.length - (k + 1) < l.length - k; omega
theorem c32 {w : World} {U : Nat → Prop} (hU : ∀ k, U k → k < w.heap.size) {v : Value} {l : List RecD} (hl : LA RecEl lRec U w v l) (hn : l.length ≤ 1048576) (hfr : ∀ r ∈ l, r.fits) :
  Ret PP 32 [v] w (fun u w' => u = .bool true ∧ Fr0 w w') := by
 obtain ⟨a0, c0, rfl⟩ := hl.form
 have hf : Fr (fun _ => False) w w := Fr.refl _ _
 refine ret_of Tryz.func32 rfl rfl rfl [(0, _)] rfl ?_
 refine sreg (sA rfl (send ((wp_seq (sreg (sM rfl (sv (xlen sl26 rfl) (sv (exF (xgtr rfl rfl) (by omega)) (send ((cno rfl (wp_skip (nThen ((wp_seq (sreg (sM rfl (sv (xlen sl26 rfl) (sM rfl (send (fdg 8 9 10 rfl fun _ => wp_block (lp [(8, _), (9, _)] (fun (k : Nat) => [(10, .int .i64 (k : Int))]) (fun (k : Nat) wx => Fr (fun _ => False) w wx ∧ (k ≤ l.length)) (fun (k : Nat) => l.length - k) 0 ⟨rfl, rfl, rfl, trivial⟩ ⟨Fr.refl _ _, Nat.zero_le _⟩ ?_))))))))))))))))))))))
 rintro k _ w2 ⟨hL1, hk⟩
 refine fdg 8 9 10 rfl fun _ => ?_
 have z3 := hL1.size
 have hf := hf.s hL1
 refine sreg (svP (xlss rfl rfl) (fun hc11 => ?_) (fun hc11 => ?_))
 rotate_left
 ·
  refine send ((wp_seq (cno rfl (wp_exit (eThen (eThen (eHit (nThen (fg [] trivial fun _ => sreg (sA rfl (send (fbg 2 rfl fun _ => wp_ret (rp1 rfl rfl ?_)))))))))))))
  exact ⟨rfl, hf⟩
 refine send ((wp_seq (cyes rfl (wp_skip (nThen (fdg 8 9 10 rfl fun _ => wp_seq (wp_block ?_)))))))
 obtain ⟨r, hrk⟩ := some_of_lt (by omega : k < l.length)
 have hl := hl.keep rec_st (lU hU (by omega)) hL1 nF
 refine sreg ?_
 obtain ⟨bE12, oE12, sgE12, rfl, uE12, hsE12, heE12⟩ := LA.get hl hrk
 obtain ⟨vd, vt, vp, rfl, hd, ht, hp⟩ := heE12
 have zE12 := hU _ uE12
 obtain ⟨ad, cd, rfl, -⟩ := id hd
 obtain ⟨at1, ct1, rfl⟩ := ht.form
 obtain ⟨ap1, cp1, rfl⟩ := hp.form
 refine sv (xidx sl26 sz112 rfl rfl rfl (by omega)) (sv (xldS (lens := lRec) ro112 rfl hsE12) (svK (xallS (lens := lRec) in112 rfl) ?_))
 rintro _ w5 ⟨b4, rfl, m6, h4, e4, s4⟩
 refine suK (xstW h4 (lens' := lRec) sz112 rfl rfl rfl rfl rfl) ?_
 rintro w8 ⟨m9, h4, s7⟩
 have hd := (hd.keep (lU hU (by omega)) m6 nF).keep (lU hU (by omega)) m9 (nU hU (by omega))
 have ht := (ht.keep text_st (lU hU (by omega)) m6 nF).keep text_st (lU hU (by omega)) m9 (nU hU (by omega))
 have hp := (hp.keep pair_st (lU hU (by omega)) m6 nF).keep pair_st (lU hU (by omega)) m9 (nU hU (by omega))
 refine send (feg 4 8 9 10 rfl fun _ => sreg (sv (xldS (lens := lRec) ro112 rfl h4.r) (sc (xcall ca81 rfl) (c81 (lU hU (by omega)) hd ht hp (hfr _ (List.mem_of_getElem? hrk))) ?_)))
 rintro _ w10 ⟨rfl, m11⟩
 have z12 := m11.size
 have hL1 := ((hL1.s m6).t m9 (by omega)).s m11
 refine sv (xnot rfl) (send ((cno rfl (wp_skip (nBlock (nThen (fdg 8 9 10 rfl fun _ => lreg (sv (xadd rfl rfl (w64 (by omega) (by omega))) (sM rfl (lend (nThen ?_)))))))))))
 refine ⟨k + 1, _, env_okl ⟨rfl, rfl, rfl, trivial⟩, ⟨hL1, (by omega)⟩, ?_⟩
 show l.length - (k + 1) < l.length - k; omega
theorem c12 {w : World} {U : Nat → Prop} (hU : ∀ k, U k → k < w.heap.size) {m : MsgD} {va v1 v2 v3 : Value} (ha : LA AskEl lAsk U w va m.asks) (y1 : LA RecEl lRec U w v1 m.one) (y2 : LA RecEl lRec U w v2 m.two) (y3 : LA RecEl lRec U w v3 m.three) (hm : m.fits) :
  Ret PP 12 [ag (msgSegs m.head va v1 v2 v3)] w (fun u w' => u = .bool true ∧ Fr0 w w') := by
 obtain ⟨aa, ca, rfl⟩ := ha.form
 obtain ⟨a1, c1, rfl⟩ := y1.form
 obtain ⟨a2, c2, rfl⟩ := y2.form
 obtain ⟨a3, c3, rfl⟩ := y3.form
 have hf : Fr (fun _ => False) w w := Fr.refl _ _
 refine ret_of Tryz.func12 rfl rfl rfl [(0, _)] rfl ?_
 refine sreg (svK (xboxS (lens := lMsg) rfl rfl) ?_)
 rintro _ w2 ⟨b1, rfl, m3, h1, e1, s1⟩
 have ha := ha.keep ask_st (lU hU (by omega)) m3 nF
 refine sA rfl (send (fbg 1 rfl fun _ => wp_seq (sreg (sv (xfld fl28_1 rfl) (sv (xld on25 rfl (h1.r.c 10 rfl rfl)) (sc (xcall ca31 rfl) (c31 (lU hU (by omega)) ha hm.1 hm.2.1) ?_))))))
 rintro _ w4 ⟨rfl, m5⟩
 have z6 := m5.size
 have h1 := h1.k m5
 have y1 := (y1.keep rec_st (lU hU (by omega)) m3 nF).keep rec_st (lU hU (by omega)) m5 nF
 refine sv (xnot rfl) (send ((cno rfl (wp_skip (nThen (fbg 1 rfl fun _ => wp_seq (sreg (sv (xfld fl28_2 rfl) (sv (xld on26 rfl (h1.r.c 11 rfl rfl)) (sc (xcall ca32 rfl) (c32 (lU hU (by omega)) y1 hm.2.2.1 hm.2.2.2.2.2.1) ?_))))))))))
 rintro _ w7 ⟨rfl, m8⟩
 have z9 := m8.size
 have h1 := h1.k m8
 have y2 := ((y2.keep rec_st (lU hU (by omega)) m3 nF).keep rec_st (lU hU (by omega)) m5 nF).keep rec_st (lU hU (by omega)) m8 nF
 refine sv (xnot rfl) (send ((cno rfl (wp_skip (nThen (fbg 1 rfl fun _ => wp_seq (sreg (sv (xfld fl28_3 rfl) (sv (xld on26 rfl (h1.r.c 12 rfl rfl)) (sc (xcall ca32 rfl) (c32 (lU hU (by omega)) y2 hm.2.2.2.1 hm.2.2.2.2.2.2.1) ?_))))))))))
 rintro _ w10 ⟨rfl, m11⟩
 have z12 := m11.size
 have h1 := h1.k m11
 have y3 := (((y3.keep rec_st (lU hU (by omega)) m3 nF).keep rec_st (lU hU (by omega)) m5 nF).keep rec_st (lU hU (by omega)) m8 nF).keep rec_st (lU hU (by omega)) m11 nF
 refine sv (xnot rfl) (send ((cno rfl (wp_skip (nThen (fbg 1 rfl fun _ => wp_seq (sreg (sv (xfld fl28_4 rfl) (sv (xld on26 rfl (h1.r.c 13 rfl rfl)) (sc (xcall ca32 rfl) (c32 (lU hU (by omega)) y3 hm.2.2.2.2.1 hm.2.2.2.2.2.2.2) ?_))))))))))
 rintro _ w13 ⟨rfl, m14⟩
 have z15 := m14.size
 have hf := ((((hf.s m3).s m5).s m8).s m11).s m14
 refine sv (xnot rfl) (send ((cno rfl (wp_skip (nThen (fg [] trivial fun _ => sreg (sA rfl (send (fbg 2 rfl fun _ => wp_ret (rp1 rfl rfl ?_))))))))))
 exact ⟨rfl, hf⟩
theorem c82 {w : World} {s : ByteArray} (hs : s.size ≤ 1048576) :
  Ret PP 82 [.string s] w (Grd w (nameOk s = true)) := by
 have hf : Fr (fun _ => False) w w := Fr.refl _ _
 refine ret_of Tryz.func82 rfl rfl rfl [(0, _)] rfl ?_
 refine sreg (sA rfl (send (fbg 0 rfl fun _ => wp_seq (sreg (sM rfl (svP (xeqs rfl rfl) (fun hc6 => ?_) (fun hc6 => ?_)))))))
 ·
  refine send ((cyes rfl (sreg (sA rfl (send (fbg 2 rfl fun _ => wp_ret (rThen (rp1 rfl rfl ?_))))))))
  exact ⟨_, rfl, (fun _ => nameOk_dot hc6), hf⟩
 refine send ((cno rfl (wp_skip (nThen ((sreg (sA rfl (send ((wp_seq (sreg (sM rfl (sv (xlenS st9 rfl) (sM rfl (send (feg 0 3 8 9 rfl fun _ => wp_block (lp [(0, _), (8, _)] (fun (x : Nat × Nat) => match x with | (k, n) => [(3, .int .i64 (n : Int)), (9, .int .i64 (k : Int))]) (fun (x : Nat × Nat) wx => match x with | (k, n) => Fr (fun _ => False) w wx ∧ (k ≤ s.size) ∧ (nameGo n ((bt s).drop k) = nameGo 0 (bt s)) ∧ (n ≤ k)) (fun (x : Nat × Nat) => match x with | (k, n) => s.size - k) (0, 0) ⟨rfl, rfl, rfl, rfl, trivial⟩ ⟨Fr.refl _ _, Nat.zero_le _, rfl, Nat.le_refl _⟩ ?_)))))))))))))))))
 rintro ⟨k, n⟩ _ w2 ⟨hL1, hk, hG, hn⟩
 refine feg 0 3 8 9 rfl fun _ => ?_
 have z3 := hL1.size
 have hf := hf.s hL1
 refine sreg (svP (xlss rfl rfl) (fun hc10 => ?_) (fun hc10 => ?_))
 ·
  refine send ((wp_seq (cyes rfl (wp_skip (nThen ((wp_seq (wp_block (sreg (sM rfl (sA rfl (send (ffg 0 3 4 8 9 rfl fun _ => wp_seq (sreg (sM rfl (sM rfl (sv (xidxS st9 rfl rfl rfl (by omega)) (svP (xneq rfl rfl) (fun hc15 => ?_) (fun hc15 => ?_)))))))))))))))))))
  ·
   refine send ((cyes rfl (sreg (sM rfl (sv (xadd rfl rfl (w64 (by omega) (by omega))) (sA rfl (send ((wp_exit (eThen (eHit (nThen (feg 0 3 8 9 rfl fun _ => lreg (sv (xadd rfl rfl (w64 (by omega) (by omega))) (sM rfl (lend (nThen ?_)))))))))))))))))
   have e := hG
   rw [wire_one (by omega)] at e
   simp only [nameGo, u8_ne hc15, if_false] at e
   refine ⟨(k + 1, n + 1), _, env_okl ⟨rfl, rfl, rfl, rfl, trivial⟩, ⟨hL1, (by omega), (e), (by omega)⟩, ?_⟩
   show s.size - (k + 1) < s.size - k; omega
  refine send ((cno rfl (wp_skip (nThen (feg 0 3 8 9 rfl fun _ => wp_seq (sreg (sM rfl (svP (xeql rfl rfl) (fun hc19 => ?_) (fun hc19 => ?_)))))))))
  ·
   refine sM rfl (gno rfl rfl rfl (gno rfl rfl rfl (sv (xpickT rfl rfl) (send ((cyes rfl (sreg (sA rfl (send (fbg 2 rfl fun _ => wp_ret (rThen (rBlock (rThen (rThen (rBlock (rThen (rp1 rfl rfl ?_)))))))))))))))))
   exact ⟨_, rfl, (fun h => by cases h), hf⟩
  refine sM rfl (gyes rfl rfl rfl (sM rfl (gyes rfl rfl rfl (svP (xgtr rfl rfl) (fun hc22 => ?_) (fun hc22 => ?_)))))
  ·
   refine sv (xpickF rfl rfl) (send ((cyes rfl (sreg (sA rfl (send (fbg 2 rfl fun _ => wp_ret (rThen (rBlock (rThen (rThen (rBlock (rThen (rp1 rfl rfl ?_))))))))))))))
   exact ⟨_, rfl, (fun h => by cases h), hf⟩
  refine sv (xpickF rfl rfl) (send ((cno rfl (wp_skip (nThen ((lreg (sA rfl (lend (nBlock (nThen (feg 0 3 8 9 rfl fun _ => lreg (sv (xadd rfl rfl (w64 (by omega) (by omega))) (sM rfl (lend (nThen ?_))))))))))))))))
  have e := hG
  rw [wire_one (by omega)] at e
  rw [nameGo, if_pos (u8_eq hc15), if_neg (by omega)] at e
  refine ⟨(k + 1, 0), _, env_okl ⟨rfl, rfl, rfl, rfl, trivial⟩, ⟨hL1, (by omega), (e), (by omega)⟩, ?_⟩
  show s.size - (k + 1) < s.size - k; omega
 refine send ((wp_seq (cno rfl (wp_exit (eThen (eThen (eHit (nThen (fcg 0 3 rfl fun _ => sreg (sM rfl (svP (xeql rfl rfl) (fun hc26 => ?_) (fun hc26 => ?_))))))))))))
 ·
  refine sM rfl (gyes rfl rfl rfl (sM rfl (gyes rfl rfl rfl (sv (xlenS st9 rfl) (gyes rfl rfl rfl (svP (xgtr rfl rfl) (fun hc30 => ?_) (fun hc30 => ?_)))))))
  ·
   refine sv (xpickT rfl rfl) (sM rfl (gyes rfl rfl rfl (sM rfl (gyes rfl rfl rfl (sv (xlenS st9 rfl) (gyes rfl rfl rfl (svP (xleq rfl rfl) (fun hc35 => ?_) (fun hc35 => ?_))))))))
   ·
    refine sv (xpickT rfl rfl) (sA rfl (send (fbg 2 rfl fun _ => wp_ret (rp1 rfl rfl ?_))))
    refine ⟨_, rfl, (fun _ => ?_), hf⟩
    have e : (bt s).drop k = [] := List.drop_eq_nil_of_le (by rw [bt_length]; omega)
    rw [e] at hG
    have e2 : nameGo 0 (bt s) = true := by rw [← hG]; simp [nameGo]; omega
    have e3 : decide (1 < s.size) = true := by simp; omega
    have e4 : decide (s.size ≤ 254) = true := by simp; omega
    simp only [nameOk, e2, e3, e4]; simp
   refine sv (xpickT rfl rfl) (sA rfl (send (fbg 2 rfl fun _ => wp_ret (rp1 rfl rfl ?_))))
   exact ⟨_, rfl, (fun h => by cases h), hf⟩
  refine sv (xpickT rfl rfl) (sM rfl (gno rfl rfl rfl (gno rfl rfl rfl (gno rfl rfl rfl (sv (xpickF rfl rfl) (sA rfl (send (fbg 2 rfl fun _ => wp_ret (rp1 rfl rfl ?_)))))))))
  exact ⟨_, rfl, (fun h => by cases h), hf⟩
 refine sM rfl (gno rfl rfl rfl (gno rfl rfl rfl (gno rfl rfl rfl (sv (xpickF rfl rfl) (sM rfl (gno rfl rfl rfl (gno rfl rfl rfl (gno rfl rfl rfl (sv (xpickF rfl rfl) (sA rfl (send (fbg 2 rfl fun _ => wp_ret (rp1 rfl rfl ?_)))))))))))))
 exact ⟨_, rfl, (fun h => by cases h), hf⟩
end Go.Proofs.YtifnodoffgfpbaaGreatDoor

namespace Go.Proofs.YtifnodoffgfpbaaGreatDoor
open Go

def hostOk (r : RecD) : Prop := (r.kind = 2 ∨ r.kind = 3 ∨ r.kind = 5 ∨ r.kind = 6 ∨ r.kind = 9 ∨ r.kind = 11 ∨ r.kind = 12 ∨ r.kind = 4 → nameOk r.host = true) ∧ (r.kind = 4 → nameOk r.box = true)
def bodyOk (r : RecD) : Prop := (r.kind = 7 → r.texts ≠ [] ∧ ∀ s ∈ r.texts, s.size ≤ 255) ∧ (r.kind = 11 ∨ r.kind = 12 → asc r.pairs) ∧ hostOk r
def goodR (r : RecD) : Prop := nameOk r.name = true ∧ bodyOk r
def sizeR (r : RecD) : Nat := r.data.length + r.texts.length + (r.texts.map (·.size)).sum + (r.pairs.map (fun p => p.data.length + 4)).sum
def smallR (r : RecD) : Prop := 1 ≤ r.kind ∧ r.kind ≤ 13 ∧ sizeR r ≤ 2000
def okM (m : MsgD) : Prop := (∀ a ∈ m.asks, nameOk a.name = true) ∧ (∀ l ∈ [m.one, m.two, m.three], ∀ r ∈ l, goodR r) ∧ m.head.ok
theorem asc_one (ps : List PairD) : ∀ (i : Nat) (p q : PairD), i + 1 < 1 → ps[i]? = some p → ps[i + 1]? = some q → p.key.toNat < q.key.toNat := fun i p q h => by omega
theorem asc_step {ps : List PairD} {k : Nat} (h : ∀ (i : Nat) (p q : PairD), i + 1 < k → ps[i]? = some p → ps[i + 1]? = some q → p.key.toNat < q.key.toNat) (hk : 1 ≤ k) {a b : PairD} (ha : ps[k - 1]? = some a) (hb : ps[k]? = some b) (hl : a.key.toNat < b.key.toNat) :
    ∀ (i : Nat) (p q : PairD), i + 1 < k + 1 → ps[i]? = some p → ps[i + 1]? = some q → p.key.toNat < q.key.toNat := by
  intro i p q hi hp hq
  by_cases h1 : i + 1 < k
  · exact h i p q h1 hp hq
  · obtain rfl : k = i + 1 := by omega
    simp only [Nat.add_sub_cancel] at ha
    rw [hp] at ha; rw [hq] at hb
    simp only [Option.some.injEq] at ha hb
    subst ha hb; exact hl
theorem upto_step {α : Type} {l : List α} {p : α → Prop} {k : Nat} {a : α} (h : ∀ i x, i < k → l[i]? = some x → p x) (ha : l[k]? = some a) (hp : p a) : ∀ i x, i < k + 1 → l[i]? = some x → p x := by
  intro i x hi hx
  by_cases h1 : i < k
  · exact h i x h1 hx
  · obtain rfl : i = k := by omega
    rw [ha] at hx
    simp only [Option.some.injEq] at hx
    subst hx; exact hp
theorem upto_all {α : Type} {l : List α} {p : α → Prop} {k : Nat} (h : ∀ i x, i < k → l[i]? = some x → p x) (hk : l.length ≤ k) : ∀ x ∈ l, p x := by
  intro x hx
  obtain ⟨i, hi, rfl⟩ := List.mem_iff_getElem.1 hx
  exact h i _ (by omega) (List.getElem?_eq_getElem hi)
theorem upto_zero {α : Type} {l : List α} {p : α → Prop} : ∀ i x, i < 0 → l[i]? = some x → p x := fun i x h => by omega
theorem sum_take_add {α : Type} {f : α → Nat} {l : List α} {k : Nat} {a : α} (h : l[k]? = some a) : ((l.take (k + 1)).map f).sum = ((l.take k).map f).sum + f a := by
  rw [take_snoc h]; simp
theorem sum_add4 (ps : List PairD) : (ps.map (fun p => p.data.length + 4)).sum = (ps.map (·.data.length)).sum + 4 * ps.length := by
  induction ps with
  | nil => rfl
  | cons p ps ih => simp only [List.map_cons, List.sum_cons, List.length_cons, ih]; omega

theorem c144 {w : World} {U : Nat → Prop} (hU : ∀ k, U k → k < w.heap.size) {v : Value} {ps : List PairD} (hp : LA PairEl lPair U w v ps) (hn : ps.length ≤ 1048576) :
  Ret PP 144 [v] w (Grd w (asc ps)) := by
 obtain ⟨a0, c0, rfl⟩ := hp.form
 have hf : Fr (fun _ => False) w w := Fr.refl _ _
 refine ret_of Tryz.func144 rfl rfl rfl [(0, _)] rfl ?_
 refine sreg (sA rfl (send ((wp_seq (sreg (sA rfl (send (fcg 0 3 rfl fun _ => wp_block (lp [(0, _)] (fun (k : Nat) => [(3, .int .i64 (k : Int))]) (fun (k : Nat) wx => Fr (fun _ => False) w wx ∧ (1 ≤ k) ∧ (k ≤ ps.length ∨ k = 1) ∧ (∀ (i : Nat) (p q : PairD), i + 1 < k → ps[i]? = some p → ps[i + 1]? = some q → p.key.toNat < q.key.toNat)) (fun (k : Nat) => ps.length - k) 1 ⟨rfl, rfl, trivial⟩ ⟨Fr.refl _ _, Nat.le_refl _, .inr rfl, asc_one ps⟩ ?_)))))))))
 rintro k _ w2 ⟨hL1, hk1, hk, hA⟩
 refine fcg 0 3 rfl fun _ => ?_
 have z3 := hL1.size
 have hp := hp.keep pair_st (lU hU (by omega)) hL1 nF
 have hf := hf.s hL1
 refine wp_seq (sreg (sM rfl (sM rfl (sv (xlen sl63 rfl) (svP (xlss rfl rfl) (fun hc7 => ?_) (fun hc7 => ?_))))))
 rotate_left
 ·
  refine send ((cno rfl (wp_exit (eThen (eThen (eHit (nThen (fg [] trivial fun _ => sreg (sA rfl (send (fbg 2 rfl fun _ => wp_ret (rp1 rfl rfl ?_))))))))))))
  refine ⟨_, rfl, (fun _ i p q hp hq => hA i p q ?_ hp hq), hf⟩
  have := (List.getElem?_eq_some_iff.1 hq).1
  omega
 refine send ((cyes rfl (wp_skip (nThen (fcg 0 3 rfl fun _ => wp_seq (wp_block ?_))))))
 obtain ⟨p, hpk⟩ := some_of_lt (by omega : k - 1 < ps.length)
 obtain ⟨q, hqk⟩ := some_of_lt (by omega : k < ps.length)
 refine sdraw (Fr (fun _ => False) w2.drew) [rd0, rd1, rd2, rd3, rd4, rd5, rd6, rd7, rd8, rd9, rd10, rd11] mixed (by kernel_rfl) (fun _ _ _ _ _ h => h) ?_
 have z4 : w2.drew.heap.size = w2.heap.size := rfl
 have hS5 : Fr (fun _ => False) w2.drew w2.drew := Fr.refl _ _
 have hp := hp.keep pair_st (lU hU (by omega)) (fd w2) nF
 refine ggM rfl rfl hS5 (ggM rfl rfl hS5 (hv rfl (fun _ _ => xsub rfl rfl (w64 (by omega) (by omega))) hS5 ?_))
 obtain ⟨bE13, oE13, sgE13, rfl, uE13, hsE13, heE13⟩ := LA.get hp hpk
 obtain ⟨vd, rfl, hd⟩ := heE13
 have zE13 := hU _ uE13
 refine hv rfl (fun _ _ => xidx sl63 sz67 (i := k - 1) rfl rfl (by omega) (by omega)) hS5 (hv rfl (fun _ _ => xfld fl67_0 rfl) hS5 (hv rfl (fun w' hS => xld on22 rfl ((hsE13.keep hS (by omega) id).c 0 rfl rfl)) hS5 (ggM rfl rfl hS5 (ggM rfl rfl hS5 ?_))))
 obtain ⟨bE18, oE18, sgE18, hbo, uE18, hsE18, heE18⟩ := LA.get hp hqk
 simp only [Option.some.injEq, Addr.mk.injEq, and_true] at hbo
 obtain ⟨rfl, rfl⟩ := hbo
 obtain ⟨vd2, rfl, hd2⟩ := heE18
 have zE18 := hU _ uE18
 refine hv rfl (fun _ _ => xidx sl63 sz67 rfl rfl rfl (by omega)) hS5 (hv rfl (fun _ _ => xfld fl67_0 rfl) hS5 (hv rfl (fun w' hS => xld on22 rfl ((hsE18.keep hS (by omega) id).c 0 rfl rfl)) hS5 ?_))
 refine hvP rfl (fun _ _ => xgeq rfl rfl) hS5 (fun hc21 => ?_) (fun hc21 => ?_)
 ·
  have hf := hf.drew
  refine hend ((cyes rfl (sreg (sA rfl (send (fbg 2 rfl fun _ => wp_ret (rBlock (rThen (rThen (rBlock (rThen (rp1 rfl rfl ?_))))))))))))
  exact ⟨_, rfl, (fun h => by cases h), hf⟩
 have hL1 := hL1.drew
 refine hend ((cno rfl (wp_skip (nBlock (nThen (fcg 0 3 rfl fun _ => lreg (sM rfl (sv (xadd rfl rfl (w64 (by omega) (by omega))) (sA rfl (lend (nThen ?_)))))))))))
 refine ⟨k + 1, _, env_okl ⟨rfl, rfl, trivial⟩, ⟨hL1, (by omega), (by omega), (asc_step hA hk1 hpk hqk (by omega))⟩, ?_⟩
 show ps.length - (k + 1) < ps.length - k; omega
theorem c145 {w : World} {r : RecD} {vd vt vp : Value} (hr : r.fits) :
  Ret PP 145 [ag (recSegs r vd vt vp)] w (Grd w (hostOk r)) := by
 have hr0 := hr
 simp only [RecD.fits] at hr0
 have hf : Fr (fun _ => False) w w := Fr.refl _ _
 refine ret_of Tryz.func145 rfl rfl rfl [(0, _)] rfl ?_
 refine sreg (svK (xboxS (lens := lRec) rfl rfl) ?_)
 rintro _ w2 ⟨b1, rfl, m3, h1, e1, s1⟩
 have hf := hf.s m3
 refine sA rfl (send ((wp_seq (sreg (sv (xfld fl65_5 rfl) (sv (xld on3 rfl (h1.r.c 5 rfl rfl)) (send (fcg 1 4 rfl fun _ => wp_block (wp_seq (sreg (svP (xeql rfl rfl) (fun hc6 => ?_) (fun hc6 => ?_))))))))))))
 ·
  refine sA rfl (send ((cyes rfl (wp_skip (nThen (fdg 1 4 5 rfl fun _ => cyes rfl (sreg (sv (xfld fl65_7 rfl) (sv (xld on9 rfl (h1.r.c 7 rfl rfl)) (sc (xcall ca82 rfl) (c82 (by omega)) ?_))))))))))
  rintro _ w4 ⟨gb15, rfl, gp15, m5⟩
  have z6 := m5.size
  have hf := hf.s m5
  rcases Bool.eq_false_or_eq_true gb15 with rfl | rfl
  ·
   refine sA rfl (send (fbg 2 rfl fun _ => wp_ret (rBlock (rThen (rp1 rfl rfl ?_)))))
   exact ⟨_, rfl, (fun _ => ⟨fun _ => by first | exact gp15 rfl | exact gp20 rfl | omega, fun _ => by first | exact gp24 rfl | omega⟩), hf⟩
  refine sA rfl (send (fbg 2 rfl fun _ => wp_ret (rBlock (rThen (rp1 rfl rfl ?_)))))
  exact ⟨_, rfl, (fun h => by cases h), hf⟩
 refine sA rfl (send (fdg 1 4 5 rfl fun _ => cno rfl (sreg (svP (xeql rfl rfl) (fun hc7 => ?_) (fun hc7 => ?_)))))
 ·
  refine sA rfl (send ((cyes rfl (wp_skip (nThen (fdg 1 4 5 rfl fun _ => cyes rfl (sreg (sv (xfld fl65_7 rfl) (sv (xld on9 rfl (h1.r.c 7 rfl rfl)) (sc (xcall ca82 rfl) (c82 (by omega)) ?_))))))))))
  rintro _ w7 ⟨gb15, rfl, gp15, m8⟩
  have z9 := m8.size
  have hf := hf.s m8
  rcases Bool.eq_false_or_eq_true gb15 with rfl | rfl
  ·
   refine sA rfl (send (fbg 2 rfl fun _ => wp_ret (rBlock (rThen (rp1 rfl rfl ?_)))))
   exact ⟨_, rfl, (fun _ => ⟨fun _ => by first | exact gp15 rfl | exact gp20 rfl | omega, fun _ => by first | exact gp24 rfl | omega⟩), hf⟩
  refine sA rfl (send (fbg 2 rfl fun _ => wp_ret (rBlock (rThen (rp1 rfl rfl ?_)))))
  exact ⟨_, rfl, (fun h => by cases h), hf⟩
 refine sA rfl (send (fdg 1 4 5 rfl fun _ => cno rfl (sreg (svP (xeql rfl rfl) (fun hc8 => ?_) (fun hc8 => ?_)))))
 ·
  refine sA rfl (send ((cyes rfl (wp_skip (nThen (fdg 1 4 5 rfl fun _ => cyes rfl (sreg (sv (xfld fl65_7 rfl) (sv (xld on9 rfl (h1.r.c 7 rfl rfl)) (sc (xcall ca82 rfl) (c82 (by omega)) ?_))))))))))
  rintro _ w10 ⟨gb15, rfl, gp15, m11⟩
  have z12 := m11.size
  have hf := hf.s m11
  rcases Bool.eq_false_or_eq_true gb15 with rfl | rfl
  ·
   refine sA rfl (send (fbg 2 rfl fun _ => wp_ret (rBlock (rThen (rp1 rfl rfl ?_)))))
   exact ⟨_, rfl, (fun _ => ⟨fun _ => by first | exact gp15 rfl | exact gp20 rfl | omega, fun _ => by first | exact gp24 rfl | omega⟩), hf⟩
  refine sA rfl (send (fbg 2 rfl fun _ => wp_ret (rBlock (rThen (rp1 rfl rfl ?_)))))
  exact ⟨_, rfl, (fun h => by cases h), hf⟩
 refine sA rfl (send (fdg 1 4 5 rfl fun _ => cno rfl (sreg (svP (xeql rfl rfl) (fun hc9 => ?_) (fun hc9 => ?_)))))
 ·
  refine sA rfl (send ((cyes rfl (wp_skip (nThen (fdg 1 4 5 rfl fun _ => cyes rfl (sreg (sv (xfld fl65_7 rfl) (sv (xld on9 rfl (h1.r.c 7 rfl rfl)) (sc (xcall ca82 rfl) (c82 (by omega)) ?_))))))))))
  rintro _ w13 ⟨gb15, rfl, gp15, m14⟩
  have z15 := m14.size
  have hf := hf.s m14
  rcases Bool.eq_false_or_eq_true gb15 with rfl | rfl
  ·
   refine sA rfl (send (fbg 2 rfl fun _ => wp_ret (rBlock (rThen (rp1 rfl rfl ?_)))))
   exact ⟨_, rfl, (fun _ => ⟨fun _ => by first | exact gp15 rfl | exact gp20 rfl | omega, fun _ => by first | exact gp24 rfl | omega⟩), hf⟩
  refine sA rfl (send (fbg 2 rfl fun _ => wp_ret (rBlock (rThen (rp1 rfl rfl ?_)))))
  exact ⟨_, rfl, (fun h => by cases h), hf⟩
 refine sA rfl (send (fdg 1 4 5 rfl fun _ => cno rfl (sreg (svP (xeql rfl rfl) (fun hc10 => ?_) (fun hc10 => ?_)))))
 ·
  refine sA rfl (send ((cyes rfl (wp_skip (nThen (fdg 1 4 5 rfl fun _ => cyes rfl (sreg (sv (xfld fl65_7 rfl) (sv (xld on9 rfl (h1.r.c 7 rfl rfl)) (sc (xcall ca82 rfl) (c82 (by omega)) ?_))))))))))
  rintro _ w16 ⟨gb15, rfl, gp15, m17⟩
  have z18 := m17.size
  have hf := hf.s m17
  rcases Bool.eq_false_or_eq_true gb15 with rfl | rfl
  ·
   refine sA rfl (send (fbg 2 rfl fun _ => wp_ret (rBlock (rThen (rp1 rfl rfl ?_)))))
   exact ⟨_, rfl, (fun _ => ⟨fun _ => by first | exact gp15 rfl | exact gp20 rfl | omega, fun _ => by first | exact gp24 rfl | omega⟩), hf⟩
  refine sA rfl (send (fbg 2 rfl fun _ => wp_ret (rBlock (rThen (rp1 rfl rfl ?_)))))
  exact ⟨_, rfl, (fun h => by cases h), hf⟩
 refine sA rfl (send (fdg 1 4 5 rfl fun _ => cno rfl (sreg (svP (xeql rfl rfl) (fun hc11 => ?_) (fun hc11 => ?_)))))
 ·
  refine sA rfl (send ((cyes rfl (wp_skip (nThen (fdg 1 4 5 rfl fun _ => cyes rfl (sreg (sv (xfld fl65_7 rfl) (sv (xld on9 rfl (h1.r.c 7 rfl rfl)) (sc (xcall ca82 rfl) (c82 (by omega)) ?_))))))))))
  rintro _ w19 ⟨gb15, rfl, gp15, m20⟩
  have z21 := m20.size
  have hf := hf.s m20
  rcases Bool.eq_false_or_eq_true gb15 with rfl | rfl
  ·
   refine sA rfl (send (fbg 2 rfl fun _ => wp_ret (rBlock (rThen (rp1 rfl rfl ?_)))))
   exact ⟨_, rfl, (fun _ => ⟨fun _ => by first | exact gp15 rfl | exact gp20 rfl | omega, fun _ => by first | exact gp24 rfl | omega⟩), hf⟩
  refine sA rfl (send (fbg 2 rfl fun _ => wp_ret (rBlock (rThen (rp1 rfl rfl ?_)))))
  exact ⟨_, rfl, (fun h => by cases h), hf⟩
 refine sA rfl (send (fdg 1 4 5 rfl fun _ => cno rfl (lreg (svP (xeql rfl rfl) (fun hc12 => ?_) (fun hc12 => ?_)))))
 ·
  refine sA rfl (lend (nThen (fdg 1 4 5 rfl fun _ => cyes rfl (sreg (sv (xfld fl65_7 rfl) (sv (xld on9 rfl (h1.r.c 7 rfl rfl)) (sc (xcall ca82 rfl) (c82 (by omega)) ?_)))))))
  rintro _ w22 ⟨gb15, rfl, gp15, m23⟩
  have z24 := m23.size
  have hf := hf.s m23
  rcases Bool.eq_false_or_eq_true gb15 with rfl | rfl
  ·
   refine sA rfl (send (fbg 2 rfl fun _ => wp_ret (rBlock (rThen (rp1 rfl rfl ?_)))))
   exact ⟨_, rfl, (fun _ => ⟨fun _ => by first | exact gp15 rfl | exact gp20 rfl | omega, fun _ => by first | exact gp24 rfl | omega⟩), hf⟩
  refine sA rfl (send (fbg 2 rfl fun _ => wp_ret (rBlock (rThen (rp1 rfl rfl ?_)))))
  exact ⟨_, rfl, (fun h => by cases h), hf⟩
 refine sA rfl (lend (nThen (fdg 1 4 5 rfl fun _ => cno rfl (sreg (svP (xeql rfl rfl) (fun hc17 => ?_) (fun hc17 => ?_))))))
 rotate_left
 ·
  refine sA rfl (send ((cno rfl (wp_skip (nBlock (nThen (fg [] trivial fun _ => sreg (sA rfl (send (fbg 2 rfl fun _ => wp_ret (rp1 rfl rfl ?_)))))))))))
  exact ⟨_, rfl, (fun _ => ⟨fun _ => by first | exact gp15 rfl | exact gp20 rfl | omega, fun _ => by first | exact gp24 rfl | omega⟩), hf⟩
 refine sA rfl (send (fcg 1 16 rfl fun _ => cyes rfl (sreg (sv (xfld fl65_7 rfl) (sv (xld on9 rfl (h1.r.c 7 rfl rfl)) (sc (xcall ca82 rfl) (c82 (by omega)) ?_))))))
 rintro _ w25 ⟨gb20, rfl, gp20, m26⟩
 have z27 := m26.size
 have hf := hf.s m26
 rcases Bool.eq_false_or_eq_true gb20 with rfl | rfl
 ·
  have h1 := h1.k m26
  refine sM rfl (gyes rfl rfl rfl (sv (xfld fl65_8 rfl) (gyes rfl rfl rfl (sv (xld on9 rfl (h1.r.c 8 rfl rfl)) (gyes rfl rfl rfl (sc (xcall ca82 rfl) (c82 (by omega)) ?_))))))
  rintro _ w28 ⟨gb24, rfl, gp24, m29⟩
  have z30 := m29.size
  have hf := hf.s m29
  rcases Bool.eq_false_or_eq_true gb24 with rfl | rfl
  ·
   refine sv (xpickT rfl rfl) (sA rfl (send (fbg 2 rfl fun _ => wp_ret (rBlock (rThen (rp1 rfl rfl ?_))))))
   exact ⟨_, rfl, (fun _ => ⟨fun _ => by first | exact gp15 rfl | exact gp20 rfl | omega, fun _ => by first | exact gp24 rfl | omega⟩), hf⟩
  refine sv (xpickT rfl rfl) (sA rfl (send (fbg 2 rfl fun _ => wp_ret (rBlock (rThen (rp1 rfl rfl ?_))))))
  exact ⟨_, rfl, (fun h => by cases h), hf⟩
 refine sM rfl (gno rfl rfl rfl (gno rfl rfl rfl (gno rfl rfl rfl (sv (xpickF rfl rfl) (sA rfl (send (fbg 2 rfl fun _ => wp_ret (rBlock (rThen (rp1 rfl rfl ?_))))))))))
 exact ⟨_, rfl, (fun h => by cases h), hf⟩
theorem c85 {w : World} {h : HeadD} :
  Ret PP 85 [ag (headSegs h)] w (Grd w h.ok) := by
 have hf : Fr (fun _ => False) w w := Fr.refl _ _
 refine ret_of Tryz.func85 rfl rfl rfl [(0, _)] rfl ?_
 refine sreg (svK (xboxS (lens := [1, 1, 1, 1, 1, 1, 1, 1, 1, 1]) rfl rfl) ?_)
 rintro _ w2 ⟨b1, rfl, m3, h1, e1, s1⟩
 have hf := hf.s m3
 refine sA rfl (send (fbg 1 rfl fun _ => sreg (sv (xfld fl30_2 rfl) (sv (xld on22 rfl (h1.r.c 2 rfl rfl)) (svP (xlss rfl rfl) (fun hc5 => ?_) (fun hc5 => ?_))))))
 ·
  refine sM rfl (gyes rfl rfl rfl (sv (xfld fl30_9 rfl) (gyes rfl rfl rfl (sv (xld on22 rfl (h1.r.c 9 rfl rfl)) (gyes rfl rfl rfl (svP (xlss rfl rfl) (fun hc9 => ?_) (fun hc9 => ?_)))))))
  ·
   refine sv (xpickT rfl rfl) (sA rfl (send (fbg 2 rfl fun _ => wp_ret (rp1 rfl rfl ?_))))
   exact ⟨_, rfl, (fun _ => ⟨by omega, by omega⟩), hf⟩
  refine sv (xpickT rfl rfl) (sA rfl (send (fbg 2 rfl fun _ => wp_ret (rp1 rfl rfl ?_))))
  exact ⟨_, rfl, (fun h => by cases h), hf⟩
 refine sM rfl (gno rfl rfl rfl (gno rfl rfl rfl (gno rfl rfl rfl (sv (xpickF rfl rfl) (sA rfl (send (fbg 2 rfl fun _ => wp_ret (rp1 rfl rfl ?_))))))))
 exact ⟨_, rfl, (fun h => by cases h), hf⟩
theorem c83 {w : World} {U : Nat → Prop} (hU : ∀ k, U k → k < w.heap.size) {r : RecD} {vd vt vp : Value} (hd : BA U w vd r.data) (ht : LA TextEl [1] U w vt r.texts) (hp : LA PairEl lPair U w vp r.pairs) (hr : r.fits) :
  Ret PP 83 [ag (recSegs r vd vt vp)] w (Grd w (bodyOk r)) := by
 obtain ⟨at0, ct0, rfl⟩ := ht.form
 obtain ⟨ap0, cp0, rfl⟩ := hp.form
 obtain ⟨ad0, cd0, rfl, -⟩ := id hd
 have hr0 := hr
 have hrf := hr
 simp only [RecD.fits] at hr0
 have hbl := bodyL_fits hr
 have hf : Fr (fun _ => False) w w := Fr.refl _ _
 refine ret_of Tryz.func83 rfl rfl rfl [(0, _)] rfl ?_
 refine sreg (svK (xboxS (lens := lRec) rfl rfl) ?_)
 rintro _ w2 ⟨b1, rfl, m3, h1, e1, s1⟩
 refine sA rfl (send ((wp_seq (sreg (sv (xfld fl65_14 rfl) (sv (xld on62 rfl (h1.r.c 14 rfl rfl)) (sv (xlen sl62 rfl) (sM rfl (send (feg 1 6 7 8 rfl fun _ => wp_block (lp [(1, _), (6, _), (7, _)] (fun (k : Nat) => [(8, .int .i64 (k : Int))]) (fun (k : Nat) wx => Fr (fun _ => False) w2 wx ∧ (k ≤ r.texts.length) ∧ (r.kind = 7 → ∀ i (s : ByteArray), i < k → r.texts[i]? = some s → s.size ≤ 255)) (fun (k : Nat) => r.texts.length - k) 0 ⟨rfl, rfl, rfl, rfl, trivial⟩ ⟨Fr.refl _ _, Nat.zero_le _, fun _ => upto_zero⟩ ?_)))))))))))
 rintro k _ w5 ⟨hL4, hk, hT⟩
 refine feg 1 6 7 8 rfl fun _ => ?_
 have z6 := hL4.size
 have ht := (ht.keep text_st (lU hU (by omega)) m3 nF).keep text_st (lU hU (by omega)) hL4 nF
 have hf := (hf.s m3).s hL4
 have h1 := h1.k hL4
 refine sreg (svP (xlss rfl rfl) (fun hc9 => ?_) (fun hc9 => ?_))
 ·
  refine send ((wp_seq (cyes rfl (wp_skip (nThen (feg 1 6 7 8 rfl fun _ => wp_seq (wp_block ?_)))))))
  obtain ⟨t, htk⟩ := some_of_lt (by omega : k < r.texts.length)
  have htl := hr.2.2.2.2.2.1 _ (List.mem_of_getElem? htk)
  refine sreg ?_
  obtain ⟨bE10, oE10, sgE10, rfl, uE10, hsE10, heE10⟩ := LA.get ht htk
  obtain rfl := heE10
  have zE10 := hU _ uE10
  refine sv (xidx sl62 sz9 rfl rfl rfl (by omega)) (sv (xld on9 rfl (hsE10.c 0 rfl rfl)) (sA rfl (send (ffg 1 4 6 7 8 rfl fun _ => sreg (sv (xfld fl65_5 rfl) (sv (xld on3 rfl (h1.r.c 5 rfl rfl)) (svP (xeql rfl rfl) (fun hc14 => ?_) (fun hc14 => ?_))))))))
  ·
   refine sM rfl (gyes rfl rfl rfl (sM rfl (gyes rfl rfl rfl (sv (xlenS st9 rfl) (gyes rfl rfl rfl (svP (xgtr rfl rfl) (fun hc18 => ?_) (fun hc18 => ?_)))))))
   ·
    refine sv (xpickT rfl rfl) (send ((cyes rfl (sreg (sA rfl (send (fbg 2 rfl fun _ => wp_ret (rBlock (rThen (rThen (rBlock (rThen (rp1 rfl rfl ?_)))))))))))))
    exact ⟨_, rfl, (fun h => by cases h), hf⟩
   refine sv (xpickT rfl rfl) (send ((cno rfl (wp_skip (nBlock (nThen (feg 1 6 7 8 rfl fun _ => lreg (sv (xadd rfl rfl (w64 (by omega) (by omega))) (sM rfl (lend (nThen ?_)))))))))))
   refine ⟨k + 1, _, env_okl ⟨rfl, rfl, rfl, rfl, trivial⟩, ⟨hL4, (by omega), (fun h7 => upto_step (hT h7) htk (by omega))⟩, ?_⟩
   show r.texts.length - (k + 1) < r.texts.length - k; omega
  refine sM rfl (gno rfl rfl rfl (gno rfl rfl rfl (gno rfl rfl rfl (sv (xpickF rfl rfl) (send ((cno rfl (wp_skip (nBlock (nThen (feg 1 6 7 8 rfl fun _ => lreg (sv (xadd rfl rfl (w64 (by omega) (by omega))) (sM rfl (lend (nThen ?_)))))))))))))))
  refine ⟨k + 1, _, env_okl ⟨rfl, rfl, rfl, rfl, trivial⟩, ⟨hL4, (by omega), (fun h7 => upto_step (hT h7) htk (by omega))⟩, ?_⟩
  show r.texts.length - (k + 1) < r.texts.length - k; omega
 have hd := (hd.keep (lU hU (by omega)) m3 nF).keep (lU hU (by omega)) hL4 nF
 have hp := (hp.keep pair_st (lU hU (by omega)) m3 nF).keep pair_st (lU hU (by omega)) hL4 nF
 refine send ((wp_seq (cno rfl (wp_exit (eThen (eThen (eHit (nThen (fbg 1 rfl fun _ => wp_seq (sreg (sv (xfld fl65_5 rfl) (sv (xld on3 rfl (h1.r.c 5 rfl rfl)) (svP (xeql rfl rfl) (fun hc23 => ?_) (fun hc23 => ?_))))))))))))))
 ·
  refine sM rfl (gyes rfl rfl rfl (sv (xfld fl65_14 rfl) (gyes rfl rfl rfl (sv (xld on62 rfl (h1.r.c 14 rfl rfl)) (gyes rfl rfl rfl (sv (xlen sl62 rfl) (gyes rfl rfl rfl (svP (xeql rfl rfl) (fun hc28 => ?_) (fun hc28 => ?_)))))))))
  ·
   refine sv (xpickT rfl rfl) (sM rfl (gno rfl rfl rfl (gno rfl rfl rfl (gno rfl rfl rfl (gno rfl rfl rfl (gnu rfl rfl (gnu rfl rfl (gnu rfl rfl (gno rfl rfl rfl (gno rfl rfl rfl (gnu rfl rfl (gnu rfl rfl (gnu rfl rfl (gnu rfl rfl (gno rfl rfl rfl (sv (xpickT rfl rfl) (send ((cyes rfl (sreg (sA rfl (send (fbg 2 rfl fun _ => wp_ret (rThen (rp1 rfl rfl ?_)))))))))))))))))))))))))
   exact ⟨_, rfl, (fun h => by cases h), hf⟩
  refine sv (xpickT rfl rfl) (sM rfl (gyes rfl rfl rfl (sv (xfld fl65_5 rfl) (gyes rfl rfl rfl (sv (xld on3 rfl (h1.r.c 5 rfl rfl)) (gyes rfl rfl rfl (svP (xeql rfl rfl) (fun hc33 => ?_) (fun hc33 => ?_))))))))
  ·
   refine gyes rfl rfl rfl (sM rfl (gno rfl rfl rfl (gno rfl rfl rfl (gno rfl rfl rfl (gyes rfl rfl rfl (sv (xpickT rfl rfl) (gyes rfl rfl rfl (sM rfl (gyes rfl rfl rfl (sv (xfld fl65_15 rfl) (gyes rfl rfl rfl (sv (xld on63 rfl (h1.r.c 15 rfl rfl)) (gyes rfl rfl rfl (sc (xcall ca144 rfl) (c144 (lU hU (by omega)) hp (by omega)) ?_))))))))))))))
   rintro _ w7 ⟨gb42, rfl, gp42, m8⟩
   have z9 := m8.size
   have hf := hf.s m8
   rcases Bool.eq_false_or_eq_true gb42 with rfl | rfl
   rotate_left
   ·
    refine gyes rfl rfl rfl (sv (xnot rfl) (gyes rfl rfl rfl (sv (xpickT rfl rfl) (sv (xpickF rfl rfl) (send ((cyes rfl (sreg (sA rfl (send (fbg 2 rfl fun _ => wp_ret (rThen (rp1 rfl rfl ?_)))))))))))))
    exact ⟨_, rfl, (fun h => by cases h), hf⟩
   have h1 := h1.k m8
   refine gyes rfl rfl rfl (sv (xnot rfl) (gyes rfl rfl rfl (sv (xpickT rfl rfl) (sv (xpickF rfl rfl) (send ((cno rfl (wp_skip (nThen (fbg 1 rfl fun _ => sreg (sv (xldS (lens := lRec) ro65 rfl h1.r) (sc (xcall ca145 rfl) (c145 hr) ?_))))))))))))
   rintro _ w10 ⟨gb47, rfl, gp47, m11⟩
   have z12 := m11.size
   have hf := hf.s m11
   rcases Bool.eq_false_or_eq_true gb47 with rfl | rfl
   rotate_left
   ·
    refine sM rfl (gno rfl rfl rfl (gno rfl rfl rfl (gno rfl rfl rfl (gno rfl rfl rfl (sv (xpickF rfl rfl) (sA rfl (send (fbg 2 rfl fun _ => wp_ret (rp1 rfl rfl ?_)))))))))
    exact ⟨_, rfl, (fun h => by cases h), hf⟩
   have h1 := h1.k m11
   have hd := (hd.keep (lU hU (by omega)) m8 nF).keep (lU hU (by omega)) m11 nF
   have ht := (ht.keep text_st (lU hU (by omega)) m8 nF).keep text_st (lU hU (by omega)) m11 nF
   have hp := (hp.keep pair_st (lU hU (by omega)) m8 nF).keep pair_st (lU hU (by omega)) m11 nF
   refine sM rfl (gyes rfl rfl rfl (sv (xldS (lens := lRec) ro65 rfl h1.r) (gyes rfl rfl rfl (sc (xcall ca84 rfl) (c84 (lU hU (by omega)) hd ht hp hrf) ?_))))
   rintro _ w13 ⟨p50, q50, g50, rfl, r50, m14, a50, l50⟩
   have z15 := m14.size
   have hf := hf.s m14
   refine gyes rfl rfl rfl (sv (xlen sl37 rfl) (gyes rfl rfl rfl (svP (xlss rfl rfl) (fun hc52 => ?_) (fun hc52 => ?_))))
   ·
    refine sv (xpickT rfl rfl) (sA rfl (send (fbg 2 rfl fun _ => wp_ret (rp1 rfl rfl ?_))))
    refine ⟨_, rfl, (fun _ => ⟨fun h7 => ⟨fun h0 => ?_, upto_all (hT h7) (by omega)⟩, fun h11 => by first | exact gp42 rfl | omega, gp47 rfl⟩), hf⟩
    have h00 : r.texts.length = 0 := by rw [h0]; rfl
    omega
   refine sv (xpickT rfl rfl) (sA rfl (send (fbg 2 rfl fun _ => wp_ret (rp1 rfl rfl ?_))))
   exact ⟨_, rfl, (fun h => by cases h), hf⟩
  refine gyes rfl rfl rfl (sM rfl (gyes rfl rfl rfl (sv (xfld fl65_5 rfl) (gyes rfl rfl rfl (sv (xld on3 rfl (h1.r.c 5 rfl rfl)) (gyes rfl rfl rfl (svP (xeql rfl rfl) (fun hc37 => ?_) (fun hc37 => ?_))))))))
  ·
   refine gyes rfl rfl rfl (sv (xpickF rfl rfl) (gyes rfl rfl rfl (sM rfl (gyes rfl rfl rfl (sv (xfld fl65_15 rfl) (gyes rfl rfl rfl (sv (xld on63 rfl (h1.r.c 15 rfl rfl)) (gyes rfl rfl rfl (sc (xcall ca144 rfl) (c144 (lU hU (by omega)) hp (by omega)) ?_)))))))))
   rintro _ w16 ⟨gb42, rfl, gp42, m17⟩
   have z18 := m17.size
   have hf := hf.s m17
   rcases Bool.eq_false_or_eq_true gb42 with rfl | rfl
   rotate_left
   ·
    refine gyes rfl rfl rfl (sv (xnot rfl) (gyes rfl rfl rfl (sv (xpickT rfl rfl) (sv (xpickF rfl rfl) (send ((cyes rfl (sreg (sA rfl (send (fbg 2 rfl fun _ => wp_ret (rThen (rp1 rfl rfl ?_)))))))))))))
    exact ⟨_, rfl, (fun h => by cases h), hf⟩
   have h1 := h1.k m17
   refine gyes rfl rfl rfl (sv (xnot rfl) (gyes rfl rfl rfl (sv (xpickT rfl rfl) (sv (xpickF rfl rfl) (send ((cno rfl (wp_skip (nThen (fbg 1 rfl fun _ => sreg (sv (xldS (lens := lRec) ro65 rfl h1.r) (sc (xcall ca145 rfl) (c145 hr) ?_))))))))))))
   rintro _ w19 ⟨gb47, rfl, gp47, m20⟩
   have z21 := m20.size
   have hf := hf.s m20
   rcases Bool.eq_false_or_eq_true gb47 with rfl | rfl
   rotate_left
   ·
    refine sM rfl (gno rfl rfl rfl (gno rfl rfl rfl (gno rfl rfl rfl (gno rfl rfl rfl (sv (xpickF rfl rfl) (sA rfl (send (fbg 2 rfl fun _ => wp_ret (rp1 rfl rfl ?_)))))))))
    exact ⟨_, rfl, (fun h => by cases h), hf⟩
   have h1 := h1.k m20
   have hd := (hd.keep (lU hU (by omega)) m17 nF).keep (lU hU (by omega)) m20 nF
   have ht := (ht.keep text_st (lU hU (by omega)) m17 nF).keep text_st (lU hU (by omega)) m20 nF
   have hp := (hp.keep pair_st (lU hU (by omega)) m17 nF).keep pair_st (lU hU (by omega)) m20 nF
   refine sM rfl (gyes rfl rfl rfl (sv (xldS (lens := lRec) ro65 rfl h1.r) (gyes rfl rfl rfl (sc (xcall ca84 rfl) (c84 (lU hU (by omega)) hd ht hp hrf) ?_))))
   rintro _ w22 ⟨p50, q50, g50, rfl, r50, m23, a50, l50⟩
   have z24 := m23.size
   have hf := hf.s m23
   refine gyes rfl rfl rfl (sv (xlen sl37 rfl) (gyes rfl rfl rfl (svP (xlss rfl rfl) (fun hc52 => ?_) (fun hc52 => ?_))))
   ·
    refine sv (xpickT rfl rfl) (sA rfl (send (fbg 2 rfl fun _ => wp_ret (rp1 rfl rfl ?_))))
    refine ⟨_, rfl, (fun _ => ⟨fun h7 => ⟨fun h0 => ?_, upto_all (hT h7) (by omega)⟩, fun h11 => by first | exact gp42 rfl | omega, gp47 rfl⟩), hf⟩
    have h00 : r.texts.length = 0 := by rw [h0]; rfl
    omega
   refine sv (xpickT rfl rfl) (sA rfl (send (fbg 2 rfl fun _ => wp_ret (rp1 rfl rfl ?_))))
   exact ⟨_, rfl, (fun h => by cases h), hf⟩
  refine gyes rfl rfl rfl (sv (xpickF rfl rfl) (gyes rfl rfl rfl (sM rfl (gno rfl rfl rfl (gno rfl rfl rfl (gno rfl rfl rfl (gno rfl rfl rfl (gyes rfl rfl rfl (sv (xpickF rfl rfl) (sv (xpickF rfl rfl) (send ((cno rfl (wp_skip (nThen (fbg 1 rfl fun _ => sreg (sv (xldS (lens := lRec) ro65 rfl h1.r) (sc (xcall ca145 rfl) (c145 hr) ?_))))))))))))))))))
  rintro _ w25 ⟨gb47, rfl, gp47, m26⟩
  have z27 := m26.size
  have hf := hf.s m26
  rcases Bool.eq_false_or_eq_true gb47 with rfl | rfl
  rotate_left
  ·
   refine sM rfl (gno rfl rfl rfl (gno rfl rfl rfl (gno rfl rfl rfl (gno rfl rfl rfl (sv (xpickF rfl rfl) (sA rfl (send (fbg 2 rfl fun _ => wp_ret (rp1 rfl rfl ?_)))))))))
   exact ⟨_, rfl, (fun h => by cases h), hf⟩
  have h1 := h1.k m26
  have hd := hd.keep (lU hU (by omega)) m26 nF
  have ht := ht.keep text_st (lU hU (by omega)) m26 nF
  have hp := hp.keep pair_st (lU hU (by omega)) m26 nF
  refine sM rfl (gyes rfl rfl rfl (sv (xldS (lens := lRec) ro65 rfl h1.r) (gyes rfl rfl rfl (sc (xcall ca84 rfl) (c84 (lU hU (by omega)) hd ht hp hrf) ?_))))
  rintro _ w28 ⟨p50, q50, g50, rfl, r50, m29, a50, l50⟩
  have z30 := m29.size
  have hf := hf.s m29
  refine gyes rfl rfl rfl (sv (xlen sl37 rfl) (gyes rfl rfl rfl (svP (xlss rfl rfl) (fun hc52 => ?_) (fun hc52 => ?_))))
  ·
   refine sv (xpickT rfl rfl) (sA rfl (send (fbg 2 rfl fun _ => wp_ret (rp1 rfl rfl ?_))))
   refine ⟨_, rfl, (fun _ => ⟨fun h7 => ⟨fun h0 => ?_, upto_all (hT h7) (by omega)⟩, fun h11 => by first | exact gp42 rfl | omega, gp47 rfl⟩), hf⟩
   have h00 : r.texts.length = 0 := by rw [h0]; rfl
   omega
  refine sv (xpickT rfl rfl) (sA rfl (send (fbg 2 rfl fun _ => wp_ret (rp1 rfl rfl ?_))))
  exact ⟨_, rfl, (fun h => by cases h), hf⟩
 refine sM rfl (gno rfl rfl rfl (gno rfl rfl rfl (gno rfl rfl rfl (gno rfl rfl rfl (sv (xpickF rfl rfl) (sM rfl (gyes rfl rfl rfl (sv (xfld fl65_5 rfl) (gyes rfl rfl rfl (sv (xld on3 rfl (h1.r.c 5 rfl rfl)) (gyes rfl rfl rfl (svP (xeql rfl rfl) (fun hc33 => ?_) (fun hc33 => ?_)))))))))))))
 ·
  refine gyes rfl rfl rfl (sM rfl (gno rfl rfl rfl (gno rfl rfl rfl (gno rfl rfl rfl (gyes rfl rfl rfl (sv (xpickT rfl rfl) (gyes rfl rfl rfl (sM rfl (gyes rfl rfl rfl (sv (xfld fl65_15 rfl) (gyes rfl rfl rfl (sv (xld on63 rfl (h1.r.c 15 rfl rfl)) (gyes rfl rfl rfl (sc (xcall ca144 rfl) (c144 (lU hU (by omega)) hp (by omega)) ?_))))))))))))))
  rintro _ w31 ⟨gb42, rfl, gp42, m32⟩
  have z33 := m32.size
  have hf := hf.s m32
  rcases Bool.eq_false_or_eq_true gb42 with rfl | rfl
  rotate_left
  ·
   refine gyes rfl rfl rfl (sv (xnot rfl) (gyes rfl rfl rfl (sv (xpickT rfl rfl) (sv (xpickF rfl rfl) (send ((cyes rfl (sreg (sA rfl (send (fbg 2 rfl fun _ => wp_ret (rThen (rp1 rfl rfl ?_)))))))))))))
   exact ⟨_, rfl, (fun h => by cases h), hf⟩
  have h1 := h1.k m32
  refine gyes rfl rfl rfl (sv (xnot rfl) (gyes rfl rfl rfl (sv (xpickT rfl rfl) (sv (xpickF rfl rfl) (send ((cno rfl (wp_skip (nThen (fbg 1 rfl fun _ => sreg (sv (xldS (lens := lRec) ro65 rfl h1.r) (sc (xcall ca145 rfl) (c145 hr) ?_))))))))))))
  rintro _ w34 ⟨gb47, rfl, gp47, m35⟩
  have z36 := m35.size
  have hf := hf.s m35
  rcases Bool.eq_false_or_eq_true gb47 with rfl | rfl
  rotate_left
  ·
   refine sM rfl (gno rfl rfl rfl (gno rfl rfl rfl (gno rfl rfl rfl (gno rfl rfl rfl (sv (xpickF rfl rfl) (sA rfl (send (fbg 2 rfl fun _ => wp_ret (rp1 rfl rfl ?_)))))))))
   exact ⟨_, rfl, (fun h => by cases h), hf⟩
  have h1 := h1.k m35
  have hd := (hd.keep (lU hU (by omega)) m32 nF).keep (lU hU (by omega)) m35 nF
  have ht := (ht.keep text_st (lU hU (by omega)) m32 nF).keep text_st (lU hU (by omega)) m35 nF
  have hp := (hp.keep pair_st (lU hU (by omega)) m32 nF).keep pair_st (lU hU (by omega)) m35 nF
  refine sM rfl (gyes rfl rfl rfl (sv (xldS (lens := lRec) ro65 rfl h1.r) (gyes rfl rfl rfl (sc (xcall ca84 rfl) (c84 (lU hU (by omega)) hd ht hp hrf) ?_))))
  rintro _ w37 ⟨p50, q50, g50, rfl, r50, m38, a50, l50⟩
  have z39 := m38.size
  have hf := hf.s m38
  refine gyes rfl rfl rfl (sv (xlen sl37 rfl) (gyes rfl rfl rfl (svP (xlss rfl rfl) (fun hc52 => ?_) (fun hc52 => ?_))))
  ·
   refine sv (xpickT rfl rfl) (sA rfl (send (fbg 2 rfl fun _ => wp_ret (rp1 rfl rfl ?_))))
   refine ⟨_, rfl, (fun _ => ⟨fun h7 => ⟨fun h0 => ?_, upto_all (hT h7) (by omega)⟩, fun h11 => by first | exact gp42 rfl | omega, gp47 rfl⟩), hf⟩
   have h00 : r.texts.length = 0 := by rw [h0]; rfl
   omega
  refine sv (xpickT rfl rfl) (sA rfl (send (fbg 2 rfl fun _ => wp_ret (rp1 rfl rfl ?_))))
  exact ⟨_, rfl, (fun h => by cases h), hf⟩
 refine gyes rfl rfl rfl (sM rfl (gyes rfl rfl rfl (sv (xfld fl65_5 rfl) (gyes rfl rfl rfl (sv (xld on3 rfl (h1.r.c 5 rfl rfl)) (gyes rfl rfl rfl (svP (xeql rfl rfl) (fun hc37 => ?_) (fun hc37 => ?_))))))))
 ·
  refine gyes rfl rfl rfl (sv (xpickF rfl rfl) (gyes rfl rfl rfl (sM rfl (gyes rfl rfl rfl (sv (xfld fl65_15 rfl) (gyes rfl rfl rfl (sv (xld on63 rfl (h1.r.c 15 rfl rfl)) (gyes rfl rfl rfl (sc (xcall ca144 rfl) (c144 (lU hU (by omega)) hp (by omega)) ?_)))))))))
  rintro _ w40 ⟨gb42, rfl, gp42, m41⟩
  have z42 := m41.size
  have hf := hf.s m41
  rcases Bool.eq_false_or_eq_true gb42 with rfl | rfl
  rotate_left
  ·
   refine gyes rfl rfl rfl (sv (xnot rfl) (gyes rfl rfl rfl (sv (xpickT rfl rfl) (sv (xpickF rfl rfl) (send ((cyes rfl (sreg (sA rfl (send (fbg 2 rfl fun _ => wp_ret (rThen (rp1 rfl rfl ?_)))))))))))))
   exact ⟨_, rfl, (fun h => by cases h), hf⟩
  have h1 := h1.k m41
  refine gyes rfl rfl rfl (sv (xnot rfl) (gyes rfl rfl rfl (sv (xpickT rfl rfl) (sv (xpickF rfl rfl) (send ((cno rfl (wp_skip (nThen (fbg 1 rfl fun _ => sreg (sv (xldS (lens := lRec) ro65 rfl h1.r) (sc (xcall ca145 rfl) (c145 hr) ?_))))))))))))
  rintro _ w43 ⟨gb47, rfl, gp47, m44⟩
  have z45 := m44.size
  have hf := hf.s m44
  rcases Bool.eq_false_or_eq_true gb47 with rfl | rfl
  rotate_left
  ·
   refine sM rfl (gno rfl rfl rfl (gno rfl rfl rfl (gno rfl rfl rfl (gno rfl rfl rfl (sv (xpickF rfl rfl) (sA rfl (send (fbg 2 rfl fun _ => wp_ret (rp1 rfl rfl ?_)))))))))
   exact ⟨_, rfl, (fun h => by cases h), hf⟩
  have h1 := h1.k m44
  have hd := (hd.keep (lU hU (by omega)) m41 nF).keep (lU hU (by omega)) m44 nF
  have ht := (ht.keep text_st (lU hU (by omega)) m41 nF).keep text_st (lU hU (by omega)) m44 nF
  have hp := (hp.keep pair_st (lU hU (by omega)) m41 nF).keep pair_st (lU hU (by omega)) m44 nF
  refine sM rfl (gyes rfl rfl rfl (sv (xldS (lens := lRec) ro65 rfl h1.r) (gyes rfl rfl rfl (sc (xcall ca84 rfl) (c84 (lU hU (by omega)) hd ht hp hrf) ?_))))
  rintro _ w46 ⟨p50, q50, g50, rfl, r50, m47, a50, l50⟩
  have z48 := m47.size
  have hf := hf.s m47
  refine gyes rfl rfl rfl (sv (xlen sl37 rfl) (gyes rfl rfl rfl (svP (xlss rfl rfl) (fun hc52 => ?_) (fun hc52 => ?_))))
  ·
   refine sv (xpickT rfl rfl) (sA rfl (send (fbg 2 rfl fun _ => wp_ret (rp1 rfl rfl ?_))))
   refine ⟨_, rfl, (fun _ => ⟨fun h7 => ⟨fun h0 => ?_, upto_all (hT h7) (by omega)⟩, fun h11 => by first | exact gp42 rfl | omega, gp47 rfl⟩), hf⟩
   have h00 : r.texts.length = 0 := by rw [h0]; rfl
   omega
  refine sv (xpickT rfl rfl) (sA rfl (send (fbg 2 rfl fun _ => wp_ret (rp1 rfl rfl ?_))))
  exact ⟨_, rfl, (fun h => by cases h), hf⟩
 refine gyes rfl rfl rfl (sv (xpickF rfl rfl) (gyes rfl rfl rfl (sM rfl (gno rfl rfl rfl (gno rfl rfl rfl (gno rfl rfl rfl (gno rfl rfl rfl (gyes rfl rfl rfl (sv (xpickF rfl rfl) (sv (xpickF rfl rfl) (send ((cno rfl (wp_skip (nThen (fbg 1 rfl fun _ => sreg (sv (xldS (lens := lRec) ro65 rfl h1.r) (sc (xcall ca145 rfl) (c145 hr) ?_))))))))))))))))))
 rintro _ w49 ⟨gb47, rfl, gp47, m50⟩
 have z51 := m50.size
 have hf := hf.s m50
 rcases Bool.eq_false_or_eq_true gb47 with rfl | rfl
 rotate_left
 ·
  refine sM rfl (gno rfl rfl rfl (gno rfl rfl rfl (gno rfl rfl rfl (gno rfl rfl rfl (sv (xpickF rfl rfl) (sA rfl (send (fbg 2 rfl fun _ => wp_ret (rp1 rfl rfl ?_)))))))))
  exact ⟨_, rfl, (fun h => by cases h), hf⟩
 have h1 := h1.k m50
 have hd := hd.keep (lU hU (by omega)) m50 nF
 have ht := ht.keep text_st (lU hU (by omega)) m50 nF
 have hp := hp.keep pair_st (lU hU (by omega)) m50 nF
 refine sM rfl (gyes rfl rfl rfl (sv (xldS (lens := lRec) ro65 rfl h1.r) (gyes rfl rfl rfl (sc (xcall ca84 rfl) (c84 (lU hU (by omega)) hd ht hp hrf) ?_))))
 rintro _ w52 ⟨p50, q50, g50, rfl, r50, m53, a50, l50⟩
 have z54 := m53.size
 have hf := hf.s m53
 refine gyes rfl rfl rfl (sv (xlen sl37 rfl) (gyes rfl rfl rfl (svP (xlss rfl rfl) (fun hc52 => ?_) (fun hc52 => ?_))))
 ·
  refine sv (xpickT rfl rfl) (sA rfl (send (fbg 2 rfl fun _ => wp_ret (rp1 rfl rfl ?_))))
  refine ⟨_, rfl, (fun _ => ⟨fun h7 => ⟨fun h0 => ?_, upto_all (hT h7) (by omega)⟩, fun h11 => by first | exact gp42 rfl | omega, gp47 rfl⟩), hf⟩
  have h00 : r.texts.length = 0 := by rw [h0]; rfl
  omega
 refine sv (xpickT rfl rfl) (sA rfl (send (fbg 2 rfl fun _ => wp_ret (rp1 rfl rfl ?_))))
 exact ⟨_, rfl, (fun h => by cases h), hf⟩
end Go.Proofs.YtifnodoffgfpbaaGreatDoor

namespace Go.Proofs.YtifnodoffgfpbaaGreatDoor
open Go
theorem c33 {w : World} {U : Nat → Prop} (hU : ∀ k, U k → k < w.heap.size) {m : MsgD} {va v1 v2 v3 : Value} (ha : LA AskEl lAsk U w va m.asks) (y1 : LA RecEl lRec U w v1 m.one) (y2 : LA RecEl lRec U w v2 m.two) (y3 : LA RecEl lRec U w v3 m.three) (hfa : ∀ a ∈ m.asks, a.name.size ≤ 1048576) (hfr : ∀ l ∈ [m.one, m.two, m.three], ∀ r ∈ l, r.fits) (hct : m.asks.length + m.one.length + m.two.length + m.three.length ≤ 40) :
  Ret PP 33 [ag (msgSegs m.head va v1 v2 v3)] w (Grd w (okM m)) := by
 have hls : All2 (LA RecEl lRec U w) [v1, v2, v3] [m.one, m.two, m.three] := All2.cons y1 (All2.cons y2 (All2.cons y3 All2.nil))
 obtain ⟨aa, ca, rfl⟩ := ha.form
 obtain ⟨a1, c1, rfl⟩ := y1.form
 obtain ⟨a2, c2, rfl⟩ := y2.form
 obtain ⟨a3, c3, rfl⟩ := y3.form
 have hf : Fr (fun _ => False) w w := Fr.refl _ _
 refine ret_of Tryz.func33 rfl rfl rfl [(0, _)] rfl ?_
 refine sreg (svK (xboxS (lens := lMsg) rfl rfl) ?_)
 rintro _ w2 ⟨b1, rfl, m3, h1, e1, s1⟩
 refine sA rfl (send ((sreg (sA rfl (send ((wp_seq (sreg (sv (xfld fl34_1 rfl) (sv (xld on31 rfl (h1.r.c 10 rfl rfl)) (sv (xlen sl31 rfl) (sM rfl (send (ffg 1 3 11 12 13 rfl fun _ => wp_block (lp [(1, _), (3, _), (11, _), (12, _)] (fun (k : Nat) => [(13, .int .i64 (k : Int))]) (fun (k : Nat) wx => Fr (fun _ => False) w2 wx ∧ (k ≤ m.asks.length) ∧ (∀ i (a : AskD), i < k → m.asks[i]? = some a → nameOk a.name = true)) (fun (k : Nat) => m.asks.length - k) 0 ⟨rfl, rfl, rfl, rfl, rfl, trivial⟩ ⟨Fr.refl _ _, Nat.zero_le _, upto_zero⟩ ?_)))))))))))))))
 rintro k _ w5 ⟨hL4, hk, hT⟩
 refine ffg 1 3 11 12 13 rfl fun _ => ?_
 have z6 := hL4.size
 have hf := (hf.s m3).s hL4
 have h1 := h1.k hL4
 refine sreg (svP (xlss rfl rfl) (fun hc14 => ?_) (fun hc14 => ?_))
 ·
  refine send ((wp_seq (cyes rfl (wp_skip (nThen (ffg 1 3 11 12 13 rfl fun _ => wp_seq (wp_block ?_)))))))
  obtain ⟨a, hak⟩ := some_of_lt (by omega : k < m.asks.length)
  have hal := hfa _ (List.mem_of_getElem? hak)
  have ha := (ha.keep ask_st (lU hU (by omega)) m3 nF).keep ask_st (lU hU (by omega)) hL4 nF
  refine sreg ?_
  obtain ⟨bE15, oE15, sgE15, rfl, uE15, hsE15, heE15⟩ := LA.get ha hak
  obtain rfl := heE15
  have zE15 := hU _ uE15
  refine sv (xidx sl31 sz59 rfl rfl rfl (by omega)) (sv (xldS (lens := [1, 1, 1]) ro59 rfl hsE15) (svK (xallS (lens := [1, 1, 1]) in59 rfl) ?_))
  rintro _ w8 ⟨b5, rfl, m9, h5, e7, s7⟩
  refine suK (xstW h5 (lens' := [1, 1, 1]) sz59 rfl rfl rfl rfl rfl) ?_
  rintro w11 ⟨m12, h5, s10⟩
  refine send (fgg 1 3 5 11 12 13 rfl fun _ => sreg (sv (xfld fl59_0 rfl) (sv (xld on9 rfl (h5.r.c 0 rfl rfl)) (sc (xcall ca82 rfl) (c82 (by omega)) ?_))))
  rintro _ w13 ⟨gb19, rfl, gp19, m14⟩
  have z15 := m14.size
  rcases Bool.eq_false_or_eq_true gb19 with rfl | rfl
  ·
   have hL4 := ((hL4.s m9).t m12 (by omega)).s m14
   refine sv (xnot rfl) (send ((cno rfl (wp_skip (nBlock (nThen (ffg 1 3 11 12 13 rfl fun _ => lreg (sv (xadd rfl rfl (w64 (by omega) (by omega))) (sM rfl (lend (nThen ?_)))))))))))
   refine ⟨k + 1, _, env_okl ⟨rfl, rfl, rfl, rfl, rfl, trivial⟩, ⟨hL4, (by omega), (upto_step hT hak (gp19 rfl))⟩, ?_⟩
   show m.asks.length - (k + 1) < m.asks.length - k; omega
  have hf := ((hf.s m9).t m12 (by omega)).s m14
  refine sv (xnot rfl) (send ((cyes rfl (sreg (sA rfl (send (fbg 2 rfl fun _ => wp_ret (rBlock (rThen (rThen (rBlock (rThen (rp1 rfl rfl ?_)))))))))))))
  exact ⟨_, rfl, (fun h => by cases h), hf⟩
 refine send ((wp_seq (cno rfl (wp_exit (eThen (eThen (eHit (nThen (fcg 1 3 rfl fun _ => wp_seq (sreg (sv (xfld fl34_2 rfl) (sv (xld on32 rfl (h1.r.c 11 rfl rfl)) (sv (xfld fl34_3 rfl) (sv (xld on32 rfl (h1.r.c 12 rfl rfl)) (sv (xfld fl34_4 rfl) (sv (xld on32 rfl (h1.r.c 13 rfl rfl)) (svK (xslit ([.slice a1 m.one.length c1, .slice a2 m.two.length c2, .slice a3 m.three.length c3]) sl60 in32 rfl (by decide) rfl rfl rfl rfl (by decide) rfl rfl) ?_)))))))))))))))))
 rintro _ w17 ⟨b28, rfl, m18, h28, e28, s28, r28⟩
 refine sv (xlen sl60 rfl) (sM rfl (send (ffg 1 3 28 29 30 rfl fun _ => wp_block (lp [(1, _), (28, _), (29, _)] (fun (x : Nat × Nat) => match x with | (i, s) => [(3, .int .i64 (s : Int)), (30, .int .i64 (i : Int))]) (fun (x : Nat × Nat) wx => match x with | (i, s) => Fr (fun _ => False) w17 wx ∧ (i ≤ 3) ∧ (∀ j (l : List RecD), j < i → [m.one, m.two, m.three][j]? = some l → ∀ r ∈ l, goodR r) ∧ (s ≤ 10000000 * (([m.one, m.two, m.three].take i).map List.length).sum)) (fun (x : Nat × Nat) => match x with | (i, s) => 3 - i) (0, 0) ⟨rfl, rfl, rfl, rfl, rfl, trivial⟩ ⟨Fr.refl _ _, Nat.zero_le _, upto_zero, Nat.zero_le _⟩ ?_))))
 rintro ⟨i, s⟩ _ w20 ⟨hL19, hi, hO, hs⟩
 refine ffg 1 3 28 29 30 rfl fun _ => ?_
 have z21 := hL19.size
 have hf := (hf.s m18).s hL19
 have h1 := (h1.k m18).k hL19
 refine sreg (svP (xlss rfl rfl) (fun hc31 => ?_) (fun hc31 => ?_))
 rotate_left
 ·
  refine send ((wp_seq (cno rfl (wp_exit (eThen (eThen (eHit (nThen (fcg 1 3 rfl fun _ => sreg (sv (xfld fl34_0 rfl) (sv (xldS (lens := [1, 1, 1, 1, 1, 1, 1, 1, 1, 1]) ro30 rfl (h1.r.sub 0 10 rfl)) (sc (xcall ca85 rfl) (c85 (h := m.head)) ?_))))))))))))
  rintro _ w40 ⟨gb58, rfl, gp58, m41⟩
  have z42 := m41.size
  have hf := hf.s m41
  rcases Bool.eq_false_or_eq_true gb58 with rfl | rfl
  rotate_left
  ·
   refine sM rfl (gno rfl rfl rfl (gno rfl rfl rfl (gno rfl rfl rfl (gno rfl rfl rfl (sv (xpickF rfl rfl) (sM rfl (gno rfl rfl rfl (gno rfl rfl rfl (gno rfl rfl rfl (gno rfl rfl rfl (sv (xpickF rfl rfl) (sM rfl (gno rfl rfl rfl (gno rfl rfl rfl (gno rfl rfl rfl (gno rfl rfl rfl (sv (xpickF rfl rfl) (sM rfl (gno rfl rfl rfl (gno rfl rfl rfl (gno rfl rfl rfl (gno rfl rfl rfl (sv (xpickF rfl rfl) (sM rfl (gno rfl rfl rfl (gno rfl rfl rfl (sv (xpickF rfl rfl) (sA rfl (send (fbg 2 rfl fun _ => wp_ret (rp1 rfl rfl ?_)))))))))))))))))))))))))))))))
   exact ⟨_, rfl, (fun h => by cases h), hf⟩
  have h1 := h1.k m41
  refine sM rfl (gyes rfl rfl rfl (sv (xfld fl34_1 rfl) (gyes rfl rfl rfl (sv (xld on31 rfl (h1.r.c 10 rfl rfl)) (gyes rfl rfl rfl (sv (xlen sl31 rfl) (gyes rfl rfl rfl (svP (xlss rfl rfl) (fun hc63 => ?_) (fun hc63 => ?_)))))))))
  ·
   refine sv (xpickT rfl rfl) (sM rfl (gyes rfl rfl rfl (sv (xfld fl34_2 rfl) (gyes rfl rfl rfl (sv (xld on32 rfl (h1.r.c 11 rfl rfl)) (gyes rfl rfl rfl (sv (xlen sl32 rfl) (gyes rfl rfl rfl (svP (xlss rfl rfl) (fun hc69 => ?_) (fun hc69 => ?_))))))))))
   ·
    refine sv (xpickT rfl rfl) (sM rfl (gyes rfl rfl rfl (sv (xfld fl34_3 rfl) (gyes rfl rfl rfl (sv (xld on32 rfl (h1.r.c 12 rfl rfl)) (gyes rfl rfl rfl (sv (xlen sl32 rfl) (gyes rfl rfl rfl (svP (xlss rfl rfl) (fun hc75 => ?_) (fun hc75 => ?_))))))))))
    ·
     refine sv (xpickT rfl rfl) (sM rfl (gyes rfl rfl rfl (sv (xfld fl34_4 rfl) (gyes rfl rfl rfl (sv (xld on32 rfl (h1.r.c 13 rfl rfl)) (gyes rfl rfl rfl (sv (xlen sl32 rfl) (gyes rfl rfl rfl (svP (xlss rfl rfl) (fun hc81 => ?_) (fun hc81 => ?_))))))))))
     ·
      refine sv (xpickT rfl rfl) (sM rfl (gyes rfl rfl rfl (sM rfl (gyes rfl rfl rfl (svP (xlss rfl rfl) (fun hc85 => ?_) (fun hc85 => ?_))))))
      ·
       refine sv (xpickT rfl rfl) (sA rfl (send (fbg 2 rfl fun _ => wp_ret (rp1 rfl rfl ?_))))
       exact ⟨_, rfl, (fun _ => ⟨upto_all hT (by omega), upto_all hO (by simp; omega), gp58 rfl⟩), hf⟩
      refine sv (xpickT rfl rfl) (sA rfl (send (fbg 2 rfl fun _ => wp_ret (rp1 rfl rfl ?_))))
      exact ⟨_, rfl, (fun h => by cases h), hf⟩
     refine sv (xpickT rfl rfl) (sM rfl (gno rfl rfl rfl (gno rfl rfl rfl (sv (xpickF rfl rfl) (sA rfl (send (fbg 2 rfl fun _ => wp_ret (rp1 rfl rfl ?_))))))))
     exact ⟨_, rfl, (fun h => by cases h), hf⟩
    refine sv (xpickT rfl rfl) (sM rfl (gno rfl rfl rfl (gno rfl rfl rfl (gno rfl rfl rfl (gno rfl rfl rfl (sv (xpickF rfl rfl) (sM rfl (gno rfl rfl rfl (gno rfl rfl rfl (sv (xpickF rfl rfl) (sA rfl (send (fbg 2 rfl fun _ => wp_ret (rp1 rfl rfl ?_))))))))))))))
    exact ⟨_, rfl, (fun h => by cases h), hf⟩
   refine sv (xpickT rfl rfl) (sM rfl (gno rfl rfl rfl (gno rfl rfl rfl (gno rfl rfl rfl (gno rfl rfl rfl (sv (xpickF rfl rfl) (sM rfl (gno rfl rfl rfl (gno rfl rfl rfl (gno rfl rfl rfl (gno rfl rfl rfl (sv (xpickF rfl rfl) (sM rfl (gno rfl rfl rfl (gno rfl rfl rfl (sv (xpickF rfl rfl) (sA rfl (send (fbg 2 rfl fun _ => wp_ret (rp1 rfl rfl ?_))))))))))))))))))))
   exact ⟨_, rfl, (fun h => by cases h), hf⟩
  refine sv (xpickT rfl rfl) (sM rfl (gno rfl rfl rfl (gno rfl rfl rfl (gno rfl rfl rfl (gno rfl rfl rfl (sv (xpickF rfl rfl) (sM rfl (gno rfl rfl rfl (gno rfl rfl rfl (gno rfl rfl rfl (gno rfl rfl rfl (sv (xpickF rfl rfl) (sM rfl (gno rfl rfl rfl (gno rfl rfl rfl (gno rfl rfl rfl (gno rfl rfl rfl (sv (xpickF rfl rfl) (sM rfl (gno rfl rfl rfl (gno rfl rfl rfl (sv (xpickF rfl rfl) (sA rfl (send (fbg 2 rfl fun _ => wp_ret ?_)))))))))))))))))))))))))
  refine rp1 rfl rfl ?_
  exact ⟨_, rfl, (fun h => by cases h), hf⟩
 refine send ((wp_seq (cyes rfl (wp_skip (nThen (ffg 1 3 28 29 30 rfl fun _ => wp_seq (wp_block (sreg ?_))))))))
 obtain ⟨u, l, hu, hul, hL⟩ := hls.get (k := i) (by simp; omega)
 have hlm : l ∈ [m.one, m.two, m.three] := List.mem_of_getElem? hul
 have hcs := sum_take_le (f := List.length) hul
 simp only [List.map_cons, List.map_nil, List.sum_cons, List.sum_nil] at hcs
 have hL := hL.keep rec_st hU hf nF
 obtain ⟨au, cu, rfl⟩ := hL.form
 have r28 := r28.k hL19
 refine sv (xidx1 sl60 sz32 rfl rfl rfl (by omega)) (sv (xld on32 rfl (Rw.rng r28 i _ hu)) (sA rfl (send ((sreg (sM rfl (sv (xlen sl32 rfl) (sM rfl (send (fig 1 3 28 29 30 34 35 36 rfl fun _ => wp_block (lp [(1, _), (28, _), (29, _), (30, _), (34, _), (35, _)] (fun (x : Nat × Nat) => match x with | (k, s2) => [(3, .int .i64 (s2 : Int)), (36, .int .i64 (k : Int))]) (fun (x : Nat × Nat) wx => match x with | (k, s2) => Fr (fun _ => False) w20 wx ∧ (k ≤ l.length) ∧ (∀ j (r : RecD), j < k → l[j]? = some r → goodR r) ∧ (s2 ≤ 10000000 * ((([m.one, m.two, m.three].take i).map List.length).sum + k))) (fun (x : Nat × Nat) => match x with | (k, s2) => l.length - k) (0, s) ⟨rfl, rfl, rfl, rfl, rfl, rfl, rfl, rfl, trivial⟩ ⟨Fr.refl _ _, Nat.zero_le _, upto_zero, hs⟩ ?_)))))))))))
 rintro ⟨k, s2⟩ _ w23 ⟨hL22, hk, hI, hs2⟩
 refine fig 1 3 28 29 30 34 35 36 rfl fun _ => ?_
 have z24 := hL22.size
 have hL19 := hL19.s hL22
 refine sreg (svP (xlss rfl rfl) (fun hc37 => ?_) (fun hc37 => ?_))
 rotate_left
 ·
  refine send ((wp_seq (cno rfl (wp_exit (eThen (eThen (eHit (nBlock (nThen (ffg 1 3 28 29 30 rfl fun _ => lreg (sv (xadd rfl rfl (w64 (by omega) (by omega))) (sM rfl (lend (nThen ?_))))))))))))))
  refine ⟨(i + 1, s2), _, env_okl ⟨rfl, rfl, rfl, rfl, rfl, trivial⟩, ⟨hL19, (by omega), (upto_step hO hul (upto_all hI (by omega))), (by rw [sum_take_add hul]; omega)⟩, ?_⟩
  show 3 - (i + 1) < 3 - i; omega
 refine send ((wp_seq (cyes rfl (wp_skip (nThen (fig 1 3 28 29 30 34 35 36 rfl fun _ => wp_seq (wp_block ?_)))))))
 obtain ⟨r, hrk⟩ := some_of_lt (by omega : k < l.length)
 have hrf := hfr l hlm r (List.mem_of_getElem? hrk)
 have hrf0 := hrf
 simp only [RecD.fits] at hrf0
 have hbl := bodyL_fits hrf
 have hL := hL.keep rec_st (lU hU (by omega)) hL22 nF
 refine sreg ?_
 obtain ⟨bE38, oE38, sgE38, rfl, uE38, hsE38, heE38⟩ := LA.get hL hrk
 obtain ⟨vd, vt, vp, rfl, hd, ht, hp⟩ := heE38
 have zE38 := hU _ uE38
 obtain ⟨ad, cd, rfl, -⟩ := id hd
 obtain ⟨at1, ct1, rfl⟩ := ht.form
 obtain ⟨ap1, cp1, rfl⟩ := hp.form
 refine sv (xidx sl32 sz65 rfl rfl rfl (by omega)) (sv (xldS (lens := lRec) ro65 rfl hsE38) (svK (xallS (lens := lRec) in65 rfl) ?_))
 rintro _ w26 ⟨b9, rfl, m27, h9, e25, s25⟩
 refine suK (xstW h9 (lens' := lRec) sz65 rfl rfl rfl rfl rfl) ?_
 rintro w29 ⟨m30, h9, s28⟩
 refine send (fjg 1 3 9 28 29 30 34 35 36 rfl fun _ => wp_seq (sreg (sv (xfld fl65_0 rfl) (sv (xld on9 rfl (h9.r.c 0 rfl rfl)) (sc (xcall ca82 rfl) (c82 (by omega)) ?_)))))
 rintro _ w31 ⟨gb42, rfl, gp42, m32⟩
 have z33 := m32.size
 have hf := (((hf.s hL22).s m27).t m30 (by omega)).s m32
 rcases Bool.eq_false_or_eq_true gb42 with rfl | rfl
 rotate_left
 ·
  refine sv (xnot rfl) (sM rfl (gno rfl rfl rfl (gno rfl rfl rfl (gno rfl rfl rfl (sv (xpickT rfl rfl) (send ((cyes rfl (sreg (sA rfl (send (fbg 2 rfl fun _ => wp_ret (rThen (rBlock (rThen (rThen (rBlock (rBlock (rThen (rThen (rBlock (rThen (rp1 rfl rfl ?_)))))))))))))))))))))))
  exact ⟨_, rfl, (fun h => by cases h), hf⟩
 have h9 := h9.k m32
 have hd := ((hd.keep (lU hU (by omega)) m27 nF).keep (lU hU (by omega)) m30 (nU hU (by omega))).keep (lU hU (by omega)) m32 nF
 have ht := ((ht.keep text_st (lU hU (by omega)) m27 nF).keep text_st (lU hU (by omega)) m30 (nU hU (by omega))).keep text_st (lU hU (by omega)) m32 nF
 have hp := ((hp.keep pair_st (lU hU (by omega)) m27 nF).keep pair_st (lU hU (by omega)) m30 (nU hU (by omega))).keep pair_st (lU hU (by omega)) m32 nF
 refine sv (xnot rfl) (sM rfl (gyes rfl rfl rfl (sv (xldS (lens := lRec) ro65 rfl h9.r) (gyes rfl rfl rfl (sc (xcall ca83 rfl) (c83 (lU hU (by omega)) hd ht hp hrf) ?_)))))
 rintro _ w34 ⟨gb46, rfl, gp46, m35⟩
 have z36 := m35.size
 have hf := hf.s m35
 rcases Bool.eq_false_or_eq_true gb46 with rfl | rfl
 ·
  have h9 := h9.k m35
  have hd := hd.keep (lU hU (by omega)) m35 nF
  have ht := ht.keep text_st (lU hU (by omega)) m35 nF
  have hp := hp.keep pair_st (lU hU (by omega)) m35 nF
  refine gyes rfl rfl rfl (sv (xnot rfl) (sv (xpickF rfl rfl) (send ((cno rfl (wp_skip (nThen (fjg 1 3 9 28 29 30 34 35 36 rfl fun _ => lreg (sM rfl (sv (xldS (lens := lRec) ro65 rfl h9.r) (sc (xcall ca84 rfl) (c84 (lU hU (by omega)) hd ht hp hrf) ?_)))))))))))
  rintro _ w37 ⟨p51, q51, g51, rfl, r51, m38, a51, l51⟩
  have z39 := m38.size
  have h1 := (((((h1.k hL22).k m27).keep m30 (nE (by omega))).k m32).k m35).k m38
  have hL22 := ((((hL22.s m27).t m30 (by omega)).s m32).s m35).s m38
  refine sv (xlen sl37 rfl) (sv (xadd rfl rfl (w64 (by omega) (by omega))) (sA rfl (lend (nBlock (nThen (fig 1 3 28 29 30 34 35 36 rfl fun _ => lreg (sv (xadd rfl rfl (w64 (by omega) (by omega))) (sM rfl (lend (nThen ?_))))))))))
  refine ⟨(k + 1, s2 + (bodyL r).length), _, env_okl ⟨rfl, rfl, rfl, rfl, rfl, rfl, rfl, rfl, trivial⟩, ⟨hL22, (by omega), (upto_step hI hrk ⟨gp42 rfl, gp46 rfl⟩), (by omega)⟩, ?_⟩
  show l.length - (k + 1) < l.length - k; omega
 refine gyes rfl rfl rfl (sv (xnot rfl) (sv (xpickF rfl rfl) (send ((cyes rfl (sreg (sA rfl (send (fbg 2 rfl fun _ => wp_ret (rThen (rBlock (rThen (rThen (rBlock (rBlock (rThen (rThen (rBlock (rThen (rp1 rfl rfl ?_))))))))))))))))))))
 exact ⟨_, rfl, (fun h => by cases h), hf⟩
end Go.Proofs.YtifnodoffgfpbaaGreatDoor

namespace Go.Proofs.YtifnodoffgfpbaaGreatDoor
open Go

def fewM (m : MsgD) : Prop := m.asks.length + m.one.length + m.two.length + m.three.length ≤ 40 ∧ (∀ l ∈ [m.one, m.two, m.three], ∀ r ∈ l, smallR r) ∧ okM m

theorem c14 {w : World} {U : Nat → Prop} (hU : ∀ k, U k → k < w.heap.size) {m : MsgD} {va v1 v2 v3 : Value} (ha : LA AskEl lAsk U w va m.asks) (y1 : LA RecEl lRec U w v1 m.one) (y2 : LA RecEl lRec U w v2 m.two) (y3 : LA RecEl lRec U w v3 m.three) (hfa : ∀ a ∈ m.asks, a.name.size ≤ 1048576) (hfr : ∀ l ∈ [m.one, m.two, m.three], ∀ r ∈ l, r.fits) (hll : ∀ l ∈ [m.one, m.two, m.three], l.length ≤ 1048576) (hna : m.asks.length ≤ 1048576) :
  Ret PP 14 [ag (msgSegs m.head va v1 v2 v3)] w (Grd w (fewM m)) := by
 have hls : All2 (LA RecEl lRec U w) [v1, v2, v3] [m.one, m.two, m.three] := All2.cons y1 (All2.cons y2 (All2.cons y3 All2.nil))
 obtain ⟨aa, ca, rfl⟩ := ha.form
 obtain ⟨a1, c1, rfl⟩ := y1.form
 obtain ⟨a2, c2, rfl⟩ := y2.form
 obtain ⟨a3, c3, rfl⟩ := y3.form
 have hl1 := hll m.one (by simp)
 have hl2 := hll m.two (by simp)
 have hl3 := hll m.three (by simp)
 have hf : Fr (fun _ => False) w w := Fr.refl _ _
 refine ret_of Tryz.func14 rfl rfl rfl [(0, _)] rfl ?_
 refine sreg (svK (xboxS (lens := lMsg) rfl rfl) ?_)
 rintro _ w2 ⟨b1, rfl, m3, h1, e1, s1⟩
 have hf := hf.s m3
 refine sA rfl (send ((sreg (sv (xfld fl34_1 rfl) (sv (xld on31 rfl (h1.r.c 10 rfl rfl)) (sv (xlen sl31 rfl) (sv (xfld fl34_2 rfl) (sv (xld on32 rfl (h1.r.c 11 rfl rfl)) (sv (xlen sl32 rfl) (sv (xadd rfl rfl (w64 (by omega) (by omega))) (sv (xfld fl34_3 rfl) (sv (xld on32 rfl (h1.r.c 12 rfl rfl)) (sv (xlen sl32 rfl) (sv (xadd rfl rfl (w64 (by omega) (by omega))) (sv (xfld fl34_4 rfl) (sv (xld on32 rfl (h1.r.c 13 rfl rfl)) (sv (xlen sl32 rfl) (sv (xadd rfl rfl (w64 (by omega) (by omega))) (sA rfl (send (fcg 1 3 rfl fun _ => wp_seq (sreg (sM rfl (svP (xgtr rfl rfl) (fun hc29 => ?_) (fun hc29 => ?_)))))))))))))))))))))))))
 ·
  refine send ((cyes rfl (sreg (sA rfl (send (fbg 2 rfl fun _ => wp_ret (rThen (rp1 rfl rfl ?_))))))))
  exact ⟨_, rfl, (fun h => by cases h), hf⟩
 refine send ((cno rfl (wp_skip (nThen (fbg 1 rfl fun _ => wp_seq (sreg (sv (xfld fl34_2 rfl) (sv (xld on32 rfl (h1.r.c 11 rfl rfl)) (sv (xfld fl34_3 rfl) (sv (xld on32 rfl (h1.r.c 12 rfl rfl)) (sv (xfld fl34_4 rfl) (sv (xld on32 rfl (h1.r.c 13 rfl rfl)) (svK (xslit ([.slice a1 m.one.length c1, .slice a2 m.two.length c2, .slice a3 m.three.length c3]) sl60 in32 rfl (by decide) rfl rfl rfl rfl (by decide) rfl rfl) ?_)))))))))))))
 rintro _ w5 ⟨b36, rfl, m6, h36, e36, s36, r36⟩
 refine sv (xlen sl60 rfl) (sM rfl (send (feg 1 36 37 38 rfl fun _ => wp_block (lp [(1, _), (36, _), (37, _)] (fun (i : Nat) => [(38, .int .i64 (i : Int))]) (fun (i : Nat) wx => Fr (fun _ => False) w5 wx ∧ (i ≤ 3) ∧ (∀ j (l : List RecD), j < i → [m.one, m.two, m.three][j]? = some l → ∀ r ∈ l, smallR r)) (fun (i : Nat) => 3 - i) 0 ⟨rfl, rfl, rfl, rfl, trivial⟩ ⟨Fr.refl _ _, Nat.zero_le _, upto_zero⟩ ?_))))
 rintro i _ w8 ⟨hL7, hi, hO⟩
 refine feg 1 36 37 38 rfl fun _ => ?_
 have z9 := hL7.size
 have ha := ((ha.keep ask_st (lU hU (by omega)) m3 nF).keep ask_st (lU hU (by omega)) m6 nF).keep ask_st (lU hU (by omega)) hL7 nF
 have y1 := ((y1.keep rec_st (lU hU (by omega)) m3 nF).keep rec_st (lU hU (by omega)) m6 nF).keep rec_st (lU hU (by omega)) hL7 nF
 have y2 := ((y2.keep rec_st (lU hU (by omega)) m3 nF).keep rec_st (lU hU (by omega)) m6 nF).keep rec_st (lU hU (by omega)) hL7 nF
 have y3 := ((y3.keep rec_st (lU hU (by omega)) m3 nF).keep rec_st (lU hU (by omega)) m6 nF).keep rec_st (lU hU (by omega)) hL7 nF
 have hf := (hf.s m6).s hL7
 have h1 := (h1.k m6).k hL7
 refine sreg (svP (xlss rfl rfl) (fun hc39 => ?_) (fun hc39 => ?_))
 rotate_left
 ·
  refine send ((wp_seq (cno rfl (wp_exit (eThen (eThen (eHit (nThen (fbg 1 rfl fun _ => sreg (sv (xldS (lens := lMsg) ro34 rfl h1.r) (sc (xcall ca33 rfl) (c33 (lU hU (by omega)) ha y1 y2 y3 hfa hfr (by omega)) ?_)))))))))))
  rintro _ w31 ⟨gb96, rfl, gp96, m32⟩
  have z33 := m32.size
  have hf := hf.s m32
  rcases Bool.eq_false_or_eq_true gb96 with rfl | rfl
  ·
   refine sA rfl (send (fbg 2 rfl fun _ => wp_ret (rp1 rfl rfl ?_)))
   exact ⟨_, rfl, (fun _ => ⟨by omega, upto_all hO (by simp; omega), gp96 rfl⟩), hf⟩
  refine sA rfl (send (fbg 2 rfl fun _ => wp_ret (rp1 rfl rfl ?_)))
  exact ⟨_, rfl, (fun h => by cases h), hf⟩
 refine send ((wp_seq (cyes rfl (wp_skip (nThen (feg 1 36 37 38 rfl fun _ => wp_seq (wp_block (sreg ?_))))))))
 obtain ⟨u, l, hu, hul, hL⟩ := hls.get (k := i) (by simp; omega)
 have hlm : l ∈ [m.one, m.two, m.three] := List.mem_of_getElem? hul
 have hln := hll l hlm
 have hL := hL.keep rec_st hU hf nF
 obtain ⟨au, cu, rfl⟩ := hL.form
 have r36 := r36.k hL7
 refine sv (xidx1 sl60 sz32 rfl rfl rfl (by omega)) (sv (xld on32 rfl (Rw.rng r36 i _ hu)) (sA rfl (send ((sreg (sM rfl (sv (xlen sl32 rfl) (sM rfl (send (fhg 1 36 37 38 42 43 44 rfl fun _ => wp_block (lp [(1, _), (36, _), (37, _), (38, _), (42, _), (43, _)] (fun (k : Nat) => [(44, .int .i64 (k : Int))]) (fun (k : Nat) wx => Fr (fun _ => False) w8 wx ∧ (k ≤ l.length) ∧ (∀ j (r : RecD), j < k → l[j]? = some r → smallR r)) (fun (k : Nat) => l.length - k) 0 ⟨rfl, rfl, rfl, rfl, rfl, rfl, rfl, trivial⟩ ⟨Fr.refl _ _, Nat.zero_le _, upto_zero⟩ ?_)))))))))))
 rintro k _ w11 ⟨hL10, hk, hI⟩
 refine fhg 1 36 37 38 42 43 44 rfl fun _ => ?_
 have z12 := hL10.size
 have hL7 := hL7.s hL10
 refine sreg (svP (xlss rfl rfl) (fun hc45 => ?_) (fun hc45 => ?_))
 rotate_left
 ·
  refine send ((wp_seq (cno rfl (wp_exit (eThen (eThen (eHit (nBlock (nThen (feg 1 36 37 38 rfl fun _ => lreg (sv (xadd rfl rfl (w64 (by omega) (by omega))) (sM rfl (lend (nThen ?_))))))))))))))
  refine ⟨i + 1, _, env_okl ⟨rfl, rfl, rfl, rfl, trivial⟩, ⟨hL7, (by omega), (upto_step hO hul (upto_all hI (by omega)))⟩, ?_⟩
  show 3 - (i + 1) < 3 - i; omega
 refine send ((wp_seq (cyes rfl (wp_skip (nThen (fhg 1 36 37 38 42 43 44 rfl fun _ => wp_seq (wp_block ?_)))))))
 obtain ⟨r, hrk⟩ := some_of_lt (by omega : k < l.length)
 have hrf := hfr l hlm r (List.mem_of_getElem? hrk)
 have hrf0 := hrf
 simp only [RecD.fits] at hrf0
 have hsp := sum_add4 r.pairs
 have hL := hL.keep rec_st (lU hU (by omega)) hL10 nF
 refine sreg ?_
 obtain ⟨bE46, oE46, sgE46, rfl, uE46, hsE46, heE46⟩ := LA.get hL hrk
 obtain ⟨vd, vt, vp, rfl, hd, ht, hp⟩ := heE46
 have zE46 := hU _ uE46
 obtain ⟨ad, cd, rfl, -⟩ := id hd
 obtain ⟨at1, ct1, rfl⟩ := ht.form
 obtain ⟨ap1, cp1, rfl⟩ := hp.form
 refine sv (xidx sl32 sz65 rfl rfl rfl (by omega)) (sv (xldS (lens := lRec) ro65 rfl hsE46) (svK (xallS (lens := lRec) in65 rfl) ?_))
 rintro _ w14 ⟨b7, rfl, m15, h7, e13, s13⟩
 refine suK (xstW h7 (lens' := lRec) sz65 rfl rfl rfl rfl rfl) ?_
 rintro w17 ⟨m18, h7, s16⟩
 refine send ((sreg (sv (xfld fl65_6 rfl) (sv (xld on37 rfl (h7.r.c 6 rfl rfl)) (sv (xlen sl37 rfl) (sv (xfld fl65_14 rfl) (sv (xld on62 rfl (h7.r.c 14 rfl rfl)) (sv (xlen sl62 rfl) (sv (xadd rfl rfl (w64 (by omega) (by omega))) (sA rfl (send ((wp_seq (sreg (sv (xfld fl65_14 rfl) (sv (xld on62 rfl (h7.r.c 14 rfl rfl)) (sv (xlen sl62 rfl) (sM rfl (send (fmg 1 7 8 36 37 38 42 43 44 56 57 58 rfl fun _ => wp_block (lp [(1, _), (7, _), (36, _), (37, _), (38, _), (42, _), (43, _), (44, _), (56, _), (57, _)] (fun (x : Nat × Nat) => match x with | (j, s) => [(8, .int .i64 (s : Int)), (58, .int .i64 (j : Int))]) (fun (x : Nat × Nat) wx => match x with | (j, s) => Fr (fun _ => False) w17 wx ∧ (j ≤ r.texts.length) ∧ (s = r.data.length + r.texts.length + ((r.texts.take j).map (fun s : ByteArray => s.size)).sum)) (fun (x : Nat × Nat) => match x with | (j, s) => r.texts.length - j) (0, r.data.length + r.texts.length) ⟨rfl, rfl, rfl, rfl, rfl, rfl, rfl, rfl, rfl, rfl, rfl, rfl, trivial⟩ ⟨Fr.refl _ _, Nat.zero_le _, rfl⟩ ?_)))))))))))))))))))))
 rintro ⟨j, s⟩ _ w20 ⟨hL19, hj, hs⟩
 refine fmg 1 7 8 36 37 38 42 43 44 56 57 58 rfl fun _ => ?_
 have z21 := hL19.size
 refine sreg (svP (xlss rfl rfl) (fun hc59 => ?_) (fun hc59 => ?_))
 ·
  refine send ((wp_seq (cyes rfl (wp_skip (nThen (fmg 1 7 8 36 37 38 42 43 44 56 57 58 rfl fun _ => wp_seq (wp_block ?_)))))))
  obtain ⟨t, htj⟩ := some_of_lt (by omega : j < r.texts.length)
  have hts := sum_take_le (f := fun s : ByteArray => s.size) htj
  have hta := sum_take_add (f := fun s : ByteArray => s.size) htj
  have ht := ((ht.keep text_st (lU hU (by omega)) m15 nF).keep text_st (lU hU (by omega)) m18 (nU hU (by omega))).keep text_st (lU hU (by omega)) hL19 nF
  refine sreg ?_
  obtain ⟨bE60, oE60, sgE60, rfl, uE60, hsE60, heE60⟩ := LA.get ht htj
  obtain rfl := heE60
  have zE60 := hU _ uE60
  refine sv (xidx sl62 sz9 rfl rfl rfl (by omega)) (sv (xld on9 rfl (hsE60.c 0 rfl rfl)) (sA rfl (send ((lreg (sM rfl (sM rfl (sv (xlenS st9 rfl) (sv (xadd rfl rfl (w64 (by omega) (by omega))) (sA rfl (lend (nBlock (nThen (fmg 1 7 8 36 37 38 42 43 44 56 57 58 rfl fun _ => lreg (sv (xadd rfl rfl (w64 (by omega) (by omega))) (sM rfl (lend (nThen ?_))))))))))))))))))
  refine ⟨(j + 1, s + t.size), _, env_okl ⟨rfl, rfl, rfl, rfl, rfl, rfl, rfl, rfl, rfl, rfl, rfl, rfl, trivial⟩, ⟨hL19, (by omega), (by omega)⟩, ?_⟩
  show r.texts.length - (j + 1) < r.texts.length - j; omega
 refine send ((wp_seq (cno rfl (wp_exit (eThen (eThen (eHit (nThen (fjg 1 7 8 36 37 38 42 43 44 rfl fun _ => wp_seq ?_)))))))))
 have eT : r.texts.take j = r.texts := List.take_of_length_le (by omega)
 rw [eT] at hs
 have h7 := h7.k hL19
 refine sreg (sv (xfld fl65_15 rfl) (sv (xld on63 rfl (h7.r.c 15 rfl rfl)) (sv (xlen sl63 rfl) (sM rfl (send (fmg 1 7 8 36 37 38 42 43 44 68 69 70 rfl fun _ => wp_block (lp [(1, _), (7, _), (36, _), (37, _), (38, _), (42, _), (43, _), (44, _), (68, _), (69, _)] (fun (x : Nat × Nat) => match x with | (j, s2) => [(8, .int .i64 (s2 : Int)), (70, .int .i64 (j : Int))]) (fun (x : Nat × Nat) wx => match x with | (j, s2) => Fr (fun _ => False) w20 wx ∧ (j ≤ r.pairs.length) ∧ (s2 = s + ((r.pairs.take j).map (fun p : PairD => p.data.length + 4)).sum)) (fun (x : Nat × Nat) => match x with | (j, s2) => r.pairs.length - j) (0, s) ⟨rfl, rfl, rfl, rfl, rfl, rfl, rfl, rfl, rfl, rfl, rfl, rfl, trivial⟩ ⟨Fr.refl _ _, Nat.zero_le _, rfl⟩ ?_)))))))
 rintro ⟨j, s2⟩ _ w23 ⟨hL22, hj, hs2⟩
 refine fmg 1 7 8 36 37 38 42 43 44 68 69 70 rfl fun _ => ?_
 have z24 := hL22.size
 have hf := ((((hf.s hL10).s m15).t m18 (by omega)).s hL19).s hL22
 have ha := ((((ha.keep ask_st (lU hU (by omega)) hL10 nF).keep ask_st (lU hU (by omega)) m15 nF).keep ask_st (lU hU (by omega)) m18 (nU hU (by omega))).keep ask_st (lU hU (by omega)) hL19 nF).keep ask_st (lU hU (by omega)) hL22 nF
 have y1 := ((((y1.keep rec_st (lU hU (by omega)) hL10 nF).keep rec_st (lU hU (by omega)) m15 nF).keep rec_st (lU hU (by omega)) m18 (nU hU (by omega))).keep rec_st (lU hU (by omega)) hL19 nF).keep rec_st (lU hU (by omega)) hL22 nF
 have y2 := ((((y2.keep rec_st (lU hU (by omega)) hL10 nF).keep rec_st (lU hU (by omega)) m15 nF).keep rec_st (lU hU (by omega)) m18 (nU hU (by omega))).keep rec_st (lU hU (by omega)) hL19 nF).keep rec_st (lU hU (by omega)) hL22 nF
 have y3 := ((((y3.keep rec_st (lU hU (by omega)) hL10 nF).keep rec_st (lU hU (by omega)) m15 nF).keep rec_st (lU hU (by omega)) m18 (nU hU (by omega))).keep rec_st (lU hU (by omega)) hL19 nF).keep rec_st (lU hU (by omega)) hL22 nF
 have h1 := ((((h1.k hL10).k m15).keep m18 (nE (by omega))).k hL19).k hL22
 have hL10 := (((hL10.s m15).t m18 (by omega)).s hL19).s hL22
 have h7 := h7.k hL22
 refine sreg (svP (xlss rfl rfl) (fun hc71 => ?_) (fun hc71 => ?_))
 ·
  refine send ((wp_seq (cyes rfl (wp_skip (nThen (fmg 1 7 8 36 37 38 42 43 44 68 69 70 rfl fun _ => wp_seq (wp_block ?_)))))))
  obtain ⟨p, hpj⟩ := some_of_lt (by omega : j < r.pairs.length)
  have hps := sum_take_le (f := fun p : PairD => p.data.length + 4) hpj
  have hpa := sum_take_add (f := fun p : PairD => p.data.length + 4) hpj
  have hp := (((hp.keep pair_st (lU hU (by omega)) m15 nF).keep pair_st (lU hU (by omega)) m18 (nU hU (by omega))).keep pair_st (lU hU (by omega)) hL19 nF).keep pair_st (lU hU (by omega)) hL22 nF
  refine sreg ?_
  obtain ⟨bE72, oE72, sgE72, rfl, uE72, hsE72, heE72⟩ := LA.get hp hpj
  obtain ⟨vdp, rfl, hdp⟩ := heE72
  have zE72 := hU _ uE72
  obtain ⟨adp, cdp, rfl, -⟩ := id hdp
  refine sv (xidx sl63 sz67 rfl rfl rfl (by omega)) (sv (xldS (lens := [1, 1]) ro67 rfl hsE72) (svK (xallS (lens := [1, 1]) in67 rfl) ?_))
  rintro _ w26 ⟨b12, rfl, m27, h12, e25, s25⟩
  refine suK (xstW h12 (lens' := [1, 1]) sz67 rfl rfl rfl rfl rfl) ?_
  rintro w29 ⟨m30, h12, s28⟩
  have hL7 := (((((hL7.s m15).t m18 (by omega)).s hL19).s hL22).s m27).t m30 (by omega)
  have hL22 := (hL22.s m27).t m30 (by omega)
  refine send ((lreg (sM rfl (sv (xfld fl67_1 rfl) (sv (xld on37 rfl (h12.r.c 1 rfl rfl)) (sv (xlen sl37 rfl) (sv (xadd rfl rfl (w64 (by omega) (by omega))) (sv (xadd rfl rfl (w64 (by omega) (by omega))) (sA rfl (lend (nBlock (nThen (fmg 1 7 8 36 37 38 42 43 44 68 69 70 rfl fun _ => lreg (sv (xadd rfl rfl (w64 (by omega) (by omega))) (sM rfl (lend (nThen ?_)))))))))))))))))
  refine ⟨(j + 1, s2 + (p.data.length + 4)), _, env_okl ⟨rfl, rfl, rfl, rfl, rfl, rfl, rfl, rfl, rfl, rfl, rfl, rfl, trivial⟩, ⟨hL22, (by omega), (by omega)⟩, ?_⟩
  show r.pairs.length - (j + 1) < r.pairs.length - j; omega
 refine send ((wp_seq (cno rfl (wp_exit (eThen (eThen (eHit (nThen (fjg 1 7 8 36 37 38 42 43 44 rfl fun _ => ?_)))))))))
 have eP : r.pairs.take j = r.pairs := List.take_of_length_le (by omega)
 rw [eP] at hs2
 refine sreg (sv (xfld fl65_5 rfl) (sv (xld on3 rfl (h7.r.c 5 rfl rfl)) (svP (xlss rfl rfl) (fun hc83 => ?_) (fun hc83 => ?_))))
 ·
  refine sM rfl (gno rfl rfl rfl (gno rfl rfl rfl (gno rfl rfl rfl (sv (xpickT rfl rfl) (sM rfl (gno rfl rfl rfl (gno rfl rfl rfl (sv (xpickT rfl rfl) (send ((cyes rfl (sreg (sA rfl (send (fbg 2 rfl fun _ => wp_ret (rBlock (rThen (rThen (rBlock (rBlock (rThen (rThen (rBlock (rThen (rp1 rfl rfl ?_)))))))))))))))))))))))))
  exact ⟨_, rfl, (fun h => by cases h), hf⟩
 refine sM rfl (gyes rfl rfl rfl (sv (xfld fl65_5 rfl) (gyes rfl rfl rfl (sv (xld on3 rfl (h7.r.c 5 rfl rfl)) (gyes rfl rfl rfl (svP (xgtr rfl rfl) (fun hc87 => ?_) (fun hc87 => ?_)))))))
 ·
  refine sv (xpickF rfl rfl) (sM rfl (gno rfl rfl rfl (gno rfl rfl rfl (sv (xpickT rfl rfl) (send ((cyes rfl (sreg (sA rfl (send (fbg 2 rfl fun _ => wp_ret (rBlock (rThen (rThen (rBlock (rBlock (rThen (rThen (rBlock (rThen (rp1 rfl rfl ?_)))))))))))))))))))))
  exact ⟨_, rfl, (fun h => by cases h), hf⟩
 refine sv (xpickF rfl rfl) (sM rfl (gyes rfl rfl rfl (sM rfl (gyes rfl rfl rfl (svP (xgtr rfl rfl) (fun hc91 => ?_) (fun hc91 => ?_))))))
 ·
  refine sv (xpickF rfl rfl) (send ((cyes rfl (sreg (sA rfl (send (fbg 2 rfl fun _ => wp_ret (rBlock (rThen (rThen (rBlock (rBlock (rThen (rThen (rBlock (rThen (rp1 rfl rfl ?_)))))))))))))))))
  exact ⟨_, rfl, (fun h => by cases h), hf⟩
 refine sv (xpickF rfl rfl) (send ((cno rfl (wp_skip (nBlock (nThen (fhg 1 36 37 38 42 43 44 rfl fun _ => lreg (sv (xadd rfl rfl (w64 (by omega) (by omega))) (sM rfl (lend (nThen ?_)))))))))))
 refine ⟨k + 1, _, env_okl ⟨rfl, rfl, rfl, rfl, rfl, rfl, rfl, trivial⟩, ⟨hL10, (by omega), (upto_step hI hrk ⟨by omega, by omega, by simp only [sizeR]; omega⟩)⟩, ?_⟩
 show l.length - (k + 1) < l.length - k; omega
end Go.Proofs.YtifnodoffgfpbaaGreatDoor

namespace Go.Proofs.YtifnodoffgfpbaaGreatDoor
open Go
theorem c19 {w : World} {U V : Nat → Prop} {a b : Value} {cs bs : List UInt8} (ha : BA U w a cs) (hb : BA V w b bs) :
  Ret PP 19 [a, b] w (fun u w' => u = .bool (decide (cs = bs)) ∧ Fr0 w w') := by
 have hf : Fr (fun _ => False) w w := Fr.refl _ _
 refine ret_of Tryz.func19 rfl rfl rfl [(0, _), (1, _)] rfl ?_
 refine sreg (sA rfl (send (fcg 0 1 rfl fun _ => sreg (sM rfl (sv (xb2sB sl37 ki5 st9 ha rfl) (sM rfl (sv (xb2sB sl37 ki5 st9 hb rfl) (svP (xeqs rfl rfl) (fun hc9 => ?_) (fun hc9 => ?_)))))))))
 ·
  refine sA rfl (send (fbg 4 rfl fun _ => wp_ret (rp1 rfl rfl ?_)))
  exact ⟨by rw [decide_eq_true (ba_str_eq.1 hc9)], hf⟩
 refine sA rfl (send (fbg 4 rfl fun _ => wp_ret (rp1 rfl rfl ?_)))
 exact ⟨by rw [decide_eq_false (fun h => hc9 (ba_str_eq.2 h))], hf⟩
theorem c29 {w : World} {U : Nat → Prop} (hU : ∀ k, U k → k < w.heap.size) {v : Value} {l : List RecD} (hl : LA RecEl lRec U w v l) (hn : l.length ≤ 1048576) (hpn : ∀ r ∈ l, r.fits) :
  Ret PP 29 [v] w (fun u w' => LA RecEl lRec (Ub U w w') w' u l ∧ Fr0 w w') := by
 obtain ⟨a0, c0, rfl⟩ := hl.form
 have hf : Fr (fun _ => False) w w := Fr.refl _ _
 refine ret_of Tryz.func29 rfl rfl rfl [(0, _)] rfl ?_
 refine sreg (sA rfl (send (fbg 0 rfl fun _ => sreg (svK (xslit ([]) sl32 in65 rfl (by decide) rfl rfl rfl rfl (by decide) rfl rfl) ?_))))
 rintro _ w2 ⟨b9, rfl, m3, h9, e9, s9, r9⟩
 have hv3 : RX RecEl lRec U w.heap.size w2.heap.size w2 _ b9 65 0 [] := RX.ofNil r9
 refine sA rfl (send ((wp_seq (sreg (sM rfl (sv (xlen sl26 rfl) (sM rfl (send (feg 3 10 11 12 rfl fun _ => wp_block (lp [(10, _), (11, _)] (fun (x : Nat × Value × Nat) => match x with | (k, v, g) => [(3, v), (12, .int .i64 (k : Int))]) (fun (x : Nat × Value × Nat) wx => match x with | (k, v, g) => Fr (fun k => k = b9) w2 wx ∧ (k ≤ l.length) ∧ (RX RecEl lRec U w.heap.size wx.heap.size wx v g 65 k (l.take k)) ∧ (w.heap.size ≤ g) ∧ (g < wx.heap.size) ∧ (g = b9 ∨ w2.heap.size ≤ g)) (fun (x : Nat × Value × Nat) => match x with | (k, v, g) => l.length - k) (0, _, b9) ⟨rfl, rfl, rfl, rfl, trivial⟩ ⟨Fr.refl _ _, Nat.zero_le _, hv3, by omega, by omega, .inl rfl⟩ ?_))))))))))
 rintro ⟨k, v, g⟩ _ w5 ⟨hL4, hk, hv3, hg, hg2, hg3⟩
 refine feg 3 10 11 12 rfl fun _ => ?_
 have z6 := hL4.size
 obtain ⟨a3, c3, rfl⟩ := RA.form hv3
 have hf := (hf.s m3).t hL4 (by omega)
 refine sreg (svP (xlss rfl rfl) (fun hc13 => ?_) (fun hc13 => ?_))
 rotate_left
 ·
  refine send ((wp_seq (cno rfl (wp_exit (eThen (eThen (eHit (nThen ((sreg (sM rfl (sA rfl (send (fbg 2 rfl fun _ => wp_ret (rp1 rfl rfl ?_)))))))))))))))
  have e : l.take k = l := List.take_of_length_le (by omega)
  rw [e] at hv3
  exact ⟨RX.la hv3 (by decide) rec_gr (fun k hk => hk.elim .inl .inr) (.inr ⟨hg, hg2⟩), hf⟩
 refine send ((wp_seq (cyes rfl (wp_skip (nThen (feg 3 10 11 12 rfl fun _ => wp_seq (wp_block ?_)))))))
 obtain ⟨r, hrk⟩ := some_of_lt (by omega : k < l.length)
 have hrf := hpn r (List.mem_of_getElem? hrk)
 simp only [RecD.fits] at hrf
 have hl := (hl.keep rec_st (lU hU (by omega)) m3 nF).keep rec_st (lU hU (by omega)) hL4 (nU hU (by omega))
 refine sreg ?_
 obtain ⟨bE14, oE14, sgE14, rfl, uE14, hsE14, heE14⟩ := LA.get hl hrk
 obtain ⟨vd, vt, vp, rfl, hd, ht, hp⟩ := heE14
 have zE14 := hU _ uE14
 obtain ⟨ad, cd, rfl, -⟩ := id hd
 obtain ⟨at1, ct1, rfl⟩ := ht.form
 obtain ⟨ap1, cp1, rfl⟩ := hp.form
 refine sv (xidx sl26 sz112 rfl rfl rfl (by omega)) (sv (xldS (lens := lRec) ro112 rfl hsE14) (svK (xallS (lens := lRec) in112 rfl) ?_))
 rintro _ w8 ⟨b5, rfl, m9, h5, e7, s7⟩
 refine suK (xstW h5 (lens' := lRec) sz112 rfl rfl rfl rfl rfl) ?_
 rintro w11 ⟨m12, h5, s10⟩
 have hv3 := RX.keep (RX.keep hv3 rec_st (lU hU (by omega)) (by omega) m9 (fun _ _ _ h => h) id) rec_st (lU hU (by omega)) (by omega) m12 (fun k hk hk3 hS => by have hS : k = b5 := hS; rcases hk with hk | hk <;> first | omega | (have := hU k hk; omega)) (nE (by omega))
 refine send (ffg 3 5 10 11 12 rfl fun _ => sreg (svK (xslit ([]) sl63 in67 rfl (by decide) rfl rfl rfl rfl (by decide) rfl rfl) ?_))
 rintro _ w14 ⟨b16, rfl, m15, h16, e16, s16, r16⟩
 have hv6 : RA PairEl lPair U w14 _ b16 67 0 [] := ⟨[], r16, All2.nil⟩
 have h5 := h5.k m15
 have hv3 := RX.keep hv3 rec_st (lU hU (by omega)) (by omega) m15 (fun _ _ _ h => h) id
 refine sA rfl (send ((wp_seq (sreg (sv (xfld fl112_15 rfl) (sv (xld on110 rfl (h5.r.c 15 rfl rfl)) (sv (xlen sl110 rfl) (sM rfl (send (fjg 3 5 6 10 11 12 18 19 20 rfl fun _ => wp_block (lp [(3, _), (5, _), (10, _), (11, _), (12, _), (18, _), (19, _)] (fun (x : Nat × Value × Nat) => match x with | (j, v6, g6) => [(6, v6), (20, .int .i64 (j : Int))]) (fun (x : Nat × Value × Nat) wx => match x with | (j, v6, g6) => Fr (fun k => k = b16) w14 wx ∧ (j ≤ r.pairs.length) ∧ (RA PairEl lPair U wx v6 g6 67 j (r.pairs.take j)) ∧ (w.heap.size ≤ g6) ∧ (g6 < wx.heap.size) ∧ (g6 = b16 ∨ w14.heap.size ≤ g6)) (fun (x : Nat × Value × Nat) => match x with | (j, v6, g6) => r.pairs.length - j) (0, _, b16) ⟨rfl, rfl, rfl, rfl, rfl, rfl, rfl, rfl, rfl, trivial⟩ ⟨Fr.refl _ _, Nat.zero_le _, hv6, by omega, by omega, .inl rfl⟩ ?_)))))))))))
 rintro ⟨j, v6, g6⟩ _ w17 ⟨hL16, hj, hv6, hg6, hg7, hg8⟩
 refine fjg 3 5 6 10 11 12 18 19 20 rfl fun _ => ?_
 have z18 := hL16.size
 obtain ⟨a6, c6, rfl⟩ := RA.form hv6
 have hf := (((hf.s m9).t m12 (by omega)).s m15).t hL16 (by omega)
 have hL4 := (((hL4.s m9).step m12 (fun k hk hS => by have hS : k = b5 := hS; show k = b9; omega)).s m15).step hL16 (fun k hk hS => by have hS : k = b16 := hS; show k = b9; omega)
 have hd := (((hd.keep (lU hU (by omega)) m9 nF).keep (lU hU (by omega)) m12 (nU hU (by omega))).keep (lU hU (by omega)) m15 nF).keep (lU hU (by omega)) hL16 (nU hU (by omega))
 have ht := (((ht.keep text_st (lU hU (by omega)) m9 nF).keep text_st (lU hU (by omega)) m12 (nU hU (by omega))).keep text_st (lU hU (by omega)) m15 nF).keep text_st (lU hU (by omega)) hL16 (nU hU (by omega))
 have hv3 := RX.keep hv3 rec_st (lU hU (by omega)) (by omega) hL16 (fun k hk hk3 hS => by have hS : k = b16 := hS; rcases hk with hk | hk <;> first | omega | (have := hU k hk; omega)) (nE (by omega))
 have h5 := h5.keep hL16 (nE (by omega))
 refine sreg (svP (xlss rfl rfl) (fun hc21 => ?_) (fun hc21 => ?_))
 ·
  refine send ((wp_seq (cyes rfl (wp_skip (nThen (fjg 3 5 6 10 11 12 18 19 20 rfl fun _ => wp_seq (wp_block ?_)))))))
  obtain ⟨p, hpj⟩ := some_of_lt (by omega : j < r.pairs.length)
  have hp := (((hp.keep pair_st (lU hU (by omega)) m9 nF).keep pair_st (lU hU (by omega)) m12 (nU hU (by omega))).keep pair_st (lU hU (by omega)) m15 nF).keep pair_st (lU hU (by omega)) hL16 (nU hU (by omega))
  refine sreg ?_
  obtain ⟨bE22, oE22, sgE22, rfl, uE22, hsE22, heE22⟩ := LA.get hp hpj
  obtain ⟨vdp, rfl, hdp⟩ := heE22
  have zE22 := hU _ uE22
  obtain ⟨adp, cdp, rfl, -⟩ := id hdp
  refine sv (xidx sl110 sz145 rfl rfl rfl (by omega)) (sv (xldS (lens := [1, 1]) ro145 rfl hsE22) (svK (xallS (lens := [1, 1]) in145 rfl) ?_))
  rintro _ w20 ⟨b8, rfl, m21, h8, e19, s19⟩
  refine suK (xstW h8 (lens' := [1, 1]) sz145 rfl rfl rfl rfl rfl) ?_
  rintro w23 ⟨m24, h8, s22⟩
  have hv3 := RX.keep (RX.keep hv3 rec_st (lU hU (by omega)) (by omega) m21 (fun _ _ _ h => h) id) rec_st (lU hU (by omega)) (by omega) m24 (fun k hk hk3 hS => by have hS : k = b8 := hS; rcases hk with hk | hk <;> first | omega | (have := hU k hk; omega)) (nE (by omega))
  refine send (fkg 3 5 6 8 10 11 12 18 19 20 rfl fun _ => lreg (sM rfl (sv (xldS (lens := [1, 1]) ro145 rfl h8.r) (svK (xslit ((pairSegs p (.slice adp p.data.length cdp)).flatten) sl63 in67 rfl (by decide) rfl rfl rfl rfl (by decide) rfl rfl) ?_))))
  rintro _ w26 ⟨b26, rfl, m27, h26, e26, s26, r26⟩
  have hv6 := ((hv6.keep pair_st (lU hU (by omega)) m21 nF id).keep pair_st (lU hU (by omega)) m24 (nU hU (by omega)) (nE (by omega))).keep pair_st (lU hU (by omega)) m27 nF id
  obtain ⟨ss27, hR27, hA27⟩ := hv6
  refine svK (xapp sl63 in67 rfl (by decide) rfl rfl hR27 (r26.src sl63) (by simp only [maxLen]; omega) (by omega)) ?_
  rintro v27 w28 ⟨g27, r27, m29, a27, l27⟩
  have z30 := m29.size
  have hdp := (((hdp.keep (lU hU (by omega)) m21 nF).keep (lU hU (by omega)) m24 (nU hU (by omega))).keep (lU hU (by omega)) m27 nF).keep (lU hU (by omega)) m29 (nU hU (by omega))
  have hv6 := RA.snoc (x := p) hA27 pair_st pair_gr (lU hU (by omega)) m29 (nU hU (by omega)) (fun _ h => h) r27 rfl (⟨_, rfl, hdp⟩)
  have hL16 := (((hL16.s m21).step m24 (fun k hk hS => by have hS : k = b8 := hS; show k = b16; omega)).s m27).step m29 (fun k hk hS => by have hS : k = g6 := hS; show k = b16; omega)
  refine sA rfl (lend (nBlock (nThen (fjg 3 5 6 10 11 12 18 19 20 rfl fun _ => lreg (sv (xadd rfl rfl (w64 (by omega) (by omega))) (sM rfl (lend (nThen ?_))))))))
  refine ⟨(j + 1, _, g27), _, env_okl ⟨rfl, rfl, rfl, rfl, rfl, rfl, rfl, rfl, rfl, trivial⟩, ⟨hL16, (by omega), (by rw [take_snoc hpj]; exact hv6), (by omega), (l27 (by omega)), (by omega)⟩, ?_⟩
  show r.pairs.length - (j + 1) < r.pairs.length - j; omega
 refine send ((wp_seq (cno rfl (wp_exit (eThen (eThen (eHit (nThen (fgg 3 5 6 10 11 12 rfl fun _ => ?_)))))))))
 have eP : r.pairs.take j = r.pairs := List.take_of_length_le (by omega)
 rw [eP] at hv6
 obtain rfl : j = r.pairs.length := by omega
 refine lreg (sM rfl (sv (xfld fl112_0 rfl) (sv (xld on9 rfl (h5.r.c 0 rfl rfl)) (sv (xfld fl112_1 rfl) (sv (xld on22 rfl (h5.r.c 1 rfl rfl)) (sv (xfld fl112_2 rfl) (sv (xld on22 rfl (h5.r.c 2 rfl rfl)) (sv (xfld fl112_3 rfl) (sv (xld on61 rfl (h5.r.c 3 rfl rfl)) (sv (xfld fl112_4 rfl) (sv (xld on22 rfl (h5.r.c 4 rfl rfl)) (sv (xfld fl112_5 rfl) (sv (xld on3 rfl (h5.r.c 5 rfl rfl)) (sv (xfld fl112_6 rfl) (sv (xld on37 rfl (h5.r.c 6 rfl rfl)) (sv (xfld fl112_7 rfl) (sv (xld on9 rfl (h5.r.c 7 rfl rfl)) (sv (xfld fl112_8 rfl) (sv (xld on9 rfl (h5.r.c 8 rfl rfl)) (sv (xfld fl112_9 rfl) (sv (xld on61 rfl (h5.r.c 9 rfl rfl)) (sv (xfld fl112_10 rfl) (sv (xld on61 rfl (h5.r.c 10 rfl rfl)) (sv (xfld fl112_11 rfl) (sv (xld on61 rfl (h5.r.c 11 rfl rfl)) (sv (xfld fl112_12 rfl) (sv (xld on61 rfl (h5.r.c 12 rfl rfl)) (sv (xfld fl112_13 rfl) (sv (xld on61 rfl (h5.r.c 13 rfl rfl)) (sv (xfld fl112_14 rfl) (sv (xld on62 rfl (h5.r.c 14 rfl rfl)) (sM rfl (sv (xbuildS (recSegs r (.slice ad r.data.length cd) (.slice at1 r.texts.length ct1) (.slice a6 r.pairs.length c6)) zr65 ly65 rfl (by simp [fitAll, zs65, Value.cells]) rfl) (svK (xslit ((recSegs r (.slice ad r.data.length cd) (.slice at1 r.texts.length ct1) (.slice a6 r.pairs.length c6)).flatten) sl32 in65 rfl (by decide) rfl rfl rfl rfl (by decide) rfl rfl) ?_))))))))))))))))))))))))))))))))))
 rintro _ w32 ⟨b62, rfl, m33, h62, e62, s62, r62⟩
 have hv3 := RX.keep hv3 rec_st (lU hU (by omega)) (by omega) m33 (fun _ _ _ h => h) id
 obtain ⟨ss63, hR63, hA63⟩ := hv3
 refine svK (xapp sl32 in65 rfl (by decide) rfl rfl hR63 (r62.src sl32) (by simp only [maxLen]; omega) (by omega)) ?_
 rintro v63 w34 ⟨g63, r63, m35, a63, l63⟩
 have z36 := m35.size
 have hd := (hd.keep (lU hU (by omega)) m33 nF).keep (lU hU (by omega)) m35 (nU hU (by omega))
 have ht := (ht.keep text_st (lU hU (by omega)) m33 nF).keep text_st (lU hU (by omega)) m35 (nU hU (by omega))
 have hv6 := (hv6.keep pair_st (lU hU (by omega)) m33 nF id).keep pair_st (lU hU (by omega)) m35 (nU hU (by omega)) (nE (by omega))
 have hv3 := RX.snoc (x := r) w34.heap.size hA63 rec_st rec_gr (lU hU (by omega)) (by omega) (by omega) m35 a63 r63 rfl (⟨_, _, _, rfl, hd.mono (fun k h => ⟨.inl h, by have := hU k h; omega⟩), ht.mono text_gr (fun k h => ⟨.inl h, by have := hU k h; omega⟩), RA.la hv6 (by decide) pair_gr (fun k h => ⟨.inl h, by have := hU k h; omega⟩) ⟨.inr (by omega), by omega⟩⟩)
 have hL4 := (hL4.s m33).step m35 (fun k hk hS => by have hS : k = g := hS; show k = b9; omega)
 refine sA rfl (lend (nBlock (nThen (feg 3 10 11 12 rfl fun _ => lreg (sv (xadd rfl rfl (w64 (by omega) (by omega))) (sM rfl (lend (nThen ?_))))))))
 refine ⟨(k + 1, _, g63), _, env_okl ⟨rfl, rfl, rfl, rfl, trivial⟩, ⟨hL4, (by omega), (by rw [take_snoc hrk]; exact RX.up rec_gr hv3 (by omega)), (by omega), (l63 (by omega)), (by omega)⟩, ?_⟩
 show l.length - (k + 1) < l.length - k; omega
end Go.Proofs.YtifnodoffgfpbaaGreatDoor

namespace Go.Proofs.YtifnodoffgfpbaaGreatDoor
open Go

theorem Uw.num {U : Nat → Prop} {n0 nb g n k : Nat} (hU : ∀ k, U k → k < n) (h : Uw U n0 nb g k) : (k < n ∨ (n0 ≤ k ∧ k < nb)) ∧ k ≠ g := ⟨h.1.imp_left (hU k), h.2⟩

inductive Tr where
  | lst (o : List (Nat × Kd))
  | rd (i : Nat) (t : Tr)
  | ld (i : Nat) (t : Tr)
  | two (i : Nat) (a : Tr) (j : Nat) (b : Tr)
def runT (P : Program) (ops : Array Oper) (Q : Exit → Act → World → Prop) (S : World → Prop) : Tr → Act → World → Prop
  | .lst o, a, w => runH P ops Q S o a w
  | .rd i t, a, w => ∃ o v, ops[i]? = some o ∧ YieldsIf P ops S o v a ∧ S w ∧ runT P ops Q S t (a.put o.dst v) w
  | .ld i t, a, w => wpOp P ops Q i (fun a' w' => S w' ∧ runT P ops Q S t a' w') a w
  | .two i t j u, a, w => wpOp P ops Q i (fun a' w' => S w' ∧ runT P ops Q S t a' w') a w ∧ wpOp P ops Q j (fun a' w' => S w' ∧ runT P ops Q S u a' w') a w
def readsT : Tr → List Nat
  | .lst o => reads o
  | .rd i t => i :: readsT t
  | .ld _ t => readsT t
  | .two _ a _ _ => readsT a
def okT (ops : Array Oper) (st : List Nat) : Array Bool → Tr → Bool
  | listed, .lst o => okRun ops st listed o
  | listed, .rd i t => st.contains i && Region.free .any ops listed i && (Region.ready .any ops listed).contains i && okT ops st (listed.setIfInBounds i true) t
  | listed, .ld i t => (Region.ready .any ops listed == [i]) && okT ops st (listed.setIfInBounds i true) t
  | listed, .two i a j b => (Region.ready .any ops listed == [i, j]) && okT ops st (listed.setIfInBounds i true) a && okT ops st (listed.setIfInBounds j true) b
def lenT : Tr → Nat
  | .lst o => o.length
  | .rd _ t => lenT t + 1
  | .ld _ t => lenT t + 1
  | .two _ a _ b => max (lenT a) (lenT b) + 1

section
variable {P : Program} {ops : Array Oper} {Q : Exit → Act → World → Prop} {S : World → Prop} {st : List Nat}
theorem runT_sound (hs : Region.noSelect ops = true) (hQ : ∀ c d v a w, Q (.panic c) (a.put d v) w → Q (.panic c) a w) :
    ∀ (t : Tr) (listed : Array Bool) (a : Act) (w : World) (fuel : Nat), closedUp ops listed → okT ops st listed t = true → lenT t ≤ fuel → runT P ops Q S t a w → wpAnyP P ops Q S st fuel listed a w
  | .lst o, listed, a, w, fuel, hc, hok, hf, h => runH_sound hs hQ o listed a w fuel hc hok hf h
  | .rd i t, listed, a, w, fuel, hc, hok, hf, h => by
    simp only [okT, Bool.and_eq_true] at hok
    obtain ⟨o, v, ho, hy, hS, hk⟩ := h
    cases fuel with
    | zero => simp [lenT] at hf
    | succ fuel =>
      have hr : i ∈ Region.ready .any ops listed := by simpa using hok.1.2
      refine wpAnyP_first ho (by simpa using hok.1.1.1) (Region.noSelect_spec hs) (fun c a w => hQ c _ _ a w) fuel listed a w hc hok.1.1.2 hr hy hS ?_
      exact runT_sound hs hQ t _ _ _ _ (closedUp_set hc hr) hok.2 (by simpa [lenT] using hf) hk
  | .ld i t, listed, a, w, fuel, hc, hok, hf, h => by
    simp only [okT, Bool.and_eq_true, beq_iff_eq] at hok
    cases fuel with
    | zero => simp [lenT] at hf
    | succ fuel =>
      refine wpAnyP_one hok.1 (wpOp_mono (fun a' w' h' => ⟨.inr h'.1, ?_⟩) h)
      exact runT_sound hs hQ t _ _ _ _ (closedUp_set hc (by rw [hok.1]; simp)) hok.2 (by simpa [lenT] using hf) h'.2
  | .two i t j u, listed, a, w, fuel, hc, hok, hf, h => by
    simp only [okT, Bool.and_eq_true, beq_iff_eq] at hok
    cases fuel with
    | zero => simp [lenT] at hf
    | succ fuel =>
      simp only [lenT] at hf
      refine ⟨fun h0 => (by rw [hok.1.1] at h0; cases h0), fun k hk => ?_⟩
      rw [hok.1.1] at hk
      simp only [List.mem_cons, List.not_mem_nil, or_false] at hk
      rcases hk with rfl | rfl
      · exact wpOp_mono (fun a' w' h' => ⟨.inr h'.1, runT_sound hs hQ t _ _ _ _ (closedUp_set hc (by rw [hok.1.1]; simp)) hok.1.2 (by omega) h'.2⟩) h.1
      · exact wpOp_mono (fun a' w' h' => ⟨.inr h'.1, runT_sound hs hQ u _ _ _ _ (closedUp_set hc (by rw [hok.1.1]; simp)) hok.2 (by omega) h'.2⟩) h.2

theorem sdrawI {id : Nat} {y : Code} {n : Nat} {l : List (Nat × Value)} {r : Nat → Value} {w : World} {α : Type} (u : List (Nat × Value)) (_hu : okl l u) (ch : α → List (Nat × Value)) (J : α → World → Prop) (S : World → Prop) (t : Tr) (hm : P.follows .mixedOrders = true)
    (hc : (Region.noSelect ops && okT ops (readsT t) (Array.replicate ops.size false) t && (lenT t).ble ops.size) = true)
    (h : runT P ops (fun e a' w' => e = .normal ∧ ∃ x r', a' = env n (ch x ++ u) r' ∧ J x w') S t (env n l r) w.drew)
    (k : ∀ x r w', J x w' → y.wp P Q (env n (ch x ++ u) r) w') : (Code.seq (.region id ops true) y).wp P Q (env n l r) w := by
  simp only [Bool.and_eq_true] at hc
  refine wp_seq (wp_mono (wp_region_any hm (wpAny_of_P _ _ _ _ (runT_sound hc.1.1 (fun c d v a w h => by cases h.1) t _ _ _ _ (closedUp_start _) hc.1.2 (Nat.le_of_ble_eq_true hc.2) h))) ?_)
  rintro e a' w' ⟨rfl, x, r', rfl, hJ⟩
  exact k x r' w' hJ

variable {n : Nat} {l : List (Nat × Value)} {r : Nat → Value} {w w' : World} {op : Op} {ty : TypeId} {pos : String} {af : Array Edge} {v : Value} {d i : Nat} {t : Tr}
theorem lstT {o : List (Nat × Kd)} {a : Act} (h : runH P ops Q S o a w) : runT P ops Q S (.lst o) a w := h
theorem twoT {j : Nat} {u : Tr} {a : Act} (h1 : runT P ops Q S (.ld i t) a w) (h2 : runT P ops Q S (.ld j u) a w) : runT P ops Q S (.two i t j u) a w := ⟨h1, h2⟩
theorem hvT (ho : ops[i]? = some ⟨some d, op, ty, pos, af, none⟩) (h : ∀ w, S w → Ex P n l op ty w v w) (hS : S w)
    (k : runT P ops Q S t (env n ((d, v) :: l) r) w) : runT P ops Q S (.rd i t) (env n l r) w :=
  ⟨_, v, ho, .inl ⟨by simp [Region.wanted], fun w hw => h w hw r _ _ _ _⟩, hS, by rw [env_put]; exact k⟩
theorem hlT (ho : ops[i]? = some ⟨some d, op, ty, pos, af, none⟩) (h : Ex P n l op ty w v w') (hS : S w')
    (k : runT P ops Q S t (env n ((d, v) :: l) r) w') : runT P ops Q S (.ld i t) (env n l r) w := by
  simp only [runT, wpOp, ho]
  rw [if_pos (by simp [Region.wanted])]
  left
  unfold Oper.wp
  rw [h r _ _ _ _]
  simp only [Oper.upon]
  rw [env_put]
  exact ⟨hS, k⟩
theorem hlKT {R : Value → World → Prop} (ho : ops[i]? = some ⟨some d, op, ty, pos, af, none⟩) (h : ExK P n l op ty w R)
    (k : ∀ v w', R v w' → S w' ∧ runT P ops Q S t (env n ((d, v) :: l) r) w') : runT P ops Q S (.ld i t) (env n l r) w := by
  obtain ⟨v, w', he, hR⟩ := h
  exact hlT ho he (k v w' hR).1 (k v w' hR).2
theorem hluT (ho : ops[i]? = some ⟨none, op, ty, pos, af, none⟩) (h : ExU P n l op ty w w') (hS : S w')
    (k : runT P ops Q S t (env n l r) w') : runT P ops Q S (.ld i t) (env n l r) w := by
  simp only [runT, wpOp, ho]
  rw [if_pos (by simp [Region.wanted])]
  left
  unfold Oper.wp
  rw [h r _ _ _ _]
  exact ⟨hS, k⟩
theorem hluKT {R : World → Prop} (ho : ops[i]? = some ⟨none, op, ty, pos, af, none⟩) (h : ExUK P n l op ty w R)
    (k : ∀ w', R w' → S w' ∧ runT P ops Q S t (env n l r) w') : runT P ops Q S (.ld i t) (env n l r) w := by
  obtain ⟨w', he, hR⟩ := h
  exact hluT ho he (k w' hR).1 (k w' hR).2
theorem hcT {f : FuncId} {vs : List Value} {R : Value → World → Prop} (ho : ops[i]? = some ⟨some d, op, ty, pos, af, none⟩) (h : ExC P n l op ty w f vs) (hc : Ret P f vs w R)
    (k : ∀ v w', R v w' → S w' ∧ runT P ops Q S t (env n ((d, v) :: l) r) w') : runT P ops Q S (.ld i t) (env n l r) w := by
  simp only [runT, wpOp, ho]
  rw [if_pos (by simp [Region.wanted])]
  left
  unfold Oper.wp
  rw [h r _ _ _ _]
  simp only [Oper.upon]
  refine Calls.mono hc fun e w'' ⟨u, he, hR⟩ => ?_
  subst he
  simp only []
  rw [env_put]
  exact k _ _ hR
end
end Go.Proofs.YtifnodoffgfpbaaGreatDoor

namespace Go.Proofs.YtifnodoffgfpbaaGreatDoor
open Go

theorem RA.la0 {α : Type} {El : (Nat → Prop) → World → List (List Value) → α → Prop} {lens : List Nat} {U U' : Nat → Prop} {w : World} {v : Value} {g E n : Nat} {l : List α} (h : RA El lens U w v g E n l) (hs : 0 < lens.sum) (hE : Grows El) (hU : ∀ k, U k → U' k) (hg : n = 0 ∨ U' g) : LA El lens U' w v l := by
  rcases hg with rfl | hg
  · have hn := h.num hs
    obtain rfl : l = [] := List.eq_nil_of_length_eq_zero hn
    obtain ⟨a, c, rfl⟩ := RA.form h
    exact LA.nil
  · exact h.la hs hE hU hg
def ConvTo (w : World) (U : Nat → Prop) (m : MsgD) (u : Value) (w' : World) : Prop :=
  ∃ va v1 v2 v3, u = ag (msgSegs m.head va v1 v2 v3) ∧ LA AskEl lAsk (Ub U w w') w' va m.asks ∧ LA RecEl lRec (Ub U w w') w' v1 m.one ∧ LA RecEl lRec (Ub U w w') w' v2 m.two ∧ LA RecEl lRec (Ub U w w') w' v3 m.three ∧ Fr0 w w'

theorem c13 {w : World} {U : Nat → Prop} (hU : ∀ k, U k → k < w.heap.size) {m : MsgD} {va v1 v2 v3 : Value} (ha : LA AskEl lAsk U w va m.asks) (y1 : LA RecEl lRec U w v1 m.one) (y2 : LA RecEl lRec U w v2 m.two) (y3 : LA RecEl lRec U w v3 m.three) (_hfa : ∀ a ∈ m.asks, a.name.size ≤ 1048576) (hfr : ∀ l ∈ [m.one, m.two, m.three], ∀ r ∈ l, r.fits) (hll : ∀ l ∈ [m.one, m.two, m.three], l.length ≤ 1048576) (hna : m.asks.length ≤ 1048576) :
  Ret PP 13 [ag (msgSegs m.head va v1 v2 v3)] w (ConvTo w U m) := by
 obtain ⟨aa, ca, rfl⟩ := ha.form
 obtain ⟨a1, c1, rfl⟩ := y1.form
 obtain ⟨a2, c2, rfl⟩ := y2.form
 obtain ⟨a3, c3, rfl⟩ := y3.form
 have hf : Fr (fun _ => False) w w := Fr.refl _ _
 refine ret_of Tryz.func13 rfl rfl rfl [(0, _)] rfl ?_
 refine sreg (svK (xboxS (lens := lMsg) rfl rfl) ?_)
 rintro _ w2 ⟨b1, rfl, m3, h1, e1, s1⟩
 refine svK (xallS (lens := lMsg) in34 rfl) ?_
 rintro _ w5 ⟨b2, rfl, m6, h2, e4, s4⟩
 have ha := (ha.keep ask_st (lU hU (by omega)) m3 nF).keep ask_st (lU hU (by omega)) m6 nF
 have hf := (hf.s m3).s m6
 have h1 := h1.k m6
 refine send (fcg 1 2 rfl fun _ => ?_)
 refine sdrawI [(1, _), (2, _)] ⟨rfl, rfl, trivial⟩ (fun (x : Value × Value × Value × Nat) => match x with | (v1, v2, v3, b3) => [(3, .pointer (some ⟨b3, 0, none⟩))]) (fun (x : Value × Value × Value × Nat) wx => match x with | (v1, v2, v3, b3) => Fr (fun _ => False) w5 wx ∧ (SB wx b3 lMsg (msgSegs m.head (.slice none 0 0) v1 v2 v3)) ∧ (LA RecEl lRec (Uw U w5.heap.size wx.heap.size b3) wx v1 m.one) ∧ (LA RecEl lRec (Uw U w5.heap.size wx.heap.size b3) wx v2 m.two) ∧ (LA RecEl lRec (Uw U w5.heap.size wx.heap.size b3) wx v3 m.three) ∧ (w5.heap.size ≤ b3) ∧ (b3 < wx.heap.size)) (Fr (fun _ => False) w5.drew) (.rd 0 (.rd 1 (.rd 2 (.rd 3 (.rd 5 (.rd 6 (.rd 8 (.rd 9 (.two 4 (.two 7 (.two 10 (.lst [rd11, ld12, bh13]) 12 (.lst [ld10, rd11, bh13])) 12 (.lst [ld7, ld10, rd11, bh13])) 12 (.lst [ld4, ld7, ld10, rd11, bh13])))))))))) mixed (by kernel_rfl) ?_ ?_
 rotate_left
 ·
  rintro ⟨v1, v2, v3, b3⟩ _ w73 ⟨hC, h3, L10, L13, L16, hb3, hb4⟩
  have z74 := hC.size
  obtain ⟨aq10, cq10, rfl⟩ := L10.form
  obtain ⟨aq13, cq13, rfl⟩ := L13.form
  obtain ⟨aq16, cq16, rfl⟩ := L16.form
  have h1 := h1.k hC
  refine (wp_seq (sreg (sv (xfld fl28_1 rfl) (sv (xld on25 rfl (h1.r.c 10 rfl rfl)) (sv (xlen sl25 rfl) (sM rfl (send (ffg 2 3 19 20 21 rfl fun _ => wp_block ?_))))))))
  refine lp [(2, _), (3, _), (19, _), (20, _)] (fun (x : Nat × Value × Nat) => match x with | (k, v, g) => [(21, .int .i64 (k : Int))]) (fun (x : Nat × Value × Nat) wx => match x with | (k, v, g) => Fr (fun k => k = b3 ∨ k = b1) w73 wx ∧ (k ≤ m.asks.length) ∧ (SB wx b3 lMsg (msgSegs m.head v (.slice aq10 m.one.length cq10) (.slice aq13 m.two.length cq13) (.slice aq16 m.three.length cq16))) ∧ (RA AskEl lAsk (fun _ => False) wx v g 59 k (m.asks.take k)) ∧ (g = b1 ∨ w73.heap.size ≤ g) ∧ (g < wx.heap.size)) (fun (x : Nat × Value × Nat) => match x with | (k, v, g) => m.asks.length - k) (0, .slice none 0 0, b1) ⟨rfl, rfl, rfl, rfl, rfl, trivial⟩ ⟨Fr.refl _ _, Nat.zero_le _, h3, RA.nil _ _ _ _, .inl rfl, by omega⟩ ?_
  rintro ⟨k, v, g⟩ _ w76 ⟨hL75, hk, h3, hq, hgq, hgk⟩
  refine ffg 2 3 19 20 21 rfl fun _ => ?_
  have z77 := hL75.size
  have hf := (hf.s hC).step hL75 (fun k hk hS => by have hS : k = b3 ∨ k = b1 := hS; show False; omega)
  have h2 := (h2.k hC).keep hL75 (by show ¬ (b2 = b3 ∨ b2 = b1); omega)
  have L10 := L10.keep rec_st (fun k hk => by have hk := Uw.num hU hk; omega) hL75 (fun k hk hS => by have hk := Uw.num hU hk; have hS : k = b3 ∨ k = b1 := hS; omega)
  have L13 := L13.keep rec_st (fun k hk => by have hk := Uw.num hU hk; omega) hL75 (fun k hk hS => by have hk := Uw.num hU hk; have hS : k = b3 ∨ k = b1 := hS; omega)
  have L16 := L16.keep rec_st (fun k hk => by have hk := Uw.num hU hk; omega) hL75 (fun k hk hS => by have hk := Uw.num hU hk; have hS : k = b3 ∨ k = b1 := hS; omega)
  refine sreg (svP (xlss rfl rfl) (fun hc22 => ?_) (fun hc22 => ?_))
  rotate_left
  ·
   refine send ((wp_seq (cno rfl (wp_exit (eThen (eThen (eHit (nThen (fcg 2 3 rfl fun _ => ?_)))))))))
   obtain ⟨av, cv, rfl⟩ := RA.form hq
   refine sreg (sv (xldS (lens := lMsg) ro34 rfl (h3.r.sub 0 14 rfl)) (suK (xstW h2 (lens' := lMsg) sz34 rfl rfl rfl rfl rfl) ?_))
   rintro w94 ⟨m95, h2, s93⟩
   refine send (fbg 2 rfl fun _ => wp_ret (rp1 rfl ⟨_, rfl, ldS (lens := lMsg) ro34 h2.r⟩ ?_))
   have e : m.asks.take k = m.asks := List.take_of_length_le (by omega)
   have hq := hq.keep ask_st (fun k hk => by have hk := (show k + 1 ≤ 0 from (show False from hk).elim); omega) m95 (fun k hk hS => by have hk := (show k + 1 ≤ 0 from (show False from hk).elim); have hS : k = b2 := hS; omega) (nE (by omega))
   rw [e] at hq
   have hf := hf.t m95 (by omega)
   have L10 := L10.keep rec_st (fun k hk => by have hk := Uw.num hU hk; omega) m95 (fun k hk hS => by have hk := Uw.num hU hk; have hS : k = b2 := hS; omega)
   have L13 := L13.keep rec_st (fun k hk => by have hk := Uw.num hU hk; omega) m95 (fun k hk hS => by have hk := Uw.num hU hk; have hS : k = b2 := hS; omega)
   have L16 := L16.keep rec_st (fun k hk => by have hk := Uw.num hU hk; omega) m95 (fun k hk hS => by have hk := Uw.num hU hk; have hS : k = b2 := hS; omega)
   exact ⟨_, _, _, _, rfl, RA.la0 hq (by decide) ask_gr (fun _ h => h.elim) (.inr (.inr ⟨by omega, by omega⟩)), L10.mono rec_gr (fun k hk => hk.1.elim .inl (fun h => .inr ⟨by omega, by omega⟩)), L13.mono rec_gr (fun k hk => hk.1.elim .inl (fun h => .inr ⟨by omega, by omega⟩)), L16.mono rec_gr (fun k hk => hk.1.elim .inl (fun h => .inr ⟨by omega, by omega⟩)), hf⟩
  refine send ((wp_seq (cyes rfl (wp_skip (nThen (ffg 2 3 19 20 21 rfl fun _ => wp_seq (wp_block ?_)))))))
  obtain ⟨a, hak⟩ := some_of_lt (by omega : k < m.asks.length)
  have ha := (ha.keep ask_st (lU hU (by omega)) hC nF).keep ask_st (lU hU (by omega)) hL75 (fun k hk hS => by have hk := hU k hk; have hS : k = b3 ∨ k = b1 := hS; omega)
  refine sreg ?_
  obtain ⟨bE23, oE23, sgE23, rfl, uE23, hsE23, heE23⟩ := LA.get ha hak
  obtain rfl := heE23
  have zE23 := hU _ uE23
  refine sv (xidx sl25 sz58 rfl rfl rfl (by omega)) (sv (xldS (lens := [1, 1, 1]) ro58 rfl hsE23) (svK (xallS (lens := [1, 1, 1]) in58 rfl) ?_))
  rintro _ w79 ⟨b5, rfl, m80, h5, e78, s78⟩
  refine suK (xstW h5 (lens' := [1, 1, 1]) sz58 rfl rfl rfl rfl rfl) ?_
  rintro w82 ⟨m83, h5, s81⟩
  have h3 := (h3.k m80).keep m83 (nE (by omega))
  refine send (fgg 2 3 5 19 20 21 rfl fun _ => lreg (sv (xfld fl34_1 rfl) (sv (xld on31 rfl (h3.r.c 10 rfl rfl)) (sv (xldS (lens := [1, 1, 1]) ro58 rfl h5.r) (svK (xslit ((askSegs a).flatten) sl31 in59 rfl (by decide) rfl rfl rfl rfl (by decide) rfl rfl) ?_)))))
  rintro _ w85 ⟨b28, rfl, m86, h28, e28, s28, r28⟩
  have hq := ((hq.keep ask_st (fun k hk => by have hk := (show k + 1 ≤ 0 from (show False from hk).elim); omega) m80 nF id).keep ask_st (fun k hk => by have hk := (show k + 1 ≤ 0 from (show False from hk).elim); omega) m83 (fun k hk hS => by have hk := (show k + 1 ≤ 0 from (show False from hk).elim); have hS : k = b5 := hS; omega) (nE (by omega))).keep ask_st (fun k hk => by have hk := (show k + 1 ≤ 0 from (show False from hk).elim); omega) m86 nF id
  obtain ⟨ss29, hR29, hA29⟩ := hq
  refine svK (xapp sl31 in59 rfl (by decide) rfl rfl hR29 (r28.src sl31) (by simp only [maxLen]; omega) (by omega)) ?_
  rintro v29 w87 ⟨g29, r29, m88, a29, l29⟩
  have z89 := m88.size
  have hq := RA.snoc (x := a) hA29 ask_st ask_gr (fun k hk => by have hk := (show k + 1 ≤ 0 from (show False from hk).elim); omega) m88 (fun k hk hS => by have hk := (show k + 1 ≤ 0 from (show False from hk).elim); have hS : k = g := hS; omega) (fun _ h => h) r29 rfl (rfl)
  have h3 := (h3.k m86).keep m88 (nE (by omega))
  refine sv (xfld fl34_1 rfl) (suK (xstF 10 sz31 h3 rfl rfl rfl rfl (by obtain ⟨_, _, rfl⟩ := RA.form hq; rfl)) ?_)
  rintro w91 ⟨m92, h3, s90⟩
  have hL75 := ((((hL75.s m80).step m83 (fun k hk hS => by have hS : k = b5 := hS; show k = b3 ∨ k = b1; omega)).s m86).step m88 (fun k hk hS => by have hS : k = g := hS; show k = b3 ∨ k = b1; omega)).step m92 (fun k hk hS => by have hS : k = b3 := hS; show k = b3 ∨ k = b1; omega)
  have hq := hq.keep ask_st (fun k hk => by have hk := (show k + 1 ≤ 0 from (show False from hk).elim); omega) m92 (fun k hk hS => by have hk := (show k + 1 ≤ 0 from (show False from hk).elim); have hS : k = b3 := hS; omega) (nE (by omega))
  refine lend (nBlock (nThen (ffg 2 3 19 20 21 rfl fun _ => lreg (sv (xadd rfl rfl (w64 (by omega) (by omega))) (sM rfl (lend (nThen ?_)))))))
  refine ⟨(k + 1, _, g29), _, env_okl ⟨rfl, rfl, rfl, rfl, rfl, trivial⟩, ⟨hL75, (by omega), (h3), (by rw [take_snoc hak]; exact hq), (by omega), (by omega)⟩, ?_⟩
  show m.asks.length - (k + 1) < m.asks.length - k; omega
 have hC : Fr (fun _ => False) w5 w5 := Fr.refl _ _
 have z7 : w5.drew.heap.size = w5.heap.size := rfl
 have hS8 : Fr (fun _ => False) w5.drew w5.drew := Fr.refl _ _
 have h1 := h1.drew
 have y1 := ((y1.keep rec_st (lU hU (by omega)) m3 nF).keep rec_st (lU hU (by omega)) m6 nF).keep rec_st (lU hU (by omega)) (fd w5) nF
 have y2 := ((y2.keep rec_st (lU hU (by omega)) m3 nF).keep rec_st (lU hU (by omega)) m6 nF).keep rec_st (lU hU (by omega)) (fd w5) nF
 have y3 := ((y3.keep rec_st (lU hU (by omega)) m3 nF).keep rec_st (lU hU (by omega)) m6 nF).keep rec_st (lU hU (by omega)) (fd w5) nF
 have ha := ha.keep ask_st (lU hU (by omega)) (fd w5) nF
 have hf := hf.drew
 have h2 := h2.drew
 have hC := hC.drew
 refine hvT rfl (fun _ _ => xfld fl28_0 rfl) hS8 ?_
 refine hvT rfl (fun w' hS => xldS (lens := [1, 1, 1, 1, 1, 1, 1, 1, 1, 1]) ro24 rfl ((h1.k hS).r.sub 0 10 rfl)) hS8 ?_
 refine hvT rfl (fun _ _ => xfld fl28_2 rfl) hS8 ?_
 refine hvT rfl (fun w' hS => xld on26 rfl ((h1.k hS).r.c 11 rfl rfl)) hS8 ?_
 refine hvT rfl (fun _ _ => xfld fl28_3 rfl) hS8 ?_
 refine hvT rfl (fun w' hS => xld on26 rfl ((h1.k hS).r.c 12 rfl rfl)) hS8 ?_
 refine hvT rfl (fun _ _ => xfld fl28_4 rfl) hS8 ?_
 refine hvT rfl (fun w' hS => xld on26 rfl ((h1.k hS).r.c 13 rfl rfl)) hS8 ?_
 refine twoT ?_ ?_
 rotate_left
 ·
  refine hlKT rfl (xallS (lens := lMsg) in34 rfl) ?_
  rintro _ w55 ⟨b3, rfl, m56, h3, e54, s54⟩
  have hS57 := hS8.s m56
  have y1 := y1.keep rec_st (lU hU (by omega)) m56 nF
  refine ⟨hS57, ?_⟩
  refine lstT (hc rfl (xcall ca29 rfl) (c29 (U := U) (lU hU (by omega)) y1 (hll _ (by simp)) (hfr _ (by simp))) ?_)
  rintro v10 w58 ⟨L10, m59⟩
  have z60 := m59.size
  have hS61 := hS57.s m59
  obtain ⟨aq10, cq10, rfl⟩ := L10.form
  have y2 := (y2.keep rec_st (lU hU (by omega)) m56 nF).keep rec_st (lU hU (by omega)) m59 nF
  refine ⟨hS61, ?_⟩
  refine hc rfl (xcall ca29 rfl) (c29 (U := U) (lU hU (by omega)) y2 (hll _ (by simp)) (hfr _ (by simp))) ?_
  rintro v13 w62 ⟨L13, m63⟩
  have z64 := m63.size
  have hS65 := hS61.s m63
  obtain ⟨aq13, cq13, rfl⟩ := L13.form
  have y3 := ((y3.keep rec_st (lU hU (by omega)) m56 nF).keep rec_st (lU hU (by omega)) m59 nF).keep rec_st (lU hU (by omega)) m63 nF
  refine ⟨hS65, ?_⟩
  refine hc rfl (xcall ca29 rfl) (c29 (U := U) (lU hU (by omega)) y3 (hll _ (by simp)) (hfr _ (by simp))) ?_
  rintro v16 w66 ⟨L16, m67⟩
  have z68 := m67.size
  have hS69 := hS65.s m67
  obtain ⟨aq16, cq16, rfl⟩ := L16.form
  have h3 := ((h3.k m59).k m63).k m67
  refine ⟨hS69, ?_⟩
  refine hv rfl (fun _ _ => xbuildS (msgSegs m.head (.slice none 0 0) (.slice aq10 m.one.length cq10) (.slice aq13 m.two.length cq13) (.slice aq16 m.three.length cq16)) zr34 ly34 rfl (by simp [fitAll, zs34, Value.cells, msgSegs]) rfl) hS69 (bluK rfl (xstW h3 (lens' := lMsg) sz34 rfl rfl rfl rfl rfl) ?_)
  rintro w71 ⟨m72, h3, s70⟩
  have hC := ((((hC.s m56).s m59).s m63).s m67).t m72 (by omega)
  have L10 := ((L10.keep rec_st (lUb hU (by omega) (by omega)) m63 nF).keep rec_st (lUb hU (by omega) (by omega)) m67 nF).keep rec_st (lUb hU (by omega) (by omega)) m72 (nUb hU (by omega) (by omega))
  have L13 := (L13.keep rec_st (lUb hU (by omega) (by omega)) m67 nF).keep rec_st (lUb hU (by omega) (by omega)) m72 (nUb hU (by omega) (by omega))
  have L16 := L16.keep rec_st (lUb hU (by omega) (by omega)) m72 (nUb hU (by omega) (by omega))
  exact ⟨rfl, (_, _, _, b3), _, env_okl ⟨rfl, rfl, rfl, trivial⟩, ⟨hC, (h3), (L10.mono rec_gr (fun k hk => ⟨hk.elim .inl (fun h => .inr ⟨by omega, by omega⟩), by have hk := Ub.num hU hk; omega⟩)), (L13.mono rec_gr (fun k hk => ⟨hk.elim .inl (fun h => .inr ⟨by omega, by omega⟩), by have hk := Ub.num hU hk; omega⟩)), (L16.mono rec_gr (fun k hk => ⟨hk.elim .inl (fun h => .inr ⟨by omega, by omega⟩), by have hk := Ub.num hU hk; omega⟩)), (by omega), (by omega)⟩⟩
 refine hcT rfl (xcall ca29 rfl) (c29 (U := U) (lU hU (by omega)) y1 (hll _ (by simp)) (hfr _ (by simp))) ?_
 rintro v10 w9 ⟨L10, m10⟩
 have z11 := m10.size
 have hS12 := hS8.s m10
 obtain ⟨aq10, cq10, rfl⟩ := L10.form
 have ha := ha.keep ask_st (lU hU (by omega)) m10 nF
 have y1 := y1.keep rec_st (lU hU (by omega)) m10 nF
 have y2 := y2.keep rec_st (lU hU (by omega)) m10 nF
 have y3 := y3.keep rec_st (lU hU (by omega)) m10 nF
 have hf := hf.s m10
 have h1 := h1.k m10
 have h2 := h2.k m10
 have hC := hC.s m10
 refine ⟨hS12, ?_⟩
 refine twoT ?_ ?_
 rotate_left
 ·
  refine hlKT rfl (xallS (lens := lMsg) in34 rfl) ?_
  rintro _ w40 ⟨b3, rfl, m41, h3, e39, s39⟩
  have hS42 := hS12.s m41
  have y2 := y2.keep rec_st (lU hU (by omega)) m41 nF
  refine ⟨hS42, ?_⟩
  refine lstT (hc rfl (xcall ca29 rfl) (c29 (U := U) (lU hU (by omega)) y2 (hll _ (by simp)) (hfr _ (by simp))) ?_)
  rintro v13 w43 ⟨L13, m44⟩
  have z45 := m44.size
  have hS46 := hS42.s m44
  obtain ⟨aq13, cq13, rfl⟩ := L13.form
  have y3 := (y3.keep rec_st (lU hU (by omega)) m41 nF).keep rec_st (lU hU (by omega)) m44 nF
  refine ⟨hS46, ?_⟩
  refine hc rfl (xcall ca29 rfl) (c29 (U := U) (lU hU (by omega)) y3 (hll _ (by simp)) (hfr _ (by simp))) ?_
  rintro v16 w47 ⟨L16, m48⟩
  have z49 := m48.size
  have hS50 := hS46.s m48
  obtain ⟨aq16, cq16, rfl⟩ := L16.form
  have h3 := (h3.k m44).k m48
  refine ⟨hS50, ?_⟩
  refine hv rfl (fun _ _ => xbuildS (msgSegs m.head (.slice none 0 0) (.slice aq10 m.one.length cq10) (.slice aq13 m.two.length cq13) (.slice aq16 m.three.length cq16)) zr34 ly34 rfl (by simp [fitAll, zs34, Value.cells, msgSegs]) rfl) hS50 (bluK rfl (xstW h3 (lens' := lMsg) sz34 rfl rfl rfl rfl rfl) ?_)
  rintro w52 ⟨m53, h3, s51⟩
  have hC := (((hC.s m41).s m44).s m48).t m53 (by omega)
  have L10 := (((L10.keep rec_st (lUb hU (by omega) (by omega)) m41 nF).keep rec_st (lUb hU (by omega) (by omega)) m44 nF).keep rec_st (lUb hU (by omega) (by omega)) m48 nF).keep rec_st (lUb hU (by omega) (by omega)) m53 (nUb hU (by omega) (by omega))
  have L13 := (L13.keep rec_st (lUb hU (by omega) (by omega)) m48 nF).keep rec_st (lUb hU (by omega) (by omega)) m53 (nUb hU (by omega) (by omega))
  have L16 := L16.keep rec_st (lUb hU (by omega) (by omega)) m53 (nUb hU (by omega) (by omega))
  exact ⟨rfl, (_, _, _, b3), _, env_okl ⟨rfl, rfl, rfl, trivial⟩, ⟨hC, (h3), (L10.mono rec_gr (fun k hk => ⟨hk.elim .inl (fun h => .inr ⟨by omega, by omega⟩), by have hk := Ub.num hU hk; omega⟩)), (L13.mono rec_gr (fun k hk => ⟨hk.elim .inl (fun h => .inr ⟨by omega, by omega⟩), by have hk := Ub.num hU hk; omega⟩)), (L16.mono rec_gr (fun k hk => ⟨hk.elim .inl (fun h => .inr ⟨by omega, by omega⟩), by have hk := Ub.num hU hk; omega⟩)), (by omega), (by omega)⟩⟩
 refine hcT rfl (xcall ca29 rfl) (c29 (U := U) (lU hU (by omega)) y2 (hll _ (by simp)) (hfr _ (by simp))) ?_
 rintro v13 w13 ⟨L13, m14⟩
 have z15 := m14.size
 have hS16 := hS12.s m14
 obtain ⟨aq13, cq13, rfl⟩ := L13.form
 have ha := ha.keep ask_st (lU hU (by omega)) m14 nF
 have y1 := y1.keep rec_st (lU hU (by omega)) m14 nF
 have y2 := y2.keep rec_st (lU hU (by omega)) m14 nF
 have y3 := y3.keep rec_st (lU hU (by omega)) m14 nF
 have hf := hf.s m14
 have h1 := h1.k m14
 have h2 := h2.k m14
 have hC := hC.s m14
 have L10 := L10.keep rec_st (lUb hU (by omega) (by omega)) m14 nF
 refine ⟨hS16, ?_⟩
 refine twoT ?_ ?_
 ·
  refine hcT rfl (xcall ca29 rfl) (c29 (U := U) (lU hU (by omega)) y3 (hll _ (by simp)) (hfr _ (by simp))) ?_
  rintro v16 w17 ⟨L16, m18⟩
  have z19 := m18.size
  have hS20 := hS16.s m18
  obtain ⟨aq16, cq16, rfl⟩ := L16.form
  refine ⟨hS20, ?_⟩
  refine lstT (hv rfl (fun _ _ => xbuildS (msgSegs m.head (.slice none 0 0) (.slice aq10 m.one.length cq10) (.slice aq13 m.two.length cq13) (.slice aq16 m.three.length cq16)) zr34 ly34 rfl (by simp [fitAll, zs34, Value.cells, msgSegs]) rfl) hS20 (hlK rfl (xallS (lens := lMsg) in34 rfl) ?_))
  rintro _ w22 ⟨b3, rfl, m23, h3, e21, s21⟩
  have hS24 := hS20.s m23
  refine ⟨hS24, ?_⟩
  refine bluK rfl (xstW h3 (lens' := lMsg) sz34 rfl rfl rfl rfl rfl) ?_
  rintro w26 ⟨m27, h3, s25⟩
  have hC := ((hC.s m18).s m23).t m27 (by omega)
  have L10 := ((L10.keep rec_st (lUb hU (by omega) (by omega)) m18 nF).keep rec_st (lUb hU (by omega) (by omega)) m23 nF).keep rec_st (lUb hU (by omega) (by omega)) m27 (nUb hU (by omega) (by omega))
  have L13 := ((L13.keep rec_st (lUb hU (by omega) (by omega)) m18 nF).keep rec_st (lUb hU (by omega) (by omega)) m23 nF).keep rec_st (lUb hU (by omega) (by omega)) m27 (nUb hU (by omega) (by omega))
  have L16 := (L16.keep rec_st (lUb hU (by omega) (by omega)) m23 nF).keep rec_st (lUb hU (by omega) (by omega)) m27 (nUb hU (by omega) (by omega))
  exact ⟨rfl, (_, _, _, b3), _, env_okl ⟨rfl, rfl, rfl, trivial⟩, ⟨hC, (h3), (L10.mono rec_gr (fun k hk => ⟨hk.elim .inl (fun h => .inr ⟨by omega, by omega⟩), by have hk := Ub.num hU hk; omega⟩)), (L13.mono rec_gr (fun k hk => ⟨hk.elim .inl (fun h => .inr ⟨by omega, by omega⟩), by have hk := Ub.num hU hk; omega⟩)), (L16.mono rec_gr (fun k hk => ⟨hk.elim .inl (fun h => .inr ⟨by omega, by omega⟩), by have hk := Ub.num hU hk; omega⟩)), (by omega), (by omega)⟩⟩
 refine hlKT rfl (xallS (lens := lMsg) in34 rfl) ?_
 rintro _ w29 ⟨b3, rfl, m30, h3, e28, s28⟩
 have hS31 := hS16.s m30
 have y3 := y3.keep rec_st (lU hU (by omega)) m30 nF
 refine ⟨hS31, ?_⟩
 refine lstT (hc rfl (xcall ca29 rfl) (c29 (U := U) (lU hU (by omega)) y3 (hll _ (by simp)) (hfr _ (by simp))) ?_)
 rintro v16 w32 ⟨L16, m33⟩
 have z34 := m33.size
 have hS35 := hS31.s m33
 obtain ⟨aq16, cq16, rfl⟩ := L16.form
 have h3 := h3.k m33
 refine ⟨hS35, ?_⟩
 refine hv rfl (fun _ _ => xbuildS (msgSegs m.head (.slice none 0 0) (.slice aq10 m.one.length cq10) (.slice aq13 m.two.length cq13) (.slice aq16 m.three.length cq16)) zr34 ly34 rfl (by simp [fitAll, zs34, Value.cells, msgSegs]) rfl) hS35 (bluK rfl (xstW h3 (lens' := lMsg) sz34 rfl rfl rfl rfl rfl) ?_)
 rintro w37 ⟨m38, h3, s36⟩
 have hC := ((hC.s m30).s m33).t m38 (by omega)
 have L10 := ((L10.keep rec_st (lUb hU (by omega) (by omega)) m30 nF).keep rec_st (lUb hU (by omega) (by omega)) m33 nF).keep rec_st (lUb hU (by omega) (by omega)) m38 (nUb hU (by omega) (by omega))
 have L13 := ((L13.keep rec_st (lUb hU (by omega) (by omega)) m30 nF).keep rec_st (lUb hU (by omega) (by omega)) m33 nF).keep rec_st (lUb hU (by omega) (by omega)) m38 (nUb hU (by omega) (by omega))
 have L16 := L16.keep rec_st (lUb hU (by omega) (by omega)) m38 (nUb hU (by omega) (by omega))
 exact ⟨rfl, (_, _, _, b3), _, env_okl ⟨rfl, rfl, rfl, trivial⟩, ⟨hC, (h3), (L10.mono rec_gr (fun k hk => ⟨hk.elim .inl (fun h => .inr ⟨by omega, by omega⟩), by have hk := Ub.num hU hk; omega⟩)), (L13.mono rec_gr (fun k hk => ⟨hk.elim .inl (fun h => .inr ⟨by omega, by omega⟩), by have hk := Ub.num hU hk; omega⟩)), (L16.mono rec_gr (fun k hk => ⟨hk.elim .inl (fun h => .inr ⟨by omega, by omega⟩), by have hk := Ub.num hU hk; omega⟩)), (by omega), (by omega)⟩⟩
end Go.Proofs.YtifnodoffgfpbaaGreatDoor

namespace Go.Proofs.YtifnodoffgfpbaaGreatDoor
open Go

abbrev Ent := List (ByteArray × UInt16)
def look (M : Ent) (s : ByteArray) : Option UInt16 := match M with
  | [] => none
  | (k, v) :: M => if s = k then some v else look M s
section
variable {P : Program} {n : Nat} {l : List (Nat × Value)} {w : World} {ty : TypeId} {x y z : Operand}
end
end Go.Proofs.YtifnodoffgfpbaaGreatDoor

namespace Go.Proofs.YtifnodoffgfpbaaGreatDoor
open Go

def questSegs (a : AskD) : List (List Value) := [nm (bt a.name), [.int .u16 (a.typ.toNat : Int)], [.int .u16 (a.cls.toNat : Int)]]
def rhSegs (s : List UInt8) (typ cls : UInt16) (ttl : UInt32) (len : Nat) : List (List Value) := [nm s, [.int .u16 (typ.toNat : Int)], [.int .u16 (cls.toNat : Int)], [.int .u32 (ttl.toNat : Int)], [.int .u16 (len : Int)]]
end Go.Proofs.YtifnodoffgfpbaaGreatDoor

namespace Go.Proofs.YtifnodoffgfpbaaGreatDoor
open Go

def strs (ts : List ByteArray) : List Value := ts.map Value.string
theorem strs_one (ts : List ByteArray) : (strs ts).all (·.oneCell') = true := by
  rw [List.all_eq_true]; intro v hv
  obtain ⟨_, _, rfl⟩ := List.mem_map.1 hv
  rfl
theorem LA.strs {U : Nat → Prop} {w : World} {v : Value} {ts : List ByteArray} {T : Nat} (h : LA TextEl [1] U w v ts) (hT : slcB PP T 9 = true) : Src PP 1 T v ts.length (strs ts) w := by
  obtain ⟨a, c, rfl, h⟩ := h
  by_cases ht : ts = []
  · subst ht
    cases a with
    | none => exact Src.ofNil w (slcB_spec hT) c
    | some a => exact Src.ofSlice w (slcB_spec hT) a 0 c [] rfl (fun j u h => by simp at h) (fun u h => by cases h)
  · obtain ⟨b, o, rfl, _, hr⟩ := h ht
    refine src_rng hT (by simp [YtifnodoffgfpbaaGreatDoor.strs]) (fun j u hu => ?_) (strs_one _)
    simp only [YtifnodoffgfpbaaGreatDoor.strs, List.getElem?_map, Option.map_eq_some_iff] at hu
    obtain ⟨s, hs, rfl⟩ := hu
    obtain ⟨segs, hsr, rfl⟩ := hr j s hs
    have := hsr.c 0 rfl rfl
    simpa using this
theorem strs_flat : ∀ ts : List ByteArray, ((ts.map (fun s => [[Value.string s]])).map List.flatten).flatten = strs ts
  | [] => rfl
  | t :: ts => congrArg (Value.string t :: ·) (strs_flat ts)
theorem RA.texts {U : Nat → Prop} {w : World} {v : Value} {g n : Nat} {ts : List ByteArray} (h : Rw w v g 9 1 n (strs ts)) : RA TextEl [1] U w v g 9 n ts := by
  refine ⟨ts.map (fun s => [[Value.string s]]), ?_, ⟨by simp, fun i a b ha hb => ?_⟩⟩
  · rw [strs_flat]; exact h
  · simp only [List.getElem?_map, Option.map_eq_some_iff] at ha
    obtain ⟨s, hs, rfl⟩ := ha
    rw [hs] at hb
    simp only [Option.some.injEq] at hb
    subst hb
    exact ⟨rfl, rfl⟩

end Go.Proofs.YtifnodoffgfpbaaGreatDoor

namespace Go.Proofs.YtifnodoffgfpbaaGreatDoor
open Go

inductive BodySegs (U : Nat → Prop) (w : World) (r : RecD) : TypeId → List Nat → List (List Value) → Prop
  | a (h : r.kind = 1) : BodySegs U w r 186 [4] [bvs (fixedL r.data 4)]
  | ns (h : r.kind = 2) : BodySegs U w r 190 [256] [nm (bt r.host)]
  | cname (h : r.kind = 3) : BodySegs U w r 193 [256] [nm (bt r.host)]
  | soa (h : r.kind = 4) : BodySegs U w r 196 [256, 256, 1, 1, 1, 1, 1] [nm (bt r.host), nm (bt r.box), [.int .u32 (r.n1.toNat : Int)], [.int .u32 (r.n2.toNat : Int)], [.int .u32 (r.n3.toNat : Int)], [.int .u32 (r.n4.toNat : Int)], [.int .u32 (r.n5.toNat : Int)]]
  | ptr (h : r.kind = 5) : BodySegs U w r 199 [256] [nm (bt r.host)]
  | mx (h : r.kind = 6) : BodySegs U w r 202 [1, 256] [[.int .u16 ((r.n1.toNat % 65536 : Nat) : Int)], nm (bt r.host)]
  | txt {v : Value} (h : r.kind = 7) (ht : LA TextEl [1] U w v r.texts) : BodySegs U w r 205 [1] [[v]]
  | aaaa (h : r.kind = 8) : BodySegs U w r 208 [16] [bvs (fixedL r.data 16)]
  | srv (h : r.kind = 9) : BodySegs U w r 212 [1, 1, 1, 256] [[.int .u16 ((r.n1.toNat % 65536 : Nat) : Int)], [.int .u16 ((r.n2.toNat % 65536 : Nat) : Int)], [.int .u16 ((r.n3.toNat % 65536 : Nat) : Int)], nm (bt r.host)]
  | opt {v : Value} (h : r.kind = 10) (hp : LA PairEl lPair U w v r.pairs) : BodySegs U w r 215 [1] [[v]]
  | svcb {v : Value} (h : r.kind = 11) (hp : LA PairEl lPair U w v r.pairs) : BodySegs U w r 221 [1, 256, 1] [[.int .u16 ((r.n1.toNat % 65536 : Nat) : Int)], nm (bt r.host), [v]]
  | https {v : Value} (h : r.kind = 12) (hp : LA PairEl lPair U w v r.pairs) : BodySegs U w r 226 [1, 256, 1] [[.int .u16 ((r.n1.toNat % 65536 : Nat) : Int)], nm (bt r.host), [v]]
  | other {v : Value} (h : r.kind = 13) (hd : BA U w v r.data) : BodySegs U w r 229 [1, 1] [[.int .u16 ((typeN r).toNat : Int)], [v]]
theorem BodySegs.keep {U S : Nat → Prop} {w w' : World} {r : RecD} {T : TypeId} {lens : List Nat} {segs : List (List Value)} (h : BodySegs U w r T lens segs) (hU : ∀ k, U k → k < w.heap.size) (m : Fr S w w') (hn : ∀ k, U k → ¬ S k) : BodySegs U w' r T lens segs := by
  cases h with
  | a h => exact .a h
  | ns h => exact .ns h
  | cname h => exact .cname h
  | soa h => exact .soa h
  | ptr h => exact .ptr h
  | mx h => exact .mx h
  | txt h ht => exact .txt h (ht.keep text_st hU m hn)
  | aaaa h => exact .aaaa h
  | srv h => exact .srv h
  | opt h hp => exact .opt h (hp.keep pair_st hU m hn)
  | svcb h hp => exact .svcb h (hp.keep pair_st hU m hn)
  | https h hp => exact .https h (hp.keep pair_st hU m hn)
  | other h hd => exact .other h (hd.keep hU m hn)
theorem BodySegs.mono {U U' : Nat → Prop} {w : World} {r : RecD} {T : TypeId} {lens : List Nat} {segs : List (List Value)} (h : BodySegs U w r T lens segs) (hU : ∀ k, U k → U' k) : BodySegs U' w r T lens segs := by
  cases h with
  | a h => exact .a h
  | ns h => exact .ns h
  | cname h => exact .cname h
  | soa h => exact .soa h
  | ptr h => exact .ptr h
  | mx h => exact .mx h
  | txt h ht => exact .txt h (ht.mono text_gr hU)
  | aaaa h => exact .aaaa h
  | srv h => exact .srv h
  | opt h hp => exact .opt h (hp.mono pair_gr hU)
  | svcb h hp => exact .svcb h (hp.mono pair_gr hU)
  | https h hp => exact .https h (hp.mono pair_gr hU)
  | other h hd => exact .other h (hd.mono hU)
def BodyEl (U : Nat → Prop) (w : World) (v : Value) (r : RecD) : Prop := ∃ b T lens segs, v = .iface T (.pointer (some ⟨b, 0, none⟩)) ∧ U b ∧ SR w b 0 lens segs ∧ BodySegs U w r T lens segs
theorem BodyEl.keep {U S : Nat → Prop} {w w' : World} {v : Value} {r : RecD} (h : BodyEl U w v r) (hU : ∀ k, U k → k < w.heap.size) (m : Fr S w w') (hn : ∀ k, U k → ¬ S k) : BodyEl U w' v r := by
  obtain ⟨b, T, lens, segs, rfl, hb, hs, h⟩ := h
  exact ⟨b, T, lens, segs, rfl, hb, hs.keep m (hU b hb) (hn b hb), h.keep hU m hn⟩
theorem BodyEl.mono {U U' : Nat → Prop} {w : World} {v : Value} {r : RecD} (h : BodyEl U w v r) (hU : ∀ k, U k → U' k) : BodyEl U' w v r := by
  obtain ⟨b, T, lens, segs, rfl, hb, hs, h⟩ := h
  exact ⟨b, T, lens, segs, rfl, hU b hb, hs, h.mono hU⟩
def FitB (r : RecD) : Prop := (r.kind = 2 ∨ r.kind = 3 ∨ r.kind = 5 ∨ r.kind = 6 ∨ r.kind = 9 ∨ r.kind = 11 ∨ r.kind = 12 ∨ r.kind = 4 → r.host.size ≤ 255) ∧ (r.kind = 4 → r.box.size ≤ 255) ∧
  r.data.length ≤ 1048576 ∧ r.texts.length ≤ 1048576 ∧ r.pairs.length ≤ 1048576 ∧ ∀ p ∈ r.pairs, p.data.length ≤ 1048576
abbrev lRes : List Nat := [256, 1, 1, 1, 1, 1]
end Go.Proofs.YtifnodoffgfpbaaGreatDoor

namespace Go.Proofs.YtifnodoffgfpbaaGreatDoor
open Go

abbrev mkB (l : List UInt8) : ByteArray := ⟨l.toArray⟩
theorem bt_mkB (l : List UInt8) : bt (mkB l) = l := by simp [bt]
def ptrL (p : UInt16) : List UInt8 := [UInt8.ofNat ((p >>> 8) ||| 192).toNat, UInt8.ofNat p.toNat]
def packGo : Option Ent → Nat → List UInt8 → List UInt8 → List UInt8 × Option Ent
  | C, _, _, [] => ([0], C)
  | C, pos, lab, c :: cs =>
    if c = 46 then ((UInt8.ofNat lab.length :: lab) ++ (packGo C (pos + (lab.length + 1)) [] cs).1, (packGo C (pos + (lab.length + 1)) [] cs).2)
    else if lab = [] then
      match C with
      | none => packGo none pos [c] cs
      | some M => match look M (mkB (c :: cs)) with
        | some p => (ptrL p, some M)
        | none => packGo (some (if pos ≤ 16383 then M ++ [(mkB (c :: cs), UInt16.ofNat pos)] else M)) pos [c] cs
    else packGo C pos (lab ++ [c]) cs
def packName (C : Option Ent) (pos : Nat) (s : List UInt8) : List UInt8 × Option Ent := if s = [46] then ([0], C) else packGo C pos [] s

theorem packGo_none : ∀ (cs lab : List UInt8) (pos : Nat), nameGo lab.length cs = true → packGo none pos lab cs = (wireGo lab cs ++ [0], none)
  | [], lab, pos, _ => by simp [packGo, wireGo]
  | c :: cs, lab, pos, h => by
    by_cases hc : c = 46
    · simp only [packGo, wireGo, hc, if_pos, nameGo] at h ⊢
      split at h
      · cases h
      · rename_i hl
        have hl' : lab ≠ [] := by intro h0; subst h0; simp at hl
        rw [packGo_none cs [] _ h, if_neg hl']
        simp
    · simp only [nameGo, hc, if_false] at h
      simp only [packGo, wireGo, hc, if_false]
      by_cases hl : lab = []
      · subst hl
        rw [if_pos rfl]
        simp only [List.nil_append]
        exact packGo_none cs [c] pos (by simpa using h)
      · rw [if_neg hl]
        exact packGo_none cs (lab ++ [c]) pos (by simpa using h)
theorem packGo_le : ∀ (cs lab : List UInt8) (C : Option Ent) (pos : Nat), (packGo C pos lab cs).1.length ≤ lab.length + 2 * cs.length + 1
  | [], lab, C, pos => by simp [packGo]
  | c :: cs, lab, C, pos => by
    by_cases hc : c = 46
    · simp only [packGo, hc, if_pos]
      have := packGo_le cs [] C (pos + (lab.length + 1))
      simp only [List.length_append, List.length_cons, List.length_nil] at this ⊢
      omega
    · simp only [packGo, hc, if_false]
      by_cases hl : lab = []
      · subst hl
        simp only [if_true]
        cases C with
        | none =>
          have := packGo_le cs [c] none pos
          simp only [List.length_cons, List.length_nil] at this ⊢; omega
        | some M =>
          simp only []
          split
          · simp [ptrL]; omega
          · have := packGo_le cs [c] (some (if pos ≤ 16383 then M ++ [(mkB (c :: cs), UInt16.ofNat pos)] else M)) pos
            simp only [List.length_cons, List.length_nil] at this ⊢; omega
      · rw [if_neg hl]
        have := packGo_le cs (lab ++ [c]) C pos
        simp only [List.length_append, List.length_cons, List.length_nil] at this ⊢; omega
theorem packName_le (C : Option Ent) (pos : Nat) (s : List UInt8) : (packName C pos s).1.length ≤ 2 * s.length + 1 := by
  simp only [packName]
  split
  · simp
  · have := packGo_le s [] C pos
    simpa using this
theorem packGo_some : ∀ (cs lab : List UInt8) (M : Ent) (pos : Nat), ∃ M', (packGo (some M) pos lab cs).2 = some M'
  | [], lab, M, pos => ⟨M, rfl⟩
  | c :: cs, lab, M, pos => by
    by_cases hc : c = 46
    · simp only [packGo, hc, if_pos]; exact packGo_some cs [] M _
    · simp only [packGo, hc, if_false]
      by_cases hl : lab = []
      · subst hl
        simp only [if_true]
        split
        · exact ⟨M, rfl⟩
        · exact packGo_some cs [c] _ pos
      · rw [if_neg hl]; exact packGo_some cs _ M pos
def nameL (s : List UInt8) : Prop := s = [46] ∨ (s ≠ [46] ∧ nameGo 0 s = true ∧ 1 < s.length ∧ s.length ≤ 254)
theorem nameL_of {s : ByteArray} (h : nameOk s = true) : nameL (bt s) := by
  by_cases hd : bt s = [46]
  · exact .inl hd
  · simp only [nameOk, hd, decide_false, Bool.false_or, Bool.and_eq_true, decide_eq_true_eq] at h
    exact .inr ⟨hd, h.1.1, by rw [bt_length]; exact h.1.2, by rw [bt_length]; exact h.2⟩
theorem nameOk_size {s : ByteArray} (h : nameOk s = true) : s.size ≤ 254 := by
  rcases nameL_of h with h | h
  · have := congrArg List.length h; rw [bt_length] at this; simp at this; omega
  · have := h.2.2.2; rw [bt_length] at this; exact this
theorem nameGo_first {s : List UInt8} (h : nameGo 0 s = true) : s[0]? ≠ some 46 := by
  cases s with
  | nil => simp
  | cons c cs =>
    intro h0
    simp only [List.getElem?_cons_zero, Option.some.injEq] at h0
    subst h0
    simp [nameGo] at h
theorem name_pos {s : List UInt8} (h : nameL s) : 0 < s.length ∧ s.length ≤ 254 := by
  rcases h with h | h
  · subst h; simp
  · omega
theorem nameGo_dot {n : Nat} {cs : List UInt8} (h : nameGo n (46 :: cs) = true) : 1 ≤ n ∧ n ≤ 63 ∧ nameGo 0 cs = true := by
  rw [nameGo, if_pos rfl] at h
  split at h
  · cases h
  · exact ⟨by omega, by omega, h⟩
theorem nameGo_let {n : Nat} {c : UInt8} {cs : List UInt8} (h : nameGo n (c :: cs) = true) (hc : c ≠ 46) : nameGo (n + 1) cs = true := by
  rw [nameGo, if_neg hc] at h; exact h
theorem u8eq {c : UInt8} (h : (c.toNat : Int) = 46) : c = 46 := UInt8.toNat_inj.1 (by have : (46 : UInt8).toNat = 46 := rfl; omega)
def pkE (o : List UInt8) (r : List UInt8 × Option Ent) : List UInt8 × Option Ent := (o ++ r.1, r.2)
theorem pk_mid {C : Option Ent} {pos : Nat} {c : UInt8} {lab cs : List UInt8} (hc : c ≠ 46) (hl : lab ≠ []) : packGo C pos lab (c :: cs) = packGo C pos (lab ++ [c]) cs := by
  cases C <;> simp [packGo, hc, hl]
theorem pk_hit {M : Ent} {pos : Nat} {c : UInt8} {cs : List UInt8} {p : UInt16} (hc : c ≠ 46) (hl : look M (mkB (c :: cs)) = some p) : packGo (some M) pos [] (c :: cs) = (ptrL p, some M) := by
  simp [packGo, hc, hl]
theorem pk_miss {M : Ent} {pos : Nat} {c : UInt8} {cs : List UInt8} (hc : c ≠ 46) (hl : look M (mkB (c :: cs)) = none) : packGo (some M) pos [] (c :: cs) = packGo (some (if pos ≤ 16383 then M ++ [(mkB (c :: cs), UInt16.ofNat pos)] else M)) pos [c] cs := by
  simp [packGo, hc, hl]
end Go.Proofs.YtifnodoffgfpbaaGreatDoor

namespace Go.Proofs.YtifnodoffgfpbaaGreatDoor
open Go

def SE (w : World) (b : Nat) (T : TypeId) (pre : List Value) (lens : List Nat) (segs : List (List Value)) (post : List Value) : Prop :=
  w.heap[b]? = some (.cells (pre ++ (segs.flatten ++ post)).toArray T (0, 0)) ∧ segs.map List.length = lens
section
variable {w w' : World} {b : Nat} {T : TypeId} {pre post : List Value} {lens : List Nat} {segs : List (List Value)}
theorem SE.lt (h : SE w b T pre lens segs post) : b < w.heap.size := (Array.getElem?_eq_some_iff.1 h.1).1
theorem SE.keep {S : Nat → Prop} (h : SE w b T pre lens segs post) (m : Fr S w w') (hn : ¬ S b) : SE w' b T pre lens segs post := ⟨(m.block b h.lt hn).trans h.1, h.2⟩
theorem SE.blk (h : SE w b T pre lens segs post) : Blk w b (pre ++ (segs.flatten ++ post)) := ⟨T, h.1⟩
theorem set_mid (pre mid post : List Value) (k : Nat) (v : Value) (hk : k < mid.length) : (pre ++ (mid ++ post)).set (pre.length + k) v = pre ++ (mid.set k v ++ post) := by
  rw [List.set_append_right _ _ (by omega), Nat.add_sub_cancel_left, List.set_append_left _ _ hk]
theorem xstE {P : Program} {n : Nat} {l : List (Nat × Value)} {ty : TypeId} {x y : Operand} {v : Value} {V : TypeId} {k o : Nat} (i : Nat) {u : Value} (hT : szB P V 1 = true) (hb : SE w b T pre lens segs post) (ho : pre.length = o) (hi : segs[i]? = some [u]) (hk : (lens.take i).sum = k)
    (hx : ev n l x = some (.pointer (some ⟨b, o + k, none⟩))) (hy : ev n l y = some v) (h1 : v.oneCell' = true) :
    ExUK P n l (.store V x y) ty w (fun w' => Fr (· = b) w w' ∧ SE w' b T pre lens (segs.set i [v]) post ∧ w'.heap.size = w.heap.size) := by
  subst ho
  have hlt : i < segs.length := (List.getElem?_eq_some_iff.1 hi).1
  have he : segs[i] = [u] := (List.getElem?_eq_some_iff.1 hi).2
  have hk' : offs segs i = k := by rw [offs_lens hb.2, hk]
  have hle := offs_le segs i hlt
  rw [he, hk'] at hle
  simp only [List.length_cons, List.length_nil] at hle
  have hcell := hb.blk.cell (i := pre.length + k) (v := segs.flatten[k]'(by omega)) (by
    rw [List.getElem?_append_right (by omega), Nat.add_sub_cancel_left, List.getElem?_append_left (by omega)]
    simp)
  have hfr := hb.blk.frozen (pre.length + k)
  have hset := heap_set hb.1 (pre.length + k) v
  rw [set_mid _ _ _ _ _ (by omega)] at hset
  have hfl := splice_flat segs i [v] hlt (by rw [he]; rfl)
  rw [hk', ← splice_cons _ _ _ _ (by omega), splice_nil] at hfl
  rw [hfl] at hset
  refine ⟨w.setCell ⟨b, pre.length + k, none⟩ v, fun r _ _ _ _ => ?_, fr_setCell w b _ v, ⟨hset, ?_⟩, size_setCell _ _ _⟩
  · have hs := szB_spec hT
    cases hi' : P.info? V with
    | none => rw [hi'] at hs; cases hs
    | some u =>
      rw [hi'] at hs
      simp only [Option.map_some, Option.some.injEq] at hs
      simp only [execOp, ev_eval r hx, ev_eval r hy]
      have hcells : v.cells = #[v] := by cases v <;> first | rfl | cases h1
      have hadd : (⟨b, pre.length + k, none⟩ : Addr).add 0 = ⟨b, pre.length + k, none⟩ := addr_add b _ 0
      simp [Instr.storeAt, Instr.sureAddr, storeVar, hcells, sizeOf, typeInfo, hi', hs, storeCells, hadd, run_store _ _ _ _ _ h1, hcell, hfr]
  · rw [List.map_set, ← hb.2]
    apply List.ext_getElem
    · simp
    · intro m h1 h2
      rw [List.getElem_set]
      split
      · rename_i hm; subst hm; simp [he]
      · rfl
end

theorem jcut {P : Program} {Q : Exit → Act → World → Prop} {c : Code} {n : Nat} {l : List (Nat × Value)} {r : Nat → Value} {w : World} {α : Type} (u : List (Nat × Value)) (_hu : okl l u) (ch : α → List (Nat × Value)) (J : α → World → Prop)
    (h : c.wp P (fun e a' w' => e = .normal ∧ ∃ x r', a' = env n (ch x ++ u) r' ∧ J x w') (env n l r) w)
    (k : ∀ x r w', J x w' → Q .normal (env n (ch x ++ u) r) w') : c.wp P Q (env n l r) w := by
  refine wp_mono h ?_
  rintro e a' w' ⟨rfl, x, r', rfl, hJ⟩
  exact k x r' w' hJ

theorem SE.k {w w' : World} {b : Nat} {T : TypeId} {pre post : List Value} {lens : List Nat} {segs : List (List Value)} (h : SE w b T pre lens segs post) (m : Fr0 w w') : SE w' b T pre lens segs post := h.keep m id
end Go.Proofs.YtifnodoffgfpbaaGreatDoor

namespace Go.Proofs.YtifnodoffgfpbaaGreatDoor
open Go

theorem mkB_size (s : List UInt8) : (mkB s).size = s.length := by simp [ByteArray.size]
theorem xb2sR {P : Program} {n : Nat} {l : List (Nat × Value)} {w : World} {ty : TypeId} {x : Operand} {S D E : TypeId} {bs : List UInt8} {b o m c : Nat} (hS : slcB P S E = true) (hE : intB P E .u8 = true) (hD : strB P D = true) (hx : ev n l x = some (.slice (some ⟨b, o, none⟩) m c)) (hm : bs.length = m) (hr : w.rangeAt b o (bvs bs)) :
    Ex P n l (.convert S D x) ty w (.string (mkB bs)) w := xb2s hS hE hD hx hm hr

end Go.Proofs.YtifnodoffgfpbaaGreatDoor
