/- Part 3 of the texts for a law of this seat: walks, and plain laws about messages; conditions: none. -/
import Derived.Test.YtifnodoffgfpbaaGreatDoorCt2
namespace Go.Proofs.YtifnodoffgfpbaaGreatDoor
open Go
set_option maxHeartbeats 4000000 in
set_option maxRecDepth 100000 in
theorem c29 {w : World} {U : Nat → Prop} (hU : ∀ k, U k → k < w.heap.size) {v : Value} {l : List RecD} (hl : LA RecEl lRec U w v l) (hn : l.length ≤ 1048576) (hpn : ∀ r ∈ l, r.fits) :
  Ret PP 29 [v] w (fun u w' => LA RecEl lRec (Ub U w w') w' u l ∧ Fr0 w w') := by
 obtain ⟨a0, c0, rfl⟩ := hl.form
 have hf : Fr (fun _ => False) w w := Fr.refl _ _
 refine ret_of Tryz.func29 rfl rfl rfl [(0, _)] rfl ?_
 refine sreg (sA rfl (send (fg [(0, _)] ⟨rfl, ⟨⟩⟩ fun _ => (sreg ?_))))
 refine svK (xslit ([]) sl32 in65 rfl (by decide) rfl rfl rfl rfl (by decide) rfl rfl) ?_
 rintro _ w2 ⟨b9, rfl, m3, h9, e9, s9, r9⟩
 have hl := hl.keep rec_st (lU hU (by omega)) m3 nF
 have hf := hf.step0 m3
 have hv3 : RX RecEl lRec U w.heap.size w2.heap.size w2 _ b9 65 0 [] := RX.ofNil r9
 refine sA rfl (send (fg [(0, _), (3, _)] ⟨rfl, rfl, ⟨⟩⟩ fun _ => (wp_seq (sreg (sM rfl (sv (xlen sl26 rfl) (sM rfl (send (fg [(3, _), (10, _), (11, _), (12, _)] ⟨rfl, rfl, rfl, rfl, ⟨⟩⟩ fun _ => (wp_block ?_))))))))))
 refine lp [(10, _), (11, _)] (fun (x : Nat × Value × Nat) => match x with | (k, v, g) => [(3, v), (12, .int .i64 (k : Int))]) (fun (x : Nat × Value × Nat) wx => match x with | (k, v, g) => Fr (fun k => k = b9) w2 wx ∧ (k ≤ l.length) ∧ (RX RecEl lRec U w.heap.size wx.heap.size wx v g 65 k (l.take k)) ∧ (w.heap.size ≤ g) ∧ (g < wx.heap.size) ∧ (g = b9 ∨ w2.heap.size ≤ g)) (fun (x : Nat × Value × Nat) => match x with | (k, v, g) => l.length - k) (0, _, b9) ⟨rfl, rfl, rfl, rfl, trivial⟩ ⟨Fr.refl _ _, Nat.zero_le _, hv3, by omega, by omega, .inl rfl⟩ ?_
 rintro ⟨k, v, g⟩ _ w5 ⟨hL4, hk, hv3, hg, hg2, hg3⟩
 refine fg [(3, _), (10, _), (11, _), (12, _)] ⟨rfl, rfl, rfl, rfl, ⟨⟩⟩ fun _ => ?_
 have z6 := hL4.size
 have hl := hl.keep rec_st (lU hU (by omega)) hL4 (fun k hk hS => by have hk := hU k hk; have hS : k = b9 := hS; omega)
 have hf := hf.step hL4 (nB (by omega))
 obtain ⟨a3, c3, rfl⟩ := RA.form hv3
 refine sreg ?_
 refine svP (xlss rfl rfl) (fun hc13 => ?_) (fun hc13 => ?_)
 ·
  refine send (fg [(3, _), (10, _), (11, _), (12, _), (13, _)] ⟨rfl, rfl, rfl, rfl, rfl, ⟨⟩⟩ fun _ => (wp_seq (cyes rfl (wp_skip (nThen (fg [(3, _), (10, _), (11, _), (12, _)] ⟨rfl, rfl, rfl, rfl, ⟨⟩⟩ fun _ => (wp_seq (wp_block ?_))))))))
  obtain ⟨r, hrk⟩ := some_of_lt (by omega : k < l.length)
  have hrf := hpn r (List.mem_of_getElem? hrk)
  simp only [RecD.fits] at hrf
  refine sreg ?_
  obtain ⟨bE14, oE14, sgE14, rfl, uE14, hsE14, heE14⟩ := LA.get hl hrk
  obtain ⟨vd, vt, vp, rfl, hd, ht, hp⟩ := heE14
  have zE14 := hU _ uE14
  obtain ⟨ad, cd, rfl, -⟩ := id hd
  obtain ⟨at1, ct1, rfl⟩ := ht.form
  obtain ⟨ap1, cp1, rfl⟩ := hp.form
  refine sv (xidx sl26 sz112 rfl rfl rfl (by omega)) (sv (xldS (lens := lRec) ro112 rfl hsE14) ?_)
  refine svK (xallS (lens := lRec) in112 rfl) ?_
  rintro _ w8 ⟨b5, rfl, m9, h5, e7, s7⟩
  have hf := hf.step0 m9
  have hv3 := RX.keep hv3 rec_st (lU hU (by omega)) (by omega) m9 (fun _ _ _ h => h) id
  have hL4 := hL4.step0 m9
  have hd := hd.keep (lU hU (by omega)) m9 nF
  have ht := ht.keep text_st (lU hU (by omega)) m9 nF
  have hp := hp.keep pair_st (lU hU (by omega)) m9 nF
  refine suK (xstW h5 (lens' := lRec) sz112 rfl rfl rfl rfl rfl) ?_
  rintro w11 ⟨m12, h5, s10⟩
  have hf := hf.step m12 (nB (by omega))
  have hv3 := RX.keep hv3 rec_st (lU hU (by omega)) (by omega) m12 (fun k hk hk3 hS => by have hS : k = b5 := hS; rcases hk with hk | hk <;> first | omega | (have := hU k hk; omega)) (by show ¬ (g = b5); omega)
  have hL4 := hL4.step m12 (fun k hk hS => by have hS : k = b5 := hS; show k = b9; omega)
  have hd := hd.keep (lU hU (by omega)) m12 (fun k hk hS => by have hk := hU k hk; have hS : k = b5 := hS; omega)
  have ht := ht.keep text_st (lU hU (by omega)) m12 (fun k hk hS => by have hk := hU k hk; have hS : k = b5 := hS; omega)
  have hp := hp.keep pair_st (lU hU (by omega)) m12 (fun k hk hS => by have hk := hU k hk; have hS : k = b5 := hS; omega)
  refine send (fg [(3, _), (5, _), (10, _), (11, _), (12, _)] ⟨rfl, rfl, rfl, rfl, rfl, ⟨⟩⟩ fun _ => (sreg ?_))
  refine svK (xslit ([]) sl63 in67 rfl (by decide) rfl rfl rfl rfl (by decide) rfl rfl) ?_
  rintro _ w14 ⟨b16, rfl, m15, h16, e16, s16, r16⟩
  have hf := hf.step0 m15
  have hv3 := RX.keep hv3 rec_st (lU hU (by omega)) (by omega) m15 (fun _ _ _ h => h) id
  have hL4 := hL4.step0 m15
  have hd := hd.keep (lU hU (by omega)) m15 nF
  have ht := ht.keep text_st (lU hU (by omega)) m15 nF
  have hp := hp.keep pair_st (lU hU (by omega)) m15 nF
  have h5 := h5.keep m15 id
  have hv6 : RA PairEl lPair U w14 _ b16 67 0 [] := ⟨[], r16, All2.nil⟩
  refine sA rfl (send (fg [(3, _), (5, _), (6, _), (10, _), (11, _), (12, _)] ⟨rfl, rfl, rfl, rfl, rfl, rfl, ⟨⟩⟩ fun _ => (wp_seq (sreg (sv (xfld fl112_15 rfl) (sv (xld on110 rfl (h5.r.c 15 rfl rfl)) (sv (xlen sl110 rfl) (sM rfl (send (fg [(3, _), (5, _), (6, _), (10, _), (11, _), (12, _), (18, _), (19, _), (20, _)] ⟨rfl, rfl, rfl, rfl, rfl, rfl, rfl, rfl, rfl, ⟨⟩⟩ fun _ => (wp_block ?_)))))))))))
  refine lp [(3, _), (5, _), (10, _), (11, _), (12, _), (18, _), (19, _)] (fun (x : Nat × Value × Nat) => match x with | (j, v6, g6) => [(6, v6), (20, .int .i64 (j : Int))]) (fun (x : Nat × Value × Nat) wx => match x with | (j, v6, g6) => Fr (fun k => k = b16) w14 wx ∧ (j ≤ r.pairs.length) ∧ (RA PairEl lPair U wx v6 g6 67 j (r.pairs.take j)) ∧ (w.heap.size ≤ g6) ∧ (g6 < wx.heap.size) ∧ (g6 = b16 ∨ w14.heap.size ≤ g6)) (fun (x : Nat × Value × Nat) => match x with | (j, v6, g6) => r.pairs.length - j) (0, _, b16) ⟨rfl, rfl, rfl, rfl, rfl, rfl, rfl, rfl, rfl, trivial⟩ ⟨Fr.refl _ _, Nat.zero_le _, hv6, by omega, by omega, .inl rfl⟩ ?_
  rintro ⟨j, v6, g6⟩ _ w17 ⟨hL16, hj, hv6, hg6, hg7, hg8⟩
  refine fg [(3, _), (5, _), (6, _), (10, _), (11, _), (12, _), (18, _), (19, _), (20, _)] ⟨rfl, rfl, rfl, rfl, rfl, rfl, rfl, rfl, rfl, ⟨⟩⟩ fun _ => ?_
  have z18 := hL16.size
  have hf := hf.step hL16 (nB (by omega))
  have hv3 := RX.keep hv3 rec_st (lU hU (by omega)) (by omega) hL16 (fun k hk hk3 hS => by have hS : k = b16 := hS; rcases hk with hk | hk <;> first | omega | (have := hU k hk; omega)) (by show ¬ (g = b16); omega)
  have hL4 := hL4.step hL16 (fun k hk hS => by have hS : k = b16 := hS; show k = b9; omega)
  have hd := hd.keep (lU hU (by omega)) hL16 (fun k hk hS => by have hk := hU k hk; have hS : k = b16 := hS; omega)
  have ht := ht.keep text_st (lU hU (by omega)) hL16 (fun k hk hS => by have hk := hU k hk; have hS : k = b16 := hS; omega)
  have hp := hp.keep pair_st (lU hU (by omega)) hL16 (fun k hk hS => by have hk := hU k hk; have hS : k = b16 := hS; omega)
  have h5 := h5.keep hL16 (by show ¬ (b5 = b16); omega)
  obtain ⟨a6, c6, rfl⟩ := RA.form hv6
  refine sreg ?_
  refine svP (xlss rfl rfl) (fun hc21 => ?_) (fun hc21 => ?_)
  ·
   refine send (fg [(3, _), (5, _), (6, _), (10, _), (11, _), (12, _), (18, _), (19, _), (20, _), (21, _)] ⟨rfl, rfl, rfl, rfl, rfl, rfl, rfl, rfl, rfl, rfl, ⟨⟩⟩ fun _ => (wp_seq (cyes rfl (wp_skip (nThen (fg [(3, _), (5, _), (6, _), (10, _), (11, _), (12, _), (18, _), (19, _), (20, _)] ⟨rfl, rfl, rfl, rfl, rfl, rfl, rfl, rfl, rfl, ⟨⟩⟩ fun _ => (wp_seq (wp_block ?_))))))))
   obtain ⟨p, hpj⟩ := some_of_lt (by omega : j < r.pairs.length)
   refine sreg ?_
   obtain ⟨bE22, oE22, sgE22, rfl, uE22, hsE22, heE22⟩ := LA.get hp hpj
   obtain ⟨vdp, rfl, hdp⟩ := heE22
   have zE22 := hU _ uE22
   obtain ⟨adp, cdp, rfl, -⟩ := id hdp
   refine sv (xidx sl110 sz145 rfl rfl rfl (by omega)) (sv (xldS (lens := [1, 1]) ro145 rfl hsE22) ?_)
   refine svK (xallS (lens := [1, 1]) in145 rfl) ?_
   rintro _ w20 ⟨b8, rfl, m21, h8, e19, s19⟩
   have hf := hf.step0 m21
   have hv3 := RX.keep hv3 rec_st (lU hU (by omega)) (by omega) m21 (fun _ _ _ h => h) id
   have hL4 := hL4.step0 m21
   have hd := hd.keep (lU hU (by omega)) m21 nF
   have ht := ht.keep text_st (lU hU (by omega)) m21 nF
   have h5 := h5.keep m21 id
   have hv6 := hv6.keep pair_st (lU hU (by omega)) m21 nF id
   have hL16 := hL16.step0 m21
   have hdp := hdp.keep (lU hU (by omega)) m21 nF
   refine suK (xstW h8 (lens' := [1, 1]) sz145 rfl rfl rfl rfl rfl) ?_
   rintro w23 ⟨m24, h8, s22⟩
   have hf := hf.step m24 (nB (by omega))
   have hv3 := RX.keep hv3 rec_st (lU hU (by omega)) (by omega) m24 (fun k hk hk3 hS => by have hS : k = b8 := hS; rcases hk with hk | hk <;> first | omega | (have := hU k hk; omega)) (by show ¬ (g = b8); omega)
   have hL4 := hL4.step m24 (fun k hk hS => by have hS : k = b8 := hS; show k = b9; omega)
   have hd := hd.keep (lU hU (by omega)) m24 (fun k hk hS => by have hk := hU k hk; have hS : k = b8 := hS; omega)
   have ht := ht.keep text_st (lU hU (by omega)) m24 (fun k hk hS => by have hk := hU k hk; have hS : k = b8 := hS; omega)
   have h5 := h5.keep m24 (by show ¬ (b5 = b8); omega)
   have hv6 := hv6.keep pair_st (lU hU (by omega)) m24 (fun k hk hS => by have hk := hU k hk; have hS : k = b8 := hS; omega) (by show ¬ (g6 = b8); omega)
   have hL16 := hL16.step m24 (fun k hk hS => by have hS : k = b8 := hS; show k = b16; omega)
   have hdp := hdp.keep (lU hU (by omega)) m24 (fun k hk hS => by have hk := hU k hk; have hS : k = b8 := hS; omega)
   refine send (fg [(3, _), (5, _), (6, _), (8, _), (10, _), (11, _), (12, _), (18, _), (19, _), (20, _)] ⟨rfl, rfl, rfl, rfl, rfl, rfl, rfl, rfl, rfl, rfl, ⟨⟩⟩ fun _ => (lreg (sM rfl (sv (xldS (lens := [1, 1]) ro145 rfl h8.r) ?_))))
   refine svK (xslit ((pairSegs p (.slice adp p.data.length cdp)).flatten) sl63 in67 rfl (by decide) rfl rfl rfl rfl (by decide) rfl rfl) ?_
   rintro _ w26 ⟨b26, rfl, m27, h26, e26, s26, r26⟩
   have hf := hf.step0 m27
   have hv3 := RX.keep hv3 rec_st (lU hU (by omega)) (by omega) m27 (fun _ _ _ h => h) id
   have hL4 := hL4.step0 m27
   have hd := hd.keep (lU hU (by omega)) m27 nF
   have ht := ht.keep text_st (lU hU (by omega)) m27 nF
   have h5 := h5.keep m27 id
   have hv6 := hv6.keep pair_st (lU hU (by omega)) m27 nF id
   have hL16 := hL16.step0 m27
   have hdp := hdp.keep (lU hU (by omega)) m27 nF
   obtain ⟨ss27, hR27, hA27⟩ := hv6
   refine svK (xapp sl63 in67 rfl (by decide) rfl rfl hR27 (r26.src sl63) (by simp only [maxLen]; omega) (by omega)) ?_
   rintro v27 w28 ⟨g27, r27, m29, a27, l27⟩
   have z30 := m29.size
   have hf := hf.step m29 (nB (by omega))
   have hv3 := RX.keep hv3 rec_st (lU hU (by omega)) (by omega) m29 (fun k hk hk3 hS => by have hS : k = g6 := hS; rcases hk with hk | hk <;> first | omega | (have := hU k hk; omega)) (by show ¬ (g = g6); omega)
   have hL4 := hL4.step m29 (fun k hk hS => by have hS : k = g6 := hS; show k = b9; omega)
   have hd := hd.keep (lU hU (by omega)) m29 (fun k hk hS => by have hk := hU k hk; have hS : k = g6 := hS; omega)
   have ht := ht.keep text_st (lU hU (by omega)) m29 (fun k hk hS => by have hk := hU k hk; have hS : k = g6 := hS; omega)
   have h5 := h5.keep m29 (by show ¬ (b5 = g6); omega)
   have hL16 := hL16.step m29 (fun k hk hS => by have hS : k = g6 := hS; show k = b16; omega)
   have hdp := hdp.keep (lU hU (by omega)) m29 (fun k hk hS => by have hk := hU k hk; have hS : k = g6 := hS; omega)
   have hv6 := RA.snoc (x := p) hA27 pair_st pair_gr (lU hU (by omega)) m29 (fun k hk hS => by have hk := hU k hk; have hS : k = g6 := hS; omega) (fun _ h => h) r27 rfl (⟨_, rfl, hdp⟩)
   refine sA rfl (lend (nBlock (nThen (fg [(3, _), (5, _), (6, _), (10, _), (11, _), (12, _), (18, _), (19, _), (20, _)] ⟨rfl, rfl, rfl, rfl, rfl, rfl, rfl, rfl, rfl, ⟨⟩⟩ fun _ => (lreg (sv (xadd rfl rfl (w64 (by omega) (by omega))) (sM rfl (lend (nThen ?_)))))))))
   refine ⟨(j + 1, _, g27), _, env_okl ⟨rfl, rfl, rfl, rfl, rfl, rfl, rfl, rfl, rfl, trivial⟩, ⟨hL16, (by omega), (by rw [take_snoc hpj]; exact hv6), (by omega), (l27 (by omega)), (by omega)⟩, ?_⟩
   show r.pairs.length - (j + 1) < r.pairs.length - j; omega
  ·
   refine send (fg [(3, _), (5, _), (6, _), (10, _), (11, _), (12, _), (18, _), (19, _), (20, _), (21, _)] ⟨rfl, rfl, rfl, rfl, rfl, rfl, rfl, rfl, rfl, rfl, ⟨⟩⟩ fun _ => (wp_seq (cno rfl (wp_exit (eThen (eThen (eHit (nThen (fg [(3, _), (5, _), (6, _), (10, _), (11, _), (12, _)] ⟨rfl, rfl, rfl, rfl, rfl, rfl, ⟨⟩⟩ fun _ => ?_)))))))))
   have eP : r.pairs.take j = r.pairs := List.take_of_length_le (by omega)
   rw [eP] at hv6
   obtain rfl : j = r.pairs.length := by omega
   refine lreg (sM rfl (sv (xfld fl112_0 rfl) (sv (xld on9 rfl (h5.r.c 0 rfl rfl)) (sv (xfld fl112_1 rfl) (sv (xld on22 rfl (h5.r.c 1 rfl rfl)) (sv (xfld fl112_2 rfl) (sv (xld on22 rfl (h5.r.c 2 rfl rfl)) (sv (xfld fl112_3 rfl) (sv (xld on61 rfl (h5.r.c 3 rfl rfl)) (sv (xfld fl112_4 rfl) (sv (xld on22 rfl (h5.r.c 4 rfl rfl)) (sv (xfld fl112_5 rfl) (sv (xld on3 rfl (h5.r.c 5 rfl rfl)) (sv (xfld fl112_6 rfl) (sv (xld on37 rfl (h5.r.c 6 rfl rfl)) (sv (xfld fl112_7 rfl) (sv (xld on9 rfl (h5.r.c 7 rfl rfl)) (sv (xfld fl112_8 rfl) (sv (xld on9 rfl (h5.r.c 8 rfl rfl)) (sv (xfld fl112_9 rfl) (sv (xld on61 rfl (h5.r.c 9 rfl rfl)) (sv (xfld fl112_10 rfl) (sv (xld on61 rfl (h5.r.c 10 rfl rfl)) (sv (xfld fl112_11 rfl) ?_))))))))))))))))))))))))
   refine sv (xld on61 rfl (h5.r.c 11 rfl rfl)) (sv (xfld fl112_12 rfl) (sv (xld on61 rfl (h5.r.c 12 rfl rfl)) (sv (xfld fl112_13 rfl) (sv (xld on61 rfl (h5.r.c 13 rfl rfl)) (sv (xfld fl112_14 rfl) (sv (xld on62 rfl (h5.r.c 14 rfl rfl)) (sM rfl (sv (xbuildS (recSegs r (.slice ad r.data.length cd) (.slice at1 r.texts.length ct1) (.slice a6 r.pairs.length c6)) zr65 ly65 rfl (by simp [fitAll, zs65, Value.cells]) rfl) ?_))))))))
   refine svK (xslit ((recSegs r (.slice ad r.data.length cd) (.slice at1 r.texts.length ct1) (.slice a6 r.pairs.length c6)).flatten) sl32 in65 rfl (by decide) rfl rfl rfl rfl (by decide) rfl rfl) ?_
   rintro _ w32 ⟨b62, rfl, m33, h62, e62, s62, r62⟩
   have hf := hf.step0 m33
   have hv3 := RX.keep hv3 rec_st (lU hU (by omega)) (by omega) m33 (fun _ _ _ h => h) id
   have hL4 := hL4.step0 m33
   have hd := hd.keep (lU hU (by omega)) m33 nF
   have ht := ht.keep text_st (lU hU (by omega)) m33 nF
   have hv6 := hv6.keep pair_st (lU hU (by omega)) m33 nF id
   obtain ⟨ss63, hR63, hA63⟩ := hv3
   refine svK (xapp sl32 in65 rfl (by decide) rfl rfl hR63 (r62.src sl32) (by simp only [maxLen]; omega) (by omega)) ?_
   rintro v63 w34 ⟨g63, r63, m35, a63, l63⟩
   have z36 := m35.size
   have hf := hf.step m35 (nB (by omega))
   have hL4 := hL4.step m35 (fun k hk hS => by have hS : k = g := hS; show k = b9; omega)
   have hd := hd.keep (lU hU (by omega)) m35 (fun k hk hS => by have hk := hU k hk; have hS : k = g := hS; omega)
   have ht := ht.keep text_st (lU hU (by omega)) m35 (fun k hk hS => by have hk := hU k hk; have hS : k = g := hS; omega)
   have hv6 := hv6.keep pair_st (lU hU (by omega)) m35 (fun k hk hS => by have hk := hU k hk; have hS : k = g := hS; omega) (by show ¬ (g6 = g); omega)
   have hv3 := RX.snoc (x := r) w34.heap.size hA63 rec_st rec_gr (lU hU (by omega)) (by omega) (by omega) m35 a63 r63 rfl (⟨_, _, _, rfl, hd.mono (fun k h => ⟨.inl h, by have := hU k h; omega⟩), ht.mono text_gr (fun k h => ⟨.inl h, by have := hU k h; omega⟩), RA.la hv6 (by decide) pair_gr (fun k h => ⟨.inl h, by have := hU k h; omega⟩) ⟨.inr (by omega), by omega⟩⟩)
   refine sA rfl (lend (nBlock (nThen (fg [(3, _), (10, _), (11, _), (12, _)] ⟨rfl, rfl, rfl, rfl, ⟨⟩⟩ fun _ => (lreg (sv (xadd rfl rfl (w64 (by omega) (by omega))) (sM rfl (lend (nThen ?_)))))))))
   refine ⟨(k + 1, _, g63), _, env_okl ⟨rfl, rfl, rfl, rfl, trivial⟩, ⟨hL4, (by omega), (by rw [take_snoc hrk]; exact RX.up rec_gr hv3 (by omega)), (by omega), (l63 (by omega)), (by omega)⟩, ?_⟩
   show l.length - (k + 1) < l.length - k; omega
 ·
  refine send (fg [(3, _), (10, _), (11, _), (12, _), (13, _)] ⟨rfl, rfl, rfl, rfl, rfl, ⟨⟩⟩ fun _ => (wp_seq (cno rfl (wp_exit (eThen (eThen (eHit (nThen (fg [(3, _)] ⟨rfl, ⟨⟩⟩ fun _ => (sreg (sM rfl (sA rfl (send (fg [(2, _)] ⟨rfl, ⟨⟩⟩ fun _ => (wp_ret ?_)))))))))))))))
  refine rp1 rfl rfl ?_
  have e : l.take k = l := List.take_of_length_le (by omega)
  rw [e] at hv3
  exact ⟨RX.la hv3 (by decide) rec_gr (fun k hk => hk.elim .inl .inr) (.inr ⟨hg, hg2⟩), hf⟩
end Go.Proofs.YtifnodoffgfpbaaGreatDoor

namespace Go.Proofs.YtifnodoffgfpbaaGreatDoor
open Go

theorem Uw.num {U : Nat → Prop} {n0 nb g n k : Nat} (hU : ∀ k, U k → k < n) (h : Uw U n0 nb g k) : (k < n ∨ (n0 ≤ k ∧ k < nb)) ∧ k ≠ g := ⟨h.1.imp_left (hU k), h.2⟩

inductive Tr where
  | lst (o : List (Nat × Kd))
  | rd (i : Nat) (t : Tr)
  | ld (i : Nat) (t : Tr)
  | two (i : Nat) (a : Tr) (j : Nat) (b : Tr)
def runT (P : Program) (ops : Array Oper) (Q : Exit → Act → World → Prop) (S : World → Prop) : Tr → Act → World → Prop
  | .lst o, a, w => runH P ops Q S o a w
  | .rd i t, a, w => ∃ o v, ops[i]? = some o ∧ YieldsIf P ops S o v a ∧ S w ∧ runT P ops Q S t (a.put o.dst v) w
  | .ld i t, a, w => wpOp P ops Q i (fun a' w' => S w' ∧ runT P ops Q S t a' w') a w
  | .two i t j u, a, w => wpOp P ops Q i (fun a' w' => S w' ∧ runT P ops Q S t a' w') a w ∧ wpOp P ops Q j (fun a' w' => S w' ∧ runT P ops Q S u a' w') a w
def readsT : Tr → List Nat
  | .lst o => reads o
  | .rd i t => i :: readsT t
  | .ld _ t => readsT t
  | .two _ a _ _ => readsT a
def okT (ops : Array Oper) (st : List Nat) : Array Bool → Tr → Bool
  | listed, .lst o => okRun ops st listed o
  | listed, .rd i t => st.contains i && Region.free .any ops listed i && (Region.ready .any ops listed).contains i && okT ops st (listed.setIfInBounds i true) t
  | listed, .ld i t => (Region.ready .any ops listed == [i]) && okT ops st (listed.setIfInBounds i true) t
  | listed, .two i a j b => (Region.ready .any ops listed == [i, j]) && okT ops st (listed.setIfInBounds i true) a && okT ops st (listed.setIfInBounds j true) b
def lenT : Tr → Nat
  | .lst o => o.length
  | .rd _ t => lenT t + 1
  | .ld _ t => lenT t + 1
  | .two _ a _ b => max (lenT a) (lenT b) + 1

section
variable {P : Program} {ops : Array Oper} {Q : Exit → Act → World → Prop} {S : World → Prop} {st : List Nat}
theorem runT_sound (hs : Region.noSelect ops = true) (hQ : ∀ c d v a w, Q (.panic c) (a.put d v) w → Q (.panic c) a w) :
    ∀ (t : Tr) (listed : Array Bool) (a : Act) (w : World) (fuel : Nat), closedUp ops listed → okT ops st listed t = true → lenT t ≤ fuel → runT P ops Q S t a w → wpAnyP P ops Q S st fuel listed a w
  | .lst o, listed, a, w, fuel, hc, hok, hf, h => runH_sound hs hQ o listed a w fuel hc hok hf h
  | .rd i t, listed, a, w, fuel, hc, hok, hf, h => by
    simp only [okT, Bool.and_eq_true] at hok
    obtain ⟨o, v, ho, hy, hS, hk⟩ := h
    cases fuel with
    | zero => simp [lenT] at hf
    | succ fuel =>
      have hr : i ∈ Region.ready .any ops listed := by simpa using hok.1.2
      refine wpAnyP_first ho (by simpa using hok.1.1.1) (Region.noSelect_spec hs) (fun c a w => hQ c _ _ a w) fuel listed a w hc hok.1.1.2 hr hy hS ?_
      exact runT_sound hs hQ t _ _ _ _ (closedUp_set hc hr) hok.2 (by simpa [lenT] using hf) hk
  | .ld i t, listed, a, w, fuel, hc, hok, hf, h => by
    simp only [okT, Bool.and_eq_true, beq_iff_eq] at hok
    cases fuel with
    | zero => simp [lenT] at hf
    | succ fuel =>
      refine wpAnyP_one hok.1 (wpOp_mono (fun a' w' h' => ⟨.inr h'.1, ?_⟩) h)
      exact runT_sound hs hQ t _ _ _ _ (closedUp_set hc (by rw [hok.1]; simp)) hok.2 (by simpa [lenT] using hf) h'.2
  | .two i t j u, listed, a, w, fuel, hc, hok, hf, h => by
    simp only [okT, Bool.and_eq_true, beq_iff_eq] at hok
    cases fuel with
    | zero => simp [lenT] at hf
    | succ fuel =>
      simp only [lenT] at hf
      refine ⟨fun h0 => (by rw [hok.1.1] at h0; cases h0), fun k hk => ?_⟩
      rw [hok.1.1] at hk
      simp only [List.mem_cons, List.not_mem_nil, or_false] at hk
      rcases hk with rfl | rfl
      · exact wpOp_mono (fun a' w' h' => ⟨.inr h'.1, runT_sound hs hQ t _ _ _ _ (closedUp_set hc (by rw [hok.1.1]; simp)) hok.1.2 (by omega) h'.2⟩) h.1
      · exact wpOp_mono (fun a' w' h' => ⟨.inr h'.1, runT_sound hs hQ u _ _ _ _ (closedUp_set hc (by rw [hok.1.1]; simp)) hok.2 (by omega) h'.2⟩) h.2

/-- what stands behind the region knows only J -/
theorem sdrawI {id : Nat} {y : Code} {n : Nat} {l : List (Nat × Value)} {r : Nat → Value} {w : World} {α : Type} (u : List (Nat × Value)) (_hu : okl l u) (ch : α → List (Nat × Value)) (J : α → World → Prop) (S : World → Prop) (t : Tr) (hm : P.follows .mixedOrders = true)
    (hc : (Region.noSelect ops && okT ops (readsT t) (Array.replicate ops.size false) t && (lenT t).ble ops.size) = true)
    (h : runT P ops (fun e a' w' => e = .normal ∧ ∃ x r', a' = env n (ch x ++ u) r' ∧ J x w') S t (env n l r) w.drew)
    (k : ∀ x r w', J x w' → y.wp P Q (env n (ch x ++ u) r) w') : (Code.seq (.region id ops true) y).wp P Q (env n l r) w := by
  simp only [Bool.and_eq_true] at hc
  refine wp_seq (wp_mono (wp_region_any hm (wpAny_of_P _ _ _ _ (runT_sound hc.1.1 (fun c d v a w h => by cases h.1) t _ _ _ _ (closedUp_start _) hc.1.2 (Nat.le_of_ble_eq_true hc.2) h))) ?_)
  rintro e a' w' ⟨rfl, x, r', rfl, hJ⟩
  exact k x r' w' hJ

variable {n : Nat} {l : List (Nat × Value)} {r : Nat → Value} {w w' : World} {op : Op} {ty : TypeId} {pos : String} {af : Array Edge} {v : Value} {d i : Nat} {t : Tr}
theorem lstT {o : List (Nat × Kd)} {a : Act} (h : runH P ops Q S o a w) : runT P ops Q S (.lst o) a w := h
theorem twoT {j : Nat} {u : Tr} {a : Act} (h1 : runT P ops Q S (.ld i t) a w) (h2 : runT P ops Q S (.ld j u) a w) : runT P ops Q S (.two i t j u) a w := ⟨h1, h2⟩
theorem hvT (ho : ops[i]? = some ⟨some d, op, ty, pos, af, none⟩) (h : ∀ w, S w → Ex P n l op ty w v w) (hS : S w)
    (k : runT P ops Q S t (env n ((d, v) :: l) r) w) : runT P ops Q S (.rd i t) (env n l r) w :=
  ⟨_, v, ho, .inl ⟨by simp [Region.wanted], fun w hw => h w hw r _ _ _ _⟩, hS, by rw [env_put]; exact k⟩
theorem hlT (ho : ops[i]? = some ⟨some d, op, ty, pos, af, none⟩) (h : Ex P n l op ty w v w') (hS : S w')
    (k : runT P ops Q S t (env n ((d, v) :: l) r) w') : runT P ops Q S (.ld i t) (env n l r) w := by
  simp only [runT, wpOp, ho]
  rw [if_pos (by simp [Region.wanted])]
  left
  unfold Oper.wp
  rw [h r _ _ _ _]
  simp only [Oper.upon]
  rw [env_put]
  exact ⟨hS, k⟩
theorem hlKT {R : Value → World → Prop} (ho : ops[i]? = some ⟨some d, op, ty, pos, af, none⟩) (h : ExK P n l op ty w R)
    (k : ∀ v w', R v w' → S w' ∧ runT P ops Q S t (env n ((d, v) :: l) r) w') : runT P ops Q S (.ld i t) (env n l r) w := by
  obtain ⟨v, w', he, hR⟩ := h
  exact hlT ho he (k v w' hR).1 (k v w' hR).2
theorem hluT (ho : ops[i]? = some ⟨none, op, ty, pos, af, none⟩) (h : ExU P n l op ty w w') (hS : S w')
    (k : runT P ops Q S t (env n l r) w') : runT P ops Q S (.ld i t) (env n l r) w := by
  simp only [runT, wpOp, ho]
  rw [if_pos (by simp [Region.wanted])]
  left
  unfold Oper.wp
  rw [h r _ _ _ _]
  exact ⟨hS, k⟩
theorem hluKT {R : World → Prop} (ho : ops[i]? = some ⟨none, op, ty, pos, af, none⟩) (h : ExUK P n l op ty w R)
    (k : ∀ w', R w' → S w' ∧ runT P ops Q S t (env n l r) w') : runT P ops Q S (.ld i t) (env n l r) w := by
  obtain ⟨w', he, hR⟩ := h
  exact hluT ho he (k w' hR).1 (k w' hR).2
theorem hcT {f : FuncId} {vs : List Value} {R : Value → World → Prop} (ho : ops[i]? = some ⟨some d, op, ty, pos, af, none⟩) (h : ExC P n l op ty w f vs) (hc : Ret P f vs w R)
    (k : ∀ v w', R v w' → S w' ∧ runT P ops Q S t (env n ((d, v) :: l) r) w') : runT P ops Q S (.ld i t) (env n l r) w := by
  simp only [runT, wpOp, ho]
  rw [if_pos (by simp [Region.wanted])]
  left
  unfold Oper.wp
  rw [h r _ _ _ _]
  simp only [Oper.upon]
  refine Calls.mono hc fun e w'' ⟨u, he, hR⟩ => ?_
  subst he
  simp only []
  rw [env_put]
  exact k _ _ hR
end
end Go.Proofs.YtifnodoffgfpbaaGreatDoor

namespace Go.Proofs.YtifnodoffgfpbaaGreatDoor
open Go

theorem RA.la0 {α : Type} {El : (Nat → Prop) → World → List (List Value) → α → Prop} {lens : List Nat} {U U' : Nat → Prop} {w : World} {v : Value} {g E n : Nat} {l : List α} (h : RA El lens U w v g E n l) (hs : 0 < lens.sum) (hE : Grows El) (hU : ∀ k, U k → U' k) (hg : n = 0 ∨ U' g) : LA El lens U' w v l := by
  rcases hg with rfl | hg
  · have hn := h.num hs
    obtain rfl : l = [] := List.eq_nil_of_length_eq_zero hn
    obtain ⟨a, c, rfl⟩ := RA.form h
    exact LA.nil
  · exact h.la hs hE hU hg
/-- what a conversion gives: a message that reads the same -/
def ConvTo (w : World) (U : Nat → Prop) (m : MsgD) (u : Value) (w' : World) : Prop :=
  ∃ va v1 v2 v3, u = ag (msgSegs m.head va v1 v2 v3) ∧ LA AskEl lAsk (Ub U w w') w' va m.asks ∧ LA RecEl lRec (Ub U w w') w' v1 m.one ∧ LA RecEl lRec (Ub U w w') w' v2 m.two ∧ LA RecEl lRec (Ub U w w') w' v3 m.three ∧ Fr0 w w'

set_option maxHeartbeats 4000000 in
set_option maxRecDepth 100000 in
theorem c13 {w : World} {U : Nat → Prop} (hU : ∀ k, U k → k < w.heap.size) {m : MsgD} {va v1 v2 v3 : Value} (ha : LA AskEl lAsk U w va m.asks) (y1 : LA RecEl lRec U w v1 m.one) (y2 : LA RecEl lRec U w v2 m.two) (y3 : LA RecEl lRec U w v3 m.three) (_hfa : ∀ a ∈ m.asks, a.name.size ≤ 1048576) (hfr : ∀ l ∈ [m.one, m.two, m.three], ∀ r ∈ l, r.fits) (hll : ∀ l ∈ [m.one, m.two, m.three], l.length ≤ 1048576) (hna : m.asks.length ≤ 1048576) :
  Ret PP 13 [ag (msgSegs m.head va v1 v2 v3)] w (ConvTo w U m) := by
 obtain ⟨aa, ca, rfl⟩ := ha.form
 obtain ⟨a1, c1, rfl⟩ := y1.form
 obtain ⟨a2, c2, rfl⟩ := y2.form
 obtain ⟨a3, c3, rfl⟩ := y3.form
 have hf : Fr (fun _ => False) w w := Fr.refl _ _
 refine ret_of Tryz.func13 rfl rfl rfl [(0, _)] rfl ?_
 refine sreg ?_
 refine svK (xboxS (lens := lMsg) rfl rfl) ?_
 rintro _ w2 ⟨b1, rfl, m3, h1, e1, s1⟩
 have ha := ha.keep ask_st (lU hU (by omega)) m3 nF
 have y1 := y1.keep rec_st (lU hU (by omega)) m3 nF
 have y2 := y2.keep rec_st (lU hU (by omega)) m3 nF
 have y3 := y3.keep rec_st (lU hU (by omega)) m3 nF
 have hf := hf.step0 m3
 refine svK (xallS (lens := lMsg) in34 rfl) ?_
 rintro _ w5 ⟨b2, rfl, m6, h2, e4, s4⟩
 have ha := ha.keep ask_st (lU hU (by omega)) m6 nF
 have y1 := y1.keep rec_st (lU hU (by omega)) m6 nF
 have y2 := y2.keep rec_st (lU hU (by omega)) m6 nF
 have y3 := y3.keep rec_st (lU hU (by omega)) m6 nF
 have hf := hf.step0 m6
 have h1 := h1.keep m6 id
 refine send (fg [(1, _), (2, _)] ⟨rfl, rfl, ⟨⟩⟩ fun _ => ?_)
 refine sdrawI [(1, _), (2, _)] ⟨rfl, rfl, trivial⟩ (fun (x : Value × Value × Value × Nat) => match x with | (v1, v2, v3, b3) => [(3, .pointer (some ⟨b3, 0, none⟩))]) (fun (x : Value × Value × Value × Nat) wx => match x with | (v1, v2, v3, b3) => Fr (fun _ => False) w5 wx ∧ (SB wx b3 lMsg (msgSegs m.head (.slice none 0 0) v1 v2 v3)) ∧ (LA RecEl lRec (Uw U w5.heap.size wx.heap.size b3) wx v1 m.one) ∧ (LA RecEl lRec (Uw U w5.heap.size wx.heap.size b3) wx v2 m.two) ∧ (LA RecEl lRec (Uw U w5.heap.size wx.heap.size b3) wx v3 m.three) ∧ (w5.heap.size ≤ b3) ∧ (b3 < wx.heap.size)) (Fr (fun _ => False) w5.drew) (.rd 0 (.rd 1 (.rd 2 (.rd 3 (.rd 5 (.rd 6 (.rd 8 (.rd 9 (.two 4 (.two 7 (.two 10 (.lst [(11, .rd), (12, .ld), (13, .bh)]) 12 (.lst [(10, .ld), (11, .rd), (13, .bh)])) 12 (.lst [(7, .ld), (10, .ld), (11, .rd), (13, .bh)])) 12 (.lst [(4, .ld), (7, .ld), (10, .ld), (11, .rd), (13, .bh)])))))))))) mixed (by kernel_rfl) ?_ ?_
 ·
  have hC : Fr (fun _ => False) w5 w5 := Fr.refl _ _
  have z7 : w5.drew.heap.size = w5.heap.size := rfl
  have ha := ha.keep ask_st (lU hU (by omega)) (fd w5) nF
  have y1 := y1.keep rec_st (lU hU (by omega)) (fd w5) nF
  have y2 := y2.keep rec_st (lU hU (by omega)) (fd w5) nF
  have y3 := y3.keep rec_st (lU hU (by omega)) (fd w5) nF
  have hf := hf.drew
  have h1 := h1.drew
  have h2 := h2.drew
  have hC := hC.drew
  have hS8 : Fr (fun _ => False) w5.drew w5.drew := Fr.refl _ _
  refine hvT rfl (fun _ _ => xfld fl28_0 rfl) hS8 ?_
  refine hvT rfl (fun w' hS => xldS (lens := [1, 1, 1, 1, 1, 1, 1, 1, 1, 1]) ro24 rfl ((h1.keep hS id).r.sub 0 10 rfl)) hS8 ?_
  refine hvT rfl (fun _ _ => xfld fl28_2 rfl) hS8 ?_
  refine hvT rfl (fun w' hS => xld on26 rfl ((h1.keep hS id).r.c 11 rfl rfl)) hS8 ?_
  refine hvT rfl (fun _ _ => xfld fl28_3 rfl) hS8 ?_
  refine hvT rfl (fun w' hS => xld on26 rfl ((h1.keep hS id).r.c 12 rfl rfl)) hS8 ?_
  refine hvT rfl (fun _ _ => xfld fl28_4 rfl) hS8 ?_
  refine hvT rfl (fun w' hS => xld on26 rfl ((h1.keep hS id).r.c 13 rfl rfl)) hS8 ?_
  refine twoT ?_ ?_
  ·
   refine hcT rfl (xcall ca29 rfl) (c29 (U := U) (lU hU (by omega)) y1 (hll _ (by simp)) (hfr _ (by simp))) ?_
   rintro v10 w9 ⟨L10, m10⟩
   have z11 := m10.size
   have ha := ha.keep ask_st (lU hU (by omega)) m10 nF
   have y1 := y1.keep rec_st (lU hU (by omega)) m10 nF
   have y2 := y2.keep rec_st (lU hU (by omega)) m10 nF
   have y3 := y3.keep rec_st (lU hU (by omega)) m10 nF
   have hf := hf.step0 m10
   have h1 := h1.keep m10 id
   have h2 := h2.keep m10 id
   have hC := hC.step0 m10
   have hS12 := hS8.step0 m10
   obtain ⟨aq10, cq10, rfl⟩ := L10.form
   refine ⟨hS12, ?_⟩
   refine twoT ?_ ?_
   ·
    refine hcT rfl (xcall ca29 rfl) (c29 (U := U) (lU hU (by omega)) y2 (hll _ (by simp)) (hfr _ (by simp))) ?_
    rintro v13 w13 ⟨L13, m14⟩
    have z15 := m14.size
    have ha := ha.keep ask_st (lU hU (by omega)) m14 nF
    have y1 := y1.keep rec_st (lU hU (by omega)) m14 nF
    have y2 := y2.keep rec_st (lU hU (by omega)) m14 nF
    have y3 := y3.keep rec_st (lU hU (by omega)) m14 nF
    have hf := hf.step0 m14
    have h1 := h1.keep m14 id
    have h2 := h2.keep m14 id
    have hC := hC.step0 m14
    have L10 := L10.keep rec_st (lUb hU (by omega) (by omega)) m14 nF
    have hS16 := hS12.step0 m14
    obtain ⟨aq13, cq13, rfl⟩ := L13.form
    refine ⟨hS16, ?_⟩
    refine twoT ?_ ?_
    ·
     refine hcT rfl (xcall ca29 rfl) (c29 (U := U) (lU hU (by omega)) y3 (hll _ (by simp)) (hfr _ (by simp))) ?_
     rintro v16 w17 ⟨L16, m18⟩
     have z19 := m18.size
     have ha := ha.keep ask_st (lU hU (by omega)) m18 nF
     have y1 := y1.keep rec_st (lU hU (by omega)) m18 nF
     have y2 := y2.keep rec_st (lU hU (by omega)) m18 nF
     have y3 := y3.keep rec_st (lU hU (by omega)) m18 nF
     have hf := hf.step0 m18
     have h1 := h1.keep m18 id
     have h2 := h2.keep m18 id
     have hC := hC.step0 m18
     have L10 := L10.keep rec_st (lUb hU (by omega) (by omega)) m18 nF
     have L13 := L13.keep rec_st (lUb hU (by omega) (by omega)) m18 nF
     have hS20 := hS16.step0 m18
     obtain ⟨aq16, cq16, rfl⟩ := L16.form
     refine ⟨hS20, ?_⟩
     refine lstT (hv rfl (fun _ _ => xbuildS (msgSegs m.head (.slice none 0 0) (.slice aq10 m.one.length cq10) (.slice aq13 m.two.length cq13) (.slice aq16 m.three.length cq16)) zr34 ly34 rfl (by simp [fitAll, zs34, Value.cells, msgSegs]) rfl) hS20 ?_)
     refine hlK rfl (xallS (lens := lMsg) in34 rfl) ?_
     rintro _ w22 ⟨b3, rfl, m23, h3, e21, s21⟩
     have ha := ha.keep ask_st (lU hU (by omega)) m23 nF
     have y1 := y1.keep rec_st (lU hU (by omega)) m23 nF
     have y2 := y2.keep rec_st (lU hU (by omega)) m23 nF
     have y3 := y3.keep rec_st (lU hU (by omega)) m23 nF
     have hf := hf.step0 m23
     have h1 := h1.keep m23 id
     have h2 := h2.keep m23 id
     have hC := hC.step0 m23
     have L10 := L10.keep rec_st (lUb hU (by omega) (by omega)) m23 nF
     have L13 := L13.keep rec_st (lUb hU (by omega) (by omega)) m23 nF
     have L16 := L16.keep rec_st (lUb hU (by omega) (by omega)) m23 nF
     have hS24 := hS20.step0 m23
     refine ⟨hS24, ?_⟩
     refine bluK rfl (xstW h3 (lens' := lMsg) sz34 rfl rfl rfl rfl rfl) ?_
     rintro w26 ⟨m27, h3, s25⟩
     have ha := ha.keep ask_st (lU hU (by omega)) m27 (fun k hk hS => by have hk := hU k hk; have hS : k = b3 := hS; omega)
     have y1 := y1.keep rec_st (lU hU (by omega)) m27 (fun k hk hS => by have hk := hU k hk; have hS : k = b3 := hS; omega)
     have y2 := y2.keep rec_st (lU hU (by omega)) m27 (fun k hk hS => by have hk := hU k hk; have hS : k = b3 := hS; omega)
     have y3 := y3.keep rec_st (lU hU (by omega)) m27 (fun k hk hS => by have hk := hU k hk; have hS : k = b3 := hS; omega)
     have hf := hf.step m27 (nB (by omega))
     have h1 := h1.keep m27 (by show ¬ (b1 = b3); omega)
     have h2 := h2.keep m27 (by show ¬ (b2 = b3); omega)
     have hC := hC.step m27 (nB (by omega))
     have L10 := L10.keep rec_st (lUb hU (by omega) (by omega)) m27 (fun k hk hS => by have hk := Ub.num hU hk; have hS : k = b3 := hS; omega)
     have L13 := L13.keep rec_st (lUb hU (by omega) (by omega)) m27 (fun k hk hS => by have hk := Ub.num hU hk; have hS : k = b3 := hS; omega)
     have L16 := L16.keep rec_st (lUb hU (by omega) (by omega)) m27 (fun k hk hS => by have hk := Ub.num hU hk; have hS : k = b3 := hS; omega)
     exact ⟨rfl, (_, _, _, b3), _, env_okl ⟨rfl, rfl, rfl, trivial⟩, ⟨hC, (h3), (L10.mono rec_gr (fun k hk => ⟨hk.elim .inl (fun h => .inr ⟨by omega, by omega⟩), by have hk := Ub.num hU hk; omega⟩)), (L13.mono rec_gr (fun k hk => ⟨hk.elim .inl (fun h => .inr ⟨by omega, by omega⟩), by have hk := Ub.num hU hk; omega⟩)), (L16.mono rec_gr (fun k hk => ⟨hk.elim .inl (fun h => .inr ⟨by omega, by omega⟩), by have hk := Ub.num hU hk; omega⟩)), (by omega), (by omega)⟩⟩
    ·
     refine hlKT rfl (xallS (lens := lMsg) in34 rfl) ?_
     rintro _ w29 ⟨b3, rfl, m30, h3, e28, s28⟩
     have ha := ha.keep ask_st (lU hU (by omega)) m30 nF
     have y1 := y1.keep rec_st (lU hU (by omega)) m30 nF
     have y2 := y2.keep rec_st (lU hU (by omega)) m30 nF
     have y3 := y3.keep rec_st (lU hU (by omega)) m30 nF
     have hf := hf.step0 m30
     have h1 := h1.keep m30 id
     have h2 := h2.keep m30 id
     have hC := hC.step0 m30
     have L10 := L10.keep rec_st (lUb hU (by omega) (by omega)) m30 nF
     have L13 := L13.keep rec_st (lUb hU (by omega) (by omega)) m30 nF
     have hS31 := hS16.step0 m30
     refine ⟨hS31, ?_⟩
     refine lstT ?_
     refine hc rfl (xcall ca29 rfl) (c29 (U := U) (lU hU (by omega)) y3 (hll _ (by simp)) (hfr _ (by simp))) ?_
     rintro v16 w32 ⟨L16, m33⟩
     have z34 := m33.size
     have ha := ha.keep ask_st (lU hU (by omega)) m33 nF
     have y1 := y1.keep rec_st (lU hU (by omega)) m33 nF
     have y2 := y2.keep rec_st (lU hU (by omega)) m33 nF
     have y3 := y3.keep rec_st (lU hU (by omega)) m33 nF
     have hf := hf.step0 m33
     have h1 := h1.keep m33 id
     have h2 := h2.keep m33 id
     have hC := hC.step0 m33
     have L10 := L10.keep rec_st (lUb hU (by omega) (by omega)) m33 nF
     have L13 := L13.keep rec_st (lUb hU (by omega) (by omega)) m33 nF
     have h3 := h3.keep m33 id
     have hS35 := hS31.step0 m33
     obtain ⟨aq16, cq16, rfl⟩ := L16.form
     refine ⟨hS35, ?_⟩
     refine hv rfl (fun _ _ => xbuildS (msgSegs m.head (.slice none 0 0) (.slice aq10 m.one.length cq10) (.slice aq13 m.two.length cq13) (.slice aq16 m.three.length cq16)) zr34 ly34 rfl (by simp [fitAll, zs34, Value.cells, msgSegs]) rfl) hS35 ?_
     refine bluK rfl (xstW h3 (lens' := lMsg) sz34 rfl rfl rfl rfl rfl) ?_
     rintro w37 ⟨m38, h3, s36⟩
     have ha := ha.keep ask_st (lU hU (by omega)) m38 (fun k hk hS => by have hk := hU k hk; have hS : k = b3 := hS; omega)
     have y1 := y1.keep rec_st (lU hU (by omega)) m38 (fun k hk hS => by have hk := hU k hk; have hS : k = b3 := hS; omega)
     have y2 := y2.keep rec_st (lU hU (by omega)) m38 (fun k hk hS => by have hk := hU k hk; have hS : k = b3 := hS; omega)
     have y3 := y3.keep rec_st (lU hU (by omega)) m38 (fun k hk hS => by have hk := hU k hk; have hS : k = b3 := hS; omega)
     have hf := hf.step m38 (nB (by omega))
     have h1 := h1.keep m38 (by show ¬ (b1 = b3); omega)
     have h2 := h2.keep m38 (by show ¬ (b2 = b3); omega)
     have hC := hC.step m38 (nB (by omega))
     have L10 := L10.keep rec_st (lUb hU (by omega) (by omega)) m38 (fun k hk hS => by have hk := Ub.num hU hk; have hS : k = b3 := hS; omega)
     have L13 := L13.keep rec_st (lUb hU (by omega) (by omega)) m38 (fun k hk hS => by have hk := Ub.num hU hk; have hS : k = b3 := hS; omega)
     have L16 := L16.keep rec_st (lUb hU (by omega) (by omega)) m38 (fun k hk hS => by have hk := Ub.num hU hk; have hS : k = b3 := hS; omega)
     exact ⟨rfl, (_, _, _, b3), _, env_okl ⟨rfl, rfl, rfl, trivial⟩, ⟨hC, (h3), (L10.mono rec_gr (fun k hk => ⟨hk.elim .inl (fun h => .inr ⟨by omega, by omega⟩), by have hk := Ub.num hU hk; omega⟩)), (L13.mono rec_gr (fun k hk => ⟨hk.elim .inl (fun h => .inr ⟨by omega, by omega⟩), by have hk := Ub.num hU hk; omega⟩)), (L16.mono rec_gr (fun k hk => ⟨hk.elim .inl (fun h => .inr ⟨by omega, by omega⟩), by have hk := Ub.num hU hk; omega⟩)), (by omega), (by omega)⟩⟩
   ·
    refine hlKT rfl (xallS (lens := lMsg) in34 rfl) ?_
    rintro _ w40 ⟨b3, rfl, m41, h3, e39, s39⟩
    have ha := ha.keep ask_st (lU hU (by omega)) m41 nF
    have y1 := y1.keep rec_st (lU hU (by omega)) m41 nF
    have y2 := y2.keep rec_st (lU hU (by omega)) m41 nF
    have y3 := y3.keep rec_st (lU hU (by omega)) m41 nF
    have hf := hf.step0 m41
    have h1 := h1.keep m41 id
    have h2 := h2.keep m41 id
    have hC := hC.step0 m41
    have L10 := L10.keep rec_st (lUb hU (by omega) (by omega)) m41 nF
    have hS42 := hS12.step0 m41
    refine ⟨hS42, ?_⟩
    refine lstT ?_
    refine hc rfl (xcall ca29 rfl) (c29 (U := U) (lU hU (by omega)) y2 (hll _ (by simp)) (hfr _ (by simp))) ?_
    rintro v13 w43 ⟨L13, m44⟩
    have z45 := m44.size
    have ha := ha.keep ask_st (lU hU (by omega)) m44 nF
    have y1 := y1.keep rec_st (lU hU (by omega)) m44 nF
    have y2 := y2.keep rec_st (lU hU (by omega)) m44 nF
    have y3 := y3.keep rec_st (lU hU (by omega)) m44 nF
    have hf := hf.step0 m44
    have h1 := h1.keep m44 id
    have h2 := h2.keep m44 id
    have hC := hC.step0 m44
    have L10 := L10.keep rec_st (lUb hU (by omega) (by omega)) m44 nF
    have h3 := h3.keep m44 id
    have hS46 := hS42.step0 m44
    obtain ⟨aq13, cq13, rfl⟩ := L13.form
    refine ⟨hS46, ?_⟩
    refine hc rfl (xcall ca29 rfl) (c29 (U := U) (lU hU (by omega)) y3 (hll _ (by simp)) (hfr _ (by simp))) ?_
    rintro v16 w47 ⟨L16, m48⟩
    have z49 := m48.size
    have ha := ha.keep ask_st (lU hU (by omega)) m48 nF
    have y1 := y1.keep rec_st (lU hU (by omega)) m48 nF
    have y2 := y2.keep rec_st (lU hU (by omega)) m48 nF
    have y3 := y3.keep rec_st (lU hU (by omega)) m48 nF
    have hf := hf.step0 m48
    have h1 := h1.keep m48 id
    have h2 := h2.keep m48 id
    have hC := hC.step0 m48
    have L10 := L10.keep rec_st (lUb hU (by omega) (by omega)) m48 nF
    have h3 := h3.keep m48 id
    have L13 := L13.keep rec_st (lUb hU (by omega) (by omega)) m48 nF
    have hS50 := hS46.step0 m48
    obtain ⟨aq16, cq16, rfl⟩ := L16.form
    refine ⟨hS50, ?_⟩
    refine hv rfl (fun _ _ => xbuildS (msgSegs m.head (.slice none 0 0) (.slice aq10 m.one.length cq10) (.slice aq13 m.two.length cq13) (.slice aq16 m.three.length cq16)) zr34 ly34 rfl (by simp [fitAll, zs34, Value.cells, msgSegs]) rfl) hS50 ?_
    refine bluK rfl (xstW h3 (lens' := lMsg) sz34 rfl rfl rfl rfl rfl) ?_
    rintro w52 ⟨m53, h3, s51⟩
    have ha := ha.keep ask_st (lU hU (by omega)) m53 (fun k hk hS => by have hk := hU k hk; have hS : k = b3 := hS; omega)
    have y1 := y1.keep rec_st (lU hU (by omega)) m53 (fun k hk hS => by have hk := hU k hk; have hS : k = b3 := hS; omega)
    have y2 := y2.keep rec_st (lU hU (by omega)) m53 (fun k hk hS => by have hk := hU k hk; have hS : k = b3 := hS; omega)
    have y3 := y3.keep rec_st (lU hU (by omega)) m53 (fun k hk hS => by have hk := hU k hk; have hS : k = b3 := hS; omega)
    have hf := hf.step m53 (nB (by omega))
    have h1 := h1.keep m53 (by show ¬ (b1 = b3); omega)
    have h2 := h2.keep m53 (by show ¬ (b2 = b3); omega)
    have hC := hC.step m53 (nB (by omega))
    have L10 := L10.keep rec_st (lUb hU (by omega) (by omega)) m53 (fun k hk hS => by have hk := Ub.num hU hk; have hS : k = b3 := hS; omega)
    have L13 := L13.keep rec_st (lUb hU (by omega) (by omega)) m53 (fun k hk hS => by have hk := Ub.num hU hk; have hS : k = b3 := hS; omega)
    have L16 := L16.keep rec_st (lUb hU (by omega) (by omega)) m53 (fun k hk hS => by have hk := Ub.num hU hk; have hS : k = b3 := hS; omega)
    exact ⟨rfl, (_, _, _, b3), _, env_okl ⟨rfl, rfl, rfl, trivial⟩, ⟨hC, (h3), (L10.mono rec_gr (fun k hk => ⟨hk.elim .inl (fun h => .inr ⟨by omega, by omega⟩), by have hk := Ub.num hU hk; omega⟩)), (L13.mono rec_gr (fun k hk => ⟨hk.elim .inl (fun h => .inr ⟨by omega, by omega⟩), by have hk := Ub.num hU hk; omega⟩)), (L16.mono rec_gr (fun k hk => ⟨hk.elim .inl (fun h => .inr ⟨by omega, by omega⟩), by have hk := Ub.num hU hk; omega⟩)), (by omega), (by omega)⟩⟩
  ·
   refine hlKT rfl (xallS (lens := lMsg) in34 rfl) ?_
   rintro _ w55 ⟨b3, rfl, m56, h3, e54, s54⟩
   have ha := ha.keep ask_st (lU hU (by omega)) m56 nF
   have y1 := y1.keep rec_st (lU hU (by omega)) m56 nF
   have y2 := y2.keep rec_st (lU hU (by omega)) m56 nF
   have y3 := y3.keep rec_st (lU hU (by omega)) m56 nF
   have hf := hf.step0 m56
   have h1 := h1.keep m56 id
   have h2 := h2.keep m56 id
   have hC := hC.step0 m56
   have hS57 := hS8.step0 m56
   refine ⟨hS57, ?_⟩
   refine lstT ?_
   refine hc rfl (xcall ca29 rfl) (c29 (U := U) (lU hU (by omega)) y1 (hll _ (by simp)) (hfr _ (by simp))) ?_
   rintro v10 w58 ⟨L10, m59⟩
   have z60 := m59.size
   have ha := ha.keep ask_st (lU hU (by omega)) m59 nF
   have y2 := y2.keep rec_st (lU hU (by omega)) m59 nF
   have y3 := y3.keep rec_st (lU hU (by omega)) m59 nF
   have hf := hf.step0 m59
   have h1 := h1.keep m59 id
   have h2 := h2.keep m59 id
   have hC := hC.step0 m59
   have h3 := h3.keep m59 id
   have hS61 := hS57.step0 m59
   obtain ⟨aq10, cq10, rfl⟩ := L10.form
   refine ⟨hS61, ?_⟩
   refine hc rfl (xcall ca29 rfl) (c29 (U := U) (lU hU (by omega)) y2 (hll _ (by simp)) (hfr _ (by simp))) ?_
   rintro v13 w62 ⟨L13, m63⟩
   have z64 := m63.size
   have ha := ha.keep ask_st (lU hU (by omega)) m63 nF
   have y3 := y3.keep rec_st (lU hU (by omega)) m63 nF
   have hf := hf.step0 m63
   have h1 := h1.keep m63 id
   have h2 := h2.keep m63 id
   have hC := hC.step0 m63
   have h3 := h3.keep m63 id
   have L10 := L10.keep rec_st (lUb hU (by omega) (by omega)) m63 nF
   have hS65 := hS61.step0 m63
   obtain ⟨aq13, cq13, rfl⟩ := L13.form
   refine ⟨hS65, ?_⟩
   refine hc rfl (xcall ca29 rfl) (c29 (U := U) (lU hU (by omega)) y3 (hll _ (by simp)) (hfr _ (by simp))) ?_
   rintro v16 w66 ⟨L16, m67⟩
   have z68 := m67.size
   have ha := ha.keep ask_st (lU hU (by omega)) m67 nF
   have hf := hf.step0 m67
   have h1 := h1.keep m67 id
   have h2 := h2.keep m67 id
   have hC := hC.step0 m67
   have h3 := h3.keep m67 id
   have L10 := L10.keep rec_st (lUb hU (by omega) (by omega)) m67 nF
   have L13 := L13.keep rec_st (lUb hU (by omega) (by omega)) m67 nF
   have hS69 := hS65.step0 m67
   obtain ⟨aq16, cq16, rfl⟩ := L16.form
   refine ⟨hS69, ?_⟩
   refine hv rfl (fun _ _ => xbuildS (msgSegs m.head (.slice none 0 0) (.slice aq10 m.one.length cq10) (.slice aq13 m.two.length cq13) (.slice aq16 m.three.length cq16)) zr34 ly34 rfl (by simp [fitAll, zs34, Value.cells, msgSegs]) rfl) hS69 ?_
   refine bluK rfl (xstW h3 (lens' := lMsg) sz34 rfl rfl rfl rfl rfl) ?_
   rintro w71 ⟨m72, h3, s70⟩
   have ha := ha.keep ask_st (lU hU (by omega)) m72 (fun k hk hS => by have hk := hU k hk; have hS : k = b3 := hS; omega)
   have hf := hf.step m72 (nB (by omega))
   have h1 := h1.keep m72 (by show ¬ (b1 = b3); omega)
   have h2 := h2.keep m72 (by show ¬ (b2 = b3); omega)
   have hC := hC.step m72 (nB (by omega))
   have L10 := L10.keep rec_st (lUb hU (by omega) (by omega)) m72 (fun k hk hS => by have hk := Ub.num hU hk; have hS : k = b3 := hS; omega)
   have L13 := L13.keep rec_st (lUb hU (by omega) (by omega)) m72 (fun k hk hS => by have hk := Ub.num hU hk; have hS : k = b3 := hS; omega)
   have L16 := L16.keep rec_st (lUb hU (by omega) (by omega)) m72 (fun k hk hS => by have hk := Ub.num hU hk; have hS : k = b3 := hS; omega)
   exact ⟨rfl, (_, _, _, b3), _, env_okl ⟨rfl, rfl, rfl, trivial⟩, ⟨hC, (h3), (L10.mono rec_gr (fun k hk => ⟨hk.elim .inl (fun h => .inr ⟨by omega, by omega⟩), by have hk := Ub.num hU hk; omega⟩)), (L13.mono rec_gr (fun k hk => ⟨hk.elim .inl (fun h => .inr ⟨by omega, by omega⟩), by have hk := Ub.num hU hk; omega⟩)), (L16.mono rec_gr (fun k hk => ⟨hk.elim .inl (fun h => .inr ⟨by omega, by omega⟩), by have hk := Ub.num hU hk; omega⟩)), (by omega), (by omega)⟩⟩
 ·
  rintro ⟨v1, v2, v3, b3⟩ _ w73 ⟨hC, h3, L10, L13, L16, hb3, hb4⟩
  have z74 := hC.size
  have ha := ha.keep ask_st (lU hU (by omega)) hC nF
  have hf := hf.step0 hC
  have h1 := h1.keep hC id
  have h2 := h2.keep hC id
  obtain ⟨aq10, cq10, rfl⟩ := L10.form
  obtain ⟨aq13, cq13, rfl⟩ := L13.form
  obtain ⟨aq16, cq16, rfl⟩ := L16.form
  refine fg [(1, _), (2, _), (3, _)] ⟨rfl, rfl, rfl, ⟨⟩⟩ fun _ => (wp_seq (sreg (sv (xfld fl28_1 rfl) (sv (xld on25 rfl (h1.r.c 10 rfl rfl)) (sv (xlen sl25 rfl) (sM rfl (send (fg [(2, _), (3, _), (19, _), (20, _), (21, _)] ⟨rfl, rfl, rfl, rfl, rfl, ⟨⟩⟩ fun _ => (wp_block ?_)))))))))
  refine lp [(2, _), (3, _), (19, _), (20, _)] (fun (x : Nat × Value × Nat) => match x with | (k, v, g) => [(21, .int .i64 (k : Int))]) (fun (x : Nat × Value × Nat) wx => match x with | (k, v, g) => Fr (fun k => k = b3 ∨ k = b1) w73 wx ∧ (k ≤ m.asks.length) ∧ (SB wx b3 lMsg (msgSegs m.head v (.slice aq10 m.one.length cq10) (.slice aq13 m.two.length cq13) (.slice aq16 m.three.length cq16))) ∧ (RA AskEl lAsk (fun _ => False) wx v g 59 k (m.asks.take k)) ∧ (g = b1 ∨ w73.heap.size ≤ g) ∧ (g < wx.heap.size)) (fun (x : Nat × Value × Nat) => match x with | (k, v, g) => m.asks.length - k) (0, .slice none 0 0, b1) ⟨rfl, rfl, rfl, rfl, rfl, trivial⟩ ⟨Fr.refl _ _, Nat.zero_le _, h3, RA.nil _ _ _ _, .inl rfl, by omega⟩ ?_
  rintro ⟨k, v, g⟩ _ w76 ⟨hL75, hk, h3, hq, hgq, hgk⟩
  refine fg [(2, _), (3, _), (19, _), (20, _), (21, _)] ⟨rfl, rfl, rfl, rfl, rfl, ⟨⟩⟩ fun _ => ?_
  have z77 := hL75.size
  have ha := ha.keep ask_st (lU hU (by omega)) hL75 (fun k hk hS => by have hk := hU k hk; have hS : k = b3 ∨ k = b1 := hS; omega)
  have hf := hf.step hL75 (fun k hk hS => by have hS : k = b3 ∨ k = b1 := hS; show False; omega)
  have h2 := h2.keep hL75 (by show ¬ (b2 = b3 ∨ b2 = b1); omega)
  have L10 := L10.keep rec_st (fun k hk => by have hk := Uw.num hU hk; omega) hL75 (fun k hk hS => by have hk := Uw.num hU hk; have hS : k = b3 ∨ k = b1 := hS; omega)
  have L13 := L13.keep rec_st (fun k hk => by have hk := Uw.num hU hk; omega) hL75 (fun k hk hS => by have hk := Uw.num hU hk; have hS : k = b3 ∨ k = b1 := hS; omega)
  have L16 := L16.keep rec_st (fun k hk => by have hk := Uw.num hU hk; omega) hL75 (fun k hk hS => by have hk := Uw.num hU hk; have hS : k = b3 ∨ k = b1 := hS; omega)
  refine sreg ?_
  refine svP (xlss rfl rfl) (fun hc22 => ?_) (fun hc22 => ?_)
  ·
   refine send (fg [(2, _), (3, _), (19, _), (20, _), (21, _), (22, _)] ⟨rfl, rfl, rfl, rfl, rfl, rfl, ⟨⟩⟩ fun _ => (wp_seq (cyes rfl (wp_skip (nThen (fg [(2, _), (3, _), (19, _), (20, _), (21, _)] ⟨rfl, rfl, rfl, rfl, rfl, ⟨⟩⟩ fun _ => (wp_seq (wp_block ?_))))))))
   obtain ⟨a, hak⟩ := some_of_lt (by omega : k < m.asks.length)
   refine sreg ?_
   obtain ⟨bE23, oE23, sgE23, rfl, uE23, hsE23, heE23⟩ := LA.get ha hak
   obtain rfl := heE23
   have zE23 := hU _ uE23
   refine sv (xidx sl25 sz58 rfl rfl rfl (by omega)) (sv (xldS (lens := [1, 1, 1]) ro58 rfl hsE23) ?_)
   refine svK (xallS (lens := [1, 1, 1]) in58 rfl) ?_
   rintro _ w79 ⟨b5, rfl, m80, h5, e78, s78⟩
   have hf := hf.step0 m80
   have h2 := h2.keep m80 id
   have h3 := h3.keep m80 id
   have L10 := L10.keep rec_st (fun k hk => by have hk := Uw.num hU hk; omega) m80 nF
   have L13 := L13.keep rec_st (fun k hk => by have hk := Uw.num hU hk; omega) m80 nF
   have L16 := L16.keep rec_st (fun k hk => by have hk := Uw.num hU hk; omega) m80 nF
   have hq := hq.keep ask_st (fun k hk => by have hk := (show k + 1 ≤ 0 from (show False from hk).elim); omega) m80 nF id
   have hL75 := hL75.step0 m80
   refine suK (xstW h5 (lens' := [1, 1, 1]) sz58 rfl rfl rfl rfl rfl) ?_
   rintro w82 ⟨m83, h5, s81⟩
   have hf := hf.step m83 (nB (by omega))
   have h2 := h2.keep m83 (by show ¬ (b2 = b5); omega)
   have h3 := h3.keep m83 (by show ¬ (b3 = b5); omega)
   have L10 := L10.keep rec_st (fun k hk => by have hk := Uw.num hU hk; omega) m83 (fun k hk hS => by have hk := Uw.num hU hk; have hS : k = b5 := hS; omega)
   have L13 := L13.keep rec_st (fun k hk => by have hk := Uw.num hU hk; omega) m83 (fun k hk hS => by have hk := Uw.num hU hk; have hS : k = b5 := hS; omega)
   have L16 := L16.keep rec_st (fun k hk => by have hk := Uw.num hU hk; omega) m83 (fun k hk hS => by have hk := Uw.num hU hk; have hS : k = b5 := hS; omega)
   have hq := hq.keep ask_st (fun k hk => by have hk := (show k + 1 ≤ 0 from (show False from hk).elim); omega) m83 (fun k hk hS => by have hk := (show k + 1 ≤ 0 from (show False from hk).elim); have hS : k = b5 := hS; omega) (by show ¬ (g = b5); omega)
   have hL75 := hL75.step m83 (fun k hk hS => by have hS : k = b5 := hS; show k = b3 ∨ k = b1; omega)
   refine send (fg [(2, _), (3, _), (5, _), (19, _), (20, _), (21, _)] ⟨rfl, rfl, rfl, rfl, rfl, rfl, ⟨⟩⟩ fun _ => (lreg (sv (xfld fl34_1 rfl) (sv (xld on31 rfl (h3.r.c 10 rfl rfl)) (sv (xldS (lens := [1, 1, 1]) ro58 rfl h5.r) ?_)))))
   refine svK (xslit ((askSegs a).flatten) sl31 in59 rfl (by decide) rfl rfl rfl rfl (by decide) rfl rfl) ?_
   rintro _ w85 ⟨b28, rfl, m86, h28, e28, s28, r28⟩
   have hf := hf.step0 m86
   have h2 := h2.keep m86 id
   have h3 := h3.keep m86 id
   have L10 := L10.keep rec_st (fun k hk => by have hk := Uw.num hU hk; omega) m86 nF
   have L13 := L13.keep rec_st (fun k hk => by have hk := Uw.num hU hk; omega) m86 nF
   have L16 := L16.keep rec_st (fun k hk => by have hk := Uw.num hU hk; omega) m86 nF
   have hq := hq.keep ask_st (fun k hk => by have hk := (show k + 1 ≤ 0 from (show False from hk).elim); omega) m86 nF id
   have hL75 := hL75.step0 m86
   obtain ⟨ss29, hR29, hA29⟩ := hq
   refine svK (xapp sl31 in59 rfl (by decide) rfl rfl hR29 (r28.src sl31) (by simp only [maxLen]; omega) (by omega)) ?_
   rintro v29 w87 ⟨g29, r29, m88, a29, l29⟩
   have z89 := m88.size
   have hf := hf.step m88 (nB (by omega))
   have h2 := h2.keep m88 (by show ¬ (b2 = g); omega)
   have h3 := h3.keep m88 (by show ¬ (b3 = g); omega)
   have L10 := L10.keep rec_st (fun k hk => by have hk := Uw.num hU hk; omega) m88 (fun k hk hS => by have hk := Uw.num hU hk; have hS : k = g := hS; omega)
   have L13 := L13.keep rec_st (fun k hk => by have hk := Uw.num hU hk; omega) m88 (fun k hk hS => by have hk := Uw.num hU hk; have hS : k = g := hS; omega)
   have L16 := L16.keep rec_st (fun k hk => by have hk := Uw.num hU hk; omega) m88 (fun k hk hS => by have hk := Uw.num hU hk; have hS : k = g := hS; omega)
   have hL75 := hL75.step m88 (fun k hk hS => by have hS : k = g := hS; show k = b3 ∨ k = b1; omega)
   have hq := RA.snoc (x := a) hA29 ask_st ask_gr (fun k hk => by have hk := (show k + 1 ≤ 0 from (show False from hk).elim); omega) m88 (fun k hk hS => by have hk := (show k + 1 ≤ 0 from (show False from hk).elim); have hS : k = g := hS; omega) (fun _ h => h) r29 rfl (rfl)
   refine sv (xfld fl34_1 rfl) ?_
   refine suK (xstF 10 sz31 h3 rfl rfl rfl rfl (by obtain ⟨_, _, rfl⟩ := RA.form hq; rfl)) ?_
   rintro w91 ⟨m92, h3, s90⟩
   have hf := hf.step m92 (nB (by omega))
   have h2 := h2.keep m92 (by show ¬ (b2 = b3); omega)
   have L10 := L10.keep rec_st (fun k hk => by have hk := Uw.num hU hk; omega) m92 (fun k hk hS => by have hk := Uw.num hU hk; have hS : k = b3 := hS; omega)
   have L13 := L13.keep rec_st (fun k hk => by have hk := Uw.num hU hk; omega) m92 (fun k hk hS => by have hk := Uw.num hU hk; have hS : k = b3 := hS; omega)
   have L16 := L16.keep rec_st (fun k hk => by have hk := Uw.num hU hk; omega) m92 (fun k hk hS => by have hk := Uw.num hU hk; have hS : k = b3 := hS; omega)
   have hL75 := hL75.step m92 (fun k hk hS => by have hS : k = b3 := hS; show k = b3 ∨ k = b1; omega)
   have hq := hq.keep ask_st (fun k hk => by have hk := (show k + 1 ≤ 0 from (show False from hk).elim); omega) m92 (fun k hk hS => by have hk := (show k + 1 ≤ 0 from (show False from hk).elim); have hS : k = b3 := hS; omega) (by show ¬ (g29 = b3); omega)
   refine lend (nBlock (nThen (fg [(2, _), (3, _), (19, _), (20, _), (21, _)] ⟨rfl, rfl, rfl, rfl, rfl, ⟨⟩⟩ fun _ => (lreg (sv (xadd rfl rfl (w64 (by omega) (by omega))) (sM rfl (lend (nThen ?_))))))))
   refine ⟨(k + 1, _, g29), _, env_okl ⟨rfl, rfl, rfl, rfl, rfl, trivial⟩, ⟨hL75, (by omega), (h3), (by rw [take_snoc hak]; exact hq), (by omega), (by omega)⟩, ?_⟩
   show m.asks.length - (k + 1) < m.asks.length - k; omega
  ·
   refine send (fg [(2, _), (3, _), (19, _), (20, _), (21, _), (22, _)] ⟨rfl, rfl, rfl, rfl, rfl, rfl, ⟨⟩⟩ fun _ => (wp_seq (cno rfl (wp_exit (eThen (eThen (eHit (nThen (fg [(2, _), (3, _)] ⟨rfl, rfl, ⟨⟩⟩ fun _ => ?_)))))))))
   obtain ⟨av, cv, rfl⟩ := RA.form hq
   refine sreg (sv (xldS (lens := lMsg) ro34 rfl (h3.r.sub 0 14 rfl)) ?_)
   refine suK (xstW h2 (lens' := lMsg) sz34 rfl rfl rfl rfl rfl) ?_
   rintro w94 ⟨m95, h2, s93⟩
   have hf := hf.step m95 (nB (by omega))
   have L10 := L10.keep rec_st (fun k hk => by have hk := Uw.num hU hk; omega) m95 (fun k hk hS => by have hk := Uw.num hU hk; have hS : k = b2 := hS; omega)
   have L13 := L13.keep rec_st (fun k hk => by have hk := Uw.num hU hk; omega) m95 (fun k hk hS => by have hk := Uw.num hU hk; have hS : k = b2 := hS; omega)
   have L16 := L16.keep rec_st (fun k hk => by have hk := Uw.num hU hk; omega) m95 (fun k hk hS => by have hk := Uw.num hU hk; have hS : k = b2 := hS; omega)
   have hq := hq.keep ask_st (fun k hk => by have hk := (show k + 1 ≤ 0 from (show False from hk).elim); omega) m95 (fun k hk hS => by have hk := (show k + 1 ≤ 0 from (show False from hk).elim); have hS : k = b2 := hS; omega) (by show ¬ (g = b2); omega)
   refine send (fg [(2, _)] ⟨rfl, ⟨⟩⟩ fun _ => (wp_ret ?_))
   refine rp1 rfl ⟨_, rfl, ldS (lens := lMsg) ro34 h2.r⟩ ?_
   have e : m.asks.take k = m.asks := List.take_of_length_le (by omega)
   rw [e] at hq
   exact ⟨_, _, _, _, rfl, RA.la0 hq (by decide) ask_gr (fun _ h => h.elim) (.inr (.inr ⟨by omega, by omega⟩)), L10.mono rec_gr (fun k hk => hk.1.elim .inl (fun h => .inr ⟨by omega, by omega⟩)), L13.mono rec_gr (fun k hk => hk.1.elim .inl (fun h => .inr ⟨by omega, by omega⟩)), L16.mono rec_gr (fun k hk => hk.1.elim .inl (fun h => .inr ⟨by omega, by omega⟩)), hf⟩
end Go.Proofs.YtifnodoffgfpbaaGreatDoor

namespace Go.Proofs.YtifnodoffgfpbaaGreatDoor
open Go

/-- what a map holds: the first entry of a text counts -/
abbrev Ent := List (ByteArray × UInt16)
def look (M : Ent) (s : ByteArray) : Option UInt16 := match M with
  | [] => none
  | (k, v) :: M => if s = k then some v else look M s
section
variable {P : Program} {n : Nat} {l : List (Nat × Value)} {w : World} {ty : TypeId} {x y z : Operand}
end
end Go.Proofs.YtifnodoffgfpbaaGreatDoor

namespace Go.Proofs.YtifnodoffgfpbaaGreatDoor
open Go

def questSegs (a : AskD) : List (List Value) := [nm (bt a.name), [.int .u16 (a.typ.toNat : Int)], [.int .u16 (a.cls.toNat : Int)]]
def rhSegs (s : List UInt8) (typ cls : UInt16) (ttl : UInt32) (len : Nat) : List (List Value) := [nm s, [.int .u16 (typ.toNat : Int)], [.int .u16 (cls.toNat : Int)], [.int .u32 (ttl.toNat : Int)], [.int .u16 (len : Int)]]
end Go.Proofs.YtifnodoffgfpbaaGreatDoor

namespace Go.Proofs.YtifnodoffgfpbaaGreatDoor
open Go

def strs (ts : List ByteArray) : List Value := ts.map Value.string
theorem strs_one (ts : List ByteArray) : (strs ts).all (·.oneCell') = true := by
  rw [List.all_eq_true]; intro v hv
  obtain ⟨_, _, rfl⟩ := List.mem_map.1 hv
  rfl
theorem LA.strs {U : Nat → Prop} {w : World} {v : Value} {ts : List ByteArray} {T : Nat} (h : LA TextEl [1] U w v ts) (hT : slcB PP T 9 = true) : Src PP 1 T v ts.length (strs ts) w := by
  obtain ⟨a, c, rfl, h⟩ := h
  by_cases ht : ts = []
  · subst ht
    cases a with
    | none => exact Src.ofNil w (slcB_spec hT) c
    | some a => exact Src.ofSlice w (slcB_spec hT) a 0 c [] rfl (fun j u h => by simp at h) (fun u h => by cases h)
  · obtain ⟨b, o, rfl, _, hr⟩ := h ht
    refine src_rng hT (by simp [YtifnodoffgfpbaaGreatDoor.strs]) (fun j u hu => ?_) (strs_one _)
    simp only [YtifnodoffgfpbaaGreatDoor.strs, List.getElem?_map, Option.map_eq_some_iff] at hu
    obtain ⟨s, hs, rfl⟩ := hu
    obtain ⟨segs, hsr, rfl⟩ := hr j s hs
    have := hsr.c 0 rfl rfl
    simpa using this
theorem strs_flat : ∀ ts : List ByteArray, ((ts.map (fun s => [[Value.string s]])).map List.flatten).flatten = strs ts
  | [] => rfl
  | t :: ts => congrArg (Value.string t :: ·) (strs_flat ts)
theorem RA.texts {U : Nat → Prop} {w : World} {v : Value} {g n : Nat} {ts : List ByteArray} (h : Rw w v g 9 1 n (strs ts)) : RA TextEl [1] U w v g 9 n ts := by
  refine ⟨ts.map (fun s => [[Value.string s]]), ?_, ⟨by simp, fun i a b ha hb => ?_⟩⟩
  · rw [strs_flat]; exact h
  · simp only [List.getElem?_map, Option.map_eq_some_iff] at ha
    obtain ⟨s, hs, rfl⟩ := ha
    rw [hs] at hb
    simp only [Option.some.injEq] at hb
    subst hb
    exact ⟨rfl, rfl⟩

end Go.Proofs.YtifnodoffgfpbaaGreatDoor

namespace Go.Proofs.YtifnodoffgfpbaaGreatDoor
open Go

/-- the parts of a body, by its kind; T: the type of a pointer to it -/
inductive BodySegs (U : Nat → Prop) (w : World) (r : RecD) : TypeId → List Nat → List (List Value) → Prop
  | a (h : r.kind = 1) : BodySegs U w r 186 [4] [bvs (fixedL r.data 4)]
  | ns (h : r.kind = 2) : BodySegs U w r 190 [256] [nm (bt r.host)]
  | cname (h : r.kind = 3) : BodySegs U w r 193 [256] [nm (bt r.host)]
  | soa (h : r.kind = 4) : BodySegs U w r 196 [256, 256, 1, 1, 1, 1, 1] [nm (bt r.host), nm (bt r.box), [.int .u32 (r.n1.toNat : Int)], [.int .u32 (r.n2.toNat : Int)], [.int .u32 (r.n3.toNat : Int)], [.int .u32 (r.n4.toNat : Int)], [.int .u32 (r.n5.toNat : Int)]]
  | ptr (h : r.kind = 5) : BodySegs U w r 199 [256] [nm (bt r.host)]
  | mx (h : r.kind = 6) : BodySegs U w r 202 [1, 256] [[.int .u16 ((r.n1.toNat % 65536 : Nat) : Int)], nm (bt r.host)]
  | txt {v : Value} (h : r.kind = 7) (ht : LA TextEl [1] U w v r.texts) : BodySegs U w r 205 [1] [[v]]
  | aaaa (h : r.kind = 8) : BodySegs U w r 208 [16] [bvs (fixedL r.data 16)]
  | srv (h : r.kind = 9) : BodySegs U w r 212 [1, 1, 1, 256] [[.int .u16 ((r.n1.toNat % 65536 : Nat) : Int)], [.int .u16 ((r.n2.toNat % 65536 : Nat) : Int)], [.int .u16 ((r.n3.toNat % 65536 : Nat) : Int)], nm (bt r.host)]
  | opt {v : Value} (h : r.kind = 10) (hp : LA PairEl lPair U w v r.pairs) : BodySegs U w r 215 [1] [[v]]
  | svcb {v : Value} (h : r.kind = 11) (hp : LA PairEl lPair U w v r.pairs) : BodySegs U w r 221 [1, 256, 1] [[.int .u16 ((r.n1.toNat % 65536 : Nat) : Int)], nm (bt r.host), [v]]
  | https {v : Value} (h : r.kind = 12) (hp : LA PairEl lPair U w v r.pairs) : BodySegs U w r 226 [1, 256, 1] [[.int .u16 ((r.n1.toNat % 65536 : Nat) : Int)], nm (bt r.host), [v]]
  | other {v : Value} (h : r.kind = 13) (hd : BA U w v r.data) : BodySegs U w r 229 [1, 1] [[.int .u16 ((typeN r).toNat : Int)], [v]]
theorem BodySegs.keep {U S : Nat → Prop} {w w' : World} {r : RecD} {T : TypeId} {lens : List Nat} {segs : List (List Value)} (h : BodySegs U w r T lens segs) (hU : ∀ k, U k → k < w.heap.size) (m : Fr S w w') (hn : ∀ k, U k → ¬ S k) : BodySegs U w' r T lens segs := by
  cases h with
  | a h => exact .a h
  | ns h => exact .ns h
  | cname h => exact .cname h
  | soa h => exact .soa h
  | ptr h => exact .ptr h
  | mx h => exact .mx h
  | txt h ht => exact .txt h (ht.keep text_st hU m hn)
  | aaaa h => exact .aaaa h
  | srv h => exact .srv h
  | opt h hp => exact .opt h (hp.keep pair_st hU m hn)
  | svcb h hp => exact .svcb h (hp.keep pair_st hU m hn)
  | https h hp => exact .https h (hp.keep pair_st hU m hn)
  | other h hd => exact .other h (hd.keep hU m hn)
theorem BodySegs.mono {U U' : Nat → Prop} {w : World} {r : RecD} {T : TypeId} {lens : List Nat} {segs : List (List Value)} (h : BodySegs U w r T lens segs) (hU : ∀ k, U k → U' k) : BodySegs U' w r T lens segs := by
  cases h with
  | a h => exact .a h
  | ns h => exact .ns h
  | cname h => exact .cname h
  | soa h => exact .soa h
  | ptr h => exact .ptr h
  | mx h => exact .mx h
  | txt h ht => exact .txt h (ht.mono text_gr hU)
  | aaaa h => exact .aaaa h
  | srv h => exact .srv h
  | opt h hp => exact .opt h (hp.mono pair_gr hU)
  | svcb h hp => exact .svcb h (hp.mono pair_gr hU)
  | https h hp => exact .https h (hp.mono pair_gr hU)
  | other h hd => exact .other h (hd.mono hU)
/-- a body behind an interface -/
def BodyEl (U : Nat → Prop) (w : World) (v : Value) (r : RecD) : Prop := ∃ b T lens segs, v = .iface T (.pointer (some ⟨b, 0, none⟩)) ∧ U b ∧ SR w b 0 lens segs ∧ BodySegs U w r T lens segs
theorem BodyEl.keep {U S : Nat → Prop} {w w' : World} {v : Value} {r : RecD} (h : BodyEl U w v r) (hU : ∀ k, U k → k < w.heap.size) (m : Fr S w w') (hn : ∀ k, U k → ¬ S k) : BodyEl U w' v r := by
  obtain ⟨b, T, lens, segs, rfl, hb, hs, h⟩ := h
  exact ⟨b, T, lens, segs, rfl, hb, hs.keep m (hU b hb) (hn b hb), h.keep hU m hn⟩
theorem BodyEl.mono {U U' : Nat → Prop} {w : World} {v : Value} {r : RecD} (h : BodyEl U w v r) (hU : ∀ k, U k → U' k) : BodyEl U' w v r := by
  obtain ⟨b, T, lens, segs, rfl, hb, hs, h⟩ := h
  exact ⟨b, T, lens, segs, rfl, hU b hb, hs, h.mono hU⟩
/-- bodies whose names fit -/
def FitB (r : RecD) : Prop := (r.kind = 2 ∨ r.kind = 3 ∨ r.kind = 5 ∨ r.kind = 6 ∨ r.kind = 9 ∨ r.kind = 11 ∨ r.kind = 12 ∨ r.kind = 4 → r.host.size ≤ 255) ∧ (r.kind = 4 → r.box.size ≤ 255) ∧
  r.data.length ≤ 1048576 ∧ r.texts.length ≤ 1048576 ∧ r.pairs.length ≤ 1048576 ∧ ∀ p ∈ r.pairs, p.data.length ≤ 1048576
abbrev lRes : List Nat := [256, 1, 1, 1, 1, 1]
end Go.Proofs.YtifnodoffgfpbaaGreatDoor

namespace Go.Proofs.YtifnodoffgfpbaaGreatDoor
open Go

abbrev mkB (l : List UInt8) : ByteArray := ⟨l.toArray⟩
/-- a pointer as two bytes -/
def ptrL (p : UInt16) : List UInt8 := [UInt8.ofNat ((p >>> 8) ||| 192).toNat, UInt8.ofNat p.toNat]
/-- from a place on: what is written, and what the map is then; lab: the label begun; pos: how far behind the start the message ends -/
def packGo : Option Ent → Nat → List UInt8 → List UInt8 → List UInt8 × Option Ent
  | C, _, _, [] => ([0], C)
  | C, pos, lab, c :: cs =>
    if c = 46 then ((UInt8.ofNat lab.length :: lab) ++ (packGo C (pos + (lab.length + 1)) [] cs).1, (packGo C (pos + (lab.length + 1)) [] cs).2)
    else if lab = [] then
      match C with
      | none => packGo none pos [c] cs
      | some M => match look M (mkB (c :: cs)) with
        | some p => (ptrL p, some M)
        | none => packGo (some (if pos ≤ 16383 then M ++ [(mkB (c :: cs), UInt16.ofNat pos)] else M)) pos [c] cs
    else packGo C pos (lab ++ [c]) cs
def packName (C : Option Ent) (pos : Nat) (s : List UInt8) : List UInt8 × Option Ent := if s = [46] then ([0], C) else packGo C pos [] s

theorem packGo_none : ∀ (cs lab : List UInt8) (pos : Nat), nameGo lab.length cs = true → packGo none pos lab cs = (wireGo lab cs ++ [0], none)
  | [], lab, pos, _ => by simp [packGo, wireGo]
  | c :: cs, lab, pos, h => by
    by_cases hc : c = 46
    · simp only [packGo, wireGo, hc, if_pos, nameGo] at h ⊢
      split at h
      · cases h
      · rename_i hl
        have hl' : lab ≠ [] := by intro h0; subst h0; simp at hl
        rw [packGo_none cs [] _ h, if_neg hl']
        simp
    · simp only [nameGo, hc, if_false] at h
      simp only [packGo, wireGo, hc, if_false]
      by_cases hl : lab = []
      · subst hl
        rw [if_pos rfl]
        simp only [List.nil_append]
        exact packGo_none cs [c] pos (by simpa using h)
      · rw [if_neg hl]
        exact packGo_none cs (lab ++ [c]) pos (by simpa using h)
theorem packGo_le : ∀ (cs lab : List UInt8) (C : Option Ent) (pos : Nat), (packGo C pos lab cs).1.length ≤ lab.length + 2 * cs.length + 1
  | [], lab, C, pos => by simp [packGo]
  | c :: cs, lab, C, pos => by
    by_cases hc : c = 46
    · simp only [packGo, hc, if_pos]
      have := packGo_le cs [] C (pos + (lab.length + 1))
      simp only [List.length_append, List.length_cons, List.length_nil] at this ⊢
      omega
    · simp only [packGo, hc, if_false]
      by_cases hl : lab = []
      · subst hl
        simp only [if_true]
        cases C with
        | none =>
          have := packGo_le cs [c] none pos
          simp only [List.length_cons, List.length_nil] at this ⊢; omega
        | some M =>
          simp only []
          split
          · simp [ptrL]; omega
          · have := packGo_le cs [c] (some (if pos ≤ 16383 then M ++ [(mkB (c :: cs), UInt16.ofNat pos)] else M)) pos
            simp only [List.length_cons, List.length_nil] at this ⊢; omega
      · rw [if_neg hl]
        have := packGo_le cs (lab ++ [c]) C pos
        simp only [List.length_append, List.length_cons, List.length_nil] at this ⊢; omega
theorem packName_le (C : Option Ent) (pos : Nat) (s : List UInt8) : (packName C pos s).1.length ≤ 2 * s.length + 1 := by
  simp only [packName]
  split
  · simp
  · have := packGo_le s [] C pos
    simpa using this
theorem packGo_some : ∀ (cs lab : List UInt8) (M : Ent) (pos : Nat), ∃ M', (packGo (some M) pos lab cs).2 = some M'
  | [], lab, M, pos => ⟨M, rfl⟩
  | c :: cs, lab, M, pos => by
    by_cases hc : c = 46
    · simp only [packGo, hc, if_pos]; exact packGo_some cs [] M _
    · simp only [packGo, hc, if_false]
      by_cases hl : lab = []
      · subst hl
        simp only [if_true]
        split
        · exact ⟨M, rfl⟩
        · exact packGo_some cs [c] _ pos
      · rw [if_neg hl]; exact packGo_some cs _ M pos
/-- a name that can be packed -/
def nameL (s : List UInt8) : Prop := s = [46] ∨ (s ≠ [46] ∧ nameGo 0 s = true ∧ 1 < s.length ∧ s.length ≤ 254)
theorem nameL_of {s : ByteArray} (h : nameOk s = true) : nameL (bt s) := by
  by_cases hd : bt s = [46]
  · exact .inl hd
  · simp only [nameOk, hd, decide_false, Bool.false_or, Bool.and_eq_true, decide_eq_true_eq] at h
    exact .inr ⟨hd, h.1.1, by rw [bt_length]; exact h.1.2, by rw [bt_length]; exact h.2⟩
theorem nameOk_size {s : ByteArray} (h : nameOk s = true) : s.size ≤ 254 := by
  rcases nameL_of h with h | h
  · have := congrArg List.length h; rw [bt_length] at this; simp at this; omega
  · have := h.2.2.2; rw [bt_length] at this; exact this
theorem name_pos {s : List UInt8} (h : nameL s) : 0 < s.length ∧ s.length ≤ 254 := by
  rcases h with h | h
  · subst h; simp
  · omega
theorem nameGo_let {n : Nat} {c : UInt8} {cs : List UInt8} (h : nameGo n (c :: cs) = true) (hc : c ≠ 46) : nameGo (n + 1) cs = true := by
  rw [nameGo, if_neg hc] at h; exact h
theorem u8eq {c : UInt8} (h : (c.toNat : Int) = 46) : c = 46 := UInt8.toNat_inj.1 (by have : (46 : UInt8).toNat = 46 := rfl; omega)
theorem pk_mid {C : Option Ent} {pos : Nat} {c : UInt8} {lab cs : List UInt8} (hc : c ≠ 46) (hl : lab ≠ []) : packGo C pos lab (c :: cs) = packGo C pos (lab ++ [c]) cs := by
  cases C <;> simp [packGo, hc, hl]
theorem pk_hit {M : Ent} {pos : Nat} {c : UInt8} {cs : List UInt8} {p : UInt16} (hc : c ≠ 46) (hl : look M (mkB (c :: cs)) = some p) : packGo (some M) pos [] (c :: cs) = (ptrL p, some M) := by
  simp [packGo, hc, hl]
theorem pk_miss {M : Ent} {pos : Nat} {c : UInt8} {cs : List UInt8} (hc : c ≠ 46) (hl : look M (mkB (c :: cs)) = none) : packGo (some M) pos [] (c :: cs) = packGo (some (if pos ≤ 16383 then M ++ [(mkB (c :: cs), UInt16.ofNat pos)] else M)) pos [c] cs := by
  simp [packGo, hc, hl]
end Go.Proofs.YtifnodoffgfpbaaGreatDoor

namespace Go.Proofs.YtifnodoffgfpbaaGreatDoor
open Go

/-- A struct stands in block b behind pre and ahead of post: its parts, of these lengths. -/
def SE (w : World) (b : Nat) (T : TypeId) (pre : List Value) (lens : List Nat) (segs : List (List Value)) (post : List Value) : Prop :=
  w.heap[b]? = some (.cells (pre ++ (segs.flatten ++ post)).toArray T (0, 0)) ∧ segs.map List.length = lens
section
variable {w w' : World} {b : Nat} {T : TypeId} {pre post : List Value} {lens : List Nat} {segs : List (List Value)}
theorem SE.lt (h : SE w b T pre lens segs post) : b < w.heap.size := (Array.getElem?_eq_some_iff.1 h.1).1
theorem SE.keep {S : Nat → Prop} (h : SE w b T pre lens segs post) (m : Fr S w w') (hn : ¬ S b) : SE w' b T pre lens segs post := ⟨(m.block b h.lt hn).trans h.1, h.2⟩
theorem SE.blk (h : SE w b T pre lens segs post) : Blk w b (pre ++ (segs.flatten ++ post)) := ⟨T, h.1⟩
theorem set_mid (pre mid post : List Value) (k : Nat) (v : Value) (hk : k < mid.length) : (pre ++ (mid ++ post)).set (pre.length + k) v = pre ++ (mid.set k v ++ post) := by
  rw [List.set_append_right _ _ (by omega), Nat.add_sub_cancel_left, List.set_append_left _ _ hk]
/-- a store into a part of one cell -/
theorem xstE {P : Program} {n : Nat} {l : List (Nat × Value)} {ty : TypeId} {x y : Operand} {v : Value} {V : TypeId} {k o : Nat} (i : Nat) {u : Value} (hT : szB P V 1 = true) (hb : SE w b T pre lens segs post) (ho : pre.length = o) (hi : segs[i]? = some [u]) (hk : (lens.take i).sum = k)
    (hx : ev n l x = some (.pointer (some ⟨b, o + k, none⟩))) (hy : ev n l y = some v) (h1 : v.oneCell' = true) :
    ExUK P n l (.store V x y) ty w (fun w' => Fr (· = b) w w' ∧ SE w' b T pre lens (segs.set i [v]) post ∧ w'.heap.size = w.heap.size) := by
  subst ho
  have hlt : i < segs.length := (List.getElem?_eq_some_iff.1 hi).1
  have he : segs[i] = [u] := (List.getElem?_eq_some_iff.1 hi).2
  have hk' : offs segs i = k := by rw [offs_lens hb.2, hk]
  have hle := offs_le segs i hlt
  rw [he, hk'] at hle
  simp only [List.length_cons, List.length_nil] at hle
  have hcell := hb.blk.cell (i := pre.length + k) (v := segs.flatten[k]'(by omega)) (by
    rw [List.getElem?_append_right (by omega), Nat.add_sub_cancel_left, List.getElem?_append_left (by omega)]
    simp)
  have hfr := hb.blk.frozen (pre.length + k)
  have hset := heap_set hb.1 (pre.length + k) v
  rw [set_mid _ _ _ _ _ (by omega)] at hset
  have hfl := splice_flat segs i [v] hlt (by rw [he]; rfl)
  rw [hk', ← splice_cons _ _ _ _ (by omega), splice_nil] at hfl
  rw [hfl] at hset
  refine ⟨w.setCell ⟨b, pre.length + k, none⟩ v, fun r _ _ _ _ => ?_, fr_setCell w b _ v, ⟨hset, ?_⟩, size_setCell _ _ _⟩
  · have hs := szB_spec hT
    cases hi' : P.info? V with
    | none => rw [hi'] at hs; cases hs
    | some u =>
      rw [hi'] at hs
      simp only [Option.map_some, Option.some.injEq] at hs
      simp only [execOp, ev_eval r hx, ev_eval r hy]
      have hcells : v.cells = #[v] := by cases v <;> first | rfl | cases h1
      have hadd : (⟨b, pre.length + k, none⟩ : Addr).add 0 = ⟨b, pre.length + k, none⟩ := addr_add b _ 0
      simp [Instr.storeAt, Instr.sureAddr, storeVar, hcells, sizeOf, typeInfo, hi', hs, storeCells, hadd, run_store _ _ _ _ _ h1, hcell, hfr]
  · rw [List.map_set, ← hb.2]
    apply List.ext_getElem
    · simp
    · intro m h1 h2
      rw [List.getElem_set]
      split
      · rename_i hm; subst hm; simp [he]
      · rfl
end

theorem jcut {P : Program} {Q : Exit → Act → World → Prop} {c : Code} {n : Nat} {l : List (Nat × Value)} {r : Nat → Value} {w : World} {α : Type} (u : List (Nat × Value)) (_hu : okl l u) (ch : α → List (Nat × Value)) (J : α → World → Prop)
    (h : c.wp P (fun e a' w' => e = .normal ∧ ∃ x r', a' = env n (ch x ++ u) r' ∧ J x w') (env n l r) w)
    (k : ∀ x r w', J x w' → Q .normal (env n (ch x ++ u) r) w') : c.wp P Q (env n l r) w := by
  refine wp_mono h ?_
  rintro e a' w' ⟨rfl, x, r', rfl, hJ⟩
  exact k x r' w' hJ

end Go.Proofs.YtifnodoffgfpbaaGreatDoor

namespace Go.Proofs.YtifnodoffgfpbaaGreatDoor
open Go

/-- the text of a slice of bytes -/
theorem xb2sR {P : Program} {n : Nat} {l : List (Nat × Value)} {w : World} {ty : TypeId} {x : Operand} {S D E : TypeId} {bs : List UInt8} {b o m c : Nat} (hS : slcB P S E = true) (hE : intB P E .u8 = true) (hD : strB P D = true) (hx : ev n l x = some (.slice (some ⟨b, o, none⟩) m c)) (hm : bs.length = m) (hr : w.rangeAt b o (bvs bs)) :
    Ex P n l (.convert S D x) ty w (.string (mkB bs)) w := xb2s hS hE hD hx hm hr

end Go.Proofs.YtifnodoffgfpbaaGreatDoor

namespace Go.Proofs.YtifnodoffgfpbaaGreatDoor
open Go

/-- these bytes stand in b from i on -/
def Std (b : List UInt8) (i : Nat) (bs : List UInt8) : Prop := ∀ (j : Nat) (c : UInt8), bs[j]? = some c → b[i + j]? = some c
theorem Std.left {b xs ys : List UInt8} {i : Nat} (h : Std b i (xs ++ ys)) : Std b i xs := fun j c hj => h j c (by
  have : j < xs.length := (List.getElem?_eq_some_iff.1 hj).1
  rw [List.getElem?_append_left this]; exact hj)
theorem Std.right {b xs ys : List UInt8} {i : Nat} (h : Std b i (xs ++ ys)) : Std b (i + xs.length) ys := fun j c hj => by
  have := h (xs.length + j) c (by rw [List.getElem?_append_right (by omega), Nat.add_sub_cancel_left]; exact hj)
  rw [Nat.add_assoc]; exact this
theorem Std.right' {b xs ys : List UInt8} {i k : Nat} (h : Std b i (xs ++ ys)) (hk : i + xs.length = k) : Std b k ys := hk ▸ h.right
theorem Std.head {b xs : List UInt8} {x : UInt8} {i : Nat} (h : Std b i (x :: xs)) : b[i]? = some x := h 0 x rfl
theorem Std.tail {b xs : List UInt8} {x : UInt8} {i : Nat} (h : Std b i (x :: xs)) : Std b (i + 1) xs := Std.right (xs := [x]) h
theorem Std.self (b : List UInt8) : Std b 0 b := fun j c h => by rw [Nat.zero_add]; exact h
theorem Std.le {b bs : List UInt8} {i : Nat} (h : Std b i bs) (h0 : bs ≠ []) : i + bs.length ≤ b.length := by
  have hp : 0 < bs.length := List.length_pos_iff.2 h0
  have := h (bs.length - 1) _ (List.getElem?_eq_getElem (by omega))
  have := (List.getElem?_eq_some_iff.1 this).1
  omega
/-- In b there stands from i on a name of these labels, whose writing ends at nx; st: where the part begins that each pointer must lead ahead of; k: how many pointers. -/
inductive NameR (b : List UInt8) : Nat → Nat → Nat → List UInt8 → Nat → Prop
  | fin {st i : Nat} (hb : b[i]? = some 0) : NameR b st 0 i [] (i + 1)
  | lab {st k i nx : Nat} {s : List UInt8} (lab : List UInt8) (h0 : lab ≠ []) (h63 : lab.length ≤ 63) (hd : ∀ c ∈ lab, c ≠ 46) (hb : b[i]? = some (UInt8.ofNat lab.length)) (hs : Std b (i + 1) lab)
      (h : NameR b st k (i + 1 + lab.length) s nx) : NameR b st k i (lab ++ (46 :: s)) nx
  | ptr {st k i to nx : Nat} {s : List UInt8} (h1 : to < st) (h14 : to ≤ 16383) (hb : b[i]? = some (UInt8.ofNat (192 + to / 256))) (hb2 : b[i + 1]? = some (UInt8.ofNat to))
      (h : NameR b to k to s nx) : NameR b st (k + 1) i s (i + 2)

theorem NameR.le {b : List UInt8} {st k i nx : Nat} {s : List UInt8} (h : NameR b st k i s nx) : i < nx ∧ nx ≤ b.length := by
  induction h with
  | fin hb => have := (List.getElem?_eq_some_iff.1 hb).1; omega
  | lab lab h0 h63 hd hb hs _ ih => omega
  | ptr h1 h14 hb hb2 h _ => have := (List.getElem?_eq_some_iff.1 hb2).1; omega

/-- the labels of a name: of the dot alone there are none -/
def txt (s : List UInt8) : List UInt8 := if s = [46] then [] else s
def NameAt (b : List UInt8) (k i : Nat) (s : List UInt8) (nx : Nat) : Prop := NameR b i k i (txt s) nx

/-- a name that is written whole is read without pointers -/
theorem wireGo_at {b : List UInt8} (st : Nat) : ∀ (cs lab : List UInt8) (pos : Nat), nameGo lab.length cs = true → (∀ c ∈ lab, c ≠ 46) → Std b pos (wireGo lab cs ++ [0]) →
    NameR b st 0 pos (lab ++ cs) (pos + (wireGo lab cs).length + 1)
  | [], lab, pos, hn, _, hb => by
    have hl : lab = [] := by
      cases lab with
      | nil => rfl
      | cons x xs => simp [nameGo] at hn
    subst hl
    simp only [wireGo, List.nil_append, List.length_nil, Nat.add_zero] at hb ⊢
    exact .fin hb.head
  | c :: cs, lab, pos, hn, hlab, hb => by
    by_cases hc : c = 46
    · subst hc
      rw [nameGo, if_pos rfl] at hn
      split at hn
      · cases hn
      · rename_i hl
        have h0 : lab ≠ [] := by intro h; subst h; simp at hl
        simp only [wireGo, if_true, if_neg h0] at hb ⊢
        rw [List.append_assoc] at hb
        have ih := wireGo_at st cs [] (pos + (lab.length + 1)) (by simpa using hn) (by simp) (hb.right' (by simp))
        refine NameR.lab lab h0 (by omega) hlab hb.left.head hb.left.tail ?_
        have e1 : pos + 1 + lab.length = pos + (lab.length + 1) := by omega
        have e2 : pos + (UInt8.ofNat lab.length :: lab ++ wireGo [] cs).length + 1 = pos + (lab.length + 1) + (wireGo [] cs).length + 1 := by simp; omega
        rw [e1, e2]
        simpa using ih
    · have hn' : nameGo (lab.length + 1) cs = true := nameGo_let hn hc
      simp only [wireGo, hc, if_false] at hb ⊢
      have ih := wireGo_at st cs (lab ++ [c]) pos (by simpa using hn') (by
          intro x hx
          rcases List.mem_append.1 hx with h | h
          · exact hlab x h
          · simp at h; subst h; exact hc) hb
      rw [List.append_assoc] at ih
      exact ih
theorem wire_at {b : List UInt8} {pos : Nat} {s : List UInt8} (hs : nameL s) (hb : Std b pos (wire s)) : NameAt b 0 pos s (pos + (wire s).length) := by
  by_cases hd : s = [46]
  · subst hd
    simp only [NameAt, txt, if_true]
    exact .fin hb.head
  · rcases hs with hs | ⟨_, hs, _⟩
    · exact absurd hs hd
    · simp only [NameAt, txt, if_neg hd]
      have := wireGo_at (b := b) pos s [] pos (by simpa using hs) (by simp) hb
      simpa [wire, Nat.add_assoc] using this
end Go.Proofs.YtifnodoffgfpbaaGreatDoor

namespace Go.Proofs.YtifnodoffgfpbaaGreatDoor
open Go

def soaL (r : RecD) : List UInt8 := be32 r.n1.toNat ++ (be32 r.n2.toNat ++ (be32 r.n3.toNat ++ (be32 r.n4.toNat ++ be32 r.n5.toNat)))
theorem soaL_length (r : RecD) : (soaL r).length = 20 := rfl
def packMx (C : Option Ent) (pos : Nat) (r : RecD) : List UInt8 × Option Ent := (be16 r.n1.toNat ++ (packName C (pos + 2) (bt r.host)).1, (packName C (pos + 2) (bt r.host)).2)
def packSoa (C : Option Ent) (pos : Nat) (r : RecD) : List UInt8 × Option Ent :=
  ((packName C pos (bt r.host)).1 ++ ((packName (packName C pos (bt r.host)).2 (pos + (packName C pos (bt r.host)).1.length) (bt r.box)).1 ++ soaL r), (packName (packName C pos (bt r.host)).2 (pos + (packName C pos (bt r.host)).1.length) (bt r.box)).2)
def packBody (C : Option Ent) (pos : Nat) (r : RecD) : List UInt8 × Option Ent :=
  if r.kind = 2 ∨ r.kind = 3 ∨ r.kind = 5 then packName C pos (bt r.host)
  else if r.kind = 6 then packMx C pos r
  else if r.kind = 4 then packSoa C pos r
  else (bodyL r, C)
/-- the parts of a record behind its name -/
def packTail (r : RecD) (body : List UInt8) : List UInt8 := be16 (typeN r).toNat ++ (be16 r.cls.toNat ++ (be32 r.ttl.toNat ++ (be16 body.length ++ body)))
def packRec (C : Option Ent) (pos : Nat) (r : RecD) : List UInt8 × Option Ent :=
  ((packName C pos (bt r.name)).1 ++ packTail r (packBody (packName C pos (bt r.name)).2 (pos + (packName C pos (bt r.name)).1.length + 10) r).1, (packBody (packName C pos (bt r.name)).2 (pos + (packName C pos (bt r.name)).1.length + 10) r).2)
def packAsk (C : Option Ent) (pos : Nat) (a : AskD) : List UInt8 × Option Ent := ((packName C pos (bt a.name)).1 ++ (be16 a.typ.toNat ++ be16 a.cls.toNat), (packName C pos (bt a.name)).2)
def packAll {α : Type} (f : Option Ent → Nat → α → List UInt8 × Option Ent) : Option Ent → Nat → List α → List UInt8 × Option Ent
  | C, _, [] => ([], C)
  | C, pos, x :: xs => ((f C pos x).1 ++ (packAll f (f C pos x).2 (pos + (f C pos x).1.length) xs).1, (packAll f (f C pos x).2 (pos + (f C pos x).1.length) xs).2)
def countsM (m : MsgD) : List Nat := [m.asks.length, m.one.length, m.two.length, m.three.length]
/-- the parts of a message: what each adds, and the map behind it -/
def packA (C : Option Ent) (m : MsgD) := packAll packAsk C 12 m.asks
def pack1 (C : Option Ent) (m : MsgD) := packAll packRec (packA C m).2 (12 + (packA C m).1.length) m.one
def pack2 (C : Option Ent) (m : MsgD) := packAll packRec (pack1 C m).2 (12 + (packA C m).1.length + (pack1 C m).1.length) m.two
def pack3 (C : Option Ent) (m : MsgD) := packAll packRec (pack2 C m).2 (12 + (packA C m).1.length + (pack1 C m).1.length + (pack2 C m).1.length) m.three
def packM (C : Option Ent) (m : MsgD) : List UInt8 := headL m.head (countsM m) ++ ((packA C m).1 ++ ((pack1 C m).1 ++ ((pack2 C m).1 ++ (pack3 C m).1)))

def NamesOk (r : RecD) : Prop := nameL (bt r.name) ∧ (r.kind = 2 ∨ r.kind = 3 ∨ r.kind = 5 ∨ r.kind = 6 ∨ r.kind = 9 ∨ r.kind = 11 ∨ r.kind = 12 ∨ r.kind = 4 → nameL (bt r.host)) ∧ (r.kind = 4 → nameL (bt r.box))
theorem packName_non {s : List UInt8} (h : nameL s) (pos : Nat) : packName none pos s = (wire s, none) := by
  simp only [packName]
  by_cases hd : s = [46]
  · rw [if_pos hd, hd]; rfl
  · rw [if_neg hd]
    rcases h with h | ⟨_, h, _⟩
    · exact absurd h hd
    · rw [packGo_none _ [] _ h]; rfl
theorem packBody_non {r : RecD} (h : NamesOk r) (pos : Nat) : packBody none pos r = (bodyL r, none) := by
  simp only [packBody, packMx, packSoa, bodyL]
  by_cases h1 : r.kind = 2 ∨ r.kind = 3 ∨ r.kind = 5
  · rw [if_pos h1, if_neg (by omega), if_neg (by omega), if_pos h1, packName_non (h.2.1 (by omega))]
  · rw [if_neg h1]
    by_cases h2 : r.kind = 6
    · rw [if_pos h2, if_neg (by omega), if_neg (by omega), if_neg h1, if_pos h2, packName_non (h.2.1 (by omega))]
    · rw [if_neg h2]
      by_cases h3 : r.kind = 4
      · rw [if_pos h3, if_neg (by omega), if_neg (by omega), if_neg h1, if_neg h2, if_pos h3, packName_non (h.2.1 (by omega)), packName_non (h.2.2 h3)]; rfl
      · rw [if_neg h3]
theorem packRec_non {r : RecD} (h : NamesOk r) (pos : Nat) : packRec none pos r = (recL r, none) := by
  simp only [packRec, packName_non h.1, packBody_non h, packTail, recL]
theorem packAsk_non {a : AskD} (h : nameL (bt a.name)) (pos : Nat) : packAsk none pos a = (askL a, none) := by
  simp only [packAsk, packName_non h, askL]
theorem packAll_non {α : Type} {f : Option Ent → Nat → α → List UInt8 × Option Ent} {g : α → List UInt8} : ∀ (xs : List α) (pos : Nat), (∀ x ∈ xs, ∀ pos, f none pos x = (g x, none)) → packAll f none pos xs = ((xs.map g).flatten, none)
  | [], pos, _ => rfl
  | x :: xs, pos, h => by
    simp only [packAll]
    rw [h x (by simp) pos]
    simp only []
    rw [packAll_non xs _ (fun y hy => h y (by simp [hy]))]
    rfl
def MsgNames (m : MsgD) : Prop := (∀ a ∈ m.asks, nameL (bt a.name)) ∧ (∀ r ∈ m.one, NamesOk r) ∧ (∀ r ∈ m.two, NamesOk r) ∧ (∀ r ∈ m.three, NamesOk r)
theorem packM_non {m : MsgD} (h : MsgNames m) : packM none m = msgL m := by
  have ha : packA none m = (asksL m.asks, none) := packAll_non _ _ (fun a ha pos => packAsk_non (h.1 a ha) pos)
  have h1 : pack1 none m = (recsL m.one, none) := by rw [pack1, ha]; exact packAll_non _ _ (fun a ha pos => packRec_non (h.2.1 a ha) pos)
  have h2 : pack2 none m = (recsL m.two, none) := by rw [pack2, h1]; exact packAll_non _ _ (fun a ha pos => packRec_non (h.2.2.1 a ha) pos)
  have h3 : pack3 none m = (recsL m.three, none) := by rw [pack3, h2]; exact packAll_non _ _ (fun a ha pos => packRec_non (h.2.2.2 a ha) pos)
  rw [packM, ha, h1, h2, h3]; rfl

theorem packGo_short : ∀ (cs lab : List UInt8) (M : Ent) (pos : Nat), nameGo lab.length cs = true → (packGo (some M) pos lab cs).1.length ≤ (wireGo lab cs).length + 1
  | [], lab, M, pos, _ => by simp [packGo, wireGo]
  | c :: cs, lab, M, pos, hn => by
    by_cases hc : c = 46
    · subst hc
      rw [nameGo, if_pos rfl] at hn
      split at hn
      · cases hn
      · rename_i hl
        have h0 : lab ≠ [] := by intro h; subst h; simp at hl
        have ih := packGo_short cs [] M (pos + (lab.length + 1)) (by simpa using hn)
        simp only [packGo, wireGo, if_true, if_neg h0, List.length_append, List.length_cons] at ih ⊢
        omega
    · have hn' : nameGo (lab.length + 1) cs = true := nameGo_let hn hc
      by_cases hl : lab = []
      · subst hl
        cases hlk : look M (mkB (c :: cs)) with
        | some p =>
          rw [pk_hit hc hlk]
          simp only [wireGo, hc, if_false, List.nil_append, ptrL, List.length_cons, List.length_nil]
          have : ∀ (cs lab : List UInt8), lab ≠ [] → nameGo lab.length cs = true → 1 ≤ (wireGo lab cs).length := by
            intro cs
            induction cs with
            | nil => intro lab h0 hn; cases lab with
              | nil => exact absurd rfl h0
              | cons x xs => simp [nameGo] at hn
            | cons d ds ih =>
              intro lab h0 hn
              by_cases hd : d = 46
              · subst hd; simp only [wireGo, if_true, if_neg h0, List.length_append, List.length_cons]; omega
              · simp only [wireGo, hd, if_false]
                exact ih (lab ++ [d]) (by simp) (by simpa using nameGo_let hn hd)
          have := this cs [c] (by simp) (by simpa using hn')
          omega
        | none =>
          rw [pk_miss hc hlk]
          have ih := packGo_short cs [c] (if pos ≤ 16383 then M ++ [(mkB (c :: cs), UInt16.ofNat pos)] else M) pos (by simpa using hn')
          simp only [wireGo, hc, if_false, List.nil_append]
          exact ih
      · rw [pk_mid hc hl]
        have ih := packGo_short cs (lab ++ [c]) M pos (by simpa using hn')
        simp only [wireGo, hc, if_false]
        exact ih
theorem packName_short {s : List UInt8} (h : nameL s) (M : Ent) (pos : Nat) : (packName (some M) pos s).1.length ≤ (wire s).length := by
  simp only [packName]
  by_cases hd : s = [46]
  · rw [if_pos hd, hd]; exact Nat.le_refl _
  · rw [if_neg hd]
    rcases h with h | ⟨_, h, _⟩
    · exact absurd h hd
    · have := packGo_short s [] M pos h
      simpa [wire] using this
theorem packName_some (s : List UInt8) (M : Ent) (pos : Nat) : ∃ M', (packName (some M) pos s).2 = some M' := by
  simp only [packName]
  split
  · exact ⟨M, rfl⟩
  · exact packGo_some s [] M pos
theorem packBody_short {r : RecD} (h : NamesOk r) (M : Ent) (pos : Nat) : (packBody (some M) pos r).1.length ≤ (bodyL r).length ∧ ∃ M', (packBody (some M) pos r).2 = some M' := by
  simp only [packBody, packMx, packSoa, bodyL]
  by_cases h1 : r.kind = 2 ∨ r.kind = 3 ∨ r.kind = 5
  · rw [if_pos h1, if_neg (by omega), if_neg (by omega), if_pos h1]
    exact ⟨packName_short (h.2.1 (by omega)) M pos, packName_some _ _ _⟩
  · rw [if_neg h1]
    by_cases h2 : r.kind = 6
    · rw [if_pos h2, if_neg (by omega), if_neg (by omega), if_neg h1, if_pos h2]
      refine ⟨?_, packName_some _ _ _⟩
      have := packName_short (h.2.1 (by omega)) M (pos + 2)
      simp only [List.length_append]; omega
    · rw [if_neg h2]
      by_cases h3 : r.kind = 4
      · rw [if_pos h3, if_neg (by omega), if_neg (by omega), if_neg h1, if_neg h2, if_pos h3]
        have e1 := packName_short (h.2.1 (by omega)) M pos
        obtain ⟨M1, hM1⟩ := packName_some (bt r.host) M pos
        simp only [hM1]
        have e2 := packName_short (h.2.2 h3) M1 (pos + (packName (some M) pos (bt r.host)).1.length)
        refine ⟨?_, packName_some _ _ _⟩
        simp only [List.length_append, soaL_length, be32_length]; omega
      · rw [if_neg h3, if_neg h1, if_neg h2, if_neg h3]
        exact ⟨Nat.le_refl _, M, rfl⟩
def BodyR (K : Nat → Prop) (b : List UInt8) (i : Nat) (r : RecD) (e : Nat) : Prop :=
  (r.kind = 2 ∨ r.kind = 3 ∨ r.kind = 5 → ∃ k, K k ∧ NameAt b k i (bt r.host) e) ∧
  (r.kind = 6 → Std b i (be16 r.n1.toNat) ∧ ∃ k, K k ∧ NameAt b k (i + 2) (bt r.host) e) ∧
  (r.kind = 4 → ∃ e1 e2, (∃ k, K k ∧ NameAt b k i (bt r.host) e1) ∧ (∃ k, K k ∧ NameAt b k e1 (bt r.box) e2) ∧ Std b e2 (soaL r) ∧ e = e2 + 20) ∧
  (r.kind = 9 → Std b i (be16 r.n1.toNat ++ (be16 r.n2.toNat ++ be16 r.n3.toNat)) ∧ NameAt b 0 (i + 6) (bt r.host) e) ∧
  (r.kind = 11 ∨ r.kind = 12 → Std b i (be16 r.n1.toNat) ∧ ∃ e1, NameAt b 0 (i + 2) (bt r.host) e1 ∧ Std b e1 (pairsL r.pairs) ∧ e = e1 + (pairsL r.pairs).length) ∧
  (r.kind = 1 ∨ r.kind = 7 ∨ r.kind = 8 ∨ r.kind = 10 ∨ r.kind = 13 → Std b i (bodyL r) ∧ e = i + (bodyL r).length)
def RecR (K : Nat → Prop) (b : List UInt8) (i : Nat) (r : RecD) (e : Nat) : Prop :=
  ∃ e0 len, (∃ k, K k ∧ NameAt b k i (bt r.name) e0) ∧ Std b e0 (be16 (typeN r).toNat ++ (be16 r.cls.toNat ++ (be32 r.ttl.toNat ++ be16 len))) ∧ len < 65536 ∧ BodyR K b (e0 + 10) r (e0 + 10 + len) ∧ e = e0 + 10 + len
def AskR (K : Nat → Prop) (b : List UInt8) (i : Nat) (a : AskD) (e : Nat) : Prop := ∃ e0, (∃ k, K k ∧ NameAt b k i (bt a.name) e0) ∧ Std b e0 (be16 a.typ.toNat ++ be16 a.cls.toNat) ∧ e = e0 + 4
def ListR {α : Type} (R : Nat → α → Nat → Prop) : Nat → List α → Nat → Prop
  | i, [], e => i = e
  | i, x :: xs, e => ∃ e1, R i x e1 ∧ ListR R e1 xs e
def MsgR (K : Nat → Prop) (b : List UInt8) (m : MsgD) : Prop :=
  Std b 0 (headL m.head (countsM m)) ∧ ∃ e0 e1 e2, ListR (AskR K b) 12 m.asks e0 ∧ ListR (RecR K b) e0 m.one e1 ∧ ListR (RecR K b) e1 m.two e2 ∧ ListR (RecR K b) e2 m.three b.length

theorem bodyL_simple {r : RecD} {K : Nat → Prop} {b : List UInt8} {i : Nat} (h : NamesOk r) (h1 : ¬ (r.kind = 2 ∨ r.kind = 3 ∨ r.kind = 5)) (h2 : ¬ r.kind = 6) (h3 : ¬ r.kind = 4) (hb : Std b i (bodyL r)) : BodyR K b i r (i + (bodyL r).length) := by
  refine ⟨fun h => absurd h h1, fun h => absurd h h2, fun h => absurd h h3, fun h9 => ?_, fun h11 => ?_, fun _ => ⟨hb, rfl⟩⟩
  · have e : bodyL r = (be16 r.n1.toNat ++ (be16 r.n2.toNat ++ be16 r.n3.toNat)) ++ wire (bt r.host) := by
      rw [bodyL, if_neg (by omega), if_neg (by omega), if_neg h1, if_neg h2, if_neg h3, if_neg (by omega), if_pos h9]
      simp
    rw [e] at hb ⊢
    refine ⟨hb.left, ?_⟩
    have := wire_at (h.2.1 (by omega)) (hb.right' (k := i + 6) (by simp [be16_length]))
    rw [List.length_append, show (be16 r.n1.toNat ++ (be16 r.n2.toNat ++ be16 r.n3.toNat)).length = 6 from rfl, ← Nat.add_assoc]
    exact this
  · have e : bodyL r = be16 r.n1.toNat ++ (wire (bt r.host) ++ pairsL r.pairs) := by
      rw [bodyL, if_neg (by omega), if_neg (by omega), if_neg h1, if_neg h2, if_neg h3, if_neg (by omega), if_neg (by omega), if_neg (by omega), if_pos h11]
    rw [e] at hb ⊢
    have hb2 := hb.right' (k := i + 2) (by simp [be16_length])
    refine ⟨hb.left, _, wire_at (h.2.1 (by omega)) hb2.left, hb2.right, ?_⟩
    simp only [List.length_append, be16_length]; omega
theorem headL_len (h : HeadD) (m : MsgD) : (headL h (countsM m)).length = 12 := rfl
theorem recL_at {r : RecD} {K : Nat → Prop} {b : List UInt8} {pos : Nat} (h : NamesOk r) (hl : (bodyL r).length < 65536) (h0 : K 0) (hb : Std b pos (recL r)) : RecR K b pos r (pos + (recL r).length) := by
  simp only [recL] at hb ⊢
  have hb2 := hb.right
  have e0 : ∀ body : List UInt8, be16 (typeN r).toNat ++ (be16 r.cls.toNat ++ (be32 r.ttl.toNat ++ (be16 body.length ++ body))) = (be16 (typeN r).toNat ++ (be16 r.cls.toNat ++ (be32 r.ttl.toNat ++ be16 body.length))) ++ body := by intro body; simp
  rw [e0] at hb2
  have hb3 := hb2.right' (k := pos + (wire (bt r.name)).length + 10) rfl
  refine ⟨_, (bodyL r).length, ⟨0, h0, wire_at h.1 hb.left⟩, hb2.left, hl, ?_, ?_⟩
  · by_cases h1 : r.kind = 2 ∨ r.kind = 3 ∨ r.kind = 5
    · have e : bodyL r = wire (bt r.host) := by rw [bodyL, if_neg (by omega), if_neg (by omega), if_pos h1]
      rw [e] at hb3 ⊢
      exact ⟨fun _ => ⟨0, h0, wire_at (h.2.1 (by omega)) hb3⟩, fun _ => by omega, fun _ => by omega, fun _ => by omega, fun _ => by omega, fun _ => by omega⟩
    · by_cases h2 : r.kind = 6
      · have e : bodyL r = be16 r.n1.toNat ++ wire (bt r.host) := by rw [bodyL, if_neg (by omega), if_neg (by omega), if_neg h1, if_pos h2]
        rw [e] at hb3 ⊢
        refine ⟨fun _ => by omega, fun _ => ⟨hb3.left, 0, h0, ?_⟩, fun _ => by omega, fun _ => by omega, fun _ => by omega, fun _ => by omega⟩
        have := wire_at (h.2.1 (by omega)) hb3.right
        rw [List.length_append, ← Nat.add_assoc]; exact this
      · by_cases h3 : r.kind = 4
        · have e : bodyL r = wire (bt r.host) ++ (wire (bt r.box) ++ soaL r) := by rw [bodyL, if_neg (by omega), if_neg (by omega), if_neg h1, if_neg h2, if_pos h3]; rfl
          rw [e] at hb3 ⊢
          refine ⟨fun _ => by omega, fun _ => by omega, fun _ => ⟨_, _, ⟨0, h0, wire_at (h.2.1 (by omega)) hb3.left⟩, ⟨0, h0, wire_at (h.2.2 h3) hb3.right.left⟩, hb3.right.right, ?_⟩, fun _ => by omega, fun _ => by omega, fun _ => by omega⟩
          simp only [List.length_append, soaL_length]; omega
        · exact bodyL_simple h h1 h2 h3 hb3
  · simp only [List.length_append, be16_length, be32_length]; omega
theorem askL_at {a : AskD} {K : Nat → Prop} {b : List UInt8} {pos : Nat} (h : nameL (bt a.name)) (h0 : K 0) (hb : Std b pos (askL a)) : AskR K b pos a (pos + (askL a).length) := by
  simp only [askL] at hb ⊢
  refine ⟨_, ⟨0, h0, wire_at h hb.left⟩, hb.right, ?_⟩
  simp only [List.length_append, be16_length]; omega
theorem list_at {α : Type} {g : α → List UInt8} {R : Nat → α → Nat → Prop} {b : List UInt8} : ∀ (xs : List α) (pos : Nat), Std b pos ((xs.map g).flatten) → (∀ x ∈ xs, ∀ pos, Std b pos (g x) → R pos x (pos + (g x).length)) → ListR R pos xs (pos + ((xs.map g).flatten).length)
  | [], pos, _, _ => rfl
  | x :: xs, pos, hb, h => by
    simp only [List.map_cons, List.flatten_cons] at hb ⊢
    have h2 := list_at xs _ hb.right (fun y hy => h y (by simp [hy]))
    rw [List.length_append, ← Nat.add_assoc]
    exact ⟨_, h x (by simp) pos hb.left, h2⟩
/-- WHAT IS WRITTEN WITH WHOLE NAMES IS READ AS WHAT IT WAS. -/
theorem msgL_at {m : MsgD} {K : Nat → Prop} (h : MsgNames m) (hl : ∀ r, r ∈ m.one ∨ r ∈ m.two ∨ r ∈ m.three → (bodyL r).length < 65536) (h0 : K 0) : MsgR K (msgL m) m := by
  have hb : Std (msgL m) 0 (msgL m) := Std.self _
  obtain ⟨b, hbd⟩ : ∃ b, b = msgL m := ⟨_, rfl⟩
  rw [← hbd] at hb ⊢
  conv at hb => arg 3; rw [hbd]
  simp only [msgL] at hb
  have hb1 := hb.right' (k := 12) rfl
  have hlen : b.length = 12 + (asksL m.asks).length + (recsL m.one).length + (recsL m.two).length + (recsL m.three).length := by
    rw [hbd]
    have : (headL m.head [m.asks.length, m.one.length, m.two.length, m.three.length]).length = 12 := rfl
    simp only [msgL, List.length_append, this]; omega
  have ha := list_at (g := askL) (R := AskR K b) m.asks 12 hb1.left (fun x hx pos hs => askL_at (h.1 x hx) h0 hs)
  have h1 := list_at (g := recL) (R := RecR K b) m.one _ hb1.right.left (fun x hx pos hs => recL_at (h.2.1 x hx) (hl x (.inl hx)) h0 hs)
  have h2 := list_at (g := recL) (R := RecR K b) m.two _ hb1.right.right.left (fun x hx pos hs => recL_at (h.2.2.1 x hx) (hl x (.inr (.inl hx))) h0 hs)
  have h3 := list_at (g := recL) (R := RecR K b) m.three _ hb1.right.right.right (fun x hx pos hs => recL_at (h.2.2.2 x hx) (hl x (.inr (.inr hx))) h0 hs)
  refine ⟨hb.left, _, _, _, ha, h1, h2, ?_⟩
  rw [hlen]; exact h3
end Go.Proofs.YtifnodoffgfpbaaGreatDoor

namespace Go.Proofs.YtifnodoffgfpbaaGreatDoor
open Go

abbrev lQ : List Nat := [256, 1, 1]
end Go.Proofs.YtifnodoffgfpbaaGreatDoor

namespace Go.Proofs.YtifnodoffgfpbaaGreatDoor
open Go

theorem packName_bound {C : Option Ent} {pos : Nat} {s : List UInt8} (hs : nameL s) : (packName C pos s).1.length ≤ 510 := by
  have := packName_le C pos s
  have := (name_pos hs).2
  omega

end Go.Proofs.YtifnodoffgfpbaaGreatDoor

namespace Go.Proofs.YtifnodoffgfpbaaGreatDoor
open Go

theorem asc_pos {ps : List PairD} (h : asc ps) {k : Nat} {p : PairD} (hp : ps[k]? = some p) (hk : 0 < k) : 0 < p.key.toNat := by
  obtain ⟨q, hq⟩ := some_of_lt (l := ps) (k := k - 1) (by have := (List.getElem?_eq_some_iff.1 hp).1; omega)
  have := h (k - 1) q p hq (by rw [show k - 1 + 1 = k by omega]; exact hp)
  omega
theorem pairs_take_le (ps : List PairD) (k : Nat) : (pairsL (ps.take k)).length ≤ (pairsL ps).length := by
  conv => rhs; rw [← List.take_append_drop k ps]
  simp only [pairsL, List.map_append, List.flatten_append, List.length_append]; omega
end Go.Proofs.YtifnodoffgfpbaaGreatDoor

namespace Go.Proofs.YtifnodoffgfpbaaGreatDoor
open Go
set_option maxRecDepth 100000
/-- what a body must be so that it can be packed -/
def FitP (r : RecD) : Prop := r.data.length ≤ 900000 ∧ (r.kind = 7 → ∀ s ∈ r.texts, s.size ≤ 255) ∧ r.texts.length ≤ 1048576 ∧ (textsL r.texts).length ≤ 900000 ∧ (∀ p ∈ r.pairs, p.data.length ≤ 65535) ∧ r.pairs.length ≤ 1048576 ∧ (pairsL r.pairs).length ≤ 900000 ∧ (r.kind = 11 ∨ r.kind = 12 → asc r.pairs)
end Go.Proofs.YtifnodoffgfpbaaGreatDoor

namespace Go.Proofs.YtifnodoffgfpbaaGreatDoor
open Go

theorem ag_flat (segs : List (List Value)) : ([ag segs].map (·.cells.toList)).flatten = segs.flatten := by simp [Value.cells]
theorem packBody_len {C : Option Ent} {pos : Nat} {r : RecD} (h : NamesOk r) (hl : (bodyL r).length < 65536) : (packBody C pos r).1.length < 65536 := by
  cases C with
  | none => rw [packBody_non h]; exact hl
  | some M => have := (packBody_short h M pos).1; omega

end Go.Proofs.YtifnodoffgfpbaaGreatDoor

namespace Go.Proofs.YtifnodoffgfpbaaGreatDoor
open Go

def QEl (_ : Nat → Prop) (_ : World) (segs : List (List Value)) (a : AskD) : Prop := segs = questSegs a
theorem packAll_bound {α : Type} {f : Option Ent → Nat → α → List UInt8 × Option Ent} {B : Nat} : ∀ (xs : List α) (C : Option Ent) (pos : Nat), (∀ x ∈ xs, ∀ C pos, (f C pos x).1.length ≤ B) → (packAll f C pos xs).1.length ≤ xs.length * B
  | [], C, pos, _ => by simp [packAll]
  | x :: xs, C, pos, h => by
    simp only [packAll, List.length_append, List.length_cons, Nat.add_mul, Nat.one_mul]
    have h1 := h x (by simp) C pos
    have h2 := packAll_bound xs (f C pos x).2 (pos + (f C pos x).1.length) (fun y hy => h y (by simp [hy]))
    omega
theorem packAsk_bound {a : AskD} (h : nameL (bt a.name)) (C : Option Ent) (pos : Nat) : (packAsk C pos a).1.length ≤ 600 := by
  have := packName_bound (C := C) (pos := pos) h
  simp only [packAsk, List.length_append, be16_length]; omega
theorem packRec_bound {r : RecD} (h : NamesOk r) (hl : (bodyL r).length < 65536) (C : Option Ent) (pos : Nat) : (packRec C pos r).1.length ≤ 67000 := by
  have h1 := packName_bound (C := C) (pos := pos) h.1
  have h2 := packBody_len (C := (packName C pos (bt r.name)).2) (pos := pos + (packName C pos (bt r.name)).1.length + 10) h hl
  simp only [packRec, packTail, List.length_append, be16_length, be32_length]; omega
/-- records that can be packed -/
def GoodP (r : RecD) : Prop := NamesOk r ∧ FitP r ∧ (bodyL r).length < 65536
theorem packRecs_bound {rs : List RecD} (h : ∀ r ∈ rs, GoodP r) (hn : rs.length ≤ 40) (C : Option Ent) (pos : Nat) : (packAll packRec C pos rs).1.length ≤ 2680000 := by
  have := packAll_bound (f := packRec) (B := 67000) rs C pos (fun r hr => packRec_bound (h r hr).1 (h r hr).2.2)
  omega
theorem packAsks_bound {xs : List AskD} (h : ∀ a ∈ xs, nameL (bt a.name)) (hn : xs.length ≤ 40) (C : Option Ent) (pos : Nat) : (packAll packAsk C pos xs).1.length ≤ 24000 := by
  have := packAll_bound (f := packAsk) (B := 600) xs C pos (fun a ha => packAsk_bound (h a ha))
  omega
end Go.Proofs.YtifnodoffgfpbaaGreatDoor

namespace Go.Proofs.YtifnodoffgfpbaaGreatDoor
open Go

def PackOk (r : RecD) : Prop := (r.name.size ≤ 255 ∧ 1 ≤ r.kind ∧ r.kind ≤ 13 ∧ FitB r) ∧ GoodP r

end Go.Proofs.YtifnodoffgfpbaaGreatDoor

namespace Go.Proofs.YtifnodoffgfpbaaGreatDoor
open Go

theorem MsgD.fits.lists {m : MsgD} (h : m.fits) : (∀ l ∈ [m.one, m.two, m.three], l.length ≤ 1048576) ∧ (∀ l ∈ [m.one, m.two, m.three], ∀ r ∈ l, r.fits) := by
  obtain ⟨h1, h2, h3, h4, h5, h6, h7, h8⟩ := h
  constructor
  · intro l hl
    simp only [List.mem_cons, List.not_mem_nil, or_false] at hl
    rcases hl with rfl | rfl | rfl <;> assumption
  · intro l hl
    simp only [List.mem_cons, List.not_mem_nil, or_false] at hl
    rcases hl with rfl | rfl | rfl <;> assumption
theorem nameOk_le {s : ByteArray} (h : nameOk s = true) : s.size ≤ 254 ∧ nameL (bt s) := ⟨nameOk_size h, nameL_of h⟩
theorem mem_sum_le {α : Type} {f : α → Nat} {l : List α} {a : α} (h : a ∈ l) : f a ≤ (l.map f).sum := by
  induction l with
  | nil => cases h
  | cons x xs ih =>
    simp only [List.map_cons, List.sum_cons]
    rcases List.mem_cons.1 h with rfl | h
    · omega
    · have := ih h; omega
theorem few_body {r : RecD} (hs : smallR r) (hg : goodR r) : PackOk r := by
  obtain ⟨k1, k13, hz⟩ := hs
  obtain ⟨hn, h7, h11, hh, hb⟩ := hg
  simp only [sizeR] at hz
  have hz2 := sum_add4 r.pairs
  have hnl := nameOk_le hn
  have hhost : r.kind = 2 ∨ r.kind = 3 ∨ r.kind = 5 ∨ r.kind = 6 ∨ r.kind = 9 ∨ r.kind = 11 ∨ r.kind = 12 ∨ r.kind = 4 → r.host.size ≤ 254 ∧ nameL (bt r.host) := fun h => nameOk_le (hh h)
  have hbox : r.kind = 4 → r.box.size ≤ 254 ∧ nameL (bt r.box) := fun h => nameOk_le (hb h)
  have hp : ∀ p ∈ r.pairs, p.data.length ≤ 2000 := fun p hp => by
    have := mem_sum_le (f := fun p : PairD => p.data.length + 4) hp
    omega
  have hpl := pairsL_length r.pairs
  have htl := textsL_length r.texts
  refine ⟨⟨by omega, k1, k13, fun h => by have := hhost h; omega, fun h => by have := hbox h; omega, by omega, by omega, by omega, fun p h => by have := hp p h; omega⟩, ⟨hnl.2, fun h => (hhost h).2, fun h => (hbox h).2⟩,
    ⟨by omega, fun h => (h7 h).2, by omega, by omega, fun p h => by have := hp p h; omega, by omega, by omega, h11⟩, ?_⟩
  have hw1 := wire_le (bt r.host)
  have hw2 := wire_le (bt r.box)
  rw [bt_length] at hw1 hw2
  have hk : r.kind = 1 ∨ r.kind = 2 ∨ r.kind = 3 ∨ r.kind = 4 ∨ r.kind = 5 ∨ r.kind = 6 ∨ r.kind = 7 ∨ r.kind = 8 ∨ r.kind = 9 ∨ r.kind = 10 ∨ r.kind = 11 ∨ r.kind = 12 ∨ r.kind = 13 := by omega
  rcases hk with h | h | h | h | h | h | h | h | h | h | h | h | h <;> simp [bodyL, h, fixedL_length, be16_length, be32_length]
  · have := hhost (by omega); omega
  · have := hhost (by omega); omega
  · have := hhost (by omega); have := hbox h; omega
  · have := hhost (by omega); omega
  · have := hhost (by omega); omega
  · omega
  · have := hhost (by omega); omega
  · omega
  · have := hhost (by omega); omega
  · have := hhost (by omega); omega
  · omega
/-- what Few tells of a message, for the packing of it -/
theorem few_pack {m : MsgD} (h : fewM m) : (∀ a ∈ m.asks, nameL (bt a.name)) ∧ (∀ l ∈ [m.one, m.two, m.three], ∀ r ∈ l, PackOk r) ∧ (m.asks.length ≤ 40 ∧ m.one.length ≤ 40 ∧ m.two.length ≤ 40 ∧ m.three.length ≤ 40) ∧ m.head.ok := by
  obtain ⟨hc, hs, ha, hg, hh⟩ := h
  exact ⟨fun a h => nameL_of (ha a h), fun l hl r hr => few_body (hs l hl r hr) (hg l hl r hr), by omega, hh⟩
theorem packM_ge (C : Option Ent) (m : MsgD) : 12 ≤ (packM C m).length := by
  simp only [packM, List.length_append, headL_len]; omega
theorem packM_le {m : MsgD} (h : fewM m) : (packM (some []) m).length ≤ 10000000 := by
  obtain ⟨hna, hpk, hc, _⟩ := few_pack h
  have h0 := packAsks_bound hna (by omega) (some []) 12
  have h1 := packRecs_bound (fun r hr => (hpk m.one (by simp) r hr).2) (by omega) (packA (some []) m).2 (12 + (packA (some []) m).1.length)
  have h2 := packRecs_bound (fun r hr => (hpk m.two (by simp) r hr).2) (by omega) (pack1 (some []) m).2 (12 + (packA (some []) m).1.length + (pack1 (some []) m).1.length)
  have h3 := packRecs_bound (fun r hr => (hpk m.three (by simp) r hr).2) (by omega) (pack2 (some []) m).2 (12 + (packA (some []) m).1.length + (pack1 (some []) m).1.length + (pack2 (some []) m).1.length)
  have e0 : (packA (some []) m).1.length ≤ 24000 := h0
  have e1 : (pack1 (some []) m).1.length ≤ 2680000 := h1
  have e2 : (pack2 (some []) m).1.length ≤ 2680000 := h2
  have e3 : (pack3 (some []) m).1.length ≤ 2680000 := h3
  simp only [packM, List.length_append, headL_len]; omega

end Go.Proofs.YtifnodoffgfpbaaGreatDoor

namespace Go.Proofs.YtifnodoffgfpbaaGreatDoor
open Go

def emptyB : ByteArray := ⟨#[]⟩
/-- a record as it is read -/
def normR (r : RecD) (len : UInt16) : RecD :=
  { name := r.name, typ := typeN r, cls := r.cls, ttl := r.ttl, len := len, kind := r.kind,
    data := if r.kind = 1 then fixedL r.data 4 else if r.kind = 8 then fixedL r.data 16 else if r.kind = 13 then r.data else [],
    host := if r.kind = 2 ∨ r.kind = 3 ∨ r.kind = 5 ∨ r.kind = 6 ∨ r.kind = 9 ∨ r.kind = 11 ∨ r.kind = 12 ∨ r.kind = 4 then r.host else emptyB,
    box := if r.kind = 4 then r.box else emptyB,
    n1 := if r.kind = 4 then r.n1 else if r.kind = 6 ∨ r.kind = 9 ∨ r.kind = 11 ∨ r.kind = 12 then UInt32.ofNat (r.n1.toNat % 65536) else 0,
    n2 := if r.kind = 4 then r.n2 else if r.kind = 9 then UInt32.ofNat (r.n2.toNat % 65536) else 0,
    n3 := if r.kind = 4 then r.n3 else if r.kind = 9 then UInt32.ofNat (r.n3.toNat % 65536) else 0,
    n4 := if r.kind = 4 then r.n4 else 0,
    n5 := if r.kind = 4 then r.n5 else 0,
    texts := if r.kind = 7 then r.texts else [],
    pairs := if r.kind = 10 ∨ r.kind = 11 ∨ r.kind = 12 then r.pairs else [] }
def Like (r' r : RecD) : Prop := ∃ len, r' = normR r len
def LikeM (m' m : MsgD) : Prop := m'.head = m.head ∧ m'.asks = m.asks ∧ All2 Like m'.one m.one ∧ All2 Like m'.two m.two ∧ All2 Like m'.three m.three
theorem u32mod (x : UInt32) : (UInt32.ofNat (x.toNat % 65536)).toNat = x.toNat % 65536 := by
  have := x.toNat_lt
  rw [UInt32.toNat_ofNat']; omega
theorem fixedL_fixed (d : List UInt8) (n : Nat) : fixedL (fixedL d n) n = fixedL d n := by
  have h := fixedL_length d n
  rw [fixedL, List.take_append_of_le_length (by omega), List.take_of_length_le (by omega)]
theorem typeN_norm (r : RecD) (len : UInt16) : typeN (normR r len) = typeN r := by
  simp only [typeN, normR]
  by_cases h : r.kind = 13
  · simp [h]
  · simp only [if_neg h]
theorem be16_mod2 (n : Nat) : be16 (n % 65536 % 4294967296) = be16 n := by
  rw [show n % 65536 % 4294967296 = n % 65536 by omega, be16_mod]
theorem bodyL_norm (r : RecD) (len : UInt16) (h1 : 1 ≤ r.kind) (h13 : r.kind ≤ 13) : bodyL (normR r len) = bodyL r := by
  have hk : r.kind = 1 ∨ r.kind = 2 ∨ r.kind = 3 ∨ r.kind = 4 ∨ r.kind = 5 ∨ r.kind = 6 ∨ r.kind = 7 ∨ r.kind = 8 ∨ r.kind = 9 ∨ r.kind = 10 ∨ r.kind = 11 ∨ r.kind = 12 ∨ r.kind = 13 := by omega
  simp only [bodyL, normR]
  rcases hk with h | h | h | h | h | h | h | h | h | h | h | h | h <;> simp [h, fixedL_fixed, be16_mod2]
theorem recL_norm (r : RecD) (len : UInt16) (h1 : 1 ≤ r.kind) (h13 : r.kind ≤ 13) : recL (normR r len) = recL r := by
  simp only [recL, typeN_norm, bodyL_norm r len h1 h13]
  rfl
theorem recsL_like : ∀ {rs' rs : List RecD}, All2 Like rs' rs → (∀ r ∈ rs, 1 ≤ r.kind ∧ r.kind ≤ 13) → recsL rs' = recsL rs
  | [], [], _, _ => rfl
  | [], r :: rs, h, _ => by have := h.1; simp at this
  | r' :: rs', [], h, _ => by have := h.1; simp at this
  | r' :: rs', r :: rs, h, hk => by
    obtain ⟨len, rfl⟩ := h.2 0 r' r rfl rfl
    have ih := recsL_like (rs' := rs') (rs := rs) ⟨by have := h.1; simpa using this, fun i a b ha hb => h.2 (i + 1) a b ha hb⟩ (fun r hr => hk r (by simp [hr]))
    simp only [recsL, List.map_cons, List.flatten_cons] at ih ⊢
    rw [ih, recL_norm r len (hk r (by simp)).1 (hk r (by simp)).2]
theorem msgL_like {m' m : MsgD} (h : LikeM m' m) (hk : ∀ r, r ∈ m.one ∨ r ∈ m.two ∨ r ∈ m.three → 1 ≤ r.kind ∧ r.kind ≤ 13) : msgL m' = msgL m := by
  obtain ⟨hh, ha, h1, h2, h3⟩ := h
  simp only [msgL, hh, ha, h1.1, h2.1, h3.1]
  rw [recsL_like h1 (fun r hr => hk r (.inl hr)), recsL_like h2 (fun r hr => hk r (.inr (.inl hr))), recsL_like h3 (fun r hr => hk r (.inr (.inr hr)))]

theorem or_add {a b i : Nat} (hb : b < 2 ^ i) : (2 ^ i * a) ||| b = 2 ^ i * a + b := (Nat.two_pow_add_eq_or_of_lt hb a).symm
def bN (b : Bool) : Nat := if b then 1 else 0
theorem bN_lt (b : Bool) : bN b < 2 := by cases b <;> decide
theorem flag_mul (b : Bool) (x : UInt16) : (flagN b x).toNat = x.toNat * bN b := by cases b <;> simp [flagN, bN]
theorem hbits_nat (h : HeadD) (ho : h.op.toNat < 16) (hc : h.code.toNat < 16) :
    (hbits h).toNat = 32768 * bN h.resp + 2048 * h.op.toNat + 1024 * bN h.auth + 512 * bN h.cut + 256 * bN h.des + 128 * bN h.avail + 32 * bN h.authc + 16 * bN h.unch + h.code.toNat := by
  have b1 := bN_lt h.resp
  have b2 := bN_lt h.auth
  have b3 := bN_lt h.cut
  have b4 := bN_lt h.des
  have b5 := bN_lt h.avail
  have b6 := bN_lt h.authc
  have b7 := bN_lt h.unch
  have eop : (h.op <<< 11).toNat = 2048 * h.op.toNat := by
    rw [UInt16.toNat_shiftLeft]
    have : (11 : UInt16).toNat % 16 = 11 := rfl
    rw [this, Nat.shiftLeft_eq]; omega
  simp only [hbits, UInt16.toNat_or, flag_mul, eop]
  have e1 : (0x8000 : UInt16).toNat = 32768 := rfl
  have e2 : (0x0400 : UInt16).toNat = 1024 := rfl
  have e3 : (0x0200 : UInt16).toNat = 512 := rfl
  have e4 : (0x0100 : UInt16).toNat = 256 := rfl
  have e5 : (0x0080 : UInt16).toNat = 128 := rfl
  have e6 : (0x0020 : UInt16).toNat = 32 := rfl
  have e7 : (0x0010 : UInt16).toNat = 16 := rfl
  rw [e1, e2, e3, e4, e5, e6, e7]
  have s1 : 32768 * bN h.resp ||| 2048 * h.op.toNat = 32768 * bN h.resp + 2048 * h.op.toNat := or_add (i := 15) (by omega)
  have s2 : (32768 * bN h.resp + 2048 * h.op.toNat) ||| 1024 * bN h.auth = 32768 * bN h.resp + 2048 * h.op.toNat + 1024 * bN h.auth := by
    have := or_add (i := 11) (a := 16 * bN h.resp + h.op.toNat) (b := 1024 * bN h.auth) (by omega)
    rw [show 2 ^ 11 * (16 * bN h.resp + h.op.toNat) = 32768 * bN h.resp + 2048 * h.op.toNat by omega] at this; exact this
  have s3 : (32768 * bN h.resp + 2048 * h.op.toNat + 1024 * bN h.auth) ||| 512 * bN h.cut = 32768 * bN h.resp + 2048 * h.op.toNat + 1024 * bN h.auth + 512 * bN h.cut := by
    have := or_add (i := 10) (a := 32 * bN h.resp + 2 * h.op.toNat + bN h.auth) (b := 512 * bN h.cut) (by omega)
    rw [show 2 ^ 10 * (32 * bN h.resp + 2 * h.op.toNat + bN h.auth) = 32768 * bN h.resp + 2048 * h.op.toNat + 1024 * bN h.auth by omega] at this; exact this
  have s4 : (32768 * bN h.resp + 2048 * h.op.toNat + 1024 * bN h.auth + 512 * bN h.cut) ||| 256 * bN h.des = 32768 * bN h.resp + 2048 * h.op.toNat + 1024 * bN h.auth + 512 * bN h.cut + 256 * bN h.des := by
    have := or_add (i := 9) (a := 64 * bN h.resp + 4 * h.op.toNat + 2 * bN h.auth + bN h.cut) (b := 256 * bN h.des) (by omega)
    rw [show 2 ^ 9 * (64 * bN h.resp + 4 * h.op.toNat + 2 * bN h.auth + bN h.cut) = 32768 * bN h.resp + 2048 * h.op.toNat + 1024 * bN h.auth + 512 * bN h.cut by omega] at this; exact this
  have s5 : 128 * bN h.avail ||| 32 * bN h.authc = 128 * bN h.avail + 32 * bN h.authc := or_add (i := 7) (by omega)
  have s6 : (128 * bN h.avail + 32 * bN h.authc) ||| 16 * bN h.unch = 128 * bN h.avail + 32 * bN h.authc + 16 * bN h.unch := by
    have := or_add (i := 5) (a := 4 * bN h.avail + bN h.authc) (b := 16 * bN h.unch) (by omega)
    rw [show 2 ^ 5 * (4 * bN h.avail + bN h.authc) = 128 * bN h.avail + 32 * bN h.authc by omega] at this; exact this
  have s7 : (128 * bN h.avail + 32 * bN h.authc + 16 * bN h.unch) ||| h.code.toNat = 128 * bN h.avail + 32 * bN h.authc + 16 * bN h.unch + h.code.toNat := by
    have := or_add (i := 4) (a := 8 * bN h.avail + 2 * bN h.authc + bN h.unch) (b := h.code.toNat) (by omega)
    rw [show 2 ^ 4 * (8 * bN h.avail + 2 * bN h.authc + bN h.unch) = 128 * bN h.avail + 32 * bN h.authc + 16 * bN h.unch by omega] at this; exact this
  rw [s1, s2, s3, s4, s5, s6, s7]
  have s8 := or_add (i := 8) (a := 128 * bN h.resp + 8 * h.op.toNat + 4 * bN h.auth + 2 * bN h.cut + bN h.des) (b := 128 * bN h.avail + 32 * bN h.authc + 16 * bN h.unch + h.code.toNat) (by omega)
  rw [show 2 ^ 8 * (128 * bN h.resp + 8 * h.op.toNat + 4 * bN h.auth + 2 * bN h.cut + bN h.des) = 32768 * bN h.resp + 2048 * h.op.toNat + 1024 * bN h.auth + 512 * bN h.cut + 256 * bN h.des by omega] at s8
  rw [s8]; omega
theorem bit_of (x : Nat) (i : Nat) : x &&& 2 ^ i = 2 ^ i * (x / 2 ^ i % 2) := by
  have hb : x.testBit i = decide (x / 2 ^ i % 2 = 1) := Nat.testBit_eq_decide_div_mod_eq
  have : x / 2 ^ i % 2 = 0 ∨ x / 2 ^ i % 2 = 1 := by omega
  apply Nat.eq_of_testBit_eq
  intro j
  rw [Nat.testBit_and, Nat.testBit_two_pow]
  rcases this with h | h
  · rw [h, Nat.mul_zero, Nat.zero_testBit]
    by_cases hj : i = j
    · subst hj; rw [hb, h]; rfl
    · simp [hj]
  · rw [h, Nat.mul_one, Nat.testBit_two_pow]
    by_cases hj : i = j
    · subst hj; rw [hb, h]; simp
    · simp [hj]
end Go.Proofs.YtifnodoffgfpbaaGreatDoor

namespace Go.Proofs.YtifnodoffgfpbaaGreatDoor
open Go

def kR (k : Nat) : RecD := { name := emptyB, typ := 0, cls := 0, ttl := 0, len := 0, kind := k, data := [], host := emptyB, box := emptyB, n1 := 0, n2 := 0, n3 := 0, n4 := 0, n5 := 0, texts := [], pairs := [] }
/-- k is the kind of records of the type t -/
def KindOf (t : UInt16) (k : Nat) : Prop := 1 ≤ k ∧ k ≤ 13 ∧ (k = 13 ∨ typeN (kR k) = t) ∧ ∀ j, 1 ≤ j → j < k → typeN (kR j) ≠ t
def plainR (r : RecD) : Prop := r.kind = 13 → KindOf r.typ 13
def plainM (m : MsgD) : Prop := ∀ l ∈ [m.one, m.two, m.three], ∀ r ∈ l, plainR r
set_option maxHeartbeats 4000000 in
set_option maxRecDepth 100000 in
theorem c35 {w : World} {t : UInt16} :
  Ret PP 35 [.int .u16 (t.toNat : Int)] w (fun u w' => (∃ k : Nat, u = .int .i64 (k : Int) ∧ KindOf t k) ∧ Fr0 w w') := by
 have hf : Fr (fun _ => False) w w := Fr.refl _ _
 refine ret_of Tryz.func35 rfl rfl rfl [(0, _)] rfl ?_
 refine sreg (sA rfl (send (fg [(0, _)] ⟨rfl, ⟨⟩⟩ fun _ => (wp_seq (sreg (sA rfl (send (fg [(0, _), (3, _)] ⟨rfl, rfl, ⟨⟩⟩ fun _ => (wp_block ?_)))))))))
 refine lp [(0, _)] (fun (k : Nat) => [(3, .int .i64 (k : Int))]) (fun (k : Nat) wx => Fr (fun _ => False) w wx ∧ (1 ≤ k) ∧ (k ≤ 13) ∧ (∀ j, 1 ≤ j → j < k → typeN (kR j) ≠ t)) (fun (k : Nat) => 13 - k) 1 ⟨rfl, rfl, trivial⟩ ⟨Fr.refl _ _, Nat.le_refl _, (by omega), fun j h1 h2 => by omega⟩ ?_
 rintro k _ w2 ⟨hL1, h1, hk, hA⟩
 refine fg [(0, _), (3, _)] ⟨rfl, rfl, ⟨⟩⟩ fun _ => ?_
 have z3 := hL1.size
 have hf := hf.step0 hL1
 refine wp_seq (sreg (sM rfl ?_))
 refine svP (xlss rfl rfl) (fun hc5 => ?_) (fun hc5 => ?_)
 ·
  refine send (fg [(0, _), (3, _), (5, _)] ⟨rfl, rfl, rfl, ⟨⟩⟩ fun _ => (cyes rfl (wp_skip (nThen (fg [(0, _), (3, _)] ⟨rfl, rfl, ⟨⟩⟩ fun _ => (wp_seq (wp_block (sreg (sM rfl (sv (xbuildS (recSegs (kR k) (.slice none 0 0) (.slice none 0 0) (.slice none 0 0)) zr65 ly65 rfl (by simp [fitAll, zs65, Value.cells]) rfl) ?_))))))))))
  refine sc (xcall ca86 rfl) (c86 (r := kR k) (show (0 : Int) ≤ (k : Int) by omega) (show (k : Int) ≤ 13 by omega)) ?_
  rintro _ w4 ⟨rfl, m5⟩
  have z6 := m5.size
  have hf := hf.step0 m5
  have hL1 := hL1.step0 m5
  refine sM rfl ?_
  refine svP (xeql rfl rfl) (fun hc12 => ?_) (fun hc12 => ?_)
  ·
   refine send (fg [(0, _), (3, _), (12, _)] ⟨rfl, rfl, rfl, ⟨⟩⟩ fun _ => (cyes rfl (sreg (sM rfl (sA rfl (send (fg [(2, _)] ⟨rfl, ⟨⟩⟩ fun _ => (wp_ret (rBlock (rThen (rThen (rBlock (rThen ?_)))))))))))))
   refine rp1 rfl rfl ?_
   first | exact ⟨⟨k, rfl, h1, by omega, .inr (by have := hc12; exact UInt16.toNat_inj.1 (by omega)), hA⟩, hf⟩ | exact ⟨⟨13, rfl, by omega, by omega, .inl rfl, fun j a b => hA j a (by omega)⟩, hf⟩
  ·
   refine send (fg [(0, _), (3, _), (12, _)] ⟨rfl, rfl, rfl, ⟨⟩⟩ fun _ => (cno rfl (wp_skip (nBlock (nThen (fg [(0, _), (3, _)] ⟨rfl, rfl, ⟨⟩⟩ fun _ => (lreg (sM rfl (sv (xadd rfl rfl (w64 (by omega) (by omega))) (sA rfl (lend (nThen ?_))))))))))))
   refine ⟨k + 1, _, env_okl ⟨rfl, rfl, trivial⟩, ⟨hL1, (by omega), (by omega), (fun j a b => (Nat.lt_or_ge j k).elim (fun e => hA j a e) (fun hge => by have e : j = k := (by omega); subst e; exact fun e => hc12 (by rw [e])))⟩, ?_⟩
   show 13 - (k + 1) < 13 - k; omega
 ·
  refine send (fg [(0, _), (3, _), (5, _)] ⟨rfl, rfl, rfl, ⟨⟩⟩ fun _ => (cno rfl (wp_exit (eThen (eThen (eHit (nThen (fg [] trivial fun _ => (sreg (sA rfl (send (fg [(2, _)] ⟨rfl, ⟨⟩⟩ fun _ => (wp_ret ?_)))))))))))))
  refine rp1 rfl rfl ?_
  first | exact ⟨⟨k, rfl, h1, by omega, .inr (by have := hc12; exact UInt16.toNat_inj.1 (by omega)), hA⟩, hf⟩ | exact ⟨⟨13, rfl, by omega, by omega, .inl rfl, fun j a b => hA j a (by omega)⟩, hf⟩
set_option maxHeartbeats 4000000 in
set_option maxRecDepth 100000 in
theorem c16 {w : World} {U : Nat → Prop} (hU : ∀ k, U k → k < w.heap.size) {m : MsgD} {va v1 v2 v3 : Value} (ha : LA AskEl lAsk U w va m.asks) (y1 : LA RecEl lRec U w v1 m.one) (y2 : LA RecEl lRec U w v2 m.two) (y3 : LA RecEl lRec U w v3 m.three) (hfr : ∀ l ∈ [m.one, m.two, m.three], ∀ r ∈ l, r.fits) (hll : ∀ l ∈ [m.one, m.two, m.three], l.length ≤ 1048576)  :
  Ret PP 16 [ag (msgSegs m.head va v1 v2 v3)] w (Grd w (plainM m)) := by
 have hls : All2 (LA RecEl lRec U w) [v1, v2, v3] [m.one, m.two, m.three] := All2.cons y1 (All2.cons y2 (All2.cons y3 All2.nil))
 obtain ⟨aa, ca, rfl⟩ := ha.form
 obtain ⟨a1, c1, rfl⟩ := y1.form
 obtain ⟨a2, c2, rfl⟩ := y2.form
 obtain ⟨a3, c3, rfl⟩ := y3.form
 have hf : Fr (fun _ => False) w w := Fr.refl _ _
 refine ret_of Tryz.func16 rfl rfl rfl [(0, _)] rfl ?_
 refine sreg ?_
 refine svK (xboxS (lens := lMsg) rfl rfl) ?_
 rintro _ w2 ⟨b1, rfl, m3, h1, e1, s1⟩
 have hf := hf.step0 m3
 refine sA rfl (send (fg [(1, _)] ⟨rfl, ⟨⟩⟩ fun _ => (wp_seq (sreg (sv (xfld fl34_2 rfl) (sv (xld on32 rfl (h1.r.c 11 rfl rfl)) (sv (xfld fl34_3 rfl) (sv (xld on32 rfl (h1.r.c 12 rfl rfl)) (sv (xfld fl34_4 rfl) (sv (xld on32 rfl (h1.r.c 13 rfl rfl)) ?_))))))))))
 refine svK (xslit ([.slice a1 m.one.length c1, .slice a2 m.two.length c2, .slice a3 m.three.length c3]) sl60 in32 rfl (by decide) rfl rfl rfl rfl (by decide) rfl rfl) ?_
 rintro _ w5 ⟨b13, rfl, m6, h13, e13, s13, r13⟩
 have hf := hf.step0 m6
 refine sv (xlen sl60 rfl) (sM rfl (send (fg [(13, _), (14, _), (15, _)] ⟨rfl, rfl, rfl, ⟨⟩⟩ fun _ => (wp_block ?_))))
 refine lp [(13, _), (14, _)] (fun (i : Nat) => [(15, .int .i64 (i : Int))]) (fun (i : Nat) wx => Fr (fun _ => False) w5 wx ∧ (i ≤ 3) ∧ (∀ j (l : List RecD), j < i → [m.one, m.two, m.three][j]? = some l → ∀ r ∈ l, plainR r)) (fun (i : Nat) => 3 - i) 0 ⟨rfl, rfl, rfl, trivial⟩ ⟨Fr.refl _ _, Nat.zero_le _, upto_zero⟩ ?_
 rintro i _ w8 ⟨hL7, hi, hO⟩
 refine fg [(13, _), (14, _), (15, _)] ⟨rfl, rfl, rfl, ⟨⟩⟩ fun _ => ?_
 have z9 := hL7.size
 have hf := hf.step0 hL7
 have r13 := r13.keep hL7 id
 refine sreg ?_
 refine svP (xlss rfl rfl) (fun hc16 => ?_) (fun hc16 => ?_)
 ·
  refine send (fg [(13, _), (14, _), (15, _), (16, _)] ⟨rfl, rfl, rfl, rfl, ⟨⟩⟩ fun _ => (wp_seq (cyes rfl (wp_skip (nThen (fg [(13, _), (14, _), (15, _)] ⟨rfl, rfl, rfl, ⟨⟩⟩ fun _ => (wp_seq (wp_block (sreg ?_)))))))))
  obtain ⟨u, l, hu, hul, hL⟩ := hls.get (k := i) (by simp; omega)
  have hL := hL.keep rec_st hU hf nF
  have hlm : l ∈ [m.one, m.two, m.three] := List.mem_of_getElem? hul
  have hln := hll l hlm
  obtain ⟨au, cu, rfl⟩ := hL.form
  refine sv (xidx1 sl60 sz32 rfl rfl rfl (by omega)) (sv (xld on32 rfl (Rw.rng r13 i _ hu)) (sA rfl (send (fg [(4, _), (13, _), (14, _), (15, _)] ⟨rfl, rfl, rfl, rfl, ⟨⟩⟩ fun _ => (sreg (sM rfl (sv (xlen sl32 rfl) (sM rfl (send (fg [(13, _), (14, _), (15, _), (19, _), (20, _), (21, _)] ⟨rfl, rfl, rfl, rfl, rfl, rfl, ⟨⟩⟩ fun _ => (wp_block ?_)))))))))))
  refine lp [(13, _), (14, _), (15, _), (19, _), (20, _)] (fun (k : Nat) => [(21, .int .i64 (k : Int))]) (fun (k : Nat) wx => Fr (fun _ => False) w8 wx ∧ (k ≤ l.length) ∧ (∀ j (r : RecD), j < k → l[j]? = some r → plainR r)) (fun (k : Nat) => l.length - k) 0 ⟨rfl, rfl, rfl, rfl, rfl, rfl, trivial⟩ ⟨Fr.refl _ _, Nat.zero_le _, upto_zero⟩ ?_
  rintro k _ w11 ⟨hL10, hk, hI⟩
  refine fg [(13, _), (14, _), (15, _), (19, _), (20, _), (21, _)] ⟨rfl, rfl, rfl, rfl, rfl, rfl, ⟨⟩⟩ fun _ => ?_
  have z12 := hL10.size
  have hf := hf.step0 hL10
  have hL7 := hL7.step0 hL10
  have hL := hL.keep rec_st (lU hU (by omega)) hL10 nF
  refine sreg ?_
  refine svP (xlss rfl rfl) (fun hc22 => ?_) (fun hc22 => ?_)
  ·
   refine send (fg [(13, _), (14, _), (15, _), (19, _), (20, _), (21, _), (22, _)] ⟨rfl, rfl, rfl, rfl, rfl, rfl, rfl, ⟨⟩⟩ fun _ => (wp_seq (cyes rfl (wp_skip (nThen (fg [(13, _), (14, _), (15, _), (19, _), (20, _), (21, _)] ⟨rfl, rfl, rfl, rfl, rfl, rfl, ⟨⟩⟩ fun _ => (wp_seq (wp_block ?_))))))))
   obtain ⟨r, hrk⟩ := some_of_lt (by omega : k < l.length)
   have hrf := hfr l hlm r (List.mem_of_getElem? hrk)
   have hrf0 := hrf
   simp only [RecD.fits] at hrf0
   refine sreg ?_
   obtain ⟨bE23, oE23, sgE23, rfl, uE23, hsE23, heE23⟩ := LA.get hL hrk
   obtain ⟨vd, vt, vp, rfl, hd, ht, hp⟩ := heE23
   have zE23 := hU _ uE23
   obtain ⟨ad, cd, rfl, -⟩ := id hd
   obtain ⟨at1, ct1, rfl⟩ := ht.form
   obtain ⟨ap1, cp1, rfl⟩ := hp.form
   refine sv (xidx sl32 sz65 rfl rfl rfl (by omega)) (sv (xldS (lens := lRec) ro65 rfl hsE23) ?_)
   refine svK (xallS (lens := lRec) in65 rfl) ?_
   rintro _ w14 ⟨b6, rfl, m15, h6, e13, s13⟩
   have hf := hf.step0 m15
   have hL7 := hL7.step0 m15
   have hL10 := hL10.step0 m15
   refine suK (xstW h6 (lens' := lRec) sz65 rfl rfl rfl rfl rfl) ?_
   rintro w17 ⟨m18, h6, s16⟩
   have hf := hf.step m18 (nB (by omega))
   have hL7 := hL7.step m18 (nB (by omega))
   have hL10 := hL10.step m18 (nB (by omega))
   refine send (fg [(6, _), (13, _), (14, _), (15, _), (19, _), (20, _), (21, _)] ⟨rfl, rfl, rfl, rfl, rfl, rfl, rfl, ⟨⟩⟩ fun _ => (sreg (sv (xfld fl65_5 rfl) (sv (xld on3 rfl (h6.r.c 5 rfl rfl)) ?_))))
   refine svP (xeql rfl rfl) (fun hc27 => ?_) (fun hc27 => ?_)
   ·
    refine sM rfl (gyes rfl rfl rfl (sv (xfld fl65_1 rfl) (gyes rfl rfl rfl (sv (xld on22 rfl (h6.r.c 1 rfl rfl)) (gyes rfl rfl rfl ?_)))))
    refine sc (xcall ca35 rfl) (c35) ?_
    rintro _ w19 ⟨⟨k35, rfl, hK⟩, m20⟩
    have z21 := m20.size
    have hf := hf.step0 m20
    have hL7 := hL7.step0 m20
    have hL10 := hL10.step0 m20
    refine gyes rfl rfl rfl ?_
    refine svP (xneq rfl rfl) (fun hc32 => ?_) (fun hc32 => ?_)
    ·
     refine sv (xpickT rfl rfl) (send (fg [(13, _), (14, _), (15, _), (19, _), (20, _), (21, _), (33, _)] ⟨rfl, rfl, rfl, rfl, rfl, rfl, rfl, ⟨⟩⟩ fun _ => (cyes rfl (sreg (sA rfl (send (fg [(2, _)] ⟨rfl, ⟨⟩⟩ fun _ => (wp_ret (rBlock (rThen (rThen (rBlock (rBlock (rThen (rThen (rBlock (rThen ?_)))))))))))))))))
     refine rp1 rfl rfl ?_
     exact ⟨_, rfl, (fun h => by cases h), hf⟩
    ·
     refine sv (xpickT rfl rfl) (send (fg [(13, _), (14, _), (15, _), (19, _), (20, _), (21, _), (33, _)] ⟨rfl, rfl, rfl, rfl, rfl, rfl, rfl, ⟨⟩⟩ fun _ => (cno rfl (wp_skip (nBlock (nThen (fg [(13, _), (14, _), (15, _), (19, _), (20, _), (21, _)] ⟨rfl, rfl, rfl, rfl, rfl, rfl, ⟨⟩⟩ fun _ => (lreg (sv (xadd rfl rfl (w64 (by omega) (by omega))) (sM rfl (lend (nThen ?_))))))))))))
     refine ⟨k + 1, _, env_okl ⟨rfl, rfl, rfl, rfl, rfl, rfl, trivial⟩, ⟨hL10, (by omega), (upto_step hI hrk (fun h13 => by first | omega | (have e13 : k35 = 13 := (by omega); subst e13; exact hK)))⟩, ?_⟩
     show l.length - (k + 1) < l.length - k; omega
   ·
    refine sM rfl (gno rfl rfl rfl (gno rfl rfl rfl (gno rfl rfl rfl (gno rfl rfl rfl (sv (xpickF rfl rfl) (send (fg [(13, _), (14, _), (15, _), (19, _), (20, _), (21, _), (33, _)] ⟨rfl, rfl, rfl, rfl, rfl, rfl, rfl, ⟨⟩⟩ fun _ => (cno rfl (wp_skip (nBlock (nThen (fg [(13, _), (14, _), (15, _), (19, _), (20, _), (21, _)] ⟨rfl, rfl, rfl, rfl, rfl, rfl, ⟨⟩⟩ fun _ => (lreg (sv (xadd rfl rfl (w64 (by omega) (by omega))) (sM rfl (lend (nThen ?_)))))))))))))))))
    refine ⟨k + 1, _, env_okl ⟨rfl, rfl, rfl, rfl, rfl, rfl, trivial⟩, ⟨hL10, (by omega), (upto_step hI hrk (fun h13 => by first | omega | (have e13 : k35 = 13 := (by omega); subst e13; exact hK)))⟩, ?_⟩
    show l.length - (k + 1) < l.length - k; omega
  ·
   refine send (fg [(13, _), (14, _), (15, _), (19, _), (20, _), (21, _), (22, _)] ⟨rfl, rfl, rfl, rfl, rfl, rfl, rfl, ⟨⟩⟩ fun _ => (wp_seq (cno rfl (wp_exit (eThen (eThen (eHit (nBlock (nThen (fg [(13, _), (14, _), (15, _)] ⟨rfl, rfl, rfl, ⟨⟩⟩ fun _ => (lreg (sv (xadd rfl rfl (w64 (by omega) (by omega))) (sM rfl (lend (nThen ?_)))))))))))))))
   refine ⟨i + 1, _, env_okl ⟨rfl, rfl, rfl, trivial⟩, ⟨hL7, (by omega), (upto_step hO hul (upto_all hI (by omega)))⟩, ?_⟩
   show 3 - (i + 1) < 3 - i; omega
 ·
  refine send (fg [(13, _), (14, _), (15, _), (16, _)] ⟨rfl, rfl, rfl, rfl, ⟨⟩⟩ fun _ => (wp_seq (cno rfl (wp_exit (eThen (eThen (eHit (nThen (fg [] trivial fun _ => (sreg (sA rfl (send (fg [(2, _)] ⟨rfl, ⟨⟩⟩ fun _ => (wp_ret ?_))))))))))))))
  refine rp1 rfl rfl ?_
  exact ⟨_, rfl, (fun _ => upto_all hO (by simp; omega)), hf⟩
end Go.Proofs.YtifnodoffgfpbaaGreatDoor

namespace Go.Proofs.YtifnodoffgfpbaaGreatDoor
open Go

theorem or16 (a b : Nat) (ha : a < 65536) (hb : b < 65536) : bits .or .u16 (a : Int) (b : Int) = ((a ||| b : Nat) : Int) := by
  have hx : a ||| b < 2 ^ 16 := Nat.or_lt_two_pow (by omega) (by omega)
  show IntKind.u16.wrap ((BitVec.ofInt 16 (a : Int) ||| BitVec.ofInt 16 (b : Int)).toNat : Int) = _
  simp only [ofInt_nat, BitVec.toNat_or, BitVec.toNat_ofNat]
  rw [Nat.mod_eq_of_lt (by omega), Nat.mod_eq_of_lt (by omega)]
  exact wu16 (by omega) (by omega)
theorem or32 (a b : Nat) (ha : a < 4294967296) (hb : b < 4294967296) : bits .or .u32 (a : Int) (b : Int) = ((a ||| b : Nat) : Int) := by
  have hx : a ||| b < 2 ^ 32 := Nat.or_lt_two_pow (by omega) (by omega)
  show IntKind.u32.wrap ((BitVec.ofInt 32 (a : Int) ||| BitVec.ofInt 32 (b : Int)).toNat : Int) = _
  simp only [ofInt_nat, BitVec.toNat_or, BitVec.toNat_ofNat]
  rw [Nat.mod_eq_of_lt (by omega), Nat.mod_eq_of_lt (by omega)]
  exact wu32 (by omega) (by omega)
theorem or64 (a b : Nat) (ha : a < 1073741824) (hb : b < 1073741824) : bits .or .i64 (a : Int) (b : Int) = ((a ||| b : Nat) : Int) := by
  have hx : a ||| b < 2 ^ 30 := Nat.or_lt_two_pow (by omega) (by omega)
  show IntKind.i64.wrap ((BitVec.ofInt 64 (a : Int) ||| BitVec.ofInt 64 (b : Int)).toNat : Int) = _
  simp only [ofInt_nat, BitVec.toNat_or, BitVec.toNat_ofNat]
  rw [Nat.mod_eq_of_lt (by omega), Nat.mod_eq_of_lt (by omega)]
  exact w64 (by omega) (by omega)
theorem and64 (a b : Nat) (ha : a < 1073741824) (hb : b < 1073741824) : bits .and .i64 (a : Int) (b : Int) = ((a &&& b : Nat) : Int) := by
  have hx : a &&& b < 2 ^ 30 := Nat.and_lt_two_pow _ (by omega)
  show IntKind.i64.wrap ((BitVec.ofInt 64 (a : Int) &&& BitVec.ofInt 64 (b : Int)).toNat : Int) = _
  simp only [ofInt_nat, BitVec.toNat_and, BitVec.toNat_ofNat]
  rw [Nat.mod_eq_of_lt (by omega), Nat.mod_eq_of_lt (by omega)]
  exact w64 (by omega) (by omega)
theorem xor64 (a b : Nat) (ha : a < 1073741824) (hb : b < 1073741824) : bits .xor .i64 (a : Int) (b : Int) = ((a ^^^ b : Nat) : Int) := by
  have hx : a ^^^ b < 2 ^ 30 := Nat.xor_lt_two_pow (by omega) (by omega)
  show IntKind.i64.wrap ((BitVec.ofInt 64 (a : Int) ^^^ BitVec.ofInt 64 (b : Int)).toNat : Int) = _
  simp only [ofInt_nat, BitVec.toNat_xor, BitVec.toNat_ofNat]
  rw [Nat.mod_eq_of_lt (by omega), Nat.mod_eq_of_lt (by omega)]
  exact w64 (by omega) (by omega)
theorem and16 (a b : Nat) (ha : a < 65536) (hb : b < 65536) : bits .and .u16 (a : Int) (b : Int) = ((a &&& b : Nat) : Int) := by
  have hx : a &&& b < 2 ^ 16 := Nat.and_lt_two_pow _ (by omega)
  show IntKind.u16.wrap ((BitVec.ofInt 16 (a : Int) &&& BitVec.ofInt 16 (b : Int)).toNat : Int) = _
  simp only [ofInt_nat, BitVec.toNat_and, BitVec.toNat_ofNat]
  rw [Nat.mod_eq_of_lt (by omega), Nat.mod_eq_of_lt (by omega)]
  exact wu16 (by omega) (by omega)
/-- a high part and a low part -/
theorem or_sum {i a b : Nat} (hb : b < 2 ^ i) (ha : a % 2 ^ i = 0) : a ||| b = a + b := by
  have e : a = 2 ^ i * (a / 2 ^ i) := by have := Nat.div_add_mod a (2 ^ i); omega
  rw [e, or_add hb]
section
variable {P : Program} {n : Nat} {l : List (Nat × Value)} {w : World} {ty : TypeId} {x y : Operand}
theorem xor16S {T U : TypeId} {a b c : Nat} (i : Nat) (hx : ev n l x = some (.int .u16 (a : Int))) (hy : ev n l y = some (.int .u16 (b : Int))) (ha : a % 2 ^ i = 0) (hb : b < 2 ^ i) (hc : a + b = c) (hl : c < 65536) :
    Ex P n l (.binOp .or T x y U) ty w (.int .u16 (c : Int)) w :=
  xbin hx hy rfl (by rw [binOp_or, intBits_or, or16 a b (by omega) (by omega), or_sum hb ha, hc]; rfl)
theorem xor32S {T U : TypeId} {a b c : Nat} (i : Nat) (hx : ev n l x = some (.int .u32 (a : Int))) (hy : ev n l y = some (.int .u32 (b : Int))) (ha : a % 2 ^ i = 0) (hb : b < 2 ^ i) (hc : a + b = c) (hl : c < 4294967296) :
    Ex P n l (.binOp .or T x y U) ty w (.int .u32 (c : Int)) w :=
  xbin hx hy rfl (by rw [binOp_or, intBits_or, or32 a b (by omega) (by omega), or_sum hb ha, hc]; rfl)
theorem xor64S {T U : TypeId} {a b c : Nat} (i : Nat) (hx : ev n l x = some (.int .i64 (a : Int))) (hy : ev n l y = some (.int .i64 (b : Int))) (ha : a % 2 ^ i = 0) (hb : b < 2 ^ i) (hc : a + b = c) (hl : c < 1073741824) :
    Ex P n l (.binOp .or T x y U) ty w (.int .i64 (c : Int)) w :=
  xbin hx hy rfl (by rw [binOp_or, intBits_or, or64 a b (by omega) (by omega), or_sum hb ha, hc]; rfl)
theorem xand64N {T U : TypeId} {a b c : Nat} (hx : ev n l x = some (.int .i64 (a : Int))) (hy : ev n l y = some (.int .i64 (b : Int))) (ha : a < 1073741824) (hb : b < 1073741824) (hc : a &&& b = c) :
    Ex P n l (.binOp .and T x y U) ty w (.int .i64 (c : Int)) w :=
  xbin hx hy rfl (by rw [binOp_and, intBits_and, and64 a b ha hb, hc]; rfl)
theorem xxor64N {T U : TypeId} {a b c : Nat} (hx : ev n l x = some (.int .i64 (a : Int))) (hy : ev n l y = some (.int .i64 (b : Int))) (ha : a < 1073741824) (hb : b < 1073741824) (hc : a ^^^ b = c) :
    Ex P n l (.binOp .xor T x y U) ty w (.int .i64 (c : Int)) w :=
  xbin hx hy rfl (by rw [binOp_xor, intBits_xor, xor64 a b ha hb, hc]; rfl)
theorem xand16N {T U : TypeId} {a b c : Nat} (hx : ev n l x = some (.int .u16 (a : Int))) (hy : ev n l y = some (.int .u16 (b : Int))) (ha : a < 65536) (hb : b < 65536) (hc : a &&& b = c) :
    Ex P n l (.binOp .and T x y U) ty w (.int .u16 (c : Int)) w :=
  xbin hx hy rfl (by rw [binOp_and, intBits_and, and16 a b ha hb, hc]; rfl)
theorem xex20 {a b : Value} (hx : ev n l x = some (.tuple #[a, b])) : Ex P n l (.extract x 0) ty w a w := xextr hx rfl
theorem xex21 {a b : Value} (hx : ev n l x = some (.tuple #[a, b])) : Ex P n l (.extract x 1) ty w b w := xextr hx rfl
theorem xex30 {a b c : Value} (hx : ev n l x = some (.tuple #[a, b, c])) : Ex P n l (.extract x 0) ty w a w := xextr hx rfl
theorem xex31 {a b c : Value} (hx : ev n l x = some (.tuple #[a, b, c])) : Ex P n l (.extract x 1) ty w b w := xextr hx rfl
theorem xex32 {a b c : Value} (hx : ev n l x = some (.tuple #[a, b, c])) : Ex P n l (.extract x 2) ty w c w := xextr hx rfl
theorem xadds {T U : TypeId} {a b : ByteArray} (hx : ev n l x = some (.string a)) (hy : ev n l y = some (.string b)) (hl : a.size < 1000000000) (hm : b.size < 1000000000) : Ex P n l (.binOp .add T x y U) ty w (.string (a ++ b)) w :=
  xbin hx hy rfl (by simp [binOp, Op.stringOp]; omega)
end
theorem hi_lo {x : Nat} (h : x < 65536) : (UInt8.ofNat (x / 256)).toNat = x / 256 ∧ (UInt8.ofNat x).toNat = x % 256 := by
  have h1 : x / 256 < 256 := by omega
  have e1 := UInt8.toNat_ofNat' (n := x / 256)
  have e2 := UInt8.toNat_ofNat' (n := x)
  exact ⟨by rw [e1]; omega, by rw [e2]⟩
theorem std_cells {w : World} {g o : Nat} {b : List UInt8} (hB : w.rangeAt g o (bvs b)) {p : Nat} {xs : List UInt8} (h : Std b p xs) : w.rangeAt g (o + p) (bvs xs) := fun j v hv => by
  simp only [bvs, List.getElem?_map, Option.map_eq_some_iff] at hv
  obtain ⟨c, hc, rfl⟩ := hv
  have := hB (p + j) (bv c) (by simp only [bvs, List.getElem?_map, h j c hc]; rfl)
  rw [Nat.add_assoc]; exact this
theorem std_cell {w : World} {g o : Nat} {b : List UInt8} (hB : w.rangeAt g o (bvs b)) {p : Nat} {c : UInt8} (h : b[p]? = some c) : w.cell? ⟨g, o + p, none⟩ = some (.int .u8 (c.toNat : Int)) :=
  hB p (bv c) (by simp only [bvs, List.getElem?_map, h]; rfl)
end Go.Proofs.YtifnodoffgfpbaaGreatDoor

namespace Go.Proofs.YtifnodoffgfpbaaGreatDoor
open Go

theorem w64n {c : Int} (n : Nat) (h : c = (n : Int)) (hl : n < 9223372036854775807) : IntKind.i64.wrap c = (n : Int) := by rw [h]; exact w64 (by omega) (by omega)
theorem cut_rng {w : World} {g o o' p c : Nat} {b xs : List UInt8} (hB : w.rangeAt g o (bvs b)) (h : Std b p xs) (ho : p < c → o' = o + p * 1) (hc : p + xs.length ≤ c) : w.rangeAt g o' (bvs xs) := by
  cases xs with
  | nil => intro j v hv; simp [bvs] at hv
  | cons x xs =>
    rw [ho (by simp at hc; omega), Nat.mul_one]
    exact std_cells hB h
theorem u8_ne46 {c : UInt8} (h : c ≠ 46) : ¬ ((c.toNat : Int) = 46) := fun e => h (u8eq e)
theorem bvs_get {xs : List UInt8} {k : Nat} (h : k < xs.length) : (bvs xs)[k]? = some (.int .u8 ((xs[k]'h).toNat : Int)) := by
  simp only [bvs, List.getElem?_map, List.getElem?_eq_getElem h]; rfl
theorem take_ba {w : World} {g o k c : Nat} {xs : List UInt8} (h : w.rangeAt g o (bvs xs)) (hk : xs.length = k) : BA (fun i => i = g) w (.slice (some ⟨g, o, none⟩) k c) xs := by
  subst hk; exact ⟨_, c, rfl, fun _ => ⟨g, o, rfl, rfl, h⟩⟩
theorem nameL_ne {s : List UInt8} (h : nameL s) : s ≠ [] := by
  intro e; subst e
  have := name_pos h; simp at this
theorem NameR.at0 {b s : List UInt8} {st k i nx : Nat} {n : UInt8} (h : NameR b st k i s nx) (hn : b[i]? = some n) (h0 : (n.toNat : Int) = 0) : k = 0 ∧ s = [] ∧ nx = i + 1 := by
  cases h with
  | fin hb => exact ⟨rfl, rfl, rfl⟩
  | lab lab hl h63 hd hb hs h =>
    rw [hb] at hn; simp only [Option.some.injEq] at hn; subst hn
    have : lab.length ≠ 0 := fun e => hl (List.eq_nil_of_length_eq_zero e)
    simp only [UInt8.toNat_ofNat'] at h0; omega
  | ptr h1 h14 hb hb2 h =>
    rw [hb] at hn; simp only [Option.some.injEq] at hn; subst hn
    simp only [UInt8.toNat_ofNat'] at h0; omega
theorem NameR.atLab {b s : List UInt8} {st k i nx : Nat} {n : UInt8} (h : NameR b st k i s nx) (hn : b[i]? = some n) (h0 : ¬ (n.toNat : Int) = 0) (h64 : (n.toNat : Int) < 64) :
    ∃ lab s', s = lab ++ 46 :: s' ∧ lab.length = n.toNat ∧ lab ≠ [] ∧ (∀ c ∈ lab, c ≠ 46) ∧ Std b (i + 1) lab ∧ NameR b st k (i + 1 + lab.length) s' nx := by
  cases h with
  | fin hb => rw [hb] at hn; simp only [Option.some.injEq] at hn; subst hn; exact absurd rfl h0
  | lab lab hl h63 hd hb hs h =>
    rw [hb] at hn; simp only [Option.some.injEq] at hn; subst hn
    exact ⟨lab, _, rfl, by simp only [UInt8.toNat_ofNat']; omega, hl, hd, hs, h⟩
  | ptr h1 h14 hb hb2 h =>
    rw [hb] at hn; simp only [Option.some.injEq] at hn; subst hn
    simp only [UInt8.toNat_ofNat'] at h64; omega
theorem NameR.atPtr {b s : List UInt8} {st k i nx : Nat} {n : UInt8} (h : NameR b st k i s nx) (hn : b[i]? = some n) (h64 : ¬ (n.toNat : Int) < 64) :
    ∃ to k' nx', k = k' + 1 ∧ to < st ∧ to ≤ 16383 ∧ n.toNat = 192 + to / 256 ∧ b[i + 1]? = some (UInt8.ofNat to) ∧ nx = i + 2 ∧ NameR b to k' to s nx' := by
  cases h with
  | fin hb => rw [hb] at hn; simp only [Option.some.injEq] at hn; subst hn; exact absurd (by decide) h64
  | lab lab hl h63 hd hb hs h =>
    rw [hb] at hn; simp only [Option.some.injEq] at hn; subst hn
    simp only [UInt8.toNat_ofNat'] at h64; omega
  | ptr h1 h14 hb hb2 h =>
    rw [hb] at hn; simp only [Option.some.injEq] at hn; subst hn
    exact ⟨_, _, _, rfl, h1, h14, by simp only [UInt8.toNat_ofNat']; omega, hb2, rfl, h⟩
theorem NameR.ptrLe {b s : List UInt8} {st k i nx : Nat} {n : UInt8} (h : NameR b st k i s nx) (hn : b[i]? = some n) (h64 : ¬ (n.toNat : Int) < 64) : 192 ≤ n.toNat ∧ i + 1 < b.length := by
  obtain ⟨to, k', nx', _, _, _, hl, hb, _, h'⟩ := h.atPtr hn h64
  have := (List.getElem?_eq_some_iff.1 hb).1
  omega
theorem txt_le (s : List UInt8) : (txt s).length ≤ s.length := by
  rw [txt]; split <;> simp
theorem txt_nil {s : List UInt8} (h0 : s ≠ []) (h : txt s = []) : s = [46] := by
  by_cases hd : s = [46]
  · exact hd
  · rw [txt, if_neg hd] at h; exact absurd h h0
theorem txt_ne {s : List UInt8} (h : txt s ≠ []) : txt s = s := by
  by_cases hd : s = [46]
  · rw [txt, if_pos hd] at h; exact absurd rfl h
  · rw [txt, if_neg hd]
theorem some_get {b : List UInt8} {i : Nat} (h : i < b.length) : ∃ n, b[i]? = some n := ⟨_, List.getElem?_eq_getElem h⟩
theorem pairs_at {b : List UInt8} {p : Nat} {ps : List PairD} (h : Std b p (pairsL ps)) {k : Nat} {q : PairD} (hk : ps[k]? = some q) : Std b (p + (pairsL (ps.take k)).length) (pairL q) := by
  have e : ps = ps.take (k + 1) ++ ps.drop (k + 1) := (List.take_append_drop _ _).symm
  rw [e, pairsL, List.map_append, List.flatten_append, take_snoc hk, List.map_append, List.flatten_append] at h
  have := h.left.right
  rw [List.map_cons, List.map_nil, List.flatten_cons, List.flatten_nil, List.append_nil] at this
  exact this
theorem pairs_take_lt {ps : List PairD} {k : Nat} {q : PairD} (hk : ps[k]? = some q) : (pairsL (ps.take k)).length + 4 + q.data.length ≤ (pairsL ps).length := by
  have h : (ps.map pairL)[k]? = some (pairL q) := by rw [List.getElem?_map, hk]; rfl
  have := flat_take_le h
  rw [← List.map_take] at this
  simp only [pairsL]
  simp only [pairL, List.length_append, be16_length] at this
  omega

end Go.Proofs.YtifnodoffgfpbaaGreatDoor

namespace Go.Proofs.YtifnodoffgfpbaaGreatDoor
open Go

abbrev NoU : Nat → Prop := fun _ => False
def rec0 (r : RecD) (len : UInt16) : RecD := { name := r.name, typ := typeN r, cls := r.cls, ttl := r.ttl, len := len, kind := r.kind, data := [], host := emptyB, box := emptyB, n1 := 0, n2 := 0, n3 := 0, n4 := 0, n5 := 0, texts := [], pairs := [] }
def m16 (x : UInt32) : UInt32 := UInt32.ofNat (x.toNat % 65536)
theorem norm_a {r : RecD} {len : UInt16} (h : r.kind = 1) : normR r len = { rec0 r len with data := fixedL r.data 4 } := by simp [normR, rec0, h]
theorem norm_aaaa {r : RecD} {len : UInt16} (h : r.kind = 8) : normR r len = { rec0 r len with data := fixedL r.data 16 } := by simp [normR, rec0, h]
theorem norm_ns {r : RecD} {len : UInt16} (h : r.kind = 2 ∨ r.kind = 3 ∨ r.kind = 5) : normR r len = { rec0 r len with host := r.host } := by rcases h with h | h | h <;> simp [normR, rec0, h]
theorem norm_mx {r : RecD} {len : UInt16} (h : r.kind = 6) : normR r len = { rec0 r len with n1 := m16 r.n1, host := r.host } := by simp [normR, rec0, h, m16]
theorem norm_soa {r : RecD} {len : UInt16} (h : r.kind = 4) : normR r len = { rec0 r len with host := r.host, box := r.box, n1 := r.n1, n2 := r.n2, n3 := r.n3, n4 := r.n4, n5 := r.n5 } := by simp [normR, rec0, h]
theorem norm_txt {r : RecD} {len : UInt16} (h : r.kind = 7) : normR r len = { rec0 r len with texts := r.texts } := by simp [normR, rec0, h]
theorem norm_srv {r : RecD} {len : UInt16} (h : r.kind = 9) : normR r len = { rec0 r len with n1 := m16 r.n1, n2 := m16 r.n2, n3 := m16 r.n3, host := r.host } := by simp [normR, rec0, h, m16]
theorem norm_opt {r : RecD} {len : UInt16} (h : r.kind = 10) : normR r len = { rec0 r len with pairs := r.pairs } := by simp [normR, rec0, h]
theorem norm_svc {r : RecD} {len : UInt16} (h : r.kind = 11 ∨ r.kind = 12) : normR r len = { rec0 r len with n1 := m16 r.n1, host := r.host, pairs := r.pairs } := by rcases h with h | h <;> simp [normR, rec0, h, m16]
theorem norm_unk {r : RecD} {len : UInt16} (h : r.kind = 13) : normR r len = { rec0 r len with data := r.data } := by simp [normR, rec0, h]
theorem m16_nat (x : UInt32) : (m16 x).toNat = x.toNat % 65536 := u32mod x
theorem texts_at {b : List UInt8} {p : Nat} {ts : List ByteArray} (h : Std b p (textsL ts)) {k : Nat} {t : ByteArray} (hk : ts[k]? = some t) : Std b (p + (textsL (ts.take k)).length) (textL t) := by
  have e : ts = ts.take (k + 1) ++ ts.drop (k + 1) := (List.take_append_drop _ _).symm
  rw [e, textsL, List.map_append, List.flatten_append, take_snoc hk, List.map_append, List.flatten_append] at h
  have := h.left.right
  rw [List.map_cons, List.map_nil, List.flatten_cons, List.flatten_nil, List.append_nil] at this
  exact this
theorem texts_take_lt {ts : List ByteArray} {k : Nat} {t : ByteArray} (hk : ts[k]? = some t) : (textsL (ts.take k)).length + 1 + t.size ≤ (textsL ts).length := by
  have h : (ts.map textL)[k]? = some (textL t) := by rw [List.getElem?_map, hk]; rfl
  have := flat_take_le h
  rw [← List.map_take] at this
  simp only [textsL]
  simp only [textL, List.length_cons, bt_length] at this
  omega
end Go.Proofs.YtifnodoffgfpbaaGreatDoor

namespace Go.Proofs.YtifnodoffgfpbaaGreatDoor
open Go

theorem la_texts {U' : Nat → Prop} {w : World} {v : Value} {g n : Nat} {ts : List ByteArray} (h : Rw w v g 9 1 n (strs ts)) (hn : n = ts.length) (hU : 0 < n → U' g) : LA TextEl [1] U' w v ts := by
  subst hn
  cases ts with
  | nil =>
    obtain ⟨a, c, rfl, -⟩ := h.form
    exact LA.nil
  | cons t ts => exact RA.la (RA.texts (U := NoU) h) (by decide) text_gr (fun _ h => h.elim) (hU (by simp))
theorem strs_snoc {ts : List ByteArray} {k : Nat} {t : ByteArray} (h : ts[k]? = some t) : strs (ts.take (k + 1)) = strs (ts.take k) ++ [.string t] := by
  rw [take_snoc h]; simp [strs]
/-- what a record must be so that it is read as it is -/
def ReadOk (r : RecD) : Prop := 1 ≤ r.kind ∧ r.kind ≤ 13 ∧ NamesOk r ∧ (∀ q ∈ r.pairs, q.data.length ≤ 65535) ∧ (r.kind = 7 → ∀ t ∈ r.texts, t.size ≤ 255) ∧ plainR r
theorem listR_drop {α : Type} {R : Nat → α → Nat → Prop} : ∀ {l : List α} {k q e : Nat} {x : α}, ListR R q (l.drop k) e → l[k]? = some x → ∃ e1, R q x e1 ∧ ListR R e1 (l.drop (k + 1)) e := by
  intro l k q e x h hx
  have hk : k < l.length := (List.getElem?_eq_some_iff.1 hx).1
  have e1 : l[k] = x := (List.getElem?_eq_some_iff.1 hx).2
  rw [List.drop_eq_getElem_cons hk, e1] at h
  exact h
theorem listR_le {α : Type} {R : Nat → α → Nat → Prop} : ∀ {l : List α} {q e : Nat}, ListR R q l e → (∀ x ∈ l, ∀ i j, R i x j → i ≤ j) → q ≤ e
  | [], q, e, h, _ => Nat.le_of_eq h
  | x :: xs, q, e, ⟨e1, h1, h2⟩, hR => Nat.le_trans (hR x (by simp) _ _ h1) (listR_le h2 (fun y hy => hR y (by simp [hy])))
theorem rec_le {K : Nat → Prop} {b : List UInt8} {i e : Nat} {r : RecD} (h : RecR K b i r e) : i ≤ e := by
  obtain ⟨e0, len, ⟨k, _, hk⟩, _, _, _, rfl⟩ := h
  have := hk.le; omega
theorem ask_le {K : Nat → Prop} {b : List UInt8} {i e : Nat} {a : AskD} (h : AskR K b i a e) : i ≤ e := by
  obtain ⟨e0, ⟨k, _, hk⟩, _, rfl⟩ := h
  have := hk.le; omega
end Go.Proofs.YtifnodoffgfpbaaGreatDoor

namespace Go.Proofs.YtifnodoffgfpbaaGreatDoor
open Go

theorem xbit {P : Program} {n : Nat} {l : List (Nat × Value)} {w : World} {ty : TypeId} {x y : Operand} {T U : TypeId} {c : Nat} {B : Bool} (hx : ev n l x = some (.int .u16 ((c * bN B : Nat) : Int))) (hy : ev n l y = some (.int .u16 0)) (hc : c ≠ 0) : Ex P n l (.binOp .neq T x y U) ty w (.bool B) w := by
  have := xneq (P := P) (w := w) (ty := ty) (T := T) (U := U) hx hy
  cases B with
  | true => have e : (decide (((c * bN true : Nat) : Int) ≠ 0)) = true := by simp [bN]; omega
            rw [e] at this; exact this
  | false => have e : (decide (((c * bN false : Nat) : Int) ≠ 0)) = false := by simp [bN]
             rw [e] at this; exact this
theorem xshrN {P : Program} {n : Nat} {l : List (Nat × Value)} {w : World} {ty : TypeId} {x y : Operand} {T U : TypeId} {k j : IntKind} {a c : Nat} (b : Nat) (hb : b ≤ k.bits) (hx : ev n l x = some (.int k (a : Int))) (hy : ev n l y = some (.int j b)) (hc : a / 2 ^ b = c) :
    Ex P n l (.binOp .shr T x y U) ty w (.int k (c : Int)) w := by
  have := xshr (P := P) (w := w) (ty := ty) (T := T) (U := U) hb hx hy
  have e : (a : Int) / 2 ^ b = (c : Int) := by rw [← hc]; simp
  rw [e] at this; exact this
theorem hbits_and {h : HeadD} (ho : h.ok) : (hbits h).toNat &&& 32768 = 32768 * bN h.resp ∧ (hbits h).toNat &&& 1024 = 1024 * bN h.auth ∧ (hbits h).toNat &&& 512 = 512 * bN h.cut ∧ (hbits h).toNat &&& 256 = 256 * bN h.des ∧ (hbits h).toNat &&& 128 = 128 * bN h.avail ∧
    (hbits h).toNat &&& 32 = 32 * bN h.authc ∧ (hbits h).toNat &&& 16 = 16 * bN h.unch ∧ (hbits h).toNat &&& 15 = h.code.toNat ∧ (hbits h).toNat / 2 ^ 11 &&& 15 = h.op.toNat ∧ (hbits h).toNat &&& 64 = 0 := by
  have e := hbits_nat h ho.1 ho.2
  obtain ⟨h1, h2⟩ := ho
  have b1 := bN_lt h.resp
  have b2 := bN_lt h.auth
  have b3 := bN_lt h.cut
  have b4 := bN_lt h.des
  have b5 := bN_lt h.avail
  have b6 := bN_lt h.authc
  have b7 := bN_lt h.unch
  have m15 : ∀ x : Nat, x &&& 15 = x % 16 := fun x => Nat.and_two_pow_sub_one_eq_mod x 4
  have t : ∀ i, (hbits h).toNat &&& 2 ^ i = 2 ^ i * ((hbits h).toNat / 2 ^ i % 2) := fun i => bit_of _ i
  refine ⟨?_, ?_, ?_, ?_, ?_, ?_, ?_, ?_, ?_, ?_⟩
  · have := t 15; rw [show (2 : Nat) ^ 15 = 32768 by decide] at this; rw [this, e]; omega
  · have := t 10; rw [show (2 : Nat) ^ 10 = 1024 by decide] at this; rw [this, e]; omega
  · have := t 9; rw [show (2 : Nat) ^ 9 = 512 by decide] at this; rw [this, e]; omega
  · have := t 8; rw [show (2 : Nat) ^ 8 = 256 by decide] at this; rw [this, e]; omega
  · have := t 7; rw [show (2 : Nat) ^ 7 = 128 by decide] at this; rw [this, e]; omega
  · have := t 5; rw [show (2 : Nat) ^ 5 = 32 by decide] at this; rw [this, e]; omega
  · have := t 4; rw [show (2 : Nat) ^ 4 = 16 by decide] at this; rw [this, e]; omega
  · rw [m15, e]; omega
  · rw [m15, e, show (2 : Nat) ^ 11 = 2048 by decide]; omega
  · have := t 6; rw [show (2 : Nat) ^ 6 = 64 by decide] at this; rw [this, e]; omega
end Go.Proofs.YtifnodoffgfpbaaGreatDoor

namespace Go.Proofs.YtifnodoffgfpbaaGreatDoor
open Go

structure RH (P : Program) (ops : Array Oper) (Q : Exit → Act → World → Prop) (S : World → Prop) (o : List (Nat × Kd)) (a : Act) (w : World) : Prop where
  out : runH P ops Q S o a w

section
variable {P : Program} {ops : Array Oper} {Q : Exit → Act → World → Prop} {S : World → Prop} {rest : List (Nat × Kd)} {n : Nat} {l : List (Nat × Value)} {r : Nat → Value} {w w' : World}
  {op : Op} {ty : TypeId} {pos : String} {af : Array Edge} {v : Value} {d i : Nat} {a : Act}

theorem hvH (ho : ops[i]? = some ⟨some d, op, ty, pos, af, none⟩) (h : ∀ w, S w → Ex P n l op ty w v w) (hS : S w)
    (k : RH P ops Q S rest (env n ((d, v) :: l) r) w) : RH P ops Q S ((i, .rd) :: rest) (env n l r) w := ⟨hv ho h hS k.out⟩
theorem hlH (ho : ops[i]? = some ⟨some d, op, ty, pos, af, none⟩) (h : Ex P n l op ty w v w') (hS : S w')
    (k : RH P ops Q S rest (env n ((d, v) :: l) r) w') : RH P ops Q S ((i, .ld) :: rest) (env n l r) w := ⟨hl ho h hS k.out⟩
theorem hlKH {R : Value → World → Prop} (ho : ops[i]? = some ⟨some d, op, ty, pos, af, none⟩) (h : ExK P n l op ty w R)
    (k : ∀ v w', R v w' → S w' ∧ RH P ops Q S rest (env n ((d, v) :: l) r) w') : RH P ops Q S ((i, .ld) :: rest) (env n l r) w := ⟨hlK ho h fun v w' hR => ⟨(k v w' hR).1, (k v w' hR).2.out⟩⟩
theorem hluKH {R : World → Prop} (ho : ops[i]? = some ⟨none, op, ty, pos, af, none⟩) (h : ExUK P n l op ty w R)
    (k : ∀ w', R w' → S w' ∧ RH P ops Q S rest (env n l r) w') : RH P ops Q S ((i, .ld) :: rest) (env n l r) w := ⟨hluK ho h fun w' hR => ⟨(k w' hR).1, (k w' hR).2.out⟩⟩
theorem bluKH {R : World → Prop} (ho : ops[i]? = some ⟨none, op, ty, pos, af, none⟩) (h : ExUK P n l op ty w R)
    (k : ∀ w', R w' → RH P ops Q S rest (env n l r) w') : RH P ops Q S ((i, .bh) :: rest) (env n l r) w := ⟨bluK ho h fun w' hR => (k w' hR).out⟩
theorem hcH {f : FuncId} {vs : List Value} {R : Value → World → Prop} (ho : ops[i]? = some ⟨some d, op, ty, pos, af, none⟩) (h : ExC P n l op ty w f vs) (hc' : Ret P f vs w R)
    (k : ∀ v w', R v w' → S w' ∧ RH P ops Q S rest (env n ((d, v) :: l) r) w') : RH P ops Q S ((i, .ld) :: rest) (env n l r) w := ⟨hc ho h hc' fun v w' hR => ⟨(k v w' hR).1, (k v w' hR).2.out⟩⟩
theorem hvPH {p : Prop} [Decidable p] (ho : ops[i]? = some ⟨some d, op, ty, pos, af, none⟩) (h : ∀ w, S w → Ex P n l op ty w (.bool (decide p)) w) (hS : S w)
    (k1 : p → RH P ops Q S rest (env n ((d, .bool true) :: l) r) w) (k2 : ¬ p → RH P ops Q S rest (env n ((d, .bool false) :: l) r) w) : RH P ops Q S ((i, .rd) :: rest) (env n l r) w := ⟨hvP ho h hS (fun hp => (k1 hp).out) (fun hp => (k2 hp).out)⟩
theorem hendH {y : Code} (h : y.wp P Q a w) : RH P ops (Exit.then (y.wp P Q) Q) S [] a w := ⟨h⟩
theorem lhendH (h : Q .normal a w) : RH P ops Q S [] a w := ⟨h⟩
theorem sdrawH {id : Nat} {y : Code} (S : World → Prop) (order : List (Nat × Kd)) (hm : P.follows .mixedOrders = true)
    (hk : (Region.noSelect ops && okRun ops (reads order) (Array.replicate ops.size false) order && order.length.ble ops.size) = true)
    (hQ : ∀ c d v a w, Q (.panic c) (a.put d v) w → Q (.panic c) a w)
    (h : RH P ops (Exit.then (y.wp P Q) Q) S order a w.drew) : (Code.seq (.region id ops true) y).wp P Q a w := sdraw S order hm hk hQ h.out
theorem ldrawH {id : Nat} (S : World → Prop) (order : List (Nat × Kd)) (hm : P.follows .mixedOrders = true)
    (hk : (Region.noSelect ops && okRun ops (reads order) (Array.replicate ops.size false) order && order.length.ble ops.size) = true)
    (hQ : ∀ c d v a w, Q (.panic c) (a.put d v) w → Q (.panic c) a w)
    (h : RH P ops Q S order a w.drew) : (Code.region id ops true).wp P Q a w := ldraw S order hm hk hQ h.out
end
section
variable {P : Program} {ops : Array Oper} {Q : Exit → Act → World → Prop} {n : Nat} {l : List (Nat × Value)} {r : Nat → Value} {w : World} {ty : TypeId} {pos : String} {af : Array Edge} {v : Value} {d i : Nat} {S : World → Prop} {more : List (Nat × Kd)} {x : Operand} {a : Addr}
theorem qqM (ho : ops[i]? = some ⟨some d, .move x, ty, pos, af, none⟩) (h : ev n l x = some v) (hS : S w) (k : RH P ops Q S more (env n ((d, v) :: l) r) w) : RH P ops Q S ((i, .rd) :: more) (env n l r) w := hvH ho (fun _ _ => xmove h) hS k
theorem qqA (ho : ops[i]? = some ⟨some d, .assign x, ty, pos, af, none⟩) (h : ev n l x = some v) (hS : S w) (k : RH P ops Q S more (env n ((d, v) :: l) r) w) : RH P ops Q S ((i, .rd) :: more) (env n l r) w := hvH ho (fun _ _ => xassign h) hS k
theorem qqN (ho : ops[i]? = some ⟨some d, .nilCheck x, ty, pos, af, none⟩) (h : ev n l x = some (.pointer (some a))) (hS : S w) (k : RH P ops Q S more (env n ((d, .pointer (some a)) :: l) r) w) : RH P ops Q S ((i, .rd) :: more) (env n l r) w := hvH ho (fun _ _ => xnilc h) hS k
end
end Go.Proofs.YtifnodoffgfpbaaGreatDoor

namespace Go.Proofs.YtifnodoffgfpbaaGreatDoor
open Go

theorem packM_leC {m : MsgD} (h : fewM m) (C : Option Ent) : (packM C m).length ≤ 10000000 := by
  obtain ⟨hna, hpk, hc, _⟩ := few_pack h
  have h0 := packAsks_bound hna (by omega) C 12
  have h1 := packRecs_bound (fun r hr => (hpk m.one (by simp) r hr).2) (by omega) (packA C m).2 (12 + (packA C m).1.length)
  have h2 := packRecs_bound (fun r hr => (hpk m.two (by simp) r hr).2) (by omega) (pack1 C m).2 (12 + (packA C m).1.length + (pack1 C m).1.length)
  have h3 := packRecs_bound (fun r hr => (hpk m.three (by simp) r hr).2) (by omega) (pack2 C m).2 (12 + (packA C m).1.length + (pack1 C m).1.length + (pack2 C m).1.length)
  have e0 : (packA C m).1.length ≤ 24000 := h0
  have e1 : (pack1 C m).1.length ≤ 2680000 := h1
  have e2 : (pack2 C m).1.length ≤ 2680000 := h2
  have e3 : (pack3 C m).1.length ≤ 2680000 := h3
  simp only [packM, List.length_append, headL_len]; omega
theorem few_names {m : MsgD} (h : fewM m) : MsgNames m ∧ ∀ r, r ∈ m.one ∨ r ∈ m.two ∨ r ∈ m.three → (bodyL r).length < 65536 := by
  obtain ⟨hna, hpk, hc, _⟩ := few_pack h
  refine ⟨⟨hna, fun r hr => (hpk m.one (by simp) r hr).2.1, fun r hr => (hpk m.two (by simp) r hr).2.1, fun r hr => (hpk m.three (by simp) r hr).2.1⟩, fun r hr => ?_⟩
  rcases hr with hr | hr | hr
  · exact (hpk m.one (by simp) r hr).2.2.2
  · exact (hpk m.two (by simp) r hr).2.2.2
  · exact (hpk m.three (by simp) r hr).2.2.2
theorem msgL_le {m : MsgD} (h : fewM m) : (msgL m).length ≤ 10000000 := by
  rw [← packM_non (few_names h).1]; exact packM_leC h none
theorem readOk_of {r : RecD} (h : PackOk r) (hp : plainR r) : ReadOk r := ⟨h.1.2.1, h.1.2.2.1, h.2.1, h.2.2.1.2.2.2.2.1, h.2.2.1.2.1, hp⟩
theorem fits_norm {r : RecD} {len : UInt16} (h : r.fits) : (normR r len).fits := by
  obtain ⟨h1, h2, h3, h4, h5, h6, h7, h8, h9, h10, h11, h12⟩ := h
  refine ⟨h1, ?_, ?_, ?_, ?_, ?_, ?_, ?_, ?_, ?_, h11, h12⟩
  · simp only [normR]; repeat' split
    all_goals first | exact h2 | (rw [fixedL_length]; omega) | simp
  · simp only [normR]; split
    · exact h3
    · show (0 : Nat) ≤ _; omega
  · simp only [normR]; split
    · exact h4
    · show (0 : Nat) ≤ _; omega
  · simp only [normR]; split <;> simp [h5]
  · simp only [normR]; split
    · exact h6
    · simp
  · simp only [normR]; split <;> simp [h7]
  · simp only [normR]; split <;> simp [h8]
  · simp only [normR]; split
    · exact h9
    · simp
  · simp only [normR]; split <;> simp [h10]
/-- a message that is read -/
def backM (m : MsgD) (l1 l2 l3 : List RecD) : MsgD := { m with one := l1, two := l2, three := l3 }
theorem like_mem {l1 l : List RecD} (h : All2 Like l1 l) {r' : RecD} (hr : r' ∈ l1) : ∃ r ∈ l, ∃ len, r' = normR r len := by
  obtain ⟨i, hi, rfl⟩ := List.mem_iff_getElem.1 hr
  obtain ⟨a, b, ha, hb, hab⟩ := h.get (k := i) (by rw [← h.1]; exact hi)
  rw [List.getElem?_eq_getElem hi] at ha
  simp only [Option.some.injEq] at ha
  subst ha
  exact ⟨b, List.mem_of_getElem? hb, hab⟩
theorem back_fits {m : MsgD} {l1 l2 l3 : List RecD} (hm : m.fits) (hf : fewM m) (h1 : All2 Like l1 m.one) (h2 : All2 Like l2 m.two) (h3 : All2 Like l3 m.three) :
    (∀ l ∈ [l1, l2, l3], ∀ r ∈ l, r.fits ∧ 1 ≤ r.kind ∧ r.kind ≤ 13) ∧ (∀ l ∈ [l1, l2, l3], l.length ≤ 1048576) ∧ msgL (backM m l1 l2 l3) = msgL m := by
  obtain ⟨hna, hpk, hc, _⟩ := few_pack hf
  have hfl := hm.lists
  refine ⟨?_, ?_, ?_⟩
  · intro l hl r hr
    simp only [List.mem_cons, List.not_mem_nil, or_false] at hl
    rcases hl with rfl | rfl | rfl
    · obtain ⟨r0, h0, len, rfl⟩ := like_mem h1 hr
      have := hpk m.one (by simp) r0 h0
      exact ⟨fits_norm (hfl.2 _ (by simp) r0 h0), this.1.2.1, this.1.2.2.1⟩
    · obtain ⟨r0, h0, len, rfl⟩ := like_mem h2 hr
      have := hpk m.two (by simp) r0 h0
      exact ⟨fits_norm (hfl.2 _ (by simp) r0 h0), this.1.2.1, this.1.2.2.1⟩
    · obtain ⟨r0, h0, len, rfl⟩ := like_mem h3 hr
      have := hpk m.three (by simp) r0 h0
      exact ⟨fits_norm (hfl.2 _ (by simp) r0 h0), this.1.2.1, this.1.2.2.1⟩
  · intro l hl
    simp only [List.mem_cons, List.not_mem_nil, or_false] at hl
    rcases hl with rfl | rfl | rfl
    · rw [h1.1]; omega
    · rw [h2.1]; omega
    · rw [h3.1]; omega
  · refine msgL_like ⟨rfl, rfl, h1, h2, h3⟩ fun r hr => ?_
    rcases hr with hr | hr | hr
    · have := hpk m.one (by simp) r hr; exact ⟨this.1.2.1, this.1.2.2.1⟩
    · have := hpk m.two (by simp) r hr; exact ⟨this.1.2.1, this.1.2.2.1⟩
    · have := hpk m.three (by simp) r hr; exact ⟨this.1.2.1, this.1.2.2.1⟩
theorem c20f {w : World} {U : Nat → Prop} (hU : ∀ k, U k → k < w.heap.size) {m : MsgD} {va v1 v2 v3 : Value} (hm : m.fits) (hf : fewM m) (ja : LA AskEl lAsk U w va m.asks) (j1 : LA RecEl lRec U w v1 m.one) (j2 : LA RecEl lRec U w v2 m.two) (j3 : LA RecEl lRec U w v3 m.three) :
    Ret PP 20 [ag (msgSegs m.head va v1 v2 v3)] w (New w (msgL m).length (msgL m)) := by
  have hl := msgL_le hf
  have hfl := hm.lists
  have hpk := (few_pack hf).2.1
  exact c20 hU ja j1 j2 j3 hm.2.1 (fun l hl r hr => ⟨hfl.2 l hl r hr, Int.le_trans (by decide) (hpk l hl r hr).1.2.1, (hpk l hl r hr).1.2.2.1⟩) hm.1 hfl.1 (by omega)
end Go.Proofs.YtifnodoffgfpbaaGreatDoor

namespace Go.Proofs.YtifnodoffgfpbaaGreatDoor
open Go

abbrev lB : List Nat := [1, 1, 1, 1, 1, 1, 1, 1, 1, 1]
theorem cell_keep {S : Nat → Prop} {w w' : World} {k : Nat} {v : Value} (h : w.cell? ⟨k, 0, none⟩ = some v) (m : Fr S w w') (hk : k < w.heap.size) (hn : ¬ S k) : w'.cell? ⟨k, 0, none⟩ = some v := by
  simp only [World.cell?] at h ⊢
  rw [m.block k hk hn]; exact h
end Go.Proofs.YtifnodoffgfpbaaGreatDoor

namespace Go.Proofs.YtifnodoffgfpbaaGreatDoor
open Go Go.ChangeShapes Go.WideShapes

section
variable {P : Program}
def VarR (P : Program) (W : World) (n : String) (d : DataW Unit) : Prop :=
  ∃ g t cs fuel p, P.globalNamed n = some g ∧ (P.globals[g]?).map (·.type) = some t ∧ W.var? P n = some cs ∧ DataW.trod (fun _ => ()) P W 0 (fun _ => true) false fuel t cs.toList = some (d, p) ∧
    ∀ i u v, i < cs.size → W.cell? ⟨g, i, none⟩ = some (.iface u v) → Value.okWide P W .any 0 u v
theorem mem_row (g n i : Nat) (hi : i < n) : MemPlace.cell g i ∈ MemPlace.row ⟨g, 0, none⟩ n := by
  simp only [MemPlace.row]
  exact List.mem_map.2 ⟨i, List.mem_range.2 hi, by rw [Nat.zero_add]⟩
theorem laid_reads {W : World} : ∀ {l : List (String × DataW Unit)} {ps : List MemPlace}, DataW.LaidVars P W l ps → (∀ b off, MemPlace.cell b off ∈ ps → ∀ u v, W.cell? ⟨b, off, none⟩ = some (.iface u v) → Value.okWide P W .any 0 u v) → ∀ n d, (n, d) ∈ l → VarR P W n d
  | [], _, _, _, _, _, hm => by cases hm
  | (n', d') :: r, ps, h, hw, n, d, hm => by
    obtain ⟨g, t, cs, fuel, p, q, h1, h2, h3, h4, h5, rfl⟩ := h
    rcases List.mem_cons.1 hm with e | e
    · cases e
      exact ⟨g, t, cs, fuel, p, h1, h2, h3, h4, fun i u v hi hc => hw g i (List.mem_append_left _ (List.mem_append_left _ (mem_row g cs.size i hi))) u v hc⟩
    · exact laid_reads h5 (fun b off hb => hw b off (List.mem_append_right _ hb)) n d e
theorem laid_var {W : World} {l : List (String × DataW Unit)} (h : laidMet P l W) {n : String} {d : DataW Unit} (hm : (n, d) ∈ l) : VarR P W n d := by
  obtain ⟨ps, hv, _, hw⟩ := h
  exact laid_reads hv (fun b off hb => (hw b off hb).2) n d hm
theorem trod_if {W : World} {fuel : Nat} {t : TypeId} {cs : List Value} {nm : String} {d : DataW Unit} {p : List MemPlace} (ht : ifcB P t = true) (h : DataW.trod (fun _ => ()) P W 0 (fun _ => true) false fuel t cs = some (.iface nm d, p)) :
    ∃ u v n q, cs = [.iface u v] ∧ P.typeName? 3 u = some nm ∧ DataW.trod (fun _ => ()) P W 0 (fun _ => true) false n u v.cells.toList = some (d, q) := by
  cases fuel with
  | zero => simp [DataW.trod] at h
  | succ n =>
    have hu := ifcB_spec ht
    unfold DataW.trod at h
    rw [hu] at h
    match cs, h with
    | [.nilIface], h => simp at h
    | [.iface u v], h =>
      simp only [] at h
      cases hn : P.typeName? 3 u with
      | none => rw [hn] at h; simp at h
      | some name =>
        rw [hn] at h
        simp only [Option.map_eq_some_iff, Prod.mk.injEq, DataW.iface.injEq] at h
        obtain ⟨x, hx, ⟨h1, h2⟩, _⟩ := h
        exact ⟨u, v, n, x.2, rfl, by rw [hn, h1], by rw [hx, ← h2]⟩
theorem trod_ptr {W : World} {fuel : Nat} {t : TypeId} {cs : List Value} {d : DataW Unit} {p : List MemPlace} (h : DataW.trod (fun _ => ()) P W 0 (fun _ => true) false fuel t cs = some (.ptr d, p)) : ∃ e, P.underlying t = some (.pointer e) := by
  cases fuel with
  | zero => simp [DataW.trod] at h
  | succ n =>
    unfold DataW.trod at h
    split at h
    all_goals first
      | exact ⟨_, by assumption⟩
      | (exfalso; revert h; repeat' split
         all_goals (intro h; simp [Option.bind_eq_some_iff, Option.map_eq_some_iff] at h))
theorem err_ofP {ET : TypeId} (hif : ifcB P ET = true)
    {W : World} {l : List (String × DataW Unit)} (h : laidMet P l W) {n : String} {g : Nat} {d : DataW Unit} (hm : (n, .iface "*errors.errorString" (.ptr d)) ∈ l) (hg : P.globalNamed n = some g) (ht : (P.globals[g]?).map (·.type) = some ET) :
    ∃ u e x, W.cell? ⟨g, 0, none⟩ = some (.iface u (.pointer x)) ∧ P.typeName? 3 u = some "*errors.errorString" ∧ P.underlying u = some (.pointer e) := by
  obtain ⟨g', t, cs, fuel, p, h1, h2, h3, h4, h5⟩ := laid_var h hm
  obtain rfl : g = g' := Option.some.inj (hg.symm.trans h1)
  obtain rfl : ET = t := Option.some.inj (ht.symm.trans h2)
  obtain ⟨u, v, fu, q, hcs, hu, hv⟩ := trod_if hif h4
  have hc : W.cell? ⟨g, 0, none⟩ = some (.iface u v) := by
    rw [World.var?_cell h1 h3 0]
    have : cs.toList[0]? = some (.iface u v) := by rw [hcs]; rfl
    simpa using this
  have hsz : 0 < cs.size := by
    have : cs.toList.length = 1 := by rw [hcs]; rfl
    simp at this; omega
  have hw := h5 0 u v hsz hc
  obtain ⟨e, he⟩ := trod_ptr hv
  obtain ⟨x, rfl⟩ := okWide_pointer he hw
  exact ⟨u, e, x, hc, hu, he⟩
end
theorem cell_lt {w : World} {k : Nat} {v : Value} (h : w.cell? ⟨k, 0, none⟩ = some v) : k < w.heap.size := by
  rcases Nat.lt_or_ge k w.heap.size with h' | h'
  · exact h'
  · simp [World.cell?, Array.getElem?_eq_none h'] at h
theorem tn166 : PP.typeName? 3 166 = some "*loop.example/pub-messagesmixed/pub/dnsmessage.nestedError" := by kernel_rfl
/-- what an error variable holds -/
def ErrV (v : Value) : Prop := ∃ u e x, v = .iface u (.pointer x) ∧ u ≠ 166 ∧ PP.underlying u = some (.pointer e)
/-- AN ERROR VARIABLE -/
theorem err_of {W : World} {l : List (String × DataW Unit)} (h : laidMet PP l W) {n : String} {g : Nat} {d : DataW Unit} (hm : (n, .iface "*errors.errorString" (.ptr d)) ∈ l) (hg : PP.globalNamed n = some g) (ht : (PP.globals[g]?).map (·.type) = some 89) :
    ∃ v, W.cell? ⟨g, 0, none⟩ = some v ∧ ErrV v := by
  obtain ⟨u, e, x, hc, hu, he⟩ := err_ofP if89 h hm hg ht
  refine ⟨_, hc, u, e, x, rfl, ?_, he⟩
  intro h166
  rw [h166, tn166] at hu
  exact absurd (Option.some.inj hu) (by decide)
end Go.Proofs.YtifnodoffgfpbaaGreatDoor

namespace Go.Proofs.YtifnodoffgfpbaaGreatDoor
open Go

theorem rScope {Q : Exit → Act → World → Prop} {a : Act} {w : World} (h : Q .ret a w) : Exit.noGoto Q .ret a w := h
/-- these of the variables 0 to 22 hold errors -/
def GE (w : World) : Prop := ∀ k, k ≤ 20 → (k = 0 ∨ k = 5 ∨ (7 ≤ k ∧ k ≤ 13) ∨ k = 15 ∨ k = 20) → ∃ (v : Value), w.cell? ⟨k, 0, none⟩ = some v ∧ ErrV v
theorem GE.keep {S : Nat → Prop} {w w' : World} (h : GE w) (hU : ∀ k, k ≤ 20 → k < w.heap.size) (m : Fr S w w') (hn : ∀ k, k ≤ 20 → ¬ S k) : GE w' := fun k hk h14 => by
  obtain ⟨v, h, e⟩ := h k hk h14
  exact ⟨v, cell_keep h m (hU k hk) (hn k hk), e⟩
theorem GE.get {w : World} (h : GE w) (k : Nat) (hk : k ≤ 20) (h14 : (k = 0 ∨ k = 5 ∨ (7 ≤ k ∧ k ≤ 13) ∨ k = 15 ∨ k = 20)) : ∃ (u : TypeId) (x : Option Addr) (e : TypeId), w.cell? ⟨k, 0, none⟩ = some (.iface u (.pointer x)) ∧ u ≠ 166 ∧ PP.underlying u = some (.pointer e) := by
  obtain ⟨v, h, u, e, x, rfl, h1, h2⟩ := h k hk h14
  exact ⟨u, x, e, h, h1, h2⟩
theorem ms_cell {w : World} {bm om n : Nat} {b : List UInt8} (hm : w.rangeAt bm om (bvs (b.take n))) {i : Nat} {c : UInt8} (h : b[i]? = some c) (hi : i < n) : w.cell? ⟨bm, om + i, none⟩ = some (.int .u8 (c.toNat : Int)) :=
  std_cell hm (by rw [List.getElem?_take, if_pos hi]; exact h)
theorem ms_std {b xs : List UInt8} {n p : Nat} (h : Std b p xs) (hn : p + xs.length ≤ n) : Std (b.take n) p xs := fun j c hj => by
  have hl : j < xs.length := (List.getElem?_eq_some_iff.1 hj).1
  rw [List.getElem?_take, if_pos (by omega)]
  exact h j c hj
theorem hi_lo32 {x : Nat} (h : x < 4294967296) : (UInt8.ofNat (x / 16777216)).toNat = x / 16777216 ∧ (UInt8.ofNat (x / 65536)).toNat = x / 65536 % 256 ∧ (UInt8.ofNat (x / 256)).toNat = x / 256 % 256 ∧ (UInt8.ofNat x).toNat = x % 256 := by
  have e1 := UInt8.toNat_ofNat' (n := x / 16777216)
  have e2 := UInt8.toNat_ofNat' (n := x / 65536)
  have e3 := UInt8.toNat_ofNat' (n := x / 256)
  have e4 := UInt8.toNat_ofNat' (n := x)
  have h1 : x / 16777216 < 256 := by omega
  exact ⟨by rw [e1]; omega, by rw [e2], by rw [e3], by rw [e4]⟩

set_option maxHeartbeats 4000000 in
set_option maxRecDepth 100000 in
theorem c156 {w : World} {a : Option Addr} {bm om km n : Nat} {b : List UInt8} (hms : n ≠ 0 → a = some ⟨bm, om, none⟩) (hm : w.rangeAt bm om (bvs (b.take n))) (hbm : bm < w.heap.size) (_hnb : n ≤ b.length) (_hkm : n ≤ km) (hbl : b.length < 100000000) (hG : GE w) (hsz : 21 ≤ w.heap.size) {off x : Nat} (hx : x < 65536) (hs : Std b off (be16 x)) (_ho : off ≤ b.length) :
  Ret PP 156 [.slice a n km, .int .i64 (off : Int)] w (fun u w' => ((off + 2 ≤ n ∧ u = .tuple #[.int .u16 (x : Int), .int .i64 ((off + 2 : Nat) : Int), .nilIface]) ∨ (n < off + 2 ∧ ∃ (T : TypeId) (x : Option Addr), u = .tuple #[.int .u16 0, .int .i64 (off : Int), .iface T (.pointer x)])) ∧ Fr0 w w') := by
 have hsl := hs.le (by simp [be16])
 simp only [be16_length] at hsl
 have hhl := hi_lo hx
 have hs0 := hs.head
 have hs1 := hs.tail.head
 have hf : Fr (fun _ => False) w w := Fr.refl _ _
 refine ret_of Tryz.func156 rfl rfl rfl [(0, _), (1, _)] rfl ?_
 refine sreg (sA rfl (sA rfl (sA rfl (send (fg [(0, _), (1, _)] ⟨rfl, rfl, ⟨⟩⟩ fun _ => (wp_seq (sreg (sM rfl (sv (xadd rfl rfl (w64n (off + 2) (by omega) (by omega))) (sM rfl (sv (xlen sl37 rfl) ?_)))))))))))
 refine svP (xgtr rfl rfl) (fun hc11 => ?_) (fun hc11 => ?_)
 ·
  refine send (fg [(0, _), (1, _), (11, _)] ⟨rfl, rfl, rfl, ⟨⟩⟩ fun _ => (cyes rfl ?_))
  refine sdrawH (Fr (fun _ => False) w.drew) [(0, .rd), (1, .rd), (2, .rd), (3, .rd), (4, .rd)] mixed (by kernel_rfl) (fun _ _ _ _ _ h => h) ?_
  have z1 : w.drew.heap.size = w.heap.size := rfl
  have hm := rng_fr hm (fd w) (by omega) id
  have hG := hG.keep (fun k hk => by omega) (fd w) nF
  have hf := hf.drew
  have hS2 : Fr (fun _ => False) w.drew w.drew := Fr.refl _ _
  refine qqM rfl rfl hS2 ?_
  obtain ⟨Tg13, xg13, eg13, hgc13, hgn13, hge13⟩ := hG.get 7 (by omega) (by omega)
  refine hvH rfl (fun w' hS => xld on89 rfl (cell_keep hgc13 hS (by omega) id)) hS2 (qqA rfl rfl hS2 (qqA rfl rfl hS2 (qqA rfl rfl hS2 (hendH (fg [(4, _), (5, _), (6, _)] ⟨rfl, rfl, rfl, ⟨⟩⟩ fun _ => (wp_ret (rThen ?_)))))))
  refine rp3 rfl rfl rfl rfl ?_
  exact ⟨.inr ⟨by omega, _, _, rfl⟩, hf⟩
 ·
  refine send (fg [(0, _), (1, _), (11, _)] ⟨rfl, rfl, rfl, ⟨⟩⟩ fun _ => (cno rfl (wp_skip (nThen (fg [(0, _), (1, _)] ⟨rfl, rfl, ⟨⟩⟩ fun _ => ?_)))))
  obtain rfl := hms (by omega)
  refine sdrawH (Fr (fun _ => False) w.drew) [(0, .rd), (1, .rd), (2, .rd), (3, .rd), (4, .rd), (5, .rd), (6, .rd), (7, .rd), (8, .rd), (9, .rd), (10, .rd), (11, .rd), (12, .rd), (13, .rd), (14, .rd), (15, .rd), (16, .rd), (17, .rd)] mixed (by kernel_rfl) (fun _ _ _ _ _ h => h) ?_
  have z3 : w.drew.heap.size = w.heap.size := rfl
  have hm := rng_fr hm (fd w) (by omega) id
  have hf := hf.drew
  have hS4 : Fr (fun _ => False) w.drew w.drew := Fr.refl _ _
  refine qqM rfl rfl hS4 (qqM rfl rfl hS4 (hvH rfl (fun _ _ => xidx1 (i := off) sl37 sz5 rfl rfl rfl (by omega)) hS4 (hvH rfl (fun w' hS => xld on5 rfl (ms_cell (rng_fr hm hS (by omega) id) hs0 (by omega))) hS4 (hvH rfl (fun _ _ => xconv hs5 ki22 rfl (wu16 (by omega) (by omega))) hS4 (hvH rfl (fun _ _ => xshl (b := 8) (by decide) rfl rfl (wu16n (x / 256 * 256) (by omega))) hS4 (qqM rfl rfl hS4 (qqM rfl rfl hS4 (hvH rfl (fun _ _ => xadd rfl rfl (w64n (off + 1) (by omega) (by omega))) hS4 (hvH rfl (fun _ _ => xidx1 (i := off + 1) sl37 sz5 rfl rfl rfl (by omega)) hS4 (hvH rfl (fun w' hS => xld on5 rfl (ms_cell (rng_fr hm hS (by omega) id) hs1 (by omega))) hS4 (hvH rfl (fun _ _ => xconv hs5 ki22 rfl (wu16 (by omega) (by omega))) hS4 (hvH rfl (fun _ _ => xor16S (a := x / 256 * 256) (b := (UInt8.ofNat x).toNat) (c := x) 8 rfl rfl (by omega) (by omega) (by omega) (by omega)) hS4 (qqM rfl rfl hS4 (hvH rfl (fun _ _ => xadd rfl rfl (w64n (off + 2) (by omega) (by omega))) hS4 (qqA rfl rfl hS4 (qqA rfl rfl hS4 (qqA rfl rfl hS4 (hendH (fg [(4, _), (5, _), (6, _)] ⟨rfl, rfl, rfl, ⟨⟩⟩ fun _ => (wp_ret ?_))))))))))))))))))))
  refine rp3 rfl rfl rfl rfl ?_
  exact ⟨.inl ⟨by omega, rfl⟩, hf⟩
set_option maxHeartbeats 4000000 in
set_option maxRecDepth 100000 in
theorem c106 {w : World} {a : Option Addr} {bm om km n : Nat} {b : List UInt8} (hms : n ≠ 0 → a = some ⟨bm, om, none⟩) (hm : w.rangeAt bm om (bvs (b.take n))) (hbm : bm < w.heap.size) (hnb : n ≤ b.length) (hkm : n ≤ km) (hbl : b.length < 100000000) (hG : GE w) (hsz : 21 ≤ w.heap.size) {off x : Nat} (hx : x < 65536) (hs : Std b off (be16 x)) (ho : off ≤ b.length) :
  Ret PP 106 [.slice a n km, .int .i64 (off : Int)] w (fun u w' => ((off + 2 ≤ n ∧ u = .tuple #[.int .u16 (x : Int), .int .i64 ((off + 2 : Nat) : Int), .nilIface]) ∨ (n < off + 2 ∧ ∃ (T : TypeId) (x : Option Addr), u = .tuple #[.int .u16 0, .int .i64 (off : Int), .iface T (.pointer x)])) ∧ Fr0 w w') := by
 have hf : Fr (fun _ => False) w w := Fr.refl _ _
 refine ret_of Tryz.func106 rfl rfl rfl [(0, _), (1, _)] rfl ?_
 refine sreg (sA rfl (sA rfl (sA rfl (send (fg [(0, _), (1, _)] ⟨rfl, rfl, ⟨⟩⟩ fun _ => (sreg (sM rfl (sM rfl ?_))))))))
 refine sc (xcall ca156 rfl) (c156 (b := b) (off := off) (x := x) hms hm (by omega) hnb hkm hbl hG (by omega) hx (hs) (by omega)) ?_
 rintro _ w1 ⟨⟨hle13, rfl⟩ | ⟨hgt13, T13, x13, rfl⟩, m2⟩
 ·
  have z3 := m2.size
  have hf := hf.step0 m2
  refine sM rfl (sv (xex30 rfl) (sv (xex31 rfl) (sv (xex32 rfl) (sA rfl (sA rfl (sA rfl (send (fg [(7, _), (8, _), (9, _)] ⟨rfl, rfl, rfl, ⟨⟩⟩ fun _ => (sreg (sM rfl (sM rfl (sM rfl (sA rfl (sA rfl (sA rfl (send (fg [(4, _), (5, _), (6, _)] ⟨rfl, rfl, rfl, ⟨⟩⟩ fun _ => (wp_ret ?_))))))))))))))))))
  refine rp3 rfl rfl rfl rfl ?_
  exact ⟨.inl ⟨by omega, rfl⟩, hf⟩
 ·
  have z4 := m2.size
  have hf := hf.step0 m2
  refine sM rfl (sv (xex30 rfl) (sv (xex31 rfl) (sv (xex32 rfl) (sA rfl (sA rfl (sA rfl (send (fg [(7, _), (8, _), (9, _)] ⟨rfl, rfl, rfl, ⟨⟩⟩ fun _ => (sreg (sM rfl (sM rfl (sM rfl (sA rfl (sA rfl (sA rfl (send (fg [(4, _), (5, _), (6, _)] ⟨rfl, rfl, rfl, ⟨⟩⟩ fun _ => (wp_ret ?_))))))))))))))))))
  refine rp3 rfl rfl rfl rfl ?_
  exact ⟨.inr ⟨by omega, _, _, rfl⟩, hf⟩
set_option maxHeartbeats 4000000 in
set_option maxRecDepth 100000 in
theorem c107 {w : World} {a : Option Addr} {bm om km n : Nat} {b : List UInt8} (hms : n ≠ 0 → a = some ⟨bm, om, none⟩) (hm : w.rangeAt bm om (bvs (b.take n))) (hbm : bm < w.heap.size) (hnb : n ≤ b.length) (hkm : n ≤ km) (hbl : b.length < 100000000) (hG : GE w) (hsz : 21 ≤ w.heap.size) {off x : Nat} (hx : x < 65536) (hs : Std b off (be16 x)) (ho : off ≤ b.length) :
  Ret PP 107 [.slice a n km, .int .i64 (off : Int)] w (fun u w' => ((off + 2 ≤ n ∧ u = .tuple #[.int .u16 (x : Int), .int .i64 ((off + 2 : Nat) : Int), .nilIface]) ∨ (n < off + 2 ∧ ∃ (T : TypeId) (x : Option Addr), u = .tuple #[.int .u16 0, .int .i64 (off : Int), .iface T (.pointer x)])) ∧ Fr0 w w') := by
 have hf : Fr (fun _ => False) w w := Fr.refl _ _
 refine ret_of Tryz.func107 rfl rfl rfl [(0, _), (1, _)] rfl ?_
 refine sreg (sA rfl (sA rfl (sA rfl (send (fg [(0, _), (1, _)] ⟨rfl, rfl, ⟨⟩⟩ fun _ => (sreg (sM rfl (sM rfl ?_))))))))
 refine sc (xcall ca156 rfl) (c156 (b := b) (off := off) (x := x) hms hm (by omega) hnb hkm hbl hG (by omega) hx (hs) (by omega)) ?_
 rintro _ w1 ⟨⟨hle13, rfl⟩ | ⟨hgt13, T13, x13, rfl⟩, m2⟩
 ·
  have z3 := m2.size
  have hf := hf.step0 m2
  refine sM rfl (sv (xex30 rfl) (sv (xex31 rfl) (sv (xex32 rfl) (sA rfl (sA rfl (sA rfl (send (fg [(7, _), (8, _), (9, _)] ⟨rfl, rfl, rfl, ⟨⟩⟩ fun _ => (sreg (sM rfl (sM rfl (sM rfl (sA rfl (sA rfl (sA rfl (send (fg [(4, _), (5, _), (6, _)] ⟨rfl, rfl, rfl, ⟨⟩⟩ fun _ => (wp_ret ?_))))))))))))))))))
  refine rp3 rfl rfl rfl rfl ?_
  exact ⟨.inl ⟨by omega, rfl⟩, hf⟩
 ·
  have z4 := m2.size
  have hf := hf.step0 m2
  refine sM rfl (sv (xex30 rfl) (sv (xex31 rfl) (sv (xex32 rfl) (sA rfl (sA rfl (sA rfl (send (fg [(7, _), (8, _), (9, _)] ⟨rfl, rfl, rfl, ⟨⟩⟩ fun _ => (sreg (sM rfl (sM rfl (sM rfl (sA rfl (sA rfl (sA rfl (send (fg [(4, _), (5, _), (6, _)] ⟨rfl, rfl, rfl, ⟨⟩⟩ fun _ => (wp_ret ?_))))))))))))))))))
  refine rp3 rfl rfl rfl rfl ?_
  exact ⟨.inr ⟨by omega, _, _, rfl⟩, hf⟩
set_option maxHeartbeats 4000000 in
set_option maxRecDepth 100000 in
theorem c211 {w : World} {a : Option Addr} {bm om km n : Nat} {b : List UInt8} (hms : n ≠ 0 → a = some ⟨bm, om, none⟩) (hm : w.rangeAt bm om (bvs (b.take n))) (hbm : bm < w.heap.size) (_hnb : n ≤ b.length) (_hkm : n ≤ km) (hbl : b.length < 100000000) (hG : GE w) (hsz : 21 ≤ w.heap.size) {off x : Nat} (hx : x < 4294967296) (hs : Std b off (be32 x)) (_ho : off ≤ b.length) :
  Ret PP 211 [.slice a n km, .int .i64 (off : Int)] w (fun u w' => ((off + 4 ≤ n ∧ u = .tuple #[.int .u32 (x : Int), .int .i64 ((off + 4 : Nat) : Int), .nilIface]) ∨ (n < off + 4 ∧ ∃ (T : TypeId) (x : Option Addr), u = .tuple #[.int .u32 0, .int .i64 (off : Int), .iface T (.pointer x)])) ∧ Fr0 w w') := by
 have hsl := hs.le (by simp [be32])
 simp only [be32_length] at hsl
 have hhl := hi_lo32 hx
 have hs0 := hs.head
 have hs1 := hs.tail.head
 have hs2 := hs.tail.tail.head
 have hs3 := hs.tail.tail.tail.head
 have hf : Fr (fun _ => False) w w := Fr.refl _ _
 refine ret_of Tryz.func211 rfl rfl rfl [(0, _), (1, _)] rfl ?_
 refine sreg (sA rfl (sA rfl (sA rfl (send (fg [(0, _), (1, _)] ⟨rfl, rfl, ⟨⟩⟩ fun _ => (wp_seq (sreg (sM rfl (sv (xadd rfl rfl (w64n (off + 4) (by omega) (by omega))) (sM rfl (sv (xlen sl37 rfl) ?_)))))))))))
 refine svP (xgtr rfl rfl) (fun hc12 => ?_) (fun hc12 => ?_)
 ·
  refine send (fg [(0, _), (1, _), (12, _)] ⟨rfl, rfl, rfl, ⟨⟩⟩ fun _ => (cyes rfl ?_))
  refine sdrawH (Fr (fun _ => False) w.drew) [(0, .rd), (1, .rd), (2, .rd), (3, .rd), (4, .rd)] mixed (by kernel_rfl) (fun _ _ _ _ _ h => h) ?_
  have z1 : w.drew.heap.size = w.heap.size := rfl
  have hm := rng_fr hm (fd w) (by omega) id
  have hG := hG.keep (fun k hk => by omega) (fd w) nF
  have hf := hf.drew
  have hS2 : Fr (fun _ => False) w.drew w.drew := Fr.refl _ _
  refine qqM rfl rfl hS2 ?_
  obtain ⟨Tg14, xg14, eg14, hgc14, hgn14, hge14⟩ := hG.get 7 (by omega) (by omega)
  refine hvH rfl (fun w' hS => xld on89 rfl (cell_keep hgc14 hS (by omega) id)) hS2 (qqA rfl rfl hS2 (qqA rfl rfl hS2 (qqA rfl rfl hS2 (hendH (fg [(4, _), (5, _), (6, _)] ⟨rfl, rfl, rfl, ⟨⟩⟩ fun _ => (wp_ret (rThen ?_)))))))
  refine rp3 rfl rfl rfl rfl ?_
  exact ⟨.inr ⟨by omega, _, _, rfl⟩, hf⟩
 ·
  refine send (fg [(0, _), (1, _), (12, _)] ⟨rfl, rfl, rfl, ⟨⟩⟩ fun _ => (cno rfl (wp_skip (nThen (fg [(0, _), (1, _)] ⟨rfl, rfl, ⟨⟩⟩ fun _ => ?_)))))
  obtain rfl := hms (by omega)
  refine sdrawH (Fr (fun _ => False) w.drew) [(0, .rd), (1, .rd), (2, .rd), (3, .rd), (4, .rd), (5, .rd), (6, .rd), (7, .rd), (8, .rd), (9, .rd), (10, .rd), (11, .rd), (12, .rd), (13, .rd), (14, .rd), (15, .rd), (16, .rd), (17, .rd), (18, .rd), (19, .rd), (20, .rd), (21, .rd), (22, .rd), (23, .rd), (24, .rd), (25, .rd), (26, .rd), (27, .rd), (28, .rd), (29, .rd)] mixed (by kernel_rfl) (fun _ _ _ _ _ h => h) ?_
  have z3 : w.drew.heap.size = w.heap.size := rfl
  have hm := rng_fr hm (fd w) (by omega) id
  have hf := hf.drew
  have hS4 : Fr (fun _ => False) w.drew w.drew := Fr.refl _ _
  refine qqM rfl rfl hS4 (qqM rfl rfl hS4 (hvH rfl (fun _ _ => xidx1 (i := off) sl37 sz5 rfl rfl rfl (by omega)) hS4 (hvH rfl (fun w' hS => xld on5 rfl (ms_cell (rng_fr hm hS (by omega) id) hs0 (by omega))) hS4 (hvH rfl (fun _ _ => xconv hs5 ki61 rfl (wu32 (by omega) (by omega))) hS4 (hvH rfl (fun _ _ => xshl (b := 24) (by decide) rfl rfl (wu32n (x / 16777216 * 16777216) (by omega))) hS4 (qqM rfl rfl hS4 (qqM rfl rfl hS4 (hvH rfl (fun _ _ => xadd rfl rfl (w64n (off + 1) (by omega) (by omega))) hS4 (hvH rfl (fun _ _ => xidx1 (i := off + 1) sl37 sz5 rfl rfl rfl (by omega)) hS4 (hvH rfl (fun w' hS => xld on5 rfl (ms_cell (rng_fr hm hS (by omega) id) hs1 (by omega))) hS4 (hvH rfl (fun _ _ => xconv hs5 ki61 rfl (wu32 (by omega) (by omega))) hS4 (hvH rfl (fun _ _ => xshl (b := 16) (by decide) rfl rfl (wu32n (x / 65536 % 256 * 65536) (by omega))) hS4 (hvH rfl (fun _ _ => xor32S (a := x / 16777216 * 16777216) (b := x / 65536 % 256 * 65536) (c := x / 65536 * 65536) 24 rfl rfl (by omega) (by omega) (by omega) (by omega)) hS4 (qqM rfl rfl hS4 (qqM rfl rfl hS4 (hvH rfl (fun _ _ => xadd rfl rfl (w64n (off + 1 + 1) (by omega) (by omega))) hS4 (hvH rfl (fun _ _ => xidx1 (i := off + 1 + 1) sl37 sz5 rfl rfl rfl (by omega)) hS4 (hvH rfl (fun w' hS => xld on5 rfl (ms_cell (rng_fr hm hS (by omega) id) hs2 (by omega))) hS4 (hvH rfl (fun _ _ => xconv hs5 ki61 rfl (wu32 (by omega) (by omega))) hS4 (hvH rfl (fun _ _ => xshl (b := 8) (by decide) rfl rfl (wu32n (x / 256 % 256 * 256) (by omega))) hS4 (hvH rfl (fun _ _ => xor32S (a := x / 65536 * 65536) (b := x / 256 % 256 * 256) (c := x / 256 * 256) 16 rfl rfl (by omega) (by omega) (by omega) (by omega)) hS4 (qqM rfl rfl hS4 (qqM rfl rfl hS4 (hvH rfl (fun _ _ => xadd rfl rfl (w64n (off + 1 + 1 + 1) (by omega) (by omega))) hS4 ?_))))))))))))))))))))))))
  refine hvH rfl (fun _ _ => xidx1 (i := off + 1 + 1 + 1) sl37 sz5 rfl rfl rfl (by omega)) hS4 (hvH rfl (fun w' hS => xld on5 rfl (ms_cell (rng_fr hm hS (by omega) id) hs3 (by omega))) hS4 (hvH rfl (fun _ _ => xconv hs5 ki61 rfl (wu32 (by omega) (by omega))) hS4 (hvH rfl (fun _ _ => xor32S (a := x / 256 * 256) (b := (UInt8.ofNat x).toNat) (c := x) 8 rfl rfl (by omega) (by omega) (by omega) (by omega)) hS4 (qqA rfl rfl hS4 (hendH (fg [(1, _), (7, _)] ⟨rfl, rfl, ⟨⟩⟩ fun _ => (sreg (sM rfl (sM rfl (sv (xadd rfl rfl (w64n (off + 4) (by omega) (by omega))) (sA rfl (sA rfl (sA rfl (send (fg [(4, _), (5, _), (6, _)] ⟨rfl, rfl, rfl, ⟨⟩⟩ fun _ => (wp_ret ?_))))))))))))))))
  refine rp3 rfl rfl rfl rfl ?_
  exact ⟨.inl ⟨by omega, rfl⟩, hf⟩
end Go.Proofs.YtifnodoffgfpbaaGreatDoor

namespace Go.Proofs.YtifnodoffgfpbaaGreatDoor
open Go

set_option maxRecDepth 100000 in
theorem and192 {x : Nat} (h : x < 256) : x &&& 192 = x / 64 * 64 := by
  have : ∀ x : Fin 256, x.val &&& 192 = x.val / 64 * 64 := by decide
  exact this ⟨x, h⟩
set_option maxRecDepth 100000 in
theorem xor192 {x y : Nat} (h : x < 256) (e : x = 192 + y) : x ^^^ 192 = y := by
  have : ∀ x : Fin 256, 192 ≤ x.val → x.val ^^^ 192 = x.val - 192 := by decide
  have h2 := this ⟨x, h⟩ (by simp only; omega)
  simp only at h2; omega
/-- a part is written over from its cell j on -/
theorem splice_in (segs : List (List Value)) (i j : Nat) (ds : List Value) (hi : i < segs.length) (hj : j + ds.length ≤ segs[i].length) : splice segs.flatten (offs segs i + j) ds = (segs.set i (splice segs[i] j ds)).flatten := by
  have e : segs = segs.take i ++ (segs[i] :: segs.drop (i + 1)) := by
    rw [List.getElem_cons_drop, List.take_append_drop]
  rw [List.set_eq_take_append_cons_drop, if_pos hi, offs_flat]
  have e2 : segs.flatten = (segs.take i).flatten ++ (segs[i] ++ (segs.drop (i + 1)).flatten) := by
    conv => lhs; rw [e]
    rw [List.flatten_append, List.flatten_cons]
  rw [e2, List.flatten_append, List.flatten_cons]
  generalize (segs.take i).flatten = pre
  generalize (segs.drop (i + 1)).flatten = post
  generalize hs : segs[i] = s at hj
  have e3 : s = s.take j ++ ((s.drop j).take ds.length ++ s.drop (j + ds.length)) := by
    rw [← List.drop_drop, List.take_append_drop, List.take_append_drop]
  have hl : ((s.drop j).take ds.length).length = ds.length := by rw [List.length_take, List.length_drop]; omega
  have hp : (pre ++ s.take j).length = pre.length + j := by rw [List.length_append, List.length_take]; omega
  have e4 : pre ++ (s ++ post) = (pre ++ s.take j) ++ ((s.drop j).take ds.length ++ (s.drop (j + ds.length) ++ post)) := by
    conv => lhs; rw [e3]
    simp only [List.append_assoc]
  rw [e4, ← hp, splice_mid _ _ _ _ hl.symm]
  simp only [splice, List.append_assoc]
theorem set_lens {segs : List (List Value)} {i : Nat} {ds : List Value} (hi : i < segs.length) (hd : ds.length = segs[i].length) : (segs.set i ds).map List.length = segs.map List.length := by
  rw [List.map_set]
  apply List.ext_getElem
  · simp
  · intro m h1 h2
    rw [List.getElem_set]
    split
    · rename_i hm; subst hm; simp [hd]
    · rfl
/-- cells of a part are written -/
theorem SB.part {w : World} {b i j o' : Nat} {lens : List Nat} {segs : List (List Value)} {ds : List Value} (h : SB w b lens segs) (hi : i < segs.length) (hj : j + ds.length ≤ segs[i].length) (ho : (lens.take i).sum + j = o') :
    SB (w.setCells b o' ds) b lens (segs.set i (splice segs[i] j ds)) ∧ Fr (· = b) w (w.setCells b o' ds) ∧ (w.setCells b o' ds).heap.size = w.heap.size ∧ (∀ m, m < ds.length → (w.cell? ⟨b, o' + m, none⟩).isSome ∧ w.frozen? ⟨b, o' + m, none⟩ = false) := by
  have hof := offs_lens h.2 i
  have hle := offs_le segs i hi
  have hfit : o' + ds.length ≤ segs.flatten.length := by omega
  have hs := h.1.sets ds o' hfit
  have e := splice_in segs i j ds hi hj
  rw [show offs segs i + j = o' by omega] at e
  rw [e] at hs
  have hl : (splice segs[i] j ds).length = segs[i].length := by
    simp only [splice, List.length_append, List.length_take, List.length_drop]; omega
  refine ⟨⟨hs.1, ?_⟩, hs.2.1, hs.2.2, h.1.there hfit⟩
  rw [set_lens hi hl]; exact h.2
/-- a name that is being read: its bytes so far, no length yet -/
def nb (s : List UInt8) : List Value := bvs ((s ++ List.replicate 255 0).take 255) ++ [.int .u8 0]
theorem nb_form {s : List UInt8} (h : s.length ≤ 255) : nb s = bvs s ++ (bvs (List.replicate (255 - s.length) 0) ++ [.int .u8 0]) := by
  rw [nb, List.take_append, List.take_of_length_le h, List.take_replicate, Nat.min_eq_left (by omega), bvs_app, List.append_assoc]
theorem nb_length (s : List UInt8) : (nb s).length = 256 := by
  simp only [nb, List.length_append, nm_body, List.length_cons, List.length_nil]
theorem nb_nil : nb [] = nm [] := rfl
theorem nb_add {s t : List UInt8} (h : s.length + t.length ≤ 255) : splice (nb s) s.length (bvs t) = nb (s ++ t) := by
  rw [nb_form (s := s) (by omega), nb_form (s := s ++ t) (by simp; omega)]
  have e : List.replicate (255 - s.length) (0 : UInt8) = List.replicate t.length 0 ++ List.replicate (255 - (s ++ t).length) 0 := by
    rw [List.replicate_append_replicate]; congr 1; simp; omega
  rw [e, bvs_app, List.append_assoc]
  have h2 := splice_mid (bvs s) (bvs (List.replicate t.length 0)) (bvs (List.replicate (255 - (s ++ t).length) 0) ++ [.int .u8 0]) (bvs t) (by simp [bvs])
  rw [bvs_length] at h2
  rw [h2, bvs_app, List.append_assoc]
theorem nb_end {s : List UInt8} (_h : s.length ≤ 255) : splice (nb s) 255 [.int .u8 (s.length : Int)] = nm s := by
  have h2 := splice_mid (bvs ((s ++ List.replicate 255 0).take 255)) [.int .u8 0] [] [.int .u8 (s.length : Int)] rfl
  rw [nm_body] at h2
  simp only [List.append_nil] at h2
  exact h2
theorem nb_start {w : World} {b i : Nat} {lens : List Nat} {segs : List (List Value)} (h : SB w b lens segs) (hi : segs[i]? = some (nm [])) : SB w b lens (segs.set i (nb [])) := by
  have hlt : i < segs.length := (List.getElem?_eq_some_iff.1 hi).1
  have he : segs[i] = nm [] := (List.getElem?_eq_some_iff.1 hi).2
  rw [nb_nil, ← he, List.set_getElem_self]; exact h
theorem src_cut {w : World} {b o m c : Nat} {xs : List UInt8} (hr : w.rangeAt b o (bvs xs)) (hm : xs.length = m) : Src PP 1 37 (.slice (some ⟨b, o, none⟩) m c) m (bvs xs) w :=
  src_rng sl37 (by rw [bvs_length]; omega) hr (bvs_one _)
section
variable {P : Program} {n : Nat} {l : List (Nat × Value)} {w : World} {ty : TypeId} {x y : Operand}
/-- append to a name that is being read -/
theorem xappN {T TX E : TypeId} {z u : Value} {bytes bp o' c i k : Nat} {lens : List Nat} {segs : List (List Value)} {os news : List UInt8} (hT : slcB P T E = true) (hI : Inf P E z 1 bytes)
    (hx : ev n l x = some (.slice (some ⟨bp, o', none⟩) os.length c)) (hy : ev n l y = some u) (hP : SB w bp lens (segs.set i (nb os))) (hi : i < segs.length) (hq : (lens.take i).sum = o') (hs : Src P 1 TX u k (bvs news) w) (hk : news.length = k) (hroom : os.length + k ≤ 255) (hc : c = 255) :
    ExK P n l (.call { callee := .builtin .append, args := #[x, y], argTypes := #[T, TX] }) ty w (fun v' w' => v' = .slice (some ⟨bp, o', none⟩) (os ++ news).length c ∧ Fr (· = bp) w w' ∧ SB w' bp lens (segs.set i (nb (os ++ news))) ∧ w'.heap.size = w.heap.size) := by
  obtain ⟨j, hj, hjz, hsz, rfl⟩ := hI
  subst hk
  have hu := slcB_spec hT
  have hil : i < (segs.set i (nb os)).length := by rw [List.length_set]; exact hi
  have hg : (segs.set i (nb os))[i] = nb os := by simp
  have hp := hP.part (ds := bvs news) (j := os.length) (o' := o' + os.length) hil (by rw [hg, nb_length, bvs_length]; omega) (by omega)
  rw [hg, nb_add (by omega), List.set_set] at hp
  rw [← hsz] at hs
  have hr := run_append_room_src (P := P) w T TX ty E j hu hj bp o' os.length c u news.length (bvs news) hs (by omega)
    (fun m hm => by rw [hsz, Nat.mul_one]; exact (hp.2.2.2 m hm).1)
    (fun m hm => by rw [hsz, Nat.mul_one]; exact (hp.2.2.2 m hm).2)
  rw [hsz, Nat.mul_one] at hr
  refine ⟨_, _, fun r _ _ _ _ => ?_, rfl, hp.2.1, hp.1, hp.2.2.1⟩
  simp only [execOp, List.length_append]
  simp [resolve, invoke, builtin, ev_eval r hx, ev_eval r hy, hr]
/-- a name's length is written -/
theorem xstN {T : TypeId} {bp o' i : Nat} {lens : List Nat} {segs : List (List Value)} {os : List UInt8} (hT : szB P T 1 = true) (hP : SB w bp lens (segs.set i (nb os))) (hi : i < segs.length) (hq : (lens.take i).sum + 255 = o') (hl : os.length ≤ 255)
    (hx : ev n l x = some (.pointer (some ⟨bp, o', none⟩))) (hy : ev n l y = some (.int .u8 (os.length : Int))) :
    ExUK P n l (.store T x y) ty w (fun w' => Fr (· = bp) w w' ∧ SB w' bp lens (segs.set i (nm os)) ∧ w'.heap.size = w.heap.size) := by
  have hil : i < (segs.set i (nb os)).length := by rw [List.length_set]; exact hi
  have hg : (segs.set i (nb os))[i] = nb os := by simp
  have hle := offs_le _ i hil
  have hof := offs_lens hP.2 i
  rw [hg, nb_length] at hle
  obtain ⟨w', h, hf, hB, hs⟩ := xst (ty := ty) hT hx hy hP.1 (by omega) rfl
  refine ⟨w', h, hf, ⟨?_, ?_⟩, hs⟩
  · have e := splice_in (segs.set i (nb os)) i 255 [.int .u8 (os.length : Int)] hil (by rw [hg, nb_length]; simp)
    rw [hg, nb_end hl, List.set_set, show offs (segs.set i (nb os)) i + 255 = o' by omega, ← splice_cons _ _ _ _ (by omega), splice_nil] at e
    rw [← e]; exact hB
  · have e := set_lens (ds := nm os) hil (by rw [hg, nb_length, nm_length])
    rw [List.set_set] at e
    rw [e]; exact hP.2
/-- copy into a part -/
theorem xcopyL {T TX E : TypeId} {bp o' c i d : Nat} {lens : List Nat} {segs : List (List Value)} {zs : List Value} {xs : List UInt8} {u : Value} (hT : slcB P T E = true) (hE : szB P E 1 = true) (hx : ev n l x = some (.slice (some ⟨bp, o', none⟩) d c)) (hy : ev n l y = some u)
    (hc : Cpy P w u xs) (hd : xs.length = d) (hP : SB w bp lens segs) (hi : segs[i]? = some zs) (hz : zs.length = d) (hq : (lens.take i).sum = o') :
    ExK P n l (.call { callee := .builtin .copy, args := #[x, y], argTypes := #[T, TX] }) ty w (fun v w' => v = .int .i64 (d : Int) ∧ Fr (· = bp) w w' ∧ SB w' bp lens (segs.set i (bvs xs)) ∧ w'.heap.size = w.heap.size) := by
  subst hd
  have hlt : i < segs.length := (List.getElem?_eq_some_iff.1 hi).1
  have he : segs[i] = zs := (List.getElem?_eq_some_iff.1 hi).2
  have hof := offs_lens hP.2 i
  have hle := offs_le segs i hlt
  rw [he, hz] at hle
  have hbl : (bvs xs).length = xs.length := bvs_length _
  have hmin : Nat.min xs.length xs.length = xs.length := Nat.min_self _
  obtain ⟨v, w', h, h1, h2, h3, h4⟩ := xcopy (TX := TX) (ty := ty) hT hE hx hy (sn := xs.length) (news := bvs xs) hc.1 (by rw [hbl, hmin]) (by rw [hmin]; have := hc.2 xs.length (Nat.le_refl _); rwa [List.take_length] at this) (bvs_one _) hP.1 (by omega)
  refine ⟨v, w', h, by rw [h1, hbl], h2, ⟨?_, ?_⟩, h4⟩
  · have e := splice_flat segs i (bvs xs) hlt (by rw [he, hbl, hz])
    rw [show offs segs i = o' by omega] at e
    rw [← e]; exact h3
  · rw [set_lens hlt (by rw [he, hbl, hz])]; exact hP.2
end
theorem u8len {xs : List UInt8} (h : xs.length ≤ 255) : (UInt8.ofNat xs.length).toNat = xs.length := by
  rw [UInt8.toNat_ofNat']; omega

set_option maxHeartbeats 4000000 in
set_option maxRecDepth 100000 in
theorem c212 {w : World} {a : Option Addr} {bm om km n : Nat} {b : List UInt8} (hms : n ≠ 0 → a = some ⟨bm, om, none⟩) (hm : w.rangeAt bm om (bvs (b.take n))) (hbm : bm < w.heap.size) (_hnb : n ≤ b.length) (hkm : n ≤ km) (hbl : b.length < 100000000) (hG : GE w) (hsz : 21 ≤ w.heap.size) {bp q ip : Nat} {lens : List Nat} {segs : List (List Value)} (hP : SB w bp lens segs) (_hbp : bp ≠ bm) (hgp : 20 < bp) (hq : (lens.take ip).sum = q) {zs : List Value} (hi : segs[ip]? = some zs) {off d : Nat} {xs : List UInt8} (hs : Std b off xs) (_ho : off ≤ b.length) (hd : xs.length = d) (hz : zs.length = d) (hle : off + d ≤ b.length) (h0 : n ≠ 0) {cd : Nat} :
  Ret PP 212 [.slice a n km, .int .i64 (off : Int), .slice (some ⟨bp, q, none⟩) d cd] w (fun u w' => ((off + d ≤ n ∧ u = .tuple #[.int .i64 ((off + d : Nat) : Int), .nilIface] ∧ SB w' bp lens (segs.set ip (bvs xs))) ∨ (n < off + d ∧ (∃ (T : TypeId) (x : Option Addr), u = .tuple #[.int .i64 (off : Int), .iface T (.pointer x)]) ∧ ∃ o, SB w' bp lens (segs.set ip o))) ∧ Fr (fun k => k = bp) w w') := by
 obtain rfl := hms h0
 have hf : Fr (fun k => k = bp) w w := Fr.refl _ _
 have z_hP := hP.lt
 refine ret_of Tryz.func212 rfl rfl rfl [(0, _), (1, _), (2, _)] rfl ?_
 refine sreg (sA rfl (sA rfl (send (fg [(0, _), (1, _), (2, _)] ⟨rfl, rfl, rfl, ⟨⟩⟩ fun _ => (sreg (sM rfl (sM rfl (sv (xlen sl37 rfl) (sv (xadd rfl rfl (w64n (off + d) (by omega) (by omega))) (sA rfl (send (fg [(0, _), (1, _), (2, _), (8, _)] ⟨rfl, rfl, rfl, rfl, ⟨⟩⟩ fun _ => (wp_seq (sreg (sM rfl (sM rfl (sv (xlen sl37 rfl) ?_)))))))))))))))))
 refine svP (xgtr rfl rfl) (fun hc16 => ?_) (fun hc16 => ?_)
 ·
  refine send (fg [(0, _), (1, _), (2, _), (8, _), (16, _)] ⟨rfl, rfl, rfl, rfl, rfl, ⟨⟩⟩ fun _ => (cyes rfl ?_))
  refine sdrawH (Fr (fun _ => False) w.drew) [(0, .rd), (1, .rd), (2, .rd), (3, .rd)] mixed (by kernel_rfl) (fun _ _ _ _ _ h => h) ?_
  have z1 : w.drew.heap.size = w.heap.size := rfl
  have hm := rng_fr hm (fd w) (by omega) id
  have hG := hG.keep (fun k hk => by omega) (fd w) nF
  have hP := hP.drew
  have hf := hf.drew
  have hS2 : Fr (fun _ => False) w.drew w.drew := Fr.refl _ _
  refine qqM rfl rfl hS2 ?_
  obtain ⟨Tg18, xg18, eg18, hgc18, hgn18, hge18⟩ := hG.get 7 (by omega) (by omega)
  refine hvH rfl (fun w' hS => xld on89 rfl (cell_keep hgc18 hS (by omega) id)) hS2 (qqA rfl rfl hS2 (qqA rfl rfl hS2 (hendH (fg [(6, _), (7, _)] ⟨rfl, rfl, ⟨⟩⟩ fun _ => (wp_ret (rThen ?_))))))
  refine rp2 rfl rfl rfl ?_
  exact ⟨.inr ⟨by omega, ⟨_, _, rfl⟩, zs, by rw [show segs.set ip zs = segs from by rw [← (List.getElem?_eq_some_iff.1 hi).2, List.set_getElem_self]]; exact hP⟩, hf⟩
 ·
  refine send (fg [(0, _), (1, _), (2, _), (8, _), (16, _)] ⟨rfl, rfl, rfl, rfl, rfl, ⟨⟩⟩ fun _ => (cno rfl (wp_skip (nThen (fg [(0, _), (1, _), (2, _), (8, _)] ⟨rfl, rfl, rfl, rfl, ⟨⟩⟩ fun _ => (sreg (sM rfl (sM rfl (sM rfl (sM rfl ?_))))))))))
  refine svK (xcutLH (lo := off) (hi := off + d) sl37 sz5 rfl rfl rfl (by omega) (by omega) (by omega) (by omega)) ?_
  rintro _ w ⟨o23, rfl, ho23, rfl⟩
  refine svK (xcopyL sl37 sz5 rfl rfl (cpy_ba (take_ba (cut_rng hm (ms_std hs (by omega)) ho23 (by omega)) (by omega))) hd hP hi hz hq) ?_
  rintro _ w5 ⟨rfl, m6, hP, sz4⟩
  have hf := hf.step m6 (fun k hk hS => by have hS : k = bp := hS; show k = bp; omega)
  refine send (fg [(8, _)] ⟨rfl, ⟨⟩⟩ fun _ => (sreg (sM rfl (sA rfl (sA rfl (send (fg [(6, _), (7, _)] ⟨rfl, rfl, ⟨⟩⟩ fun _ => (wp_ret ?_))))))))
  refine rp2 rfl rfl rfl ?_
  exact ⟨.inl ⟨by omega, rfl, hP⟩, hf⟩
set_option maxHeartbeats 4000000 in
set_option maxRecDepth 100000 in
theorem c213 {w : World} {a : Option Addr} {bm om km n : Nat} {b : List UInt8} (hms : n ≠ 0 → a = some ⟨bm, om, none⟩) (hm : w.rangeAt bm om (bvs (b.take n))) (hbm : bm < w.heap.size) (hnb : n ≤ b.length) (hkm : n ≤ km) (hbl : b.length < 100000000) (hG : GE w) (hsz : 21 ≤ w.heap.size) {off : Nat} {xs : List UInt8} (hxl : xs.length ≤ 255) (hs : Std b off (UInt8.ofNat xs.length :: xs)) (ho : off + 1 + xs.length ≤ b.length) :
  Ret PP 213 [.slice a n km, .int .i64 (off : Int)] w (fun u w' => ((off + 1 + xs.length ≤ n ∧ u = .tuple #[.string (mkB xs), .int .i64 ((off + 1 + xs.length : Nat) : Int), .nilIface]) ∨ (n < off + 1 + xs.length ∧ ∃ (T : TypeId) (x : Option Addr), u = .tuple #[.string ⟨#[]⟩, .int .i64 (off : Int), .iface T (.pointer x)])) ∧ Fr0 w w') := by
 have hul := u8len hxl
 have hf : Fr (fun _ => False) w w := Fr.refl _ _
 refine ret_of Tryz.func213 rfl rfl rfl [(0, _), (1, _)] rfl ?_
 refine sreg (sA rfl (sA rfl (sA rfl (send (fg [(0, _), (1, _)] ⟨rfl, rfl, ⟨⟩⟩ fun _ => (wp_seq (sreg (sM rfl (sM rfl (sv (xlen sl37 rfl) ?_))))))))))
 refine svP (xgeq rfl rfl) (fun hc12 => ?_) (fun hc12 => ?_)
 ·
  refine send (fg [(0, _), (1, _), (12, _)] ⟨rfl, rfl, rfl, ⟨⟩⟩ fun _ => (cyes rfl ?_))
  refine sdrawH (Fr (fun _ => False) w.drew) [(0, .rd), (1, .rd), (2, .rd), (3, .rd), (4, .rd)] mixed (by kernel_rfl) (fun _ _ _ _ _ h => h) ?_
  have z1 : w.drew.heap.size = w.heap.size := rfl
  have hm := rng_fr hm (fd w) (by omega) id
  have hG := hG.keep (fun k hk => by omega) (fd w) nF
  have hf := hf.drew
  have hS2 : Fr (fun _ => False) w.drew w.drew := Fr.refl _ _
  refine qqM rfl rfl hS2 ?_
  obtain ⟨Tg14, xg14, eg14, hgc14, hgn14, hge14⟩ := hG.get 7 (by omega) (by omega)
  refine hvH rfl (fun w' hS => xld on89 rfl (cell_keep hgc14 hS (by omega) id)) hS2 (qqA rfl rfl hS2 (qqA rfl rfl hS2 (qqA rfl rfl hS2 (hendH (fg [(4, _), (5, _), (6, _)] ⟨rfl, rfl, rfl, ⟨⟩⟩ fun _ => (wp_ret (rThen ?_)))))))
  refine rp3 rfl rfl rfl rfl ?_
  exact ⟨.inr ⟨by omega, _, _, rfl⟩, hf⟩
 ·
  refine send (fg [(0, _), (1, _), (12, _)] ⟨rfl, rfl, rfl, ⟨⟩⟩ fun _ => (cno rfl (wp_skip (nThen (fg [(0, _), (1, _)] ⟨rfl, rfl, ⟨⟩⟩ fun _ => ?_)))))
  obtain rfl := hms (by omega)
  refine sreg (sM rfl (sv (xadd rfl rfl (w64n (off + 1) (by omega) (by omega))) (sA rfl (send (fg [(0, _), (1, _), (7, _)] ⟨rfl, rfl, rfl, ⟨⟩⟩ fun _ => (sreg (sM rfl (sM rfl (sM rfl (sv (xidx1 (i := off) sl37 sz5 rfl rfl (by omega) (by omega)) (sv (xld on5 rfl (ms_cell hm hs.head (by omega))) (sv (xconv hs5 ki3 rfl (w64 (by omega) (by omega))) (sv (xadd rfl rfl (w64n (off + 1 + xs.length) (by omega) (by omega))) (sA rfl (send (fg [(0, _), (1, _), (7, _), (8, _)] ⟨rfl, rfl, rfl, rfl, ⟨⟩⟩ fun _ => (wp_seq (sreg (sM rfl (sM rfl (sv (xlen sl37 rfl) ?_)))))))))))))))))))))
  refine svP (xgtr rfl rfl) (fun hc27 => ?_) (fun hc27 => ?_)
  ·
   refine send (fg [(0, _), (1, _), (7, _), (8, _), (27, _)] ⟨rfl, rfl, rfl, rfl, rfl, ⟨⟩⟩ fun _ => (cyes rfl ?_))
   refine sdrawH (Fr (fun _ => False) w.drew) [(0, .rd), (1, .rd), (2, .rd), (3, .rd), (4, .rd)] mixed (by kernel_rfl) (fun _ _ _ _ _ h => h) ?_
   have z3 : w.drew.heap.size = w.heap.size := rfl
   have hm := rng_fr hm (fd w) (by omega) id
   have hG := hG.keep (fun k hk => by omega) (fd w) nF
   have hf := hf.drew
   have hS4 : Fr (fun _ => False) w.drew w.drew := Fr.refl _ _
   refine qqM rfl rfl hS4 ?_
   obtain ⟨Tg29, xg29, eg29, hgc29, hgn29, hge29⟩ := hG.get 8 (by omega) (by omega)
   refine hvH rfl (fun w' hS => xld on89 rfl (cell_keep hgc29 hS (by omega) id)) hS4 (qqA rfl rfl hS4 (qqA rfl rfl hS4 (qqA rfl rfl hS4 (hendH (fg [(4, _), (5, _), (6, _)] ⟨rfl, rfl, rfl, ⟨⟩⟩ fun _ => (wp_ret (rThen ?_)))))))
   refine rp3 rfl rfl rfl rfl ?_
   exact ⟨.inr ⟨by omega, _, _, rfl⟩, hf⟩
  ·
   refine send (fg [(0, _), (1, _), (7, _), (8, _), (27, _)] ⟨rfl, rfl, rfl, rfl, rfl, ⟨⟩⟩ fun _ => (cno rfl (wp_skip (nThen (fg [(0, _), (7, _), (8, _)] ⟨rfl, rfl, rfl, ⟨⟩⟩ fun _ => (sreg (sM rfl (sM rfl (sM rfl ?_)))))))))
   refine svK (xcutLH (lo := off + 1) (hi := off + 1 + xs.length) sl37 sz5 rfl rfl rfl (by omega) (by omega) (by omega) (by omega)) ?_
   rintro _ w ⟨o33, rfl, ho33, rfl⟩
   refine sv (xb2sR (bs := xs) sl37 ki5 st9 rfl (by omega) (cut_rng hm (ms_std hs.tail (by omega)) ho33 (by omega))) (sM rfl (sA rfl (sA rfl (sA rfl (send (fg [(4, _), (5, _), (6, _)] ⟨rfl, rfl, rfl, ⟨⟩⟩ fun _ => (wp_ret ?_)))))))
   refine rp3 rfl rfl rfl rfl ?_
   exact ⟨.inl ⟨by omega, rfl⟩, hf⟩
set_option maxHeartbeats 4000000 in
set_option maxRecDepth 100000 in
theorem c105 {w : World} {a : Option Addr} {bm om km n : Nat} {b : List UInt8} (hms : n ≠ 0 → a = some ⟨bm, om, none⟩) (hm : w.rangeAt bm om (bvs (b.take n))) (hbm : bm < w.heap.size) (hnb : n ≤ b.length) (hkm : n ≤ km) (hbl : b.length < 100000000) (hG : GE w) (hsz : 21 ≤ w.heap.size) {bp q ip : Nat} {lens : List Nat} {segs : List (List Value)} (hP : SB w bp lens segs) (hbp : bp ≠ bm) (hgp : 20 < bp) (hq : (lens.take ip).sum = q) (hip : segs[ip]? = some (nm [])) {K off e : Nat} {S : List UInt8} (hN : NameAt b K off S e) (hS0 : nameL S) (hK : K ≤ 10) (hKn : K = 0 ∨ n = b.length) :
  Ret PP 105 [.pointer (some ⟨bp, 0 + q, none⟩), .slice a n km, .int .i64 (off : Int)] w (fun u w' => ((e ≤ n ∧ u = .tuple #[.int .i64 ((e : Nat) : Int), .nilIface] ∧ SB w' bp lens (segs.set ip (nm S))) ∨ (n < e ∧ (∃ (T : TypeId) (x : Option Addr), u = .tuple #[.int .i64 (off : Int), .iface T (.pointer x)]) ∧ ∃ o, SB w' bp lens (segs.set ip o))) ∧ Fr (fun k => k = bp) w w') := by
 have hn0 : NameR b off K off (txt S) e := hN
 have hNl := hn0.le
 have hS := nameL_ne hS0
 have hSl := (name_pos hS0).2
 have hSt := txt_le S
 have hip1 : ip < segs.length := (List.getElem?_eq_some_iff.1 hip).1
 have hP := nb_start hP hip
 have hf : Fr (fun k => k = bp) w w := Fr.refl _ _
 have z_hP := hP.lt
 refine ret_of Tryz.func105 rfl rfl rfl [(0, _), (1, _), (2, _)] rfl ?_
 refine sreg (sA rfl (sA rfl (send (fg [(0, _), (1, _), (2, _)] ⟨rfl, rfl, rfl, ⟨⟩⟩ fun _ => ?_))))
 refine wp_scope_straight ?_
 refine sreg (sM rfl (sA rfl (send (fg [(0, _), (1, _), (2, _), (8, _)] ⟨rfl, rfl, rfl, rfl, ⟨⟩⟩ fun _ => (sreg (sM rfl (sA rfl (send (fg [(0, _), (1, _), (2, _), (8, _), (9, _)] ⟨rfl, rfl, rfl, rfl, rfl, ⟨⟩⟩ fun _ => (sreg (sA rfl (send (fg [(0, _), (1, _), (2, _), (8, _), (9, _), (10, _)] ⟨rfl, rfl, rfl, rfl, rfl, rfl, ⟨⟩⟩ fun _ => (sreg (sM rfl (sN rfl (sv (xfld fl82_0 rfl) (sv (xcutAH (hi := 0) ar80 sz5 rfl rfl rfl (by omega)) (sA rfl (send (fg [(0, _), (1, _), (2, _), (8, _), (9, _), (10, _), (11, _)] ⟨rfl, rfl, rfl, rfl, rfl, rfl, rfl, ⟨⟩⟩ fun _ => (wp_seq ?_))))))))))))))))))))))
 refine wp_label ?_
 refine nThen (fg [(0, _), (1, _), (2, _), (8, _), (9, _), (10, _), (11, _)] ⟨rfl, rfl, rfl, rfl, rfl, rfl, rfl, ⟨⟩⟩ fun _ => (wp_seq (wp_block ?_)))
 refine lp [(0, _), (1, _), (2, _)] (fun (x : Nat × Nat × Nat × Nat × List UInt8 × List UInt8 × Nat × Nat) => match x with | (i, st, p, kp, o, s, nx, pc) => [(8, .int .i64 (i : Int)), (9, .int .i64 (pc : Int)), (10, .int .i64 (p : Int)), (11, .slice (some ⟨bp, 0 + q + 0, none⟩) o.length 255)]) (fun (x : Nat × Nat × Nat × Nat × List UInt8 × List UInt8 × Nat × Nat) wx => match x with | (i, st, p, kp, o, s, nx, pc) => Fr (fun k => k = bp) w wx ∧ (NameR b st kp i s nx) ∧ (SB wx bp lens (segs.set ip (nb o))) ∧ (o ++ s = txt S) ∧ (p + kp = K) ∧ (p = 0 → nx = e) ∧ (p ≠ 0 → pc = e)) (fun (x : Nat × Nat × Nat × Nat × List UInt8 × List UInt8 × Nat × Nat) => match x with | (i, st, p, kp, o, s, nx, pc) => kp * (b.length + 1) + (b.length - i)) (off, off, 0, K, [], txt S, e, off) ⟨rfl, rfl, rfl, rfl, rfl, rfl, rfl, trivial⟩ ⟨Fr.refl _ _, hn0, hP, rfl, Nat.zero_add _, fun _ => rfl, fun h => absurd rfl h⟩ ?_
 rintro ⟨i, st, p, kp, o, s, nx, pc⟩ _ w2 ⟨hL1, hR, hP, hE, hpK, hnx, hpc⟩
 refine fg [(0, _), (1, _), (2, _), (8, _), (9, _), (10, _), (11, _)] ⟨rfl, rfl, rfl, rfl, rfl, rfl, rfl, ⟨⟩⟩ fun _ => ?_
 have z3 := hL1.size
 have hm := rng_fr hm hL1 (by omega) (by show ¬ (bm = bp); omega)
 have hG := hG.keep (fun k hk => by omega) hL1 (fun k hk hS => by have hk := hk; have hS : k = bp := hS; omega)
 have hf := hf.step hL1 (fun k hk hS => by have hS : k = bp := hS; show k = bp; omega)
 have hRl := hR.le
 obtain ⟨y, hy⟩ := some_get (b := b) (i := i) (by omega)
 have hyl := u8lt y
 refine wp_block (wp_seq (sreg (sM rfl (sM rfl (sv (xlen sl37 rfl) ?_)))))
 refine svP (xgeq rfl rfl) (fun hc26 => ?_) (fun hc26 => ?_)
 ·
  refine send (fg [(0, _), (1, _), (2, _), (8, _), (9, _), (10, _), (11, _), (26, _)] ⟨rfl, rfl, rfl, rfl, rfl, rfl, rfl, rfl, ⟨⟩⟩ fun _ => (cyes rfl ?_))
  refine sdrawH (Fr (fun _ => False) w2.drew) [(0, .rd), (1, .rd), (2, .rd), (3, .rd)] mixed (by kernel_rfl) (fun _ _ _ _ _ h => h) ?_
  have z4 : w2.drew.heap.size = w2.heap.size := rfl
  have hm := rng_fr hm (fd w2) (by omega) id
  have hG := hG.keep (fun k hk => by omega) (fd w2) nF
  have hf := hf.drew
  have hP := hP.drew
  have hL1 := hL1.drew
  have hS5 : Fr (fun _ => False) w2.drew w2.drew := Fr.refl _ _
  refine qqM rfl rfl hS5 ?_
  obtain ⟨Tg28, xg28, eg28, hgc28, hgn28, hge28⟩ := hG.get 7 (by omega) (by omega)
  refine hvH rfl (fun w' hS => xld on89 rfl (cell_keep hgc28 hS (by omega) id)) hS5 (qqA rfl rfl hS5 (qqA rfl rfl hS5 (hendH (fg [(6, _), (7, _)] ⟨rfl, rfl, ⟨⟩⟩ fun _ => (wp_ret (rThen (rBlock (rThen (rBlock (rThen ?_))))))))))
  refine rScope ?_
  refine rp2 rfl rfl rfl ?_
  exact ⟨.inr ⟨by omega, ⟨_, _, rfl⟩, _, hP⟩, hf⟩
 ·
  refine send (fg [(0, _), (1, _), (2, _), (8, _), (9, _), (10, _), (11, _), (26, _)] ⟨rfl, rfl, rfl, rfl, rfl, rfl, rfl, rfl, ⟨⟩⟩ fun _ => (cno rfl (wp_skip (nThen (fg [(0, _), (1, _), (2, _), (8, _), (9, _), (10, _), (11, _)] ⟨rfl, rfl, rfl, rfl, rfl, rfl, rfl, ⟨⟩⟩ fun _ => ?_)))))
  obtain rfl := hms (by omega)
  refine sreg (sM rfl (sM rfl (sv (xidx1 (i := i) sl37 sz5 rfl rfl (by omega) (by omega)) (sv (xld on5 rfl (ms_cell hm hy (by omega))) (sv (xconv hs5 ki3 rfl (w64 (by omega) (by omega))) (sA rfl (send (fg [(0, _), (1, _), (2, _), (8, _), (9, _), (10, _), (11, _), (12, _)] ⟨rfl, rfl, rfl, rfl, rfl, rfl, rfl, rfl, ⟨⟩⟩ fun _ => (sreg (sM rfl (sv (xadd rfl rfl (w64n (i + 1) (by omega) (by omega))) (sA rfl (send (fg [(0, _), (1, _), (2, _), (8, _), (9, _), (10, _), (11, _), (12, _)] ⟨rfl, rfl, rfl, rfl, rfl, rfl, rfl, rfl, ⟨⟩⟩ fun _ => (sreg (sM rfl (sv (xand64N (a := y.toNat) (b := 192) (c := y.toNat / 64 * 64) rfl rfl (by omega) (by omega) (and192 (by omega))) (send (fg [(0, _), (1, _), (2, _), (8, _), (9, _), (10, _), (11, _), (12, _), (37, _)] ⟨rfl, rfl, rfl, rfl, rfl, rfl, rfl, rfl, rfl, ⟨⟩⟩ fun _ => (wp_block (sreg ?_)))))))))))))))))))))
  refine svP (xeql rfl rfl) (fun hc41 => ?_) (fun hc41 => ?_)
  ·
   refine sA rfl (send (fg [(0, _), (1, _), (2, _), (8, _), (9, _), (10, _), (11, _), (12, _), (37, _), (40, _)] ⟨rfl, rfl, rfl, rfl, rfl, rfl, rfl, rfl, rfl, rfl, ⟨⟩⟩ fun _ => (cyes rfl (wp_seq (sreg (sM rfl ?_))))))
   refine svP (xeql rfl rfl) (fun hc43 => ?_) (fun hc43 => ?_)
   ·
    refine send (fg [(0, _), (1, _), (2, _), (8, _), (9, _), (10, _), (11, _), (12, _), (43, _)] ⟨rfl, rfl, rfl, rfl, rfl, rfl, rfl, rfl, rfl, ⟨⟩⟩ fun _ => (cyes rfl (wp_exit (eThen (eMiss (by decide) (eMiss (by decide) (eThen (eHit (nThen (fg [(0, _), (8, _), (9, _), (10, _), (11, _)] ⟨rfl, rfl, rfl, rfl, rfl, ⟨⟩⟩ fun _ => (wp_seq ?_)))))))))))
    obtain ⟨rfl, rfl, hnx0⟩ := hR.at0 hy hc43
    rw [List.append_nil] at hE
    have hoel := congrArg List.length hE
    refine sreg (sM rfl (sv (xlen sl37 rfl) ?_))
    refine svP (xeql rfl rfl) (fun hc117 => ?_) (fun hc117 => ?_)
    ·
     refine send (fg [(0, _), (8, _), (9, _), (10, _), (11, _), (117, _)] ⟨rfl, rfl, rfl, rfl, rfl, rfl, ⟨⟩⟩ fun _ => (cyes rfl (lreg (sM rfl ?_))))
     refine svK (xslit (bvs [46]) sl37 in5 rfl (by decide) rfl rfl rfl rfl (by decide) (by simp [bvs, bv, Value.cells]) (bvs_one _)) ?_
     rintro _ w7 ⟨b119, rfl, m8, h119, e119, s119, r119⟩
     have hm := rng_fr hm m8 (by omega) id
     have hG := hG.keep (fun k hk => by omega) m8 nF
     have hf := hf.step0 m8
     have hP := hP.keep m8 id
     refine svK (xappN sl37 in5 rfl rfl hP hip1 (by omega) (r119.src sl37) rfl (by omega) rfl) ?_
     rintro _ w10 ⟨rfl, m11, hP, sz9⟩
     have hm := rng_fr hm m11 (by omega) (by show ¬ (bm = bp); omega)
     have hG := hG.keep (fun k hk => by omega) m11 (fun k hk hS => by have hk := hk; have hS : k = bp := hS; omega)
     have hf := hf.step m11 (fun k hk hS => by have hS : k = bp := hS; show k = bp; omega)
     refine sA rfl (lend (nThen (fg [(0, _), (8, _), (9, _), (10, _), (11, _)] ⟨rfl, rfl, rfl, rfl, rfl, ⟨⟩⟩ fun _ => ?_)))
     have hol46 : (o ++ [46]).length = o.length + 1 := by rw [List.length_append]; rfl
     refine sreg (sM rfl (sM rfl (sv (xlen sl37 rfl) (sv (xconv hs3 ki5 rfl (wu8 (by omega) (by omega))) (sN rfl (sv (xfld fl82_1 rfl) ?_))))))
     refine suK (xstN (os := o ++ [46]) sz5 hP hip1 (by omega) (by rw [List.length_append]; simp only [List.length_cons, List.length_nil]; omega) rfl rfl) ?_
     rintro w13 ⟨m14, hP, sz12⟩
     have hm := rng_fr hm m14 (by omega) (by show ¬ (bm = bp); omega)
     have hG := hG.keep (fun k hk => by omega) m14 (fun k hk hS => by have hk := hk; have hS : k = bp := hS; omega)
     have hf := hf.step m14 (fun k hk hS => by have hS : k = bp := hS; show k = bp; omega)
     refine send (fg [(8, _), (9, _), (10, _)] ⟨rfl, rfl, rfl, ⟨⟩⟩ fun _ => (wp_seq (sreg (sM rfl ?_))))
     refine svP (xeql rfl rfl) (fun hc128 => ?_) (fun hc128 => ?_)
     ·
      refine send (fg [(8, _), (9, _), (128, _)] ⟨rfl, rfl, rfl, ⟨⟩⟩ fun _ => (cyes rfl (lreg (sM rfl (sA rfl (lend (nThen (fg [(9, _)] ⟨rfl, ⟨⟩⟩ fun _ => (sreg (sM rfl (sA rfl (sA rfl (send (fg [(6, _), (7, _)] ⟨rfl, rfl, ⟨⟩⟩ fun _ => (wp_ret ?_)))))))))))))))
      refine rScope ?_
      refine rp2 rfl rfl rfl ?_
      have hSe : o ++ [46] = S := by rw [txt_nil hS (by rw [← hE]; exact List.eq_nil_of_length_eq_zero (by omega)), List.eq_nil_of_length_eq_zero (show o.length = 0 by omega)]; rfl
      rw [hSe] at hP
      exact ⟨.inl ⟨by omega, by rw [show e = i + 1 from by omega], hP⟩, hf⟩
     ·
      refine send (fg [(8, _), (9, _), (128, _)] ⟨rfl, rfl, rfl, ⟨⟩⟩ fun _ => (cno rfl (wp_skip (nThen (fg [(9, _)] ⟨rfl, ⟨⟩⟩ fun _ => (sreg (sM rfl (sA rfl (sA rfl (send (fg [(6, _), (7, _)] ⟨rfl, rfl, ⟨⟩⟩ fun _ => (wp_ret ?_))))))))))))
      refine rScope ?_
      refine rp2 rfl rfl rfl ?_
      have hSe : o ++ [46] = S := by rw [txt_nil hS (by rw [← hE]; exact List.eq_nil_of_length_eq_zero (by omega)), List.eq_nil_of_length_eq_zero (show o.length = 0 by omega)]; rfl
      rw [hSe] at hP
      exact ⟨.inl ⟨by omega, by rw [show e = pc from by omega], hP⟩, hf⟩
    ·
     refine send (fg [(0, _), (8, _), (9, _), (10, _), (11, _), (117, _)] ⟨rfl, rfl, rfl, rfl, rfl, rfl, ⟨⟩⟩ fun _ => (cno rfl (wp_skip (nThen (fg [(0, _), (8, _), (9, _), (10, _), (11, _)] ⟨rfl, rfl, rfl, rfl, rfl, ⟨⟩⟩ fun _ => ?_)))))
     have hol46 : (o ++ [46]).length = o.length + 1 := by rw [List.length_append]; rfl
     refine sreg (sM rfl (sM rfl (sv (xlen sl37 rfl) (sv (xconv hs3 ki5 rfl (wu8 (by omega) (by omega))) (sN rfl (sv (xfld fl82_1 rfl) ?_))))))
     refine suK (xstN (os := o) sz5 hP hip1 (by omega) (by omega) rfl rfl) ?_
     rintro w16 ⟨m17, hP, sz15⟩
     have hm := rng_fr hm m17 (by omega) (by show ¬ (bm = bp); omega)
     have hG := hG.keep (fun k hk => by omega) m17 (fun k hk hS => by have hk := hk; have hS : k = bp := hS; omega)
     have hf := hf.step m17 (fun k hk hS => by have hS : k = bp := hS; show k = bp; omega)
     refine send (fg [(8, _), (9, _), (10, _)] ⟨rfl, rfl, rfl, ⟨⟩⟩ fun _ => (wp_seq (sreg (sM rfl ?_))))
     refine svP (xeql rfl rfl) (fun hc128 => ?_) (fun hc128 => ?_)
     ·
      refine send (fg [(8, _), (9, _), (128, _)] ⟨rfl, rfl, rfl, ⟨⟩⟩ fun _ => (cyes rfl (lreg (sM rfl (sA rfl (lend (nThen (fg [(9, _)] ⟨rfl, ⟨⟩⟩ fun _ => (sreg (sM rfl (sA rfl (sA rfl (send (fg [(6, _), (7, _)] ⟨rfl, rfl, ⟨⟩⟩ fun _ => (wp_ret ?_)))))))))))))))
      refine rScope ?_
      refine rp2 rfl rfl rfl ?_
      have hSe : o = S := by rw [hE, txt_ne (fun h0 => hc117 (by rw [hE, h0]; rfl))]
      rw [hSe] at hP
      exact ⟨.inl ⟨by omega, by rw [show e = i + 1 from by omega], hP⟩, hf⟩
     ·
      refine send (fg [(8, _), (9, _), (128, _)] ⟨rfl, rfl, rfl, ⟨⟩⟩ fun _ => (cno rfl (wp_skip (nThen (fg [(9, _)] ⟨rfl, ⟨⟩⟩ fun _ => (sreg (sM rfl (sA rfl (sA rfl (send (fg [(6, _), (7, _)] ⟨rfl, rfl, ⟨⟩⟩ fun _ => (wp_ret ?_))))))))))))
      refine rScope ?_
      refine rp2 rfl rfl rfl ?_
      have hSe : o = S := by rw [hE, txt_ne (fun h0 => hc117 (by rw [hE, h0]; rfl))]
      rw [hSe] at hP
      exact ⟨.inl ⟨by omega, by rw [show e = pc from by omega], hP⟩, hf⟩
   ·
    refine send (fg [(0, _), (1, _), (2, _), (8, _), (9, _), (10, _), (11, _), (12, _), (43, _)] ⟨rfl, rfl, rfl, rfl, rfl, rfl, rfl, rfl, rfl, ⟨⟩⟩ fun _ => (cno rfl (wp_skip (nThen (fg [(0, _), (1, _), (2, _), (8, _), (9, _), (10, _), (11, _), (12, _)] ⟨rfl, rfl, rfl, rfl, rfl, rfl, rfl, rfl, ⟨⟩⟩ fun _ => ?_)))))
    obtain ⟨lab, s1, rfl, hll, hl0, hld, hls, hR1⟩ := hR.atLab hy hc43 (by omega)
    have hR1l := hR1.le
    have hol := congrArg List.length hE
    simp only [List.length_append, List.length_cons] at hol
    have hoa : (o ++ lab).length = o.length + lab.length := List.length_append
    refine sreg (sM rfl (sM rfl (sv (xadd rfl rfl (w64n (i + 1 + lab.length) (by omega) (by omega))) (sA rfl (send (fg [(0, _), (1, _), (2, _), (8, _), (9, _), (10, _), (11, _), (13, _)] ⟨rfl, rfl, rfl, rfl, rfl, rfl, rfl, rfl, ⟨⟩⟩ fun _ => (wp_seq (sreg (sM rfl (sM rfl (sv (xlen sl37 rfl) ?_)))))))))))
    refine svP (xgtr rfl rfl) (fun hc50 => ?_) (fun hc50 => ?_)
    ·
     refine send (fg [(0, _), (1, _), (2, _), (8, _), (9, _), (10, _), (11, _), (13, _), (50, _)] ⟨rfl, rfl, rfl, rfl, rfl, rfl, rfl, rfl, rfl, ⟨⟩⟩ fun _ => (cyes rfl ?_))
     refine sdrawH (Fr (fun _ => False) w2.drew) [(0, .rd), (1, .rd), (2, .rd), (3, .rd)] mixed (by kernel_rfl) (fun _ _ _ _ _ h => h) ?_
     have z18 : w2.drew.heap.size = w2.heap.size := rfl
     have hm := rng_fr hm (fd w2) (by omega) id
     have hG := hG.keep (fun k hk => by omega) (fd w2) nF
     have hf := hf.drew
     have hP := hP.drew
     have hL1 := hL1.drew
     have hS19 : Fr (fun _ => False) w2.drew w2.drew := Fr.refl _ _
     refine qqM rfl rfl hS19 ?_
     obtain ⟨Tg52, xg52, eg52, hgc52, hgn52, hge52⟩ := hG.get 8 (by omega) (by omega)
     refine hvH rfl (fun w' hS => xld on89 rfl (cell_keep hgc52 hS (by omega) id)) hS19 (qqA rfl rfl hS19 (qqA rfl rfl hS19 (hendH (fg [(6, _), (7, _)] ⟨rfl, rfl, ⟨⟩⟩ fun _ => (wp_ret (rThen (rBlock (rBlock (rThen (rBlock (rThen ?_)))))))))))
     refine rScope ?_
     refine rp2 rfl rfl rfl ?_
     exact ⟨.inr ⟨by omega, ⟨_, _, rfl⟩, _, hP⟩, hf⟩
    ·
     refine send (fg [(0, _), (1, _), (2, _), (8, _), (9, _), (10, _), (11, _), (13, _), (50, _)] ⟨rfl, rfl, rfl, rfl, rfl, rfl, rfl, rfl, rfl, ⟨⟩⟩ fun _ => (cno rfl (wp_skip (nThen (fg [(0, _), (1, _), (2, _), (8, _), (9, _), (10, _), (11, _), (13, _)] ⟨rfl, rfl, rfl, rfl, rfl, rfl, rfl, rfl, ⟨⟩⟩ fun _ => (wp_seq (sreg (sM rfl (sM rfl (sM rfl ?_))))))))))
     refine svK (xcutLH (lo := i + 1) (hi := i + 1 + lab.length) sl37 sz5 rfl rfl rfl (by omega) (by omega) (by omega) (by omega)) ?_
     rintro _ w2 ⟨o56, rfl, ho56, rfl⟩
     refine sv (xlen sl37 rfl) (sM rfl ?_)
     have hlr := cut_rng hm (ms_std hls (by omega)) ho56 (by omega)
     refine send (fg [(0, _), (1, _), (2, _), (8, _), (9, _), (10, _), (11, _), (13, _), (56, _), (57, _), (58, _)] ⟨rfl, rfl, rfl, rfl, rfl, rfl, rfl, rfl, rfl, rfl, rfl, ⟨⟩⟩ fun _ => (wp_block ?_))
     refine lp [(0, _), (1, _), (2, _), (8, _), (9, _), (10, _), (11, _), (13, _), (56, _), (57, _)] (fun (k : Nat) => [(58, .int .i64 (k : Int))]) (fun (k : Nat) wx => Fr (fun _ => False) w2 wx ∧ (k ≤ lab.length)) (fun (k : Nat) => lab.length - k) 0 ⟨rfl, rfl, rfl, rfl, rfl, rfl, rfl, rfl, rfl, rfl, rfl, trivial⟩ ⟨Fr.refl _ _, Nat.zero_le _⟩ ?_
     rintro k _ w22 ⟨hL21, hk⟩
     refine fg [(0, _), (1, _), (2, _), (8, _), (9, _), (10, _), (11, _), (13, _), (56, _), (57, _), (58, _)] ⟨rfl, rfl, rfl, rfl, rfl, rfl, rfl, rfl, rfl, rfl, rfl, ⟨⟩⟩ fun _ => ?_
     have z23 := hL21.size
     have hm := rng_fr hm hL21 (by omega) id
     have hP := hP.keep hL21 id
     have hL1 := hL1.step0 hL21
     have hlr := rng_fr hlr hL21 (by omega) id
     refine sreg ?_
     refine svP (xlss rfl rfl) (fun hc59 => ?_) (fun hc59 => ?_)
     ·
      refine send (fg [(0, _), (1, _), (2, _), (8, _), (9, _), (10, _), (11, _), (13, _), (56, _), (57, _), (58, _), (59, _)] ⟨rfl, rfl, rfl, rfl, rfl, rfl, rfl, rfl, rfl, rfl, rfl, rfl, ⟨⟩⟩ fun _ => (wp_seq (cyes rfl (wp_skip (nThen (fg [(0, _), (1, _), (2, _), (8, _), (9, _), (10, _), (11, _), (13, _), (56, _), (57, _), (58, _)] ⟨rfl, rfl, rfl, rfl, rfl, rfl, rfl, rfl, rfl, rfl, rfl, ⟨⟩⟩ fun _ => (wp_seq (wp_block (sreg (sv (xidx1 (i := k) sl37 sz5 rfl rfl rfl (by omega)) (sv (xld on5 rfl (hlr k _ (bvs_get (by omega)))) (sA rfl (send (fg [(0, _), (1, _), (2, _), (8, _), (9, _), (10, _), (11, _), (13, _), (15, _), (56, _), (57, _), (58, _)] ⟨rfl, rfl, rfl, rfl, rfl, rfl, rfl, rfl, rfl, rfl, rfl, rfl, ⟨⟩⟩ fun _ => (sreg (sM rfl (sv (exF (xeql rfl rfl) (u8_ne46 (hld _ (List.getElem_mem (by omega))))) (send (fg [(0, _), (1, _), (2, _), (8, _), (9, _), (10, _), (11, _), (13, _), (56, _), (57, _), (58, _), (63, _)] ⟨rfl, rfl, rfl, rfl, rfl, rfl, rfl, rfl, rfl, rfl, rfl, rfl, ⟨⟩⟩ fun _ => (cno rfl (wp_skip (nBlock (nThen (fg [(0, _), (1, _), (2, _), (8, _), (9, _), (10, _), (11, _), (13, _), (56, _), (57, _), (58, _)] ⟨rfl, rfl, rfl, rfl, rfl, rfl, rfl, rfl, rfl, rfl, rfl, ⟨⟩⟩ fun _ => ?_))))))))))))))))))))))))
      refine lreg (sv (xadd rfl rfl (w64 (by omega) (by omega))) (sM rfl (lend (nThen ?_))))
      refine ⟨k + 1, _, env_okl ⟨rfl, rfl, rfl, rfl, rfl, rfl, rfl, rfl, rfl, rfl, rfl, trivial⟩, ⟨hL21, (by omega)⟩, ?_⟩
      show lab.length - (k + 1) < lab.length - k; omega
     ·
      refine send (fg [(0, _), (1, _), (2, _), (8, _), (9, _), (10, _), (11, _), (13, _), (56, _), (57, _), (58, _), (59, _)] ⟨rfl, rfl, rfl, rfl, rfl, rfl, rfl, rfl, rfl, rfl, rfl, rfl, ⟨⟩⟩ fun _ => (wp_seq (cno rfl (wp_exit (eThen (eThen (eHit (nThen (fg [(0, _), (1, _), (2, _), (8, _), (9, _), (10, _), (11, _), (13, _)] ⟨rfl, rfl, rfl, rfl, rfl, rfl, rfl, rfl, ⟨⟩⟩ fun _ => (wp_seq (sreg (sM rfl (sv (xlen sl37 rfl) (sM rfl (sM rfl (sv (xsub rfl rfl (w64n (lab.length) (by omega) (by omega))) (sv (xadd rfl rfl (w64n (o.length + lab.length) (by omega) (by omega))) (sv (exF (xgeq rfl rfl) (by omega)) (send (fg [(0, _), (1, _), (2, _), (8, _), (9, _), (10, _), (11, _), (13, _), (73, _)] ⟨rfl, rfl, rfl, rfl, rfl, rfl, rfl, rfl, rfl, ⟨⟩⟩ fun _ => (cno rfl (wp_skip (nThen (fg [(0, _), (1, _), (2, _), (8, _), (9, _), (10, _), (11, _), (13, _)] ⟨rfl, rfl, rfl, rfl, rfl, rfl, rfl, rfl, ⟨⟩⟩ fun _ => ?_))))))))))))))))))))))))
      refine sreg (sM rfl (sM rfl (sM rfl (sM rfl ?_))))
      refine svK (xcutLH (lo := i + 1) (hi := i + 1 + lab.length) sl37 sz5 rfl rfl rfl (by omega) (by omega) (by omega) (by omega)) ?_
      rintro _ w22 ⟨o80, rfl, ho80, rfl⟩
      refine svK (xappN sl37 in5 rfl rfl hP hip1 (by omega) (src_cut (cut_rng hm (ms_std hls (by omega)) ho80 (by omega)) (by omega)) (by omega) (by omega) rfl) ?_
      rintro _ w26 ⟨rfl, m27, hP, sz25⟩
      have hm := rng_fr hm m27 (by omega) (by show ¬ (bm = bp); omega)
      have hL1 := hL1.step m27 (fun k hk hS => by have hS : k = bp := hS; show k = bp; omega)
      refine sA rfl (send (fg [(0, _), (1, _), (2, _), (9, _), (10, _), (11, _), (13, _)] ⟨rfl, rfl, rfl, rfl, rfl, rfl, rfl, ⟨⟩⟩ fun _ => (sreg (sM rfl ?_))))
      refine svK (xslit (bvs [46]) sl37 in5 rfl (by decide) rfl rfl rfl rfl (by decide) (by simp [bvs, bv, Value.cells]) (bvs_one _)) ?_
      rintro _ w29 ⟨b83, rfl, m30, h83, e83, s83, r83⟩
      have hm := rng_fr hm m30 (by omega) id
      have hP := hP.keep m30 id
      have hL1 := hL1.step0 m30
      refine svK (xappN sl37 in5 rfl rfl hP hip1 (by omega) (r83.src sl37) rfl (by omega) rfl) ?_
      rintro _ w32 ⟨rfl, m33, hP, sz31⟩
      have hm := rng_fr hm m33 (by omega) (by show ¬ (bm = bp); omega)
      have hL1 := hL1.step m33 (fun k hk hS => by have hS : k = bp := hS; show k = bp; omega)
      refine sA rfl (send (fg [(0, _), (1, _), (2, _), (9, _), (10, _), (11, _), (13, _)] ⟨rfl, rfl, rfl, rfl, rfl, rfl, rfl, ⟨⟩⟩ fun _ => (lreg (sM rfl (sA rfl (lend (nBlock (nBlock (nThen ?_)))))))))
      refine ⟨(i + 1 + lab.length, st, p, kp, o ++ lab ++ [46], s1, nx, pc), _, env_okl ⟨rfl, rfl, rfl, rfl, rfl, rfl, rfl, trivial⟩, ⟨hL1, (hR1), (hP), (by simpa using hE), (hpK), (hnx), (hpc)⟩, ?_⟩
      first | (show kp * (b.length + 1) + (b.length - (i + 1 + lab.length)) < kp * (b.length + 1) + (b.length - i); omega) | (show k1 * (b.length + 1) + (b.length - to) < (k1 + 1) * (b.length + 1) + (b.length - i); rw [Nat.succ_mul]; omega)
  ·
   refine sA rfl (send (fg [(0, _), (1, _), (2, _), (8, _), (9, _), (10, _), (11, _), (12, _), (37, _), (40, _)] ⟨rfl, rfl, rfl, rfl, rfl, rfl, rfl, rfl, rfl, rfl, ⟨⟩⟩ fun _ => (cno rfl (sreg (sv (exT (xeql rfl rfl) (by have hq1 := hR.ptrLe hy (by omega); omega)) (sA rfl (send (fg [(0, _), (1, _), (2, _), (8, _), (9, _), (10, _), (11, _), (12, _), (86, _)] ⟨rfl, rfl, rfl, rfl, rfl, rfl, rfl, rfl, rfl, ⟨⟩⟩ fun _ => (cyes rfl (wp_seq ?_))))))))))
   obtain ⟨to, k1, nx1, rfl, hto, hto2, hnt, hb1, hnx1, hR1⟩ := hR.atPtr hy (by omega)
   have hi1 := (List.getElem?_eq_some_iff.1 hb1).1
   have hlo : (UInt8.ofNat to).toNat = to % 256 := by simp only [UInt8.toNat_ofNat']
   refine sreg (sM rfl (sM rfl (sv (xlen sl37 rfl) (sv (exF (xgeq rfl rfl) (by omega)) (send (fg [(0, _), (1, _), (2, _), (8, _), (9, _), (10, _), (11, _), (12, _), (91, _)] ⟨rfl, rfl, rfl, rfl, rfl, rfl, rfl, rfl, rfl, ⟨⟩⟩ fun _ => (cno rfl (wp_skip (nThen (fg [(0, _), (1, _), (2, _), (8, _), (9, _), (10, _), (11, _), (12, _)] ⟨rfl, rfl, rfl, rfl, rfl, rfl, rfl, rfl, ⟨⟩⟩ fun _ => (sreg (sM rfl (sM rfl (sv (xidx1 (i := i + 1) sl37 sz5 rfl rfl (by omega) (by omega)) (sv (xld on5 rfl (ms_cell hm hb1 (by omega))) (sA rfl (send (fg [(0, _), (1, _), (2, _), (8, _), (9, _), (10, _), (11, _), (12, _), (16, _)] ⟨rfl, rfl, rfl, rfl, rfl, rfl, rfl, rfl, rfl, ⟨⟩⟩ fun _ => (sreg (sM rfl (sv (xadd rfl rfl (w64n (i + 2) (by omega) (by omega))) (sA rfl (send (fg [(0, _), (1, _), (2, _), (8, _), (9, _), (10, _), (11, _), (12, _), (16, _)] ⟨rfl, rfl, rfl, rfl, rfl, rfl, rfl, rfl, rfl, ⟨⟩⟩ fun _ => ?_))))))))))))))))))))))))
   refine wp_seq (sreg (sM rfl ?_))
   refine svP (xeql rfl rfl) (fun hc101 => ?_) (fun hc101 => ?_)
   ·
    refine send (fg [(0, _), (1, _), (2, _), (8, _), (9, _), (10, _), (11, _), (12, _), (16, _), (101, _)] ⟨rfl, rfl, rfl, rfl, rfl, rfl, rfl, rfl, rfl, rfl, ⟨⟩⟩ fun _ => (cyes rfl (lreg (sM rfl (sA rfl (lend (nThen (fg [(0, _), (1, _), (2, _), (9, _), (10, _), (11, _), (12, _), (16, _)] ⟨rfl, rfl, rfl, rfl, rfl, rfl, rfl, rfl, ⟨⟩⟩ fun _ => (wp_seq (sreg (sM rfl (sv (xadd rfl rfl (w64n (p + 1) (by omega) (by omega))) (sA rfl (send (fg [(0, _), (1, _), (2, _), (9, _), (10, _), (11, _), (12, _), (16, _)] ⟨rfl, rfl, rfl, rfl, rfl, rfl, rfl, rfl, ⟨⟩⟩ fun _ => (sreg (sM rfl (sv (exF (xgtr rfl rfl) (by omega)) (send (fg [(0, _), (1, _), (2, _), (9, _), (10, _), (11, _), (12, _), (16, _), (106, _)] ⟨rfl, rfl, rfl, rfl, rfl, rfl, rfl, rfl, rfl, ⟨⟩⟩ fun _ => (cno rfl (wp_skip (nThen (fg [(0, _), (1, _), (2, _), (9, _), (10, _), (11, _), (12, _), (16, _)] ⟨rfl, rfl, rfl, rfl, rfl, rfl, rfl, rfl, ⟨⟩⟩ fun _ => ?_))))))))))))))))))))))))
    refine lreg (sM rfl (sv (xxor64N (a := y.toNat) (b := 192) (c := to / 256) rfl rfl (by omega) (by omega) (xor192 (by omega) hnt)) (sv (xshl (b := 8) (by decide) rfl rfl (w64n (to / 256 * 256) (by omega) (by omega))) (sM rfl (sv (xconv hs5 ki3 rfl (w64 (by omega) (by omega))) (sv (xor64S (a := to / 256 * 256) (b := (UInt8.ofNat to).toNat) (c := to) 8 rfl rfl (by omega) (by omega) (by omega) (by omega)) (sA rfl (lend (nBlock (nBlock (nThen ?_)))))))))))
    refine ⟨(to, to, p + 1, k1, o, s, nx1, i + 2), _, env_okl ⟨rfl, rfl, rfl, rfl, rfl, rfl, rfl, trivial⟩, ⟨hL1, (hR1), (hP), (hE), (by omega), (fun h => absurd h (by omega)), (fun _ => by omega)⟩, ?_⟩
    first | (show kp * (b.length + 1) + (b.length - (i + 1 + lab.length)) < kp * (b.length + 1) + (b.length - i); omega) | (show k1 * (b.length + 1) + (b.length - to) < (k1 + 1) * (b.length + 1) + (b.length - i); rw [Nat.succ_mul]; omega)
   ·
    refine send (fg [(0, _), (1, _), (2, _), (8, _), (9, _), (10, _), (11, _), (12, _), (16, _), (101, _)] ⟨rfl, rfl, rfl, rfl, rfl, rfl, rfl, rfl, rfl, rfl, ⟨⟩⟩ fun _ => (cno rfl (wp_skip (nThen (fg [(0, _), (1, _), (2, _), (9, _), (10, _), (11, _), (12, _), (16, _)] ⟨rfl, rfl, rfl, rfl, rfl, rfl, rfl, rfl, ⟨⟩⟩ fun _ => (wp_seq (sreg (sM rfl (sv (xadd rfl rfl (w64n (p + 1) (by omega) (by omega))) (sA rfl (send (fg [(0, _), (1, _), (2, _), (9, _), (10, _), (11, _), (12, _), (16, _)] ⟨rfl, rfl, rfl, rfl, rfl, rfl, rfl, rfl, ⟨⟩⟩ fun _ => (sreg (sM rfl (sv (exF (xgtr rfl rfl) (by omega)) (send (fg [(0, _), (1, _), (2, _), (9, _), (10, _), (11, _), (12, _), (16, _), (106, _)] ⟨rfl, rfl, rfl, rfl, rfl, rfl, rfl, rfl, rfl, ⟨⟩⟩ fun _ => (cno rfl (wp_skip (nThen (fg [(0, _), (1, _), (2, _), (9, _), (10, _), (11, _), (12, _), (16, _)] ⟨rfl, rfl, rfl, rfl, rfl, rfl, rfl, rfl, ⟨⟩⟩ fun _ => (lreg (sM rfl (sv (xxor64N (a := y.toNat) (b := 192) (c := to / 256) rfl rfl (by omega) (by omega) (xor192 (by omega) hnt)) ?_))))))))))))))))))))))))
    refine sv (xshl (b := 8) (by decide) rfl rfl (w64n (to / 256 * 256) (by omega) (by omega))) (sM rfl (sv (xconv hs5 ki3 rfl (w64 (by omega) (by omega))) (sv (xor64S (a := to / 256 * 256) (b := (UInt8.ofNat to).toNat) (c := to) 8 rfl rfl (by omega) (by omega) (by omega) (by omega)) (sA rfl (lend (nBlock (nBlock (nThen ?_))))))))
    refine ⟨(to, to, p + 1, k1, o, s, nx1, pc), _, env_okl ⟨rfl, rfl, rfl, rfl, rfl, rfl, rfl, trivial⟩, ⟨hL1, (hR1), (hP), (hE), (by omega), (fun h => absurd h (by omega)), (fun _ => by omega)⟩, ?_⟩
    first | (show kp * (b.length + 1) + (b.length - (i + 1 + lab.length)) < kp * (b.length + 1) + (b.length - i); omega) | (show k1 * (b.length + 1) + (b.length - to) < (k1 + 1) * (b.length + 1) + (b.length - i); rw [Nat.succ_mul]; omega)
end Go.Proofs.YtifnodoffgfpbaaGreatDoor
