/- Walks: how records are converted for the reference. Conditions: none. -/
import Derived.Test.YtifnodoffgfpbaaGreatDoorW9
namespace Go.Proofs.YtifnodoffgfpbaaGreatDoor
open Go
set_option maxHeartbeats 4000000 in
set_option maxRecDepth 100000 in
theorem c19 {w : World} {U V : Nat → Prop} {a b : Value} {cs bs : List UInt8} (ha : BA U w a cs) (hb : BA V w b bs) :
    Ret PP 19 [a, b] w (fun u w' => u = .bool (decide (cs = bs)) ∧ Fr0 w w') := by
  have hf : Fr (fun _ => False) w w := Fr.refl _ _
  refine ret_of Tryz.func19 rfl rfl rfl [(0, _), (1, _)] rfl ?_
  refine sreg ?_
  refine sv (xassign rfl) ?_
  refine send ?_
  refine forget_wp [(0, _), (1, _)] ⟨rfl, rfl, trivial⟩ fun _ => ?_
  refine sreg ?_
  refine sv (xmove rfl) ?_
  refine sv (xb2sB sl37 ki5 st9 ha rfl) ?_
  refine sv (xmove rfl) ?_
  refine sv (xb2sB sl37 ki5 st9 hb rfl) ?_
  refine svP (xeqs rfl rfl) (fun hc9 => ?_) (fun hc9 => ?_)
  · skip
    refine sv (xassign rfl) ?_
    refine send ?_
    refine forget_wp [(4, _)] ⟨rfl, trivial⟩ fun _ => ?_
    refine wp_ret ?_
    refine rp1 rfl rfl ?_
    exact ⟨by rw [decide_eq_true (ba_str_eq.1 hc9)], hf⟩
  · skip
    refine sv (xassign rfl) ?_
    refine send ?_
    refine forget_wp [(4, _)] ⟨rfl, trivial⟩ fun _ => ?_
    refine wp_ret ?_
    refine rp1 rfl rfl ?_
    exact ⟨by rw [decide_eq_false (fun h => hc9 (ba_str_eq.2 h))], hf⟩
set_option maxHeartbeats 4000000 in
set_option maxRecDepth 100000 in
theorem c29 {w : World} {U : Nat → Prop} (hU : ∀ k, U k → k < w.heap.size) {v : Value} {l : List RecD} (hl : LA RecEl lRec U w v l) (hn : l.length ≤ 1048576) (hpn : ∀ r ∈ l, r.fits) :
    Ret PP 29 [v] w (fun u w' => LA RecEl lRec (Ub U w w') w' u l ∧ Fr0 w w') := by
  obtain ⟨a0, c0, rfl⟩ := hl.form
  have hf : Fr (fun _ => False) w w := Fr.refl _ _
  refine ret_of Tryz.func29 rfl rfl rfl [(0, _)] rfl ?_
  refine sreg ?_
  refine sv (xassign rfl) ?_
  refine send ?_
  refine forget_wp [(0, _)] ⟨rfl, trivial⟩ fun _ => ?_
  refine sreg ?_
  refine svK (xslit ([]) sl32 in65 rfl (by decide) rfl rfl rfl rfl (by decide) rfl rfl) ?_
  rintro _ w2 ⟨b9, rfl, m3, h9, e9, s9, r9⟩
  have hl := hl.keep rec_st (fun k hk => by have hk := hU k hk; omega) m3 (fun _ _ h => h)
  have hf := hf.step0 m3
  have hv3 : RX RecEl lRec U w.heap.size w2.heap.size w2 _ b9 65 0 [] := RX.ofNil r9
  refine sv (xassign rfl) ?_
  refine send ?_
  refine forget_wp [(0, _), (3, _)] ⟨rfl, rfl, trivial⟩ fun _ => ?_
  refine wp_seq ?_
  refine sreg ?_
  refine sv (xmove rfl) ?_
  refine sv (xlen sl26 rfl) ?_
  refine sv (xmove rfl) ?_
  refine send ?_
  refine forget_wp [(3, _), (10, _), (11, _), (12, _)] ⟨rfl, rfl, rfl, rfl, trivial⟩ fun _ => ?_
  refine wp_block ?_
  refine lp [(10, _), (11, _)] (fun (x : Nat × Value × Nat) => match x with | (k, v, g) => [(3, v), (12, .int .i64 (k : Int))]) (fun (x : Nat × Value × Nat) wx => match x with | (k, v, g) => Fr (fun k => k = b9) w2 wx ∧ (k ≤ l.length) ∧ (RX RecEl lRec U w.heap.size wx.heap.size wx v g 65 k (l.take k)) ∧ (w.heap.size ≤ g) ∧ (g < wx.heap.size) ∧ (g = b9 ∨ w2.heap.size ≤ g)) (fun (x : Nat × Value × Nat) => match x with | (k, v, g) => l.length - k) (0, _, b9) ⟨rfl, rfl, rfl, rfl, trivial⟩ ⟨Fr.refl _ _, Nat.zero_le _, hv3, by omega, by omega, .inl rfl⟩ ?_
  rintro ⟨k, v, g⟩ _ w5 ⟨hL4, hk, hv3, hg, hg2, hg3⟩
  refine forget_wp [(3, _), (10, _), (11, _), (12, _)] ⟨rfl, rfl, rfl, rfl, trivial⟩ fun _ => ?_
  have z6 := hL4.size
  have hl := hl.keep rec_st (fun k hk => by have hk := hU k hk; omega) hL4 (fun k hk hS => by have hk := hU k hk; have hS : k = b9 := hS; omega)
  have hf := hf.step hL4 (fun k hk hS => by have hS : k = b9 := hS; show False; omega)
  obtain ⟨a3, c3, rfl⟩ := RA.form hv3
  refine sreg ?_
  refine svP (xlss rfl rfl) (fun hc13 => ?_) (fun hc13 => ?_)
  · skip
    refine send ?_
    refine forget_wp [(3, _), (10, _), (11, _), (12, _), (13, _)] ⟨rfl, rfl, rfl, rfl, rfl, trivial⟩ fun _ => ?_
    refine wp_seq ?_
    refine cyes rfl ?_
    refine wp_skip ?_
    refine nThen ?_
    refine forget_wp [(3, _), (10, _), (11, _), (12, _)] ⟨rfl, rfl, rfl, rfl, trivial⟩ fun _ => ?_
    refine wp_seq ?_
    refine wp_block ?_
    obtain ⟨r, hrk⟩ := some_of_lt (by omega : k < l.length)
    have hrf := hpn r (List.mem_of_getElem? hrk)
    simp only [RecD.fits] at hrf
    refine sreg ?_
    obtain ⟨bE14, oE14, sgE14, rfl, uE14, hsE14, heE14⟩ := LA.get hl hrk
    obtain ⟨vd, vt, vp, rfl, hd, ht, hp⟩ := heE14
    have zE14 := hU _ uE14
    obtain ⟨ad, cd, rfl, -⟩ := id hd
    obtain ⟨at1, ct1, rfl⟩ := ht.form
    obtain ⟨ap1, cp1, rfl⟩ := hp.form
    refine sv (xidx sl26 sz112 rfl rfl rfl (by omega)) ?_
    refine sv (xldS (lens := [1, 1, 1, 1, 1, 1, 1, 1, 1, 1, 1, 1, 1, 1, 1, 1]) ro112 rfl hsE14) ?_
    refine svK (xallS (lens := [1, 1, 1, 1, 1, 1, 1, 1, 1, 1, 1, 1, 1, 1, 1, 1]) in112 rfl) ?_
    rintro _ w8 ⟨b5, rfl, m9, h5, e7, s7⟩
    have hl := hl.keep rec_st (fun k hk => by have hk := hU k hk; omega) m9 (fun _ _ h => h)
    have hf := hf.step0 m9
    have hv3 := RX.keep hv3 rec_st (fun k hk => by have hk := hU k hk; omega) (by omega) m9 (fun _ _ _ h => h) (fun h => h)
    have hL4 := hL4.step0 m9
    have hsE14 := hsE14.keep m9 (by omega) (fun h => h)
    have hd := hd.keep (fun k hk => by have hk := hU k hk; omega) m9 (fun _ _ h => h)
    have ht := ht.keep text_st (fun k hk => by have hk := hU k hk; omega) m9 (fun _ _ h => h)
    have hp := hp.keep pair_st (fun k hk => by have hk := hU k hk; omega) m9 (fun _ _ h => h)
    refine suK (xstW h5 (lens' := [1, 1, 1, 1, 1, 1, 1, 1, 1, 1, 1, 1, 1, 1, 1, 1]) sz112 rfl rfl rfl rfl rfl) ?_
    rintro w11 ⟨m12, h5, s10⟩
    have hl := hl.keep rec_st (fun k hk => by have hk := hU k hk; omega) m12 (fun k hk hS => by have hk := hU k hk; have hS : k = b5 := hS; omega)
    have hf := hf.step m12 (fun k hk hS => by have hS : k = b5 := hS; show False; omega)
    have hv3 := RX.keep hv3 rec_st (fun k hk => by have hk := hU k hk; omega) (by omega) m12 (fun k hk hk3 hS => by have hS : k = b5 := hS; rcases hk with hk | hk <;> first | omega | (have := hU k hk; omega)) (by show ¬ (g = b5); omega)
    have hL4 := hL4.step m12 (fun k hk hS => by have hS : k = b5 := hS; show k = b9; omega)
    have hsE14 := hsE14.keep m12 (by omega) (by show ¬ (bE14 = b5); omega)
    have hd := hd.keep (fun k hk => by have hk := hU k hk; omega) m12 (fun k hk hS => by have hk := hU k hk; have hS : k = b5 := hS; omega)
    have ht := ht.keep text_st (fun k hk => by have hk := hU k hk; omega) m12 (fun k hk hS => by have hk := hU k hk; have hS : k = b5 := hS; omega)
    have hp := hp.keep pair_st (fun k hk => by have hk := hU k hk; omega) m12 (fun k hk hS => by have hk := hU k hk; have hS : k = b5 := hS; omega)
    refine send ?_
    refine forget_wp [(3, _), (5, _), (10, _), (11, _), (12, _)] ⟨rfl, rfl, rfl, rfl, rfl, trivial⟩ fun _ => ?_
    refine sreg ?_
    refine svK (xslit ([]) sl63 in67 rfl (by decide) rfl rfl rfl rfl (by decide) rfl rfl) ?_
    rintro _ w14 ⟨b16, rfl, m15, h16, e16, s16, r16⟩
    have hl := hl.keep rec_st (fun k hk => by have hk := hU k hk; omega) m15 (fun _ _ h => h)
    have hf := hf.step0 m15
    have hv3 := RX.keep hv3 rec_st (fun k hk => by have hk := hU k hk; omega) (by omega) m15 (fun _ _ _ h => h) (fun h => h)
    have hL4 := hL4.step0 m15
    have hsE14 := hsE14.keep m15 (by omega) (fun h => h)
    have hd := hd.keep (fun k hk => by have hk := hU k hk; omega) m15 (fun _ _ h => h)
    have ht := ht.keep text_st (fun k hk => by have hk := hU k hk; omega) m15 (fun _ _ h => h)
    have hp := hp.keep pair_st (fun k hk => by have hk := hU k hk; omega) m15 (fun _ _ h => h)
    have h5 := h5.keep m15 (fun h => h)
    have hv6 : RA PairEl lPair U w14 _ b16 67 0 [] := ⟨[], r16, All2.nil⟩
    refine sv (xassign rfl) ?_
    refine send ?_
    refine forget_wp [(3, _), (5, _), (6, _), (10, _), (11, _), (12, _)] ⟨rfl, rfl, rfl, rfl, rfl, rfl, trivial⟩ fun _ => ?_
    refine wp_seq ?_
    refine sreg ?_
    refine sv (xfld fl112_15 rfl) ?_
    refine sv (xld on110 rfl (h5.r.c 15 rfl rfl)) ?_
    refine sv (xlen sl110 rfl) ?_
    refine sv (xmove rfl) ?_
    refine send ?_
    refine forget_wp [(3, _), (5, _), (6, _), (10, _), (11, _), (12, _), (18, _), (19, _), (20, _)] ⟨rfl, rfl, rfl, rfl, rfl, rfl, rfl, rfl, rfl, trivial⟩ fun _ => ?_
    refine wp_block ?_
    refine lp [(3, _), (5, _), (10, _), (11, _), (12, _), (18, _), (19, _)] (fun (x : Nat × Value × Nat) => match x with | (j, v6, g6) => [(6, v6), (20, .int .i64 (j : Int))]) (fun (x : Nat × Value × Nat) wx => match x with | (j, v6, g6) => Fr (fun k => k = b16) w14 wx ∧ (j ≤ r.pairs.length) ∧ (RA PairEl lPair U wx v6 g6 67 j (r.pairs.take j)) ∧ (w.heap.size ≤ g6) ∧ (g6 < wx.heap.size) ∧ (g6 = b16 ∨ w14.heap.size ≤ g6)) (fun (x : Nat × Value × Nat) => match x with | (j, v6, g6) => r.pairs.length - j) (0, _, b16) ⟨rfl, rfl, rfl, rfl, rfl, rfl, rfl, rfl, rfl, trivial⟩ ⟨Fr.refl _ _, Nat.zero_le _, hv6, by omega, by omega, .inl rfl⟩ ?_
    rintro ⟨j, v6, g6⟩ _ w17 ⟨hL16, hj, hv6, hg6, hg7, hg8⟩
    refine forget_wp [(3, _), (5, _), (6, _), (10, _), (11, _), (12, _), (18, _), (19, _), (20, _)] ⟨rfl, rfl, rfl, rfl, rfl, rfl, rfl, rfl, rfl, trivial⟩ fun _ => ?_
    have z18 := hL16.size
    have hl := hl.keep rec_st (fun k hk => by have hk := hU k hk; omega) hL16 (fun k hk hS => by have hk := hU k hk; have hS : k = b16 := hS; omega)
    have hf := hf.step hL16 (fun k hk hS => by have hS : k = b16 := hS; show False; omega)
    have hv3 := RX.keep hv3 rec_st (fun k hk => by have hk := hU k hk; omega) (by omega) hL16 (fun k hk hk3 hS => by have hS : k = b16 := hS; rcases hk with hk | hk <;> first | omega | (have := hU k hk; omega)) (by show ¬ (g = b16); omega)
    have hL4 := hL4.step hL16 (fun k hk hS => by have hS : k = b16 := hS; show k = b9; omega)
    have hsE14 := hsE14.keep hL16 (by omega) (by show ¬ (bE14 = b16); omega)
    have hd := hd.keep (fun k hk => by have hk := hU k hk; omega) hL16 (fun k hk hS => by have hk := hU k hk; have hS : k = b16 := hS; omega)
    have ht := ht.keep text_st (fun k hk => by have hk := hU k hk; omega) hL16 (fun k hk hS => by have hk := hU k hk; have hS : k = b16 := hS; omega)
    have hp := hp.keep pair_st (fun k hk => by have hk := hU k hk; omega) hL16 (fun k hk hS => by have hk := hU k hk; have hS : k = b16 := hS; omega)
    have h5 := h5.keep hL16 (by show ¬ (b5 = b16); omega)
    obtain ⟨a6, c6, rfl⟩ := RA.form hv6
    refine sreg ?_
    refine svP (xlss rfl rfl) (fun hc21 => ?_) (fun hc21 => ?_)
    · skip
      refine send ?_
      refine forget_wp [(3, _), (5, _), (6, _), (10, _), (11, _), (12, _), (18, _), (19, _), (20, _), (21, _)] ⟨rfl, rfl, rfl, rfl, rfl, rfl, rfl, rfl, rfl, rfl, trivial⟩ fun _ => ?_
      refine wp_seq ?_
      refine cyes rfl ?_
      refine wp_skip ?_
      refine nThen ?_
      refine forget_wp [(3, _), (5, _), (6, _), (10, _), (11, _), (12, _), (18, _), (19, _), (20, _)] ⟨rfl, rfl, rfl, rfl, rfl, rfl, rfl, rfl, rfl, trivial⟩ fun _ => ?_
      refine wp_seq ?_
      refine wp_block ?_
      obtain ⟨p, hpj⟩ := some_of_lt (by omega : j < r.pairs.length)
      refine sreg ?_
      obtain ⟨bE22, oE22, sgE22, rfl, uE22, hsE22, heE22⟩ := LA.get hp hpj
      obtain ⟨vdp, rfl, hdp⟩ := heE22
      have zE22 := hU _ uE22
      obtain ⟨adp, cdp, rfl, -⟩ := id hdp
      refine sv (xidx sl110 sz145 rfl rfl rfl (by omega)) ?_
      refine sv (xldS (lens := [1, 1]) ro145 rfl hsE22) ?_
      refine svK (xallS (lens := [1, 1]) in145 rfl) ?_
      rintro _ w20 ⟨b8, rfl, m21, h8, e19, s19⟩
      have hl := hl.keep rec_st (fun k hk => by have hk := hU k hk; omega) m21 (fun _ _ h => h)
      have hf := hf.step0 m21
      have hv3 := RX.keep hv3 rec_st (fun k hk => by have hk := hU k hk; omega) (by omega) m21 (fun _ _ _ h => h) (fun h => h)
      have hL4 := hL4.step0 m21
      have hsE14 := hsE14.keep m21 (by omega) (fun h => h)
      have hd := hd.keep (fun k hk => by have hk := hU k hk; omega) m21 (fun _ _ h => h)
      have ht := ht.keep text_st (fun k hk => by have hk := hU k hk; omega) m21 (fun _ _ h => h)
      have hp := hp.keep pair_st (fun k hk => by have hk := hU k hk; omega) m21 (fun _ _ h => h)
      have h5 := h5.keep m21 (fun h => h)
      have hv6 := hv6.keep pair_st (fun k hk => by have hk := hU k hk; omega) m21 (fun _ _ h => h) (fun h => h)
      have hL16 := hL16.step0 m21
      have hsE22 := hsE22.keep m21 (by omega) (fun h => h)
      have hdp := hdp.keep (fun k hk => by have hk := hU k hk; omega) m21 (fun _ _ h => h)
      refine suK (xstW h8 (lens' := [1, 1]) sz145 rfl rfl rfl rfl rfl) ?_
      rintro w23 ⟨m24, h8, s22⟩
      have hl := hl.keep rec_st (fun k hk => by have hk := hU k hk; omega) m24 (fun k hk hS => by have hk := hU k hk; have hS : k = b8 := hS; omega)
      have hf := hf.step m24 (fun k hk hS => by have hS : k = b8 := hS; show False; omega)
      have hv3 := RX.keep hv3 rec_st (fun k hk => by have hk := hU k hk; omega) (by omega) m24 (fun k hk hk3 hS => by have hS : k = b8 := hS; rcases hk with hk | hk <;> first | omega | (have := hU k hk; omega)) (by show ¬ (g = b8); omega)
      have hL4 := hL4.step m24 (fun k hk hS => by have hS : k = b8 := hS; show k = b9; omega)
      have hsE14 := hsE14.keep m24 (by omega) (by show ¬ (bE14 = b8); omega)
      have hd := hd.keep (fun k hk => by have hk := hU k hk; omega) m24 (fun k hk hS => by have hk := hU k hk; have hS : k = b8 := hS; omega)
      have ht := ht.keep text_st (fun k hk => by have hk := hU k hk; omega) m24 (fun k hk hS => by have hk := hU k hk; have hS : k = b8 := hS; omega)
      have hp := hp.keep pair_st (fun k hk => by have hk := hU k hk; omega) m24 (fun k hk hS => by have hk := hU k hk; have hS : k = b8 := hS; omega)
      have h5 := h5.keep m24 (by show ¬ (b5 = b8); omega)
      have hv6 := hv6.keep pair_st (fun k hk => by have hk := hU k hk; omega) m24 (fun k hk hS => by have hk := hU k hk; have hS : k = b8 := hS; omega) (by show ¬ (g6 = b8); omega)
      have hL16 := hL16.step m24 (fun k hk hS => by have hS : k = b8 := hS; show k = b16; omega)
      have hsE22 := hsE22.keep m24 (by omega) (by show ¬ (bE22 = b8); omega)
      have hdp := hdp.keep (fun k hk => by have hk := hU k hk; omega) m24 (fun k hk hS => by have hk := hU k hk; have hS : k = b8 := hS; omega)
      refine send ?_
      refine forget_wp [(3, _), (5, _), (6, _), (8, _), (10, _), (11, _), (12, _), (18, _), (19, _), (20, _)] ⟨rfl, rfl, rfl, rfl, rfl, rfl, rfl, rfl, rfl, rfl, trivial⟩ fun _ => ?_
      refine lreg ?_
      refine sv (xmove rfl) ?_
      refine sv (xldS (lens := [1, 1]) ro145 rfl h8.r) ?_
      refine svK (xslit ((pairSegs p (.slice adp p.data.length cdp)).flatten) sl63 in67 rfl (by decide) rfl rfl rfl rfl (by decide) rfl rfl) ?_
      rintro _ w26 ⟨b26, rfl, m27, h26, e26, s26, r26⟩
      have hl := hl.keep rec_st (fun k hk => by have hk := hU k hk; omega) m27 (fun _ _ h => h)
      have hf := hf.step0 m27
      have hv3 := RX.keep hv3 rec_st (fun k hk => by have hk := hU k hk; omega) (by omega) m27 (fun _ _ _ h => h) (fun h => h)
      have hL4 := hL4.step0 m27
      have hsE14 := hsE14.keep m27 (by omega) (fun h => h)
      have hd := hd.keep (fun k hk => by have hk := hU k hk; omega) m27 (fun _ _ h => h)
      have ht := ht.keep text_st (fun k hk => by have hk := hU k hk; omega) m27 (fun _ _ h => h)
      have hp := hp.keep pair_st (fun k hk => by have hk := hU k hk; omega) m27 (fun _ _ h => h)
      have h5 := h5.keep m27 (fun h => h)
      have hv6 := hv6.keep pair_st (fun k hk => by have hk := hU k hk; omega) m27 (fun _ _ h => h) (fun h => h)
      have hL16 := hL16.step0 m27
      have hsE22 := hsE22.keep m27 (by omega) (fun h => h)
      have hdp := hdp.keep (fun k hk => by have hk := hU k hk; omega) m27 (fun _ _ h => h)
      have h8 := h8.keep m27 (fun h => h)
      obtain ⟨ss27, hR27, hA27⟩ := hv6
      refine svK (xapp sl63 in67 rfl (by decide) rfl rfl hR27 (r26.src sl63) (by simp only [maxLen]; omega) (by omega)) ?_
      rintro v27 w28 ⟨g27, r27, m29, a27, l27⟩
      have z30 := m29.size
      have hl := hl.keep rec_st (fun k hk => by have hk := hU k hk; omega) m29 (fun k hk hS => by have hk := hU k hk; have hS : k = g6 := hS; omega)
      have hf := hf.step m29 (fun k hk hS => by have hS : k = g6 := hS; show False; omega)
      have hv3 := RX.keep hv3 rec_st (fun k hk => by have hk := hU k hk; omega) (by omega) m29 (fun k hk hk3 hS => by have hS : k = g6 := hS; rcases hk with hk | hk <;> first | omega | (have := hU k hk; omega)) (by show ¬ (g = g6); omega)
      have hL4 := hL4.step m29 (fun k hk hS => by have hS : k = g6 := hS; show k = b9; omega)
      have hsE14 := hsE14.keep m29 (by omega) (by show ¬ (bE14 = g6); omega)
      have hd := hd.keep (fun k hk => by have hk := hU k hk; omega) m29 (fun k hk hS => by have hk := hU k hk; have hS : k = g6 := hS; omega)
      have ht := ht.keep text_st (fun k hk => by have hk := hU k hk; omega) m29 (fun k hk hS => by have hk := hU k hk; have hS : k = g6 := hS; omega)
      have hp := hp.keep pair_st (fun k hk => by have hk := hU k hk; omega) m29 (fun k hk hS => by have hk := hU k hk; have hS : k = g6 := hS; omega)
      have h5 := h5.keep m29 (by show ¬ (b5 = g6); omega)
      have hL16 := hL16.step m29 (fun k hk hS => by have hS : k = g6 := hS; show k = b16; omega)
      have hsE22 := hsE22.keep m29 (by omega) (by show ¬ (bE22 = g6); omega)
      have hdp := hdp.keep (fun k hk => by have hk := hU k hk; omega) m29 (fun k hk hS => by have hk := hU k hk; have hS : k = g6 := hS; omega)
      have h8 := h8.keep m29 (by show ¬ (b8 = g6); omega)
      have hv6 := RA.snoc (x := p) hA27 pair_st pair_gr (fun k hk => by have hk := hU k hk; omega) m29 (fun k hk hS => by have hk := hU k hk; have hS : k = g6 := hS; omega) (fun _ h => h) r27 rfl (⟨_, rfl, hdp⟩)
      refine sv (xassign rfl) ?_
      refine lend ?_
      refine nBlock ?_
      refine nThen ?_
      refine forget_wp [(3, _), (5, _), (6, _), (10, _), (11, _), (12, _), (18, _), (19, _), (20, _)] ⟨rfl, rfl, rfl, rfl, rfl, rfl, rfl, rfl, rfl, trivial⟩ fun _ => ?_
      refine lreg ?_
      refine sv (xadd rfl rfl (w64 (by omega) (by omega))) ?_
      refine sv (xmove rfl) ?_
      refine lend ?_
      refine nThen ?_
      refine ⟨(j + 1, _, g27), _, env_okl ⟨rfl, rfl, rfl, rfl, rfl, rfl, rfl, rfl, rfl, trivial⟩, ⟨hL16, (by omega), (by rw [take_snoc hpj]; exact hv6), (by omega), (l27 (by omega)), (by omega)⟩, ?_⟩
      show r.pairs.length - (j + 1) < r.pairs.length - j; omega
    · skip
      refine send ?_
      refine forget_wp [(3, _), (5, _), (6, _), (10, _), (11, _), (12, _), (18, _), (19, _), (20, _), (21, _)] ⟨rfl, rfl, rfl, rfl, rfl, rfl, rfl, rfl, rfl, rfl, trivial⟩ fun _ => ?_
      refine wp_seq ?_
      refine cno rfl ?_
      refine wp_exit ?_
      refine eThen ?_
      refine eThen ?_
      refine eHit ?_
      refine nThen ?_
      refine forget_wp [(3, _), (5, _), (6, _), (10, _), (11, _), (12, _)] ⟨rfl, rfl, rfl, rfl, rfl, rfl, trivial⟩ fun _ => ?_
      have eP : r.pairs.take j = r.pairs := List.take_of_length_le (by omega)
      rw [eP] at hv6
      obtain rfl : j = r.pairs.length := by omega
      refine lreg ?_
      refine sv (xmove rfl) ?_
      refine sv (xfld fl112_0 rfl) ?_
      refine sv (xld on9 rfl (h5.r.c 0 rfl rfl)) ?_
      refine sv (xfld fl112_1 rfl) ?_
      refine sv (xld on22 rfl (h5.r.c 1 rfl rfl)) ?_
      refine sv (xfld fl112_2 rfl) ?_
      refine sv (xld on22 rfl (h5.r.c 2 rfl rfl)) ?_
      refine sv (xfld fl112_3 rfl) ?_
      refine sv (xld on61 rfl (h5.r.c 3 rfl rfl)) ?_
      refine sv (xfld fl112_4 rfl) ?_
      refine sv (xld on22 rfl (h5.r.c 4 rfl rfl)) ?_
      refine sv (xfld fl112_5 rfl) ?_
      refine sv (xld on3 rfl (h5.r.c 5 rfl rfl)) ?_
      refine sv (xfld fl112_6 rfl) ?_
      refine sv (xld on37 rfl (h5.r.c 6 rfl rfl)) ?_
      refine sv (xfld fl112_7 rfl) ?_
      refine sv (xld on9 rfl (h5.r.c 7 rfl rfl)) ?_
      refine sv (xfld fl112_8 rfl) ?_
      refine sv (xld on9 rfl (h5.r.c 8 rfl rfl)) ?_
      refine sv (xfld fl112_9 rfl) ?_
      refine sv (xld on61 rfl (h5.r.c 9 rfl rfl)) ?_
      refine sv (xfld fl112_10 rfl) ?_
      refine sv (xld on61 rfl (h5.r.c 10 rfl rfl)) ?_
      refine sv (xfld fl112_11 rfl) ?_
      refine sv (xld on61 rfl (h5.r.c 11 rfl rfl)) ?_
      refine sv (xfld fl112_12 rfl) ?_
      refine sv (xld on61 rfl (h5.r.c 12 rfl rfl)) ?_
      refine sv (xfld fl112_13 rfl) ?_
      refine sv (xld on61 rfl (h5.r.c 13 rfl rfl)) ?_
      refine sv (xfld fl112_14 rfl) ?_
      refine sv (xld on62 rfl (h5.r.c 14 rfl rfl)) ?_
      refine sv (xmove rfl) ?_
      refine sv (xbuildS (recSegs r (.slice ad r.data.length cd) (.slice at1 r.texts.length ct1) (.slice a6 r.pairs.length c6)) zr65 ly65 rfl (by simp [fitAll, zs65, Value.cells]) rfl) ?_
      refine svK (xslit ((recSegs r (.slice ad r.data.length cd) (.slice at1 r.texts.length ct1) (.slice a6 r.pairs.length c6)).flatten) sl32 in65 rfl (by decide) rfl rfl rfl rfl (by decide) rfl rfl) ?_
      rintro _ w32 ⟨b62, rfl, m33, h62, e62, s62, r62⟩
      have hl := hl.keep rec_st (fun k hk => by have hk := hU k hk; omega) m33 (fun _ _ h => h)
      have hf := hf.step0 m33
      have hv3 := RX.keep hv3 rec_st (fun k hk => by have hk := hU k hk; omega) (by omega) m33 (fun _ _ _ h => h) (fun h => h)
      have hL4 := hL4.step0 m33
      have hsE14 := hsE14.keep m33 (by omega) (fun h => h)
      have hd := hd.keep (fun k hk => by have hk := hU k hk; omega) m33 (fun _ _ h => h)
      have ht := ht.keep text_st (fun k hk => by have hk := hU k hk; omega) m33 (fun _ _ h => h)
      have hp := hp.keep pair_st (fun k hk => by have hk := hU k hk; omega) m33 (fun _ _ h => h)
      have h5 := h5.keep m33 (fun h => h)
      have hv6 := hv6.keep pair_st (fun k hk => by have hk := hU k hk; omega) m33 (fun _ _ h => h) (fun h => h)
      obtain ⟨ss63, hR63, hA63⟩ := hv3
      refine svK (xapp sl32 in65 rfl (by decide) rfl rfl hR63 (r62.src sl32) (by simp only [maxLen]; omega) (by omega)) ?_
      rintro v63 w34 ⟨g63, r63, m35, a63, l63⟩
      have z36 := m35.size
      have hl := hl.keep rec_st (fun k hk => by have hk := hU k hk; omega) m35 (fun k hk hS => by have hk := hU k hk; have hS : k = g := hS; omega)
      have hf := hf.step m35 (fun k hk hS => by have hS : k = g := hS; show False; omega)
      have hL4 := hL4.step m35 (fun k hk hS => by have hS : k = g := hS; show k = b9; omega)
      have hsE14 := hsE14.keep m35 (by omega) (by show ¬ (bE14 = g); omega)
      have hd := hd.keep (fun k hk => by have hk := hU k hk; omega) m35 (fun k hk hS => by have hk := hU k hk; have hS : k = g := hS; omega)
      have ht := ht.keep text_st (fun k hk => by have hk := hU k hk; omega) m35 (fun k hk hS => by have hk := hU k hk; have hS : k = g := hS; omega)
      have hp := hp.keep pair_st (fun k hk => by have hk := hU k hk; omega) m35 (fun k hk hS => by have hk := hU k hk; have hS : k = g := hS; omega)
      have h5 := h5.keep m35 (by show ¬ (b5 = g); omega)
      have hv6 := hv6.keep pair_st (fun k hk => by have hk := hU k hk; omega) m35 (fun k hk hS => by have hk := hU k hk; have hS : k = g := hS; omega) (by show ¬ (g6 = g); omega)
      have hv3 := RX.snoc (x := r) w34.heap.size hA63 rec_st rec_gr (fun k hk => by have hk := hU k hk; omega) (by omega) (by omega) m35 a63 r63 rfl (⟨_, _, _, rfl, hd.mono (fun k h => ⟨.inl h, by have := hU k h; omega⟩), ht.mono text_gr (fun k h => ⟨.inl h, by have := hU k h; omega⟩), RA.la hv6 (by decide) pair_gr (fun k h => ⟨.inl h, by have := hU k h; omega⟩) ⟨.inr (by omega), by omega⟩⟩)
      refine sv (xassign rfl) ?_
      refine lend ?_
      refine nBlock ?_
      refine nThen ?_
      refine forget_wp [(3, _), (10, _), (11, _), (12, _)] ⟨rfl, rfl, rfl, rfl, trivial⟩ fun _ => ?_
      refine lreg ?_
      refine sv (xadd rfl rfl (w64 (by omega) (by omega))) ?_
      refine sv (xmove rfl) ?_
      refine lend ?_
      refine nThen ?_
      refine ⟨(k + 1, _, g63), _, env_okl ⟨rfl, rfl, rfl, rfl, trivial⟩, ⟨hL4, (by omega), (by rw [take_snoc hrk]; exact RX.up rec_gr hv3 (by omega)), (by omega), (l63 (by omega)), (by omega)⟩, ?_⟩
      show l.length - (k + 1) < l.length - k; omega
  · skip
    refine send ?_
    refine forget_wp [(3, _), (10, _), (11, _), (12, _), (13, _)] ⟨rfl, rfl, rfl, rfl, rfl, trivial⟩ fun _ => ?_
    refine wp_seq ?_
    refine cno rfl ?_
    refine wp_exit ?_
    refine eThen ?_
    refine eThen ?_
    refine eHit ?_
    refine nThen ?_
    refine forget_wp [(3, _)] ⟨rfl, trivial⟩ fun _ => ?_
    refine sreg ?_
    refine sv (xmove rfl) ?_
    refine sv (xassign rfl) ?_
    refine send ?_
    refine forget_wp [(2, _)] ⟨rfl, trivial⟩ fun _ => ?_
    refine wp_ret ?_
    refine rp1 rfl rfl ?_
    have e : l.take k = l := List.take_of_length_le (by omega)
    rw [e] at hv3
    exact ⟨RX.la hv3 (by decide) rec_gr (fun k hk => hk.elim .inl .inr) (.inr ⟨hg, hg2⟩), hf⟩
end Go.Proofs.YtifnodoffgfpbaaGreatDoor
